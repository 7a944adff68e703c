/- io.ReadAtLeast and io.ReadFull over few. -/
import Derived.Test.YtdmnogjgifapnaaDoorFew
set_option linter.unusedVariables false
set_option linter.unusedSimpArgs false
set_option maxRecDepth 100000
namespace Go.Proofs.YtdmnogjgifapnaaDoor.X
open Go.RowKit
theorem buf_step (L R : List UInt8) (off i k : Nat) (h1 : off + i + k ≤ L.length) (h2 : i ≤ R.length) :
    (L.take off ++ (R.take i ++ L.drop (off + i))).take (off + i) ++ ((R.drop i).take k ++ (L.take off ++ (R.take i ++ L.drop (off + i))).drop (off + i + k)) = L.take off ++ (R.take (i + k) ++ L.drop (off + (i + k))) := by
  have e1 : (L.take off).length = off := by rw [List.length_take]; omega
  have e2 : (R.take i).length = i := by rw [List.length_take]; omega
  have e3 : L.take off ++ (R.take i ++ L.drop (off + i)) = (L.take off ++ R.take i) ++ L.drop (off + i) := by rw [List.append_assoc]
  have e4 : (L.take off ++ R.take i).length = off + i := by rw [List.length_append, e1, e2]
  have e5 : ((L.take off ++ R.take i) ++ L.drop (off + i)).drop (off + i + k) = L.drop (off + (i + k)) := by
    rw [← List.drop_drop, List.drop_left' e4, List.drop_drop, Nat.add_assoc]
  rw [e3, List.take_left' e4, e5, List.take_add, List.append_assoc, List.append_assoc]
-- 367: as the walk shows it (this seat's)
theorem nil_few (a : Addr) (w : World) : (nilAhead 367 87 (.pointer (some a)) "Read").run Tryd.prog w = .ok (some false) w := by kernel_rfl
theorem met_few (a : Addr) (w : World) : (method 367 87 (.pointer (some a)) "Read").run Tryd.prog w = .ok (152, .pointer (some a)) w := by kernel_rfl
theorem w64F {m i k : Nat} (h : i + k ≤ m) (h2 : m ≤ 9223372036854775807) : wrap64 ((i : Int) + k) = (i : Int) + k := by unfold wrap64; omega
theorem Few.drew {w0 W : World} {B : Nat} {R : List UInt8} {n : Int} (h : Few w0 W B R n) : Few w0 W.drew B R n := by
  obtain ⟨A, c, h1, h2⟩ := h
  exact ⟨A, c, h1, h2⟩
theorem Buf.drew {W : World} {g : Nat} {t : TypeId} {L : List UInt8} (h : Buf W g t L) : Buf W.drew g t L := by
  unfold Buf at h ⊢
  exact h
theorem measF {m i k : Nat} (h1 : 1 ≤ k) (h2 : i + k ≤ m) : m - ((i : Int) + k).toNat < m - (i : Int).toNat := by omega
set_option maxHeartbeats 400000 in
theorem readAtLeast (w0 W : World) (B g : Nat) (R L : List UInt8) (n : Int) (off m c : Nat) (t : TypeId) (hB : w0.heap.size ≤ B) (hg : B < g) (hb : Below w0.heap.size w0 W) (hF : Few w0 W B R n) (hU : Buf W g t L)
    (hmc : m ≤ c) (hcm : c ≤ 9223372036854775807) (hmL : off + m ≤ L.length) (hR : m ≤ R.length) (hn : 1 ≤ n) (hn2 : n ≤ 100) :
    Calls Tryd.prog 108 #[.iface 87 (.pointer (some ⟨B, 0, none⟩)), .slice (some ⟨g, off, none⟩) m c, .int .i64 m] W fun e w' => e = .returned (.tuple #[.int .i64 m, .nilIface]) ∧ Few w0 w' B (R.drop m) n ∧
      Buf w' g t (L.take off ++ (R.take m ++ L.drop (off + m))) ∧ Below w0.heap.size w0 w' := by
  have HF := Lib.hid hF
  have HU := Lib.hid hU
  have HB := Lib.hid hb
  have HL := Lib.hid hmL
  have HR := Lib.hid hR
  have HC := Lib.hid hcm
  clear hF hU hb hmL hR hcm
  go_enter Tryd.func108, Tryd.ntmps108
  go_wp2_with fail
  go_loopw [6, 7] (fun a b wr => ∃ i : Nat, i ≤ m ∧ a = .int .i64 i ∧ b = .nilIface ∧ Few w0 wr B (R.drop i) n ∧ Buf wr g t (L.take off ++ (R.take i ++ L.drop (off + i))) ∧ Below w0.heap.size w0 wr) (fun a _ _ => m - (intOf a).toNat)
  case atStart => exact ⟨0, Nat.zero_le _, rfl, rfl, by simpa using HF.out, by simpa using HU.out, HB.out⟩
  case round =>
    obtain ⟨i, hi, rfl, rfl, hf, hu, hb⟩ := hrel
    by_cases hlt : i < m
    · have hL := HL.out
      have hR := HR.out
      have hC := HC.out
      have HFR := Lib.hid (fewRead w0 wr.drew B g (R.drop i) _ n (off + i) (m - i) (c - i) t hB hg (bdrew hb) hf.drew hu.drew (by omega) (by omega) (by simp; omega) (by omega) (by simp; omega) hn hn2)
      clear hf hu hb hL hR hC
      have hn1 := fun w => nil_few ⟨B, 0, none⟩ w
      have hm1 := fun w => met_few ⟨B, 0, none⟩ w
      have c1 : (c = i) = False := eq_false (by omega)
      have c2 : ((i : Int) ≤ m) = True := eq_true (by omega)
      go_wp2_with fail
      go_region_with (refine HFR.out.mono ?_; rintro e w2 ⟨k, hk1, hk2, hk3, rfl, hf2, hu2, hb2⟩)
      have hL := HL.out
      have hR := HR.out
      have hC := HC.out
      rw [List.drop_drop] at hf2
      rw [buf_step L R off i k (by omega) (by omega)] at hu2
      have HF2 := Lib.hid hf2
      have HU2 := Lib.hid hu2
      have HB2 := Lib.hid hb2
      have HK : Hid (1 ≤ k ∧ i + k ≤ m ∧ m ≤ 9223372036854775807) := Lib.hid ⟨hk1, by omega, by omega⟩
      have s1 : wrap64 ((i : Int) + k) = (i : Int) + k := w64F HK.out.2.1 HK.out.2.2
      clear hf2 hu2 hb2 hL hR hC hk1 hk2 hk3
      go_wp2_with fail
      go_roundw
      case rel =>
        have hK := HK.out
        exact ⟨i + k, by omega, by rw [s1, Int.natCast_add], rfl, HF2.out, HU2.out, HB2.out⟩
      case measure =>
        rw [s1]
        exact measF HK.out.1 HK.out.2.1
    · obtain rfl : i = m := by omega
      go_wp2_with fail
      go_ret2
      exact ⟨rfl, hf, hu, hb⟩
theorem readFull (w0 W : World) (B g : Nat) (R L : List UInt8) (n : Int) (off m c : Nat) (t : TypeId) (hB : w0.heap.size ≤ B) (hg : B < g) (hb : Below w0.heap.size w0 W) (hF : Few w0 W B R n) (hU : Buf W g t L)
    (hmc : m ≤ c) (hcm : c ≤ 9223372036854775807) (hmL : off + m ≤ L.length) (hR : m ≤ R.length) (hn : 1 ≤ n) (hn2 : n ≤ 100) :
    Calls Tryd.prog 93 #[.iface 87 (.pointer (some ⟨B, 0, none⟩)), .slice (some ⟨g, off, none⟩) m c] W fun e w' => e = .returned (.tuple #[.int .i64 m, .nilIface]) ∧ Few w0 w' B (R.drop m) n ∧
      Buf w' g t (L.take off ++ (R.take m ++ L.drop (off + m))) ∧ Below w0.heap.size w0 w' := by
  have HV := Lib.hid (readAtLeast w0 W B g R L n off m c t hB hg hb hF hU hmc hcm hmL hR hn hn2)
  clear hb hF hU
  go_enter Tryd.func93, Tryd.ntmps93
  go_wp2_with fail
  refine HV.out.mono ?_
  rintro e w1 ⟨rfl, h1, h2, h3⟩
  go_wp2_with fail
  go_ret2
  exact ⟨rfl, h1, h2, h3⟩
end Go.Proofs.YtdmnogjgifapnaaDoor.X
