/- io.ReadAtLeast and io.ReadFull over bytes.Reader. -/
import Derived.Test.YtfhbnlbdmfjhlaaGreatDoorRdA
set_option linter.unusedVariables false
set_option linter.unusedSimpArgs false
set_option maxRecDepth 100000
namespace Go.Proofs.YtfhbnlbdmfjhlaaGreatDoor.X
open Go.RowKit
namespace Rd
-- 410: as the walk shows it (this seat's)
theorem nil_rdr (a : Addr) (w : World) : (nilAhead 410 63 (.pointer (some a)) "Read").run Tryz.prog w = .ok (some false) w := by kernel_rfl
theorem met_rdr (a : Addr) (w : World) : (method 410 63 (.pointer (some a)) "Read").run Tryz.prog w = .ok (237, .pointer (some a)) w := by kernel_rfl
theorem Rdr.drew {w0 W : World} {B : Nat} {L : List UInt8} {i : Nat} (h : Rdr w0 W B L i) : Rdr w0 W.drew B L i := by
  obtain ⟨A, c, p, h1, h2⟩ := h
  exact ⟨A, c, p, h1, h2⟩
theorem Rdr.keep {w0 w w1 : World} {B g : Nat} {L : List UInt8} {i : Nat} (h : Rdr w0 w B L i) (hb : Below g w w1) (hg : B < g) : Rdr w0 w1 B L i := by
  obtain ⟨A, c, p, h1, h2⟩ := h
  exact ⟨A, c, p, h1, (hb.block B hg).trans h2⟩
theorem Rdr.lt {w0 w : World} {B : Nat} {L : List UInt8} {i : Nat} (h : Rdr w0 w B L i) : B < w.heap.size := by
  obtain ⟨A, c, p, h1, h2⟩ := h
  exact (Array.getElem?_eq_some_iff.1 h2).1
def rdMeas (m : Nat) (a b : Value) : Nat := match b with
  | .nilIface => m + 1 - (intOf a).toNat
  | _ => 0
theorem w64m {m : Nat} (h : m ≤ 9223372036854775807) : wrap64 (m : Int) = (m : Int) := by unfold wrap64; omega
theorem rd_one (m : Nat) (h : 0 < m) : rdMeas m (.int .i64 (m : Int)) .nilIface < rdMeas m (.int .i64 0) .nilIface := by simp [rdMeas, intOf]; omega
set_option maxHeartbeats 1000000 in
theorem atLeastFull (w0 W : World) (B g : Nat) (L Lb : List UInt8) (i off m c : Nat) (t : TypeId) (hB : w0.heap.size ≤ B) (hg : B < g) (hb : Below w0.heap.size w0 W) (hR : Rdr w0 W B L i) (hU : Buf W g t Lb)
    (hm : 0 < m) (hmc : m ≤ c) (hcm : c ≤ 9223372036854775807) (hmL : off + m ≤ Lb.length) (him : i + m ≤ L.length) :
    Calls Tryz.prog 145 #[.iface 63 (.pointer (some ⟨B, 0, none⟩)), .slice (some ⟨g, off, none⟩) m c, .int .i64 m] W fun e w' => e = .returned (.tuple #[.int .i64 m, .nilIface]) ∧ Rdr w0 w' B L (i + m) ∧
      Buf w' g t (Lb.take off ++ ((L.drop i).take m ++ Lb.drop (off + m))) ∧ Below w0.heap.size w0 w' := by
  have HV := Lib.hid (fun (x : Unit) => readSome w0 W.drew B g L Lb i off m c m t hB hg (bdrew hb) hR.drew hU.drew hm hmc hmL (by omega) (by omega) (by omega))
  have HM : Hid (m ≤ c ∧ c ≤ 9223372036854775807 ∧ 0 < m) := Lib.hid ⟨hmc, hcm, hm⟩
  clear hb hR hU hmL him
  go_enter Tryz.func145, Tryz.ntmps145
  go_wp2_with fail
  go_loopw [6, 7] (fun a b wr => (a = .int .i64 0 ∧ b = .nilIface ∧ wr = W) ∨ (a = .int .i64 m ∧ b = .nilIface ∧ Hid (Rdr w0 wr B L (i + m) ∧ Buf wr g t (Lb.take off ++ ((L.drop i).take m ++ Lb.drop (off + m))) ∧ Below w0.heap.size w0 wr))) (fun a b _ => rdMeas m a b)
  case atStart => exact Or.inl ⟨rfl, rfl, rfl⟩
  case round =>
    rcases hrel with ⟨rfl, rfl, rfl⟩ | ⟨rfl, rfl, hd⟩
    · have hn1 := fun w => nil_rdr ⟨B, 0, none⟩ w
      have hm1 := fun w => met_rdr ⟨B, 0, none⟩ w
      go_wp2_with fail
      go_region_with (refine (HV.out ()).mono ?_; rintro e w2 ⟨rfl, hf2, hu2, hb2⟩)
      have HD := Lib.hid (And.intro hf2 (And.intro hu2 hb2))
      clear hf2 hu2 hb2 HV
      have s2 := w64m (Nat.le_trans HM.out.1 HM.out.2.1)
      go_wp2_with fail
      go_roundw
      case rel => exact Or.inr ⟨by first | rfl | trivial | simp, by first | rfl | trivial, HD⟩
      case measure => 
        first | exact rd_one m HM.out.2.2 | (rw [s2]; exact rd_one m HM.out.2.2) | (simp only [s2]; exact rd_one m HM.out.2.2)
    · go_wp2_with fail
      go_ret2
      exact ⟨rfl, hd.out⟩
theorem rd_two {m k : Nat} (h : 0 < k) (h2 : k < m) : rdMeas m (.int .i64 (k : Int)) .nilIface < rdMeas m (.int .i64 0) .nilIface := by simp [rdMeas, intOf]; omega
theorem rd_three {m k : Nat} (h : k < m) {v a : Value} {t : TypeId} : rdMeas m a (.iface t v) < rdMeas m (.int .i64 (k : Int)) .nilIface := by simp [rdMeas, intOf]; omega
theorem isComp : (Tryz.prog.info? 237).map (·.comparable) = some true := by kernel_rfl
theorem isSize : (Tryz.prog.info? 239).map (·.size) = some 1 := by kernel_rfl
set_option maxHeartbeats 1000000 in
theorem atLeastShort (w0 W : World) (B g : Nat) (L Lb : List UInt8) (i off m c : Nat) (t : TypeId) (hE : IoErrs w0) (hB : w0.heap.size ≤ B) (hg : B < g) (hb : Below w0.heap.size w0 W) (hR : Rdr w0 W B L i) (hU : Buf W g t Lb)
    (hm : 0 < m) (hmc : m ≤ c) (hcm : c ≤ 9223372036854775807) (hmL : off + m ≤ Lb.length) (hi : i ≤ L.length) (him : L.length < i + m) :
    Calls Tryz.prog 145 #[.iface 63 (.pointer (some ⟨B, 0, none⟩)), .slice (some ⟨g, off, none⟩) m c, .int .i64 m] W fun e w' => ∃ n v, e = .returned (.tuple #[.int .i64 n, .iface 237 v]) ∧ Below w0.heap.size w0 w' := by
  obtain ⟨a1, a2, he1, he2⟩ := hE
  obtain ⟨k, hk⟩ : ∃ k, k = L.length - i := ⟨_, rfl⟩
  have HV : Hid (0 < k → Calls Tryz.prog 237 #[.pointer (some ⟨B, 0, none⟩), .slice (some ⟨g, off, none⟩) m c] W.drew fun e w' => e = .returned (.tuple #[.int .i64 k, .nilIface]) ∧ Rdr w0 w' B L L.length ∧ Below w0.heap.size w0 w') := Lib.hid fun hk0 => by
    refine (readSome w0 W.drew B g L Lb i off m c k t hB hg (bdrew hb) hR.drew hU.drew hm hmc hmL (by omega) (by omega) (by omega)).mono ?_
    rintro e w' ⟨rfl, h1, -, h3⟩
    rw [show i + k = L.length from by omega] at h1
    exact ⟨rfl, h1, h3⟩
  have HEnd : Hid (∀ (wx : World) (o n c' : Nat), Rdr w0 wx B L L.length → Below w0.heap.size w0 wx → Calls Tryz.prog 237 #[.pointer (some ⟨B, 0, none⟩), .slice (some ⟨g, o, none⟩) n c'] wx fun e w' => e = .returned (.tuple #[.int .i64 0, .iface 237 (.pointer (some a1))]) ∧ Below w0.heap.size w0 w') := Lib.hid fun wx o n c' h1 h2 => readEnd w0 wx B g L L.length o n c' a1 hB h2 h1 he1 (Nat.le_refl _) (by have := h1; obtain ⟨A, cr, p, hs, -⟩ := this; exact hs.len)
  have HM : Hid (m ≤ c ∧ c ≤ 9223372036854775807 ∧ 0 < m ∧ k < m) := Lib.hid ⟨hmc, hcm, hm, by omega⟩
  have HST : Hid (k = 0 → Rdr w0 W B L L.length) := Lib.hid fun h => by rw [show L.length = i from by omega]; exact hR
  have HBW := Lib.hid hb
  have hkm : (k : Int) < (m : Int) := by omega
  clear hb hR hU hmL him hi hk
  go_enter Tryz.func145, Tryz.ntmps145
  go_wp2_with fail
  go_loopw [6, 7] (fun a b wr => (a = .int .i64 0 ∧ b = .nilIface ∧ wr = W) ∨ (0 < k ∧ a = .int .i64 k ∧ b = .nilIface ∧ Hid (Rdr w0 wr B L L.length ∧ Below w0.heap.size w0 wr)) ∨ (a = .int .i64 k ∧ b = .iface 237 (.pointer (some a1)) ∧ Hid (Below w0.heap.size w0 wr))) (fun a b _ => rdMeas m a b)
  case atStart => exact Or.inl ⟨rfl, rfl, rfl⟩
  case round =>
    have hn1 := fun w => nil_rdr ⟨B, 0, none⟩ w
    have hm1 := fun w => met_rdr ⟨B, 0, none⟩ w
    rcases hrel with ⟨rfl, rfl, rfl⟩ | ⟨hk0, rfl, rfl, hd⟩ | ⟨rfl, rfl, hd⟩
    · by_cases hk0 : 0 < k
      · have s2 := w64m (m := k) (by have := HM.out; omega)
        have hk1 := Lib.hid hk0
        go_wp2_with fail
        go_region_with (refine (HV.out hk1.out).mono ?_; rintro e w2 ⟨rfl, hf2, hb2⟩)
        have HD := Lib.hid (And.intro hf2 hb2)
        clear hf2 hb2 HV
        go_wp2_with fail
        go_roundw
        case rel => exact Or.inr (Or.inl ⟨hk1.out, by first | rfl | trivial | simp, by first | rfl | trivial, HD⟩)
        case measure => first | exact rd_two hk1.out HM.out.2.2.2 | (rw [s2]; exact rd_two hk1.out HM.out.2.2.2)
      · obtain rfl : k = 0 := by omega
        have hr0 := HST.out rfl
        have HX := Lib.hid (HEnd.out _ off m c hr0.drew (bdrew HBW.out))
        clear hr0 HV hk0
        go_wp2_with fail
        go_region_with (refine HX.out.mono ?_; rintro e w2 ⟨rfl, hb2⟩)
        have HD := Lib.hid hb2
        clear hb2
        go_wp2_with fail
        go_roundw
        case rel => exact Or.inr (Or.inr ⟨by first | rfl | trivial | simp, by first | rfl | trivial, HD⟩)
        case measure => first | (simp [rdMeas, intOf]; done) | (simp [rdMeas, intOf]; omega)
    · have s2 := w64m (m := k) (by have := HM.out; omega)
      have HX := Lib.hid (HEnd.out wr.drew (off + k) (m - k) (c - k) hd.out.1.drew (bdrew hd.out.2))
      have hk1 := HM.out
      have c1 : (c = k) = False := eq_false (by omega)
      have c2 : ((k : Int) ≤ m) = True := eq_true (by omega)
      clear HV hk1
      go_wp2_with fail
      go_region_with (refine HX.out.mono ?_; rintro e w2 ⟨rfl, hb2⟩)
      have HD := Lib.hid hb2
      clear hb2
      go_wp2_with fail
      go_roundw
      case rel => exact Or.inr (Or.inr ⟨by first | rfl | trivial | simp, by first | rfl | trivial, HD⟩)
      case measure => exact rd_three HM.out.2.2.2
    · obtain ⟨i, hi, hcmp⟩ := Option.map_eq_some_iff.1 isComp
      obtain ⟨j, hj, hjs⟩ := Option.map_eq_some_iff.1 isSize
      have heq := run_eql_iface_ptr_same (P := Tryz.prog) wr a1 Tryz.underlying60 Tryz.underlying237 hi hcmp hj
      have hg1 : wr.cell? ⟨4, 0, none⟩ = some (.iface 237 (.pointer (some a1))) := (hd.out.cell (World.block_lt_of_cell? _ _ he1)).trans he1
      have hg2 : wr.cell? ⟨8, 0, none⟩ = some (.iface 237 (.pointer (some a2))) := (hd.out.cell (World.block_lt_of_cell? _ _ he2)).trans he2
      clear HV hi hcmp hj hjs hn1 hm1 he1 he2
      by_cases hk0 : 0 < k
      · go_wp2_with fail
        go_ret2
        first | exact ⟨_, _, rfl, hd.out⟩ | exact hd.out | exact ⟨⟨_, _, rfl⟩, hd.out⟩
      · obtain rfl : k = 0 := by omega
        go_wp2_with fail
        go_ret2
        first | exact ⟨_, _, rfl, hd.out⟩ | exact hd.out | exact ⟨⟨_, _, rfl⟩, hd.out⟩
theorem fullOk (w0 W : World) (B g : Nat) (L Lb : List UInt8) (i off m c : Nat) (t : TypeId) (hB : w0.heap.size ≤ B) (hg : B < g) (hb : Below w0.heap.size w0 W) (hR : Rdr w0 W B L i) (hU : Buf W g t Lb)
    (hm : 0 < m) (hmc : m ≤ c) (hcm : c ≤ 9223372036854775807) (hmL : off + m ≤ Lb.length) (him : i + m ≤ L.length) :
    Calls Tryz.prog 107 #[.iface 63 (.pointer (some ⟨B, 0, none⟩)), .slice (some ⟨g, off, none⟩) m c] W fun e w' => e = .returned (.tuple #[.int .i64 m, .nilIface]) ∧ Rdr w0 w' B L (i + m) ∧
      Buf w' g t (Lb.take off ++ ((L.drop i).take m ++ Lb.drop (off + m))) ∧ Below w0.heap.size w0 w' := by
  have HV := Lib.hid (atLeastFull w0 W B g L Lb i off m c t hB hg hb hR hU hm hmc hcm hmL him)
  clear hb hR hU hm hmL him
  go_enter Tryz.func107, Tryz.ntmps107
  go_wp2_with fail
  refine HV.out.mono ?_
  rintro e w1 ⟨rfl, h1, h2, h3⟩
  have HD := Lib.hid (And.intro h1 (And.intro h2 h3))
  clear h1 h2 h3 HV
  go_wp2_with fail
  go_ret2
  exact ⟨rfl, HD.out⟩
theorem fullShort (w0 W : World) (B g : Nat) (L Lb : List UInt8) (i off m c : Nat) (t : TypeId) (hE : IoErrs w0) (hB : w0.heap.size ≤ B) (hg : B < g) (hb : Below w0.heap.size w0 W) (hR : Rdr w0 W B L i) (hU : Buf W g t Lb)
    (hm : 0 < m) (hmc : m ≤ c) (hcm : c ≤ 9223372036854775807) (hmL : off + m ≤ Lb.length) (hi : i ≤ L.length) (him : L.length < i + m) :
    Calls Tryz.prog 107 #[.iface 63 (.pointer (some ⟨B, 0, none⟩)), .slice (some ⟨g, off, none⟩) m c] W fun e w' => ∃ n v, e = .returned (.tuple #[.int .i64 n, .iface 237 v]) ∧ Below w0.heap.size w0 w' := by
  have HV := Lib.hid (atLeastShort w0 W B g L Lb i off m c t hE hB hg hb hR hU hm hmc hcm hmL hi him)
  clear hE hb hR hU hm hmL hi him
  go_enter Tryz.func107, Tryz.ntmps107
  go_wp2_with fail
  refine HV.out.mono ?_
  rintro e w1 ⟨n, v, rfl, h1⟩
  have HD := Lib.hid h1
  clear h1 HV
  go_wp2_with fail
  go_ret2
  exact ⟨n, v, rfl, HD.out⟩
end Rd
end Go.Proofs.YtfhbnlbdmfjhlaaGreatDoor.X
