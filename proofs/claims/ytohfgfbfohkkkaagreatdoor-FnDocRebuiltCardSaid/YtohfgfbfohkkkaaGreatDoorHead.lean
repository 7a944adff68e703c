/- bsoncore.AppendHeader: kinds and names without a byte 0. -/
import Derived.Test.YtohfgfbfohkkkaaGreatDoorStart2
import Derived.Test.YtohfgfbfohkkkaaGreatDoorDoc2
import Derived.Outline
import Derived.Laws.RangeAny
set_option linter.unusedVariables false
set_option linter.unusedSimpArgs false
set_option maxRecDepth 100000
namespace Go.Proofs.YtohfgfbfohkkkaaGreatDoor.X
open Go.RowKit Go.Proofs.YtohfgfbfohkkkaaGreatDoorW.PrintLast
namespace Hd

theorem plain_at {s : ByteArray} (hp : plainB s.data.toList = true) (pos : Nat) (h : pos < s.size) : 0 < (s[pos]'h).toNat := by
  simp only [plainB, List.all_eq_true, decide_eq_true_eq] at hp
  have := hp (s[pos]'h) (by
    have h2 : pos < s.data.size := h
    have e : s[pos]'h = s.data[pos] := rfl
    rw [e]
    simp)
  omega
theorem rune_pos {s : ByteArray} (hp : plainB s.data.toList = true) (pos : Nat) (h : pos < s.size) : 0 < (Utf8.decode s pos).1 ∧ 1 ≤ (Utf8.decode s pos).2 := by
  have h0 := plain_at hp pos h
  by_cases hb : (s[pos]'h).toNat < 128
  · have e : Utf8.decode s pos = ((s[pos]'h).toNat, 1) := by simp only [Utf8.decode, get_at s pos h, hb, if_true]
    rw [e]
    exact ⟨h0, Nat.le_refl _⟩
  · have := decode_high s pos h (by omega)
    omega
theorem meas0 {n p p2 : Nat} (h : p < n) (h2 : p + 1 ≤ p2) : n - p2 < n - p := by omega
set_option maxHeartbeats 1600000 in
theorem noZeroN (s : ByteArray) (w : World) (hp : plainB s.data.toList = true) :
    Calls Tryz.prog 214 #[.string s, .int .i32 0] w fun e w' => e = .returned (.int .i64 (-1)) ∧ Below w.heap.size w w' := by
  have HS : Hid (∀ pos, pos < s.size → ∃ c p2 : Nat, ((c : Int) == 0) = false ∧ pos + 1 ≤ p2 ∧ ∀ ty, (Instr.next (.pointer (some ⟨w.heap.size, 0, none⟩)) true ty).run Tryz.prog (w.iter s pos) = .ok (.tuple #[.bool true, .int .i64 pos, .int .i32 c]) (w.iter s p2)) := Lib.hid fun pos h => by
    obtain ⟨h1, h2⟩ := rune_pos hp pos h
    exact ⟨_, _, by rw [beq_eq_false_iff_ne]; omega, by omega, fun ty => run_next_any (P := Tryz.prog) w s pos ty h⟩
  have HE : Hid (∀ pos, ¬ pos < s.size → ∀ ty, (Instr.next (.pointer (some ⟨w.heap.size, 0, none⟩)) true ty).run Tryz.prog (w.iter s pos) = .ok (.tuple #[.bool false]) (w.iter s pos)) := Lib.hid fun pos h ty => run_next_end (P := Tryz.prog) w s pos ty h
  have HB : Hid (∀ pos, Below w.heap.size w (w.iter s pos)) := Lib.hid fun pos => balloc (Below.refl _ _) (Nat.le_refl _) _
  clear hp
  go_enter Tryz.func214, Tryz.ntmps214
  go_wp2_with fail
  go_loopw [5] (fun a wr => ∃ pos : Nat, wr = w.iter s pos) (fun _ wr => s.size - wr.iterPos w.heap.size)
  case atStart => exact ⟨0, rfl⟩
  case round =>
    obtain ⟨pos, rfl⟩ := hrel
    by_cases h : pos < s.size
    · obtain ⟨c, p2, hc, hp2, hn⟩ := HS.out pos h
      go_wp2_with fail
      go_roundw
      case rel => exact ⟨p2, by first | rfl | trivial⟩
      case measure => simp only [World.iterPos_iter]; exact meas0 h hp2
    · have hn := HE.out pos h
      go_wp2_with fail
      go_ret
      exact ⟨by first | rfl | trivial, HB.out pos⟩
theorem containsNotN (s : ByteArray) (w : World) (hp : plainB s.data.toList = true) :
    Calls Tryz.prog 190 #[.string s, .int .i32 0] w fun e w' => e = .returned (.bool false) ∧ Below w.heap.size w w' := by
  have HN := Lib.hid (noZeroN s w hp)
  clear hp
  go_enter Tryz.func190, Tryz.ntmps190
  go_wp2_with fail
  refine HN.out.mono ?_
  rintro e w1 ⟨rfl, hb⟩
  go_wp2_with fail
  go_ret
  exact ⟨rfl, hb⟩
theorem validN (s : ByteArray) (w : World) (hp : plainB s.data.toList = true) :
    Calls Tryz.prog 177 #[.string s] w fun e w' => e = .returned (.bool true) ∧ Below w.heap.size w w' := by
  have HN := Lib.hid (containsNotN s w hp)
  clear hp
  go_enter Tryz.func177, Tryz.ntmps177
  go_wp2_with fail
  refine HN.out.mono ?_
  rintro e w1 ⟨rfl, hb⟩
  go_wp2_with fail
  go_ret
  exact ⟨rfl, hb⟩
theorem ub_small {k : Int} (h0 : 0 ≤ k) (h1 : k ≤ 255) : ((ub k).toNat : Int) = k := by rw [ub_toNat]; omega
theorem appTypeN (W : World) (base : Nat) (v : Value) (l : List UInt8) (k : Int) (h0 : 0 ≤ k) (h1 : k ≤ 255) (HO : OB 5 W base v l) (hbase : base ≤ W.heap.size) (hl : l.length ≤ 2147483000) :
    Calls Tryz.prog 188 #[v, .int .u8 k] W (After fun v1 w1 => App (E := 5) W base v (l ++ [ub k]) v1 w1) := by
  obtain ⟨A, c, rfl, hs, -⟩ := HO.sb
  have hk := ub_small h0 h1
  clear hs h0 h1
  go_enter Tryz.func188, Tryz.ntmps188
  go_wp2_with (first | (refine wp_app (.tmp 5) (.tmp 7) 22 rfl rfl infoB Tryz.underlying22 _ base _ l _ _ [ub k] rfl rfl ?a1 ?a2 ?a3 ?a4 ?_) | fail)
  case a1 => exact HO.alloc _
  case a2 => exact SB.lit_ _ [ub k] _ (by simp [byv, hk]) (by simp) _ rfl
  case a3 => simp; omega
  case a4 => simp; omega
  intro v1 w1 hap
  go_wp2_with fail
  go_ret
  exact ⟨v1, rfl, hap.pre (balloc (Below.refl _ _) (Nat.le_refl _) _)⟩
theorem appHeaderN (W : World) (base : Nat) (v : Value) (l : List UInt8) (k : Int) (s : ByteArray) (h0 : 0 ≤ k) (h1 : k ≤ 255) (hp : plainB s.data.toList = true) (hs1 : s.size ≤ 1000000) (HO : OB 5 W base v l) (hbase : base ≤ W.heap.size) (hl : l.length ≤ 2140000000) :
    Calls Tryz.prog 145 #[v, .int .u8 k, .string s] W (After fun v1 w1 => App (E := 5) W base v (l ++ hd k s.data.toList) v1 w1) := by
  obtain ⟨A, c, rfl, hs, -⟩ := HO.sb
  clear hs
  have HV := Lib.hid (validN s W hp)
  have HT := Lib.hid (fun w1 (h : OB 5 w1 base (.slice A l.length c) l) (hb : base ≤ w1.heap.size) => appTypeN w1 base _ l k h0 h1 h hb (by omega))
  have HF : Hid (∀ v1 w1, App (E := 5) W base (.slice A l.length c) (l ++ [ub k] ++ s.data.toList ++ [0]) v1 w1 → App (E := 5) W base (.slice A l.length c) (l ++ hd k s.data.toList) v1 w1) := Lib.hid fun v1 w1 h => by
    rw [show l ++ hd k s.data.toList = l ++ [ub k] ++ s.data.toList ++ [0] from by simp [hd]]
    exact h
  clear hp h0 h1
  go_enter Tryz.func145, Tryz.ntmps145
  go_wp2_with fail
  refine HV.out.mono ?_
  rintro e w1 ⟨rfl, hb⟩
  have hz1 := hb.size
  have HO1 := HO.keep hb
  have HB := Lib.hid hb
  clear hb
  go_wp2_with fail
  refine (HT.out w1 HO1 (by omega)).mono ?_
  rintro e w2 ⟨v2, rfl, hap⟩
  have hz2 := hap.size
  have ho2 := hap.own
  obtain ⟨A2, c2, rfl, hs2, -⟩ := ho2.sb
  obtain ⟨l2, hl2⟩ : ∃ x, x = l ++ [ub k] := ⟨_, rfl⟩
  rw [← hl2] at ho2 hap HF ⊢
  have HQ2 : Hid (l2.length = l.length + 1) := Lib.hid (by rw [hl2]; simp)
  have HAP := Lib.hid hap
  clear hs2 hap hl2 HT
  go_wp2_with (first | (refine wp_app_str (.tmp 14) (.tmp 15) 22 9 rfl rfl infoB Tryz.underlying22 Tryz.underlying9 _ base _ l2 s rfl rfl ?b1 ?b2 ?b3 ?_) | fail)
  case b1 => exact ho2
  case b2 => omega
  case b3 => have := HQ2.out; omega
  intro v3 w3 h3
  have hz3 := h3.size
  have ho3 := h3.own
  obtain ⟨l3, hl3⟩ : ∃ x, x = l2 ++ s.data.toList := ⟨_, rfl⟩
  have HQ3 : Hid (l3.length = l2.length + s.size) := Lib.hid (by rw [hl3, List.length_append, size_data])
  rw [← hl3] at ho3 h3 HF
  obtain ⟨A3, c3, rfl, hs3, -⟩ := ho3.sb
  have H3 := Lib.hid h3
  clear hs3 h3 hl3
  go_wp2_with (first | (refine wp_app (.tmp 17) (.tmp 18) 22 rfl rfl infoB Tryz.underlying22 _ base _ l3 _ _ [0] rfl rfl ?a1 ?a2 ?a3 ?a4 ?_) | fail)
  case a1 => exact ho3.alloc _
  case a2 => exact SB.lit_ _ [0] _ (by simp [byv]) (by simp) _ rfl
  case a3 => simp; omega
  case a4 => have := HQ2.out; have := HQ3.out; simp; omega
  intro v4 w4 h4
  have h4' := h4.pre (balloc (Below.refl _ _) (Nat.le_refl _) _)
  have hend := ((HAP.out.pre HB.out).trans H3.out).trans h4'
  have HE := Lib.hid (HF.out _ _ hend)
  clear h4 h4' hend
  go_wp2_with fail
  go_ret
  exact ⟨v4, rfl, HE.out⟩
end Hd
end Go.Proofs.YtohfgfbfohkkkaaGreatDoor.X
