/- Appending one element of 32 bits to bytes of the call's own. -/
import Derived.Test.YtohfgfbfohkkkaaGreatDoorStart
import Derived.Outline
set_option linter.unusedVariables false
set_option linter.unusedSimpArgs false
set_option maxRecDepth 100000
namespace Go.Proofs.YtohfgfbfohkkkaaGreatDoor.X
open Go.RowKit Go.Proofs.YtohfgfbfohkkkaaGreatDoorW.PrintLast
namespace Aw

def isInt : Value → Nat
  | .int _ _ => 0
  | _ => 1
theorem noZero (sa : ByteArray) (w : World) (hsa : sa = ⟨#[97]⟩) :
    Calls Tryz.prog 214 #[.string sa, .int .i32 0] w fun e w' => e = .returned (.int .i64 (-1)) ∧ Below w.heap.size w w' := by
  have hn0 : ∀ ty, (Instr.next (.pointer (some ⟨w.heap.size, 0, none⟩)) true ty).run Tryz.prog (w.iter sa 0) = .ok (.tuple #[.bool true, .int .i64 0, .int .i32 97]) (w.iter sa 1) := fun ty => by
    subst hsa
    exact run_next_ascii (P := Tryz.prog) w _ 0 ty (by decide) (by decide)
  have hn1 : ∀ ty, (Instr.next (.pointer (some ⟨w.heap.size, 0, none⟩)) true ty).run Tryz.prog (w.iter sa 1) = .ok (.tuple #[.bool false]) (w.iter sa 1) := fun ty => by
    subst hsa
    exact run_next_end (P := Tryz.prog) w _ 1 ty (by decide)
  have hbe : Hid (Below w.heap.size w (w.iter sa 1)) := Lib.hid (balloc (Below.refl _ _) (Nat.le_refl _) _)
  clear hsa
  go_enter Tryz.func214, Tryz.ntmps214
  go_wp2_with fail
  go_loopw [5] (fun a wr => (a = undef ∧ wr = w.iter sa 0) ∨ (a = .int .i64 0 ∧ wr = w.iter sa 1)) (fun a _ => isInt a)
  case atStart => exact Or.inl ⟨rfl, rfl⟩
  case round =>
    rcases hrel with ⟨rfl, rfl⟩ | ⟨rfl, rfl⟩
    · go_wp2_with fail
      go_roundw
      case rel => exact Or.inr ⟨by first | rfl | trivial, by first | rfl | trivial⟩
      case measure => simp [isInt, undef]
    · go_wp2_with fail
      go_ret
      exact ⟨by first | rfl | trivial, hbe.out⟩
theorem containsNot (sa : ByteArray) (w : World) (hsa : sa = ⟨#[97]⟩) :
    Calls Tryz.prog 190 #[.string sa, .int .i32 0] w fun e w' => e = .returned (.bool false) ∧ Below w.heap.size w w' := by
  have HN := Lib.hid (noZero sa w hsa)
  clear hsa
  go_enter Tryz.func190, Tryz.ntmps190
  go_wp2_with fail
  refine HN.out.mono ?_
  rintro e w1 ⟨rfl, hb⟩
  go_wp2_with fail
  go_ret
  exact ⟨rfl, hb⟩
theorem validName (sa : ByteArray) (w : World) (hsa : sa = ⟨#[97]⟩) :
    Calls Tryz.prog 177 #[.string sa] w fun e w' => e = .returned (.bool true) ∧ Below w.heap.size w w' := by
  have HN := Lib.hid (containsNot sa w hsa)
  clear hsa
  go_enter Tryz.func177, Tryz.ntmps177
  go_wp2_with fail
  refine HN.out.mono ?_
  rintro e w1 ⟨rfl, hb⟩
  go_wp2_with fail
  go_ret
  exact ⟨rfl, hb⟩
theorem appType (W : World) (base : Nat) (v : Value) (l : List UInt8) (HO : OB 5 W base v l) (hbase : base ≤ W.heap.size) (hl : l.length ≤ 2147483000) :
    Calls Tryz.prog 188 #[v, .int .u8 16] W (After fun v1 w1 => App (E := 5) W base v (l ++ [16]) v1 w1) := by
  obtain ⟨A, c, rfl, hs, -⟩ := HO.sb
  clear hs
  go_enter Tryz.func188, Tryz.ntmps188
  go_wp2_with (first | (refine wp_app (.tmp 5) (.tmp 7) 22 rfl rfl infoB Tryz.underlying22 _ base _ l _ _ [16] rfl rfl ?a1 ?a2 ?a3 ?a4 ?_) | fail)
  case a1 => exact HO.alloc _
  case a2 => exact SB.lit_ _ [16] _ (by simp [byv]) (by simp) _ rfl
  case a3 => simp; omega
  case a4 => simp; omega
  intro v1 w1 hap
  go_wp2_with fail
  go_ret
  exact ⟨v1, rfl, hap.pre (balloc (Below.refl _ _) (Nat.le_refl _) _)⟩
theorem appHeader (W : World) (base : Nat) (v : Value) (l : List UInt8) (sa : ByteArray) (hsa : sa = ⟨#[97]⟩) (HO : OB 5 W base v l) (hbase : base ≤ W.heap.size) (hl : l.length ≤ 2147482000) :
    Calls Tryz.prog 145 #[v, .int .u8 16, .string sa] W (After fun v1 w1 => App (E := 5) W base v (l ++ [16, 97, 0]) v1 w1) := by
  obtain ⟨A, c, rfl, hs, -⟩ := HO.sb
  clear hs
  have HV := Lib.hid (validName sa W hsa)
  have HSA : Hid (sa.size = 1 ∧ sa.data.toList = [97]) := Lib.hid (by subst hsa; exact ⟨rfl, rfl⟩)
  clear hsa
  go_enter Tryz.func145, Tryz.ntmps145
  go_wp2_with fail
  refine HV.out.mono ?_
  rintro e w1 ⟨rfl, hb⟩
  have hz1 := hb.size
  have HO1 := HO.keep hb
  have HB := Lib.hid hb
  clear hb
  go_wp2_with fail
  refine (appType w1 base _ l HO1 (by omega) (by omega)).mono ?_
  rintro e w2 ⟨v2, rfl, hap⟩
  have hz2 := hap.size
  have ho2 := hap.own
  obtain ⟨A2, c2, rfl, hs2, -⟩ := ho2.sb
  obtain ⟨q, hq⟩ : ∃ q, q = (l ++ [16]).length := ⟨_, rfl⟩
  have hq2 : q ≤ l.length + 1 := by rw [hq]; simp
  rw [← hq] at ho2 hap ⊢
  have HAP := Lib.hid hap
  clear hs2 hap hq
  go_wp2_with (first | (refine wp_app_str (.tmp 14) (.tmp 15) 22 9 rfl rfl infoB Tryz.underlying22 Tryz.underlying9 _ base _ (l ++ [16]) sa rfl rfl ?b1 ?b2 ?b3 ?_) | fail)
  case b1 => exact ho2
  case b2 => omega
  case b3 => have := HSA.out.1; simp; omega
  intro v3 w3 h3
  have hz3 := h3.size
  have ho3 := h3.own
  rw [HSA.out.2] at ho3 h3
  obtain ⟨A3, c3, rfl, hs3, -⟩ := ho3.sb
  obtain ⟨q3, hq3⟩ : ∃ q, q = (l ++ [16, 97]).length := ⟨_, rfl⟩
  have hq4 : q3 ≤ l.length + 2 := by rw [hq3]; simp
  rw [← hq3] at ho3 h3 ⊢
  have H3 := Lib.hid h3
  clear hs3 h3 hq3
  go_wp2_with (first | (refine wp_app (.tmp 17) (.tmp 18) 22 rfl rfl infoB Tryz.underlying22 _ base _ (l ++ [16, 97]) _ _ [0] rfl rfl ?a1 ?a2 ?a3 ?a4 ?_) | fail)
  case a1 => exact ho3.alloc _
  case a2 => exact SB.lit_ _ [0] _ (by simp [byv]) (by simp) _ rfl
  case a3 => simp; omega
  case a4 => simp; omega
  intro v4 w4 h4
  have h4' := h4.pre (balloc (Below.refl _ _) (Nat.le_refl _) _)
  have hend := ((HAP.out.pre HB.out).trans H3.out).trans h4'
  have HE := Lib.hid hend
  clear h4 h4' hend
  go_wp2_with fail
  go_ret
  exact ⟨v4, rfl, HE.out⟩
theorem put7 (W : World) (base : Nat) (v : Value) (l : List UInt8) (HO : OB 5 W base v l) (hbase : base ≤ W.heap.size) (hl : l.length ≤ 2147483000) :
    Calls Tryz.prog 178 #[v, .int .i32 7] W (After fun v1 w1 => App (E := 5) W base v (l ++ [7, 0, 0, 0]) v1 w1) := by
  obtain ⟨A, c, rfl, hs, -⟩ := HO.sb
  clear hs
  go_enter Tryz.func178, Tryz.ntmps178
  go_wp2_with (first | (refine wp_app (.tmp 5) (.tmp 17) 22 rfl rfl infoB Tryz.underlying22 _ base _ l _ _ [7, 0, 0, 0] rfl rfl ?a1 ?a2 ?a3 ?a4 ?_) | fail)
  case a1 => exact HO.alloc _
  case a2 => exact SB.lit_ _ [7, 0, 0, 0] _ (by simp [byv]) (by simp) _ rfl
  case a3 => simp; omega
  case a4 => simp; omega
  intro v1 w1 hap
  go_wp2_with fail
  go_ret
  exact ⟨v1, rfl, hap.pre (balloc (Below.refl _ _) (Nat.le_refl _) _)⟩
theorem appInt7 (W : World) (base : Nat) (v : Value) (l : List UInt8) (HO : OB 5 W base v l) (hbase : base ≤ W.heap.size) (hl : l.length ≤ 2147483000) :
    Calls Tryz.prog 96 #[v, .int .i32 7] W (After fun v1 w1 => App (E := 5) W base v (l ++ [7, 0, 0, 0]) v1 w1) := by
  go_enter Tryz.func96, Tryz.ntmps96
  go_wp2_with fail
  refine (put7 W base v l HO hbase hl).mono ?_
  rintro e w1 ⟨v1, rfl, h⟩
  go_wp2_with fail
  go_ret
  exact ⟨v1, rfl, h⟩
theorem appElem7 (W : World) (base : Nat) (v : Value) (l : List UInt8) (sa : ByteArray) (hsa : sa = ⟨#[97]⟩) (HO : OB 5 W base v l) (hbase : base ≤ W.heap.size) (hl : l.length ≤ 2147482000) :
    Calls Tryz.prog 168 #[v, .string sa, .int .i32 7] W (After fun v1 w1 => App (E := 5) W base v (l ++ [16, 97, 0, 7, 0, 0, 0]) v1 w1) := by
  have HH := Lib.hid (appHeader W base v l sa hsa HO hbase hl)
  clear hsa
  go_enter Tryz.func168, Tryz.ntmps168
  go_wp2_with fail
  refine HH.out.mono ?_
  rintro e w1 ⟨v1, rfl, h⟩
  have hz := h.size
  go_wp2_with fail
  refine (appInt7 w1 base v1 _ h.own (by omega) (by simp; omega)).mono ?_
  rintro e w2 ⟨v2, rfl, h2⟩
  have h3 := h.trans h2
  rw [List.append_assoc] at h3
  have HE := Lib.hid h3
  clear h h2 h3
  go_wp2_with fail
  go_ret
  exact ⟨v2, rfl, HE.out⟩
end Aw
end Go.Proofs.YtohfgfbfohkkkaaGreatDoor.X
