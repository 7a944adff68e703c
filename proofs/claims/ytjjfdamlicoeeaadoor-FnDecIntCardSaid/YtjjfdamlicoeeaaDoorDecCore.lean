/- The law FnDecCore. -/
import Derived.Test.YtjjfdamlicoeeaaDoorStrA
set_option linter.unusedVariables false
set_option linter.unusedSimpArgs false
set_option maxRecDepth 100000
namespace Go.Proofs.YtjjfdamlicoeeaaDoor.X
open Go.RowKit
theorem newDec (h l : Int) (w : World) : Calls Tryd.prog 28 #[.int .u64 h, .int .u64 l] w fun e w' => e = .returned (.agg #[.int .u64 h, .int .u64 l]) ∧ Below w.heap.size w w' := by
  go_enter Tryd.func28, Tryd.ntmps28
  go_wp2
  exact bodyPost_ret (v := .agg #[.int .u64 h, .int .u64 l]) (by simp [results, Tryd.results28, go_sem]) rfl ⟨rfl, balloc (Below.refl _ _) (Nat.le_refl _) _⟩
section
variable (h l : Int) (h1 : 0 ≤ h) (h2 : h ≤ 18446744073709551615) (h3 : 0 ≤ l) (h4 : l ≤ 18446744073709551615)
include h1 h2 h3 h4
theorem decString (w : World) (htab : Lib.TabIs Tryd.prog w "internal/strconv.uint64pow10" .u64 Lib.pow10Tab) :
    Calls Tryd.prog 32 #[.agg #[.int .u64 h, .int .u64 l]] w fun e w' => e = .returned (.string (decT h l)) ∧ Below w.heap.size w w' := by
  have HS := Lib.hid (fun wx t => decStr_any h l wx h1 h2 h3 h4 t)
  have HT := Lib.hid (tab_keep htab (balloc (Below.refl _ w) (Nat.le_refl _) (.cells #[.int .u64 h, .int .u64 l] 62)))
  clear h1 h2 h3 h4 htab
  go_enter Tryd.func32, Tryd.ntmps32
  go_wp2_with fail
  refine (HS.out _ HT.out).mono ?_
  rintro e w1 ⟨rfl, hb1⟩
  have HB := Lib.hid ((balloc (Below.refl _ w) (Nat.le_refl _) _).trans (hb1.mono (by simp)))
  clear hb1
  go_wp2_with fail
  go_ret
  exact ⟨rfl, HB.out⟩
theorem decText (w : World) (htab : Lib.TabIs Tryd.prog w "internal/strconv.uint64pow10" .u64 Lib.pow10Tab) :
    Calls Tryd.prog 12 #[.int .u64 h, .int .u64 l] w fun e w' => e = .returned (.string (decT h l)) ∧ Below w.heap.size w w' := by
  have HN := Lib.hid (fun wx => newDec h l wx)
  have HS := Lib.hid (fun wx t => decString h l h1 h2 h3 h4 wx t)
  have HT := Lib.hid htab
  clear h1 h2 h3 h4 htab
  go_enter Tryd.func12, Tryd.ntmps12
  go_wp2_with fail
  refine (HN.out _).mono ?_
  rintro e w1 ⟨rfl, hb1⟩
  have HB1 := Lib.hid hb1
  clear hb1
  go_wp2_with fail
  refine (HS.out _ (tab_keep HT.out HB1.out)).mono ?_
  rintro e w2 ⟨rfl, hb2⟩
  have HB2 := Lib.hid (HB1.out.trans (hb2.mono HB1.out.size))
  clear hb2
  go_wp2_with fail
  go_ret
  exact ⟨rfl, HB2.out⟩
theorem decCore (w : World) (htab : Lib.TabIs Tryd.prog w "internal/strconv.uint64pow10" .u64 Lib.pow10Tab) :
    Calls Tryd.prog 13 #[.int .u64 h, .int .u64 l] w fun e w' => e = .returned (.string (decT h l)) ∧ Below w.heap.size w w' := by
  have HS := Lib.hid (fun wx t => decStr_any h l wx h1 h2 h3 h4 t)
  have HT := Lib.hid htab
  clear h1 h2 h3 h4 htab
  go_enter Tryd.func13, Tryd.ntmps13
  go_wp2_with fail
  refine (HS.out _ HT.out).mono ?_
  rintro e w1 ⟨rfl, hb1⟩
  have HB1 := Lib.hid hb1
  clear hb1
  go_wp2_with fail
  go_ret
  exact ⟨rfl, HB1.out⟩
end
theorem decT_inf : decT 8646911284551352320 0 = ⟨#[73, 110, 102, 105, 110, 105, 116, 121]⟩ := by decide +kernel
theorem fnDecCore_walk (h l : Int) (w : World) (h1 : 0 ≤ h) (h2 : h ≤ 18446744073709551615) (h3 : 0 ≤ l) (h4 : l ≤ 18446744073709551615) (htab : Lib.TabIs Tryd.prog w "internal/strconv.uint64pow10" .u64 Lib.pow10Tab) :
    Calls Tryd.prog 5 #[.int .u64 h, .int .u64 l] w fun e w' => e = .returned (.bool true) ∧ Below w.heap.size w w' := by
  have HC := Lib.hid (fun wx t => decCore h l h1 h2 h3 h4 wx t)
  have HX := Lib.hid (fun wx t => decText h l h1 h2 h3 h4 wx t)
  have HI := Lib.hid (fun wx t => decText 8646911284551352320 0 (by omega) (by omega) (by omega) (by omega) wx t)
  rw [decT_inf] at HI
  obtain ⟨X, hX⟩ : ∃ X, X = decT h l := ⟨_, rfl⟩
  rw [← hX] at HC HX
  have HT := Lib.hid htab
  clear h1 h2 h3 h4 htab hX
  go_enter Tryd.func5, Tryd.ntmps5
  go_wp2_with fail
  refine (HC.out _ HT.out).mono ?_
  rintro e w1 ⟨rfl, hb1⟩
  have HB1 := Lib.hid hb1
  clear hb1
  go_wp2_with fail
  refine (HX.out _ (tab_keep HT.out HB1.out)).mono ?_
  rintro e w2 ⟨rfl, hb2⟩
  have HB2 := Lib.hid (HB1.out.trans (hb2.mono HB1.out.size))
  clear hb2
  go_wp2_with fail
  refine (HI.out _ (tab_keep HT.out HB2.out)).mono ?_
  rintro e w3 ⟨rfl, hb3⟩
  have HB3 := Lib.hid (HB2.out.trans (hb3.mono HB2.out.size))
  clear hb3
  go_wp2_with fail
  go_ret
  exact ⟨by first | rfl | simp, HB3.out⟩
end Go.Proofs.YtjjfdamlicoeeaaDoor.X
