/- decimal128.String at no number, at infinite ones and at 0. -/
import Derived.Test.YtjjfdamlicoeeaaDoorStrD
set_option linter.unusedVariables false
set_option linter.unusedSimpArgs false
set_option maxRecDepth 100000
namespace Go.Proofs.YtjjfdamlicoeeaaDoor.X
open Go.RowKit Go.Deep
def INF (sg : Int) : ByteArray := if sg = 1 then ⟨#[73, 110, 102, 105, 110, 105, 116, 121]⟩ else ⟨#[45, 73, 110, 102, 105, 110, 105, 116, 121]⟩
def ZER (sg : Int) : ByteArray := if sg = 1 then ⟨#[48]⟩ else ⟨#[45, 48]⟩
theorem sg_cases (h : Int) : (bits .and .u64 (h / 9223372036854775808) 1 == 0) = true ∧ sgP h = 1 ∨ (bits .and .u64 (h / 9223372036854775808) 1 == 0) = false ∧ sgP h = 0 := by
  unfold sgP
  by_cases hb : bits .and .u64 (h / 9223372036854775808) 1 = 0
  · rw [if_pos hb]; exact .inl ⟨by simpa using hb, rfl⟩
  · rw [if_neg hb]; exact .inr ⟨by simpa using hb, rfl⟩
theorem decStr_nan (h l : Int) (w : World) (h1 : 0 ≤ h) (h2 : h ≤ 18446744073709551615) (hk : k5P h = 31) :
    Calls Tryd.prog 33 #[.int .u64 h, .int .u64 l] w fun e w' => e = .returned (.string ⟨#[78, 97, 78]⟩) ∧ Below w.heap.size w w' := by
  have b31 : (bits .and .u64 (h / 288230376151711744) 31 == 31) = true := by simpa [k5P] using hk
  clear hk
  rcases sg_cases h with ⟨hs, -⟩ | ⟨hs, -⟩
  all_goals
    go_enter Tryd.func33, Tryd.ntmps33
    go_wp2_with fail
    go_step3
    go_wp2_with fail
    try rw [Exit.noGoto_ret]
    go_ret
    exact ⟨rfl, Below.refl _ _⟩
theorem decStr_inf (h l : Int) (w : World) (h1 : 0 ≤ h) (h2 : h ≤ 18446744073709551615) (hk : k5P h = 30) :
    Calls Tryd.prog 33 #[.int .u64 h, .int .u64 l] w fun e w' => e = .returned (.string (INF (sgP h))) ∧ Below w.heap.size w w' := by
  have b31 : (bits .and .u64 (h / 288230376151711744) 31 == 31) = false := by have : bits .and .u64 (h / 288230376151711744) 31 = 30 := hk; rw [this]; decide
  have b30 : (bits .and .u64 (h / 288230376151711744) 31 == 30) = true := by simpa [k5P] using hk
  clear hk
  rcases sg_cases h with ⟨hs, he⟩ | ⟨hs, he⟩
  all_goals
    rw [he]
    clear he
    go_enter Tryd.func33, Tryd.ntmps33
    go_wp2_with fail
    go_step3
    go_wp2_with fail
    try rw [Exit.noGoto_ret]
    go_ret
    exact ⟨by first | rfl | decide, Below.refl _ _⟩
set_option maxHeartbeats 4000000 in
theorem decStr_zero (h l : Int) (w : World) (h1 : 0 ≤ h) (h2 : h ≤ 18446744073709551615) (h3 : 0 ≤ l) (h4 : l ≤ 18446744073709551615) (htab : Lib.TabIs Tryd.prog w "internal/strconv.uint64pow10" .u64 Lib.pow10Tab) (hk31 : k5P h ≠ 31) (hk30 : k5P h ≠ 30) (hz : hiP h = 0 ∧ loP h l = 0 ∧ exP h = 0) :
    Calls Tryd.prog 33 #[.int .u64 h, .int .u64 l] w fun e w' => e = .returned (.string (ZER (sgP h))) ∧ Below w.heap.size w w' := by
  have HT := Lib.hid htab
  have b31 : (bits .and .u64 (h / 288230376151711744) 31 == 31) = false := by rw [beq_eq_false_iff_ne]; exact hk31
  have b30 : (bits .and .u64 (h / 288230376151711744) 31 == 30) = false := by rw [beq_eq_false_iff_ne]; exact hk30
  have hE := exP_bd h h1 h2
  have hH := hiP_bd h h1 h2
  have hL := loP_bd h l h3 h4
  obtain ⟨sg, hsg⟩ : ∃ x, x = sgP h := ⟨_, rfl⟩
  obtain ⟨E, hEE⟩ : ∃ x, x = exP h := ⟨_, rfl⟩
  obtain ⟨E6, hE6⟩ : ∃ x, x = exP h + 6176 := ⟨_, rfl⟩
  obtain ⟨H, hHH⟩ : ∃ x, x = hiP h := ⟨_, rfl⟩
  obtain ⟨Lw, hLL⟩ : ∃ x, x = loP h l := ⟨_, rfl⟩
  rw [← hEE] at hE hz
  rw [← hHH] at hH hz
  rw [← hLL] at hL hz
  have hE6b : 0 ≤ E6 ∧ E6 ≤ 16383 := by omega
  have HE : Hid (E6 + -6176 = E) := Lib.hid (by omega)
  rw [← hsg]
  have HZ := Lib.hid hz
  have HSG := Lib.hid hsg
  have HE6 := Lib.hid hE6
  have HHH := Lib.hid hHH
  have HLL := Lib.hid hLL
  clear htab hz hk31 hk30 hsg hEE hE6 hHH hLL
  go_enter Tryd.func33, Tryd.ntmps33
  go_wp2_with fail
  go_step3
  go_upto_if 20 with (fail)
  go_cut [5] (fun p5 w' => p5 = .int .i64 sg ∧ w = w')
  case first =>
    go_wp2_with fail
    · go_meet
      case rel => have := HSG.out; simp_all [sgP]
    · go_meet
      case rel => have := HSG.out; simp_all [sgP]
  case rest =>
    obtain ⟨rfl, rfl⟩ := hcut
    go_upto_if 34 with (fail)
    go_cut [6, 7, 8] (fun e6 h7 l8 w' => e6 = .int .i64 E6 ∧ h7 = .int .u64 H ∧ l8 = .int .u64 Lw ∧ w = w')
    case first =>
      go_wp2_with fail
      · go_meet
        case rel =>
          rename_i hq
          have b := bits14 (h / 140737488355328) (by omega) (by omega)
          have hw : wrap64 (bits .and .u64 (h / 140737488355328) 16383) = bits .and .u64 (h / 140737488355328) 16383 := by unfold wrap64; omega
          have e3 : e3P h = 3 := by unfold e3P; simpa using hq
          have x6 := HE6.out
          have xh := HHH.out
          have xl := HLL.out
          simp only [exP, hiP, loP, if_pos e3] at x6 xh xl
          exact ⟨by rw [hw]; congr 1; omega, by rw [xh], by rw [xl], rfl⟩
      · go_meet
        case rel =>
          rename_i hq
          have b := bits14 (h / 562949953421312) (by omega) (by omega)
          have hw : wrap64 (bits .and .u64 (h / 562949953421312) 16383) = bits .and .u64 (h / 562949953421312) 16383 := by unfold wrap64; omega
          have e3 : ¬ e3P h = 3 := by unfold e3P; simpa using hq
          have x6 := HE6.out
          have xh := HHH.out
          have xl := HLL.out
          simp only [exP, hiP, loP, if_neg e3] at x6 xh xl
          exact ⟨by rw [hw]; congr 1; omega, by rw [xh], by rw [xl], rfl⟩
    case rest =>
      obtain ⟨rfl, rfl, rfl, rfl⟩ := hcut
      go_upto_region 18 with (fail)
      go_cut [6, 7, 8, 56] (fun e6 h7 l8 v w' => v = .bool true ∧ w = w')
      case first =>
        go_wp2_with fail
        all_goals go_meet
        all_goals
          obtain ⟨z1, z2, z3⟩ := HZ.out
          have he := HE.out
          clear HZ HE HE6 HHH HLL HSG
          refine ⟨?_, rfl⟩
          first | (exfalso; simp_all; done) | (congr 1; simp; omega) | (exfalso; omega)
      case rest =>
        obtain ⟨rfl, rfl⟩ := hcut
        have hsgb : sg = 0 ∨ sg = 1 := by have := HSG.out; rw [this]; unfold sgP; split <;> simp
        clear HSG HZ HE HE6 HHH HLL
        rcases hsgb with rfl | rfl
        all_goals
          go_wp2_with fail
          try rw [Exit.noGoto_ret]
          go_ret
          exact ⟨by first | rfl | decide, Below.refl _ _⟩
end Go.Proofs.YtjjfdamlicoeeaaDoor.X
