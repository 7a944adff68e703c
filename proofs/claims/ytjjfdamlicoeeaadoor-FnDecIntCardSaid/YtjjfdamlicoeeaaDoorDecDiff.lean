/- The law FnDecDifferent. -/
import Derived.Test.YtjjfdamlicoeeaaDoorDin
import Derived.Test.YtjjfdamlicoeeaaDoorDfc
import Derived.Test.YtjjfdamlicoeeaaDoorDecCore
set_option linter.unusedVariables false
set_option linter.unusedSimpArgs false
set_option maxRecDepth 100000
namespace Go.Proofs.YtjjfdamlicoeeaaDoor.X
open Go.RowKit
theorem sgP_val (h : Int) (h1 : 0 ≤ h) (h2 : h ≤ 18446744073709551615) : sgP h = 1 - h / 9223372036854775808 % 2 := by
  have e : bits .and .u64 (h / 9223372036854775808) 1 = h / 9223372036854775808 % 2 := bits_mask .u64 64 (by decide) wraps_u64 1 (by decide) _ (by omega) (by omega)
  unfold sgP
  rw [e]
  split <;> omega
theorem sgP_01 (h : Int) : sgP h = 0 ∨ sgP h = 1 := by unfold sgP; split; exact .inr rfl; exact .inl rfl
theorem exP_val (h : Int) (h1 : 0 ≤ h) (h2 : h ≤ 18446744073709551615) (h3 : e3P h ≠ 3) : exP h = h / 562949953421312 % 16384 - 6176 := by
  have e : bits .and .u64 (h / 562949953421312) 16383 = h / 562949953421312 % 16384 := bits_mask .u64 64 (by decide) wraps_u64 14 (by decide) _ (by omega) (by omega)
  unfold exP
  rw [if_neg h3, e]
theorem hiP_val (h : Int) (h1 : 0 ≤ h) (h2 : h ≤ 18446744073709551615) (h3 : e3P h ≠ 3) : hiP h = h % 562949953421312 := by
  have e : bits .and .u64 h 562949953421311 = h % 562949953421312 := bits_mask .u64 64 (by decide) wraps_u64 49 (by decide) h h1 (by omega)
  unfold hiP
  rw [if_neg h3, e]
theorem decT_says (h l : Int) (h1 : 0 ≤ h) (h2 : h ≤ 18446744073709551615) (h3 : 0 ≤ l) (h4 : l ≤ 18446744073709551615) (n30 : k5P h ≠ 30) (n31 : k5P h ≠ 31) (hN : coP h l < 10 ^ 34) : Says (decT h l) (sgP h) (coP h l) (exP h) := by
  have hr := hiP_rng h h1 h2
  have hx := exP_rng h h1 h2
  have hlo : 0 ≤ loP h l ∧ loP h l ≤ 18446744073709551615 := by unfold loP; split <;> omega
  unfold decT
  rw [if_neg n31, if_neg n30]
  by_cases c3 : hiP h = 0 ∧ loP h l = 0 ∧ exP h = 0
  · rw [if_pos c3]
    obtain ⟨c1, c2, c4⟩ := c3
    refine ⟨[48], 0, ?_, ?_, ?_, ?_⟩
    · rcases sgP_01 h with e | e
      · rw [e]; rfl
      · rw [e]; rfl
    · intro c hc; rw [List.mem_singleton] at hc; subst hc; exact .inr (by decide)
    · unfold coP; rw [c1, c2]; rfl
    · rw [c4]; rfl
  · rw [if_neg c3]
    refine finT_says (sgP h) (sgP_01 h) _ _ _ (outr2 5 (k := 0) ?_ rfl ?_)
    · have hs : C (s0P (exP h) (hiP h) (loP h l)) = [] := rfl
      refine ⟨s0P_inv (exP h) (hiP h) (loP h l) (by omega) (by omega) (by omega), ?_, ?_, ?_, ?_, ?_, ?_, ?_⟩
      · rw [hs]
        simp only [num, V, s0P, coP]
        omega
      · simp only [s0P]; decide
      · rw [hs]; rfl
      · rw [hs]; simp only [s0P, frc]; omega
      · intro p hp hq; simp only [s0P] at hp hq; omega
      · rw [hs]; intro c hc; simp at hc
      · exact Int.le_refl _
    · have : ((coP h l : Nat) : Int) < ((10 ^ 34 : Nat) : Int) := by exact_mod_cast hN
      exact Int.lt_of_lt_of_le this (by decide)
theorem k5_nan : k5P 8935141660703064064 = 31 := by decide +kernel
theorem decT_31 (h l : Int) (e : k5P h = 31) : (decT h l).data.toList = [78, 97, 78] := by unfold decT; rw [if_pos e]
theorem decT_30 (h l : Int) (e : k5P h = 30) : (decT h l).data.toList = if sgP h = 1 then [73, 110, 102, 105, 110, 105, 116, 121] else [45, 73, 110, 102, 105, 110, 105, 116, 121] := by
  unfold decT; rw [if_neg (by rw [e]; decide), if_pos e]; unfold INF; split <;> rfl
theorem inf_val (h l : Int) (hf : Fits h l) (h1 : 0 ≤ h) (h2 : h ≤ 18446744073709551615) (e : k5P h = 30) : h = (if sgP h = 1 then 8646911284551352320 else 17870283321406128128) ∧ l = 0 := by
  obtain ⟨a, b⟩ := hf.inf e
  refine ⟨?_, b⟩
  rw [sgP_val h h1 h2]
  split at a
  · subst a; rfl
  · subst a; rfl
theorem decT_inj (a b c d : Int) (a1 : 0 ≤ a) (a2 : a ≤ 18446744073709551615) (b1 : 0 ≤ b) (b2 : b ≤ 18446744073709551615) (c1 : 0 ≤ c) (c2 : c ≤ 18446744073709551615) (d1 : 0 ≤ d) (d2 : d ≤ 18446744073709551615) (f1 : Fits a b) (f2 : Fits c d) (h : decT a b = decT c d) : a = c ∧ b = d := by
  have hl : (decT a b).data.toList = (decT c d).data.toList := by rw [h]
  have nf : ∀ (x y u v : Int), 0 ≤ x → x ≤ 18446744073709551615 → 0 ≤ y → y ≤ 18446744073709551615 → Fits x y → k5P x ≠ 30 → k5P x ≠ 31 → (k5P u = 30 ∨ k5P u = 31) → (decT x y).data.toList = (decT u v).data.toList → False := by
    intro x y u v x1 x2 y1 y2 fx n30 n31 hu he
    have hs := says_head _ _ _ _ (sgP_01 x) (decT_says x y x1 x2 y1 y2 n30 n31 (fx.fin n30 n31).2)
    rw [he] at hs
    rcases hu with hu | hu
    · rw [decT_30 u v hu] at hs
      rcases sgP_01 x with e | e
      · have h2 := hs.2 e
        split at h2
        · exact absurd h2.1 (by decide)
        · exact h2.2 73 rfl rfl
      · have h2 := hs.1 e
        split at h2
        · exact (h2 73 rfl).2.2 rfl
        · exact (h2 45 rfl).1 rfl
    · rw [decT_31 u v hu] at hs
      rcases sgP_01 x with e | e
      · exact absurd (hs.2 e).1 (by decide)
      · exact (hs.1 e 78 rfl).2.1 rfl
  by_cases p31 : k5P a = 31
  · by_cases q31 : k5P c = 31
    · obtain ⟨x1, x2⟩ := f1.nan p31
      obtain ⟨y1, y2⟩ := f2.nan q31
      exact ⟨by rw [x1, y1], by rw [x2, y2]⟩
    · by_cases q30 : k5P c = 30
      · rw [decT_31 a b p31, decT_30 c d q30] at hl
        split at hl <;> exact absurd hl (by decide)
      · exact (nf c d a b c1 c2 d1 d2 f2 q30 q31 (.inr p31) hl.symm).elim
  by_cases p30 : k5P a = 30
  · by_cases q31 : k5P c = 31
    · rw [decT_30 a b p30, decT_31 c d q31] at hl
      split at hl <;> exact absurd hl (by decide)
    · by_cases q30 : k5P c = 30
      · obtain ⟨x1, x2⟩ := inf_val a b f1 a1 a2 p30
        obtain ⟨y1, y2⟩ := inf_val c d f2 c1 c2 q30
        rw [decT_30 a b p30, decT_30 c d q30] at hl
        refine ⟨?_, by rw [x2, y2]⟩
        rw [x1, y1]
        split at hl <;> split at hl
        · rename_i g1 g2; rw [if_pos g1, if_pos g2]
        · exact absurd hl (by decide)
        · exact absurd hl (by decide)
        · rename_i g1 g2; rw [if_neg g1, if_neg g2]
      · exact (nf c d a b c1 c2 d1 d2 f2 q30 q31 (.inl p30) hl.symm).elim
  by_cases q31 : k5P c = 31
  · exact (nf a b c d a1 a2 b1 b2 f1 p30 p31 (.inr q31) hl).elim
  by_cases q30 : k5P c = 30
  · exact (nf a b c d a1 a2 b1 b2 f1 p30 p31 (.inl q30) hl).elim
  obtain ⟨u3, uN⟩ := f1.fin p30 p31
  obtain ⟨v3, vN⟩ := f2.fin q30 q31
  have s1 := decT_says a b a1 a2 b1 b2 p30 p31 uN
  have s2 := decT_says c d c1 c2 d1 d2 q30 q31 vN
  rw [← h] at s2
  obtain ⟨k1, k2, k3⟩ := says_inj _ _ _ _ _ _ _ (sgP_01 a) (sgP_01 c) s1 s2
  rw [sgP_val a a1 a2, sgP_val c c1 c2] at k1
  rw [exP_val a a1 a2 u3, exP_val c c1 c2 v3] at k3
  have k4 : coP a b = coP c d := by omega
  unfold coP at k4
  rw [hiP_val a a1 a2 u3, hiP_val c c1 c2 v3, show loP a b = b from if_neg u3, show loP c d = d from if_neg v3] at k4
  clear nf s1 s2 f1 f2 hl h k2 uN vN
  omega
theorem bytes_ext (X Y : ByteArray) (h : X.toList = Y.toList) : X = Y := by
  rw [toList_data, toList_data] at h
  cases X; cases Y
  congr 1
  exact Array.toList_inj.1 h
theorem fnDecDifferent_walk (a b c d : Int) (w : World) (a1 : 0 ≤ a) (a2 : a ≤ 18446744073709551615) (b1 : 0 ≤ b) (b2 : b ≤ 18446744073709551615) (c1 : 0 ≤ c) (c2 : c ≤ 18446744073709551615) (d1 : 0 ≤ d) (d2 : d ≤ 18446744073709551615) (htab : Lib.TabIs Tryd.prog w "internal/strconv.uint64pow10" .u64 Lib.pow10Tab) :
    Calls Tryd.prog 4 #[.int .u64 a, .int .u64 b, .int .u64 c, .int .u64 d] w fun e w' => e = .returned (.bool true) ∧ Below w.heap.size w w' := by
  have HF1 := Lib.hid (fun wx => decFits_any a b wx a1 a2 b1 b2)
  have HF2 := Lib.hid (fun wx => decFits_any c d wx c1 c2 d1 d2)
  have HX := Lib.hid (fun wx t => decText a b a1 a2 b1 b2 wx t)
  have HY := Lib.hid (fun wx t => decText c d c1 c2 d1 d2 wx t)
  have HI := Lib.hid (fun f1 f2 h => decT_inj a b c d a1 a2 b1 b2 c1 c2 d1 d2 f1 f2 h)
  obtain ⟨X, hX⟩ : ∃ X, X = decT a b := ⟨_, rfl⟩
  obtain ⟨Y, hY⟩ : ∃ X, X = decT c d := ⟨_, rfl⟩
  have hcong : a = c → b = d → X = Y := fun e1 e2 => by rw [hX, hY, e1, e2]
  have HC := Lib.hid hcong
  rw [← hX] at HX HI
  rw [← hY] at HY HI
  have HT := Lib.hid htab
  clear a1 a2 b1 b2 c1 c2 d1 d2 htab hX hY hcong
  go_enter Tryd.func4, Tryd.ntmps4
  go_wp2_with fail
  refine (HF1.out _).mono ?_
  rintro e w1 ⟨z1, rfl, g1, hb1⟩
  have HB1 := Lib.hid hb1
  have HG1 := Lib.hid g1
  clear hb1 g1
  cases z1
  · go_wp2_with fail
    go_ret
    exact ⟨rfl, HB1.out⟩
  go_wp2_with fail
  refine (HF2.out _).mono ?_
  rintro e w2 ⟨z2, rfl, g2, hb2⟩
  have HB2 := Lib.hid (bstep HB1.out HB1.out.size hb2)
  have HG2 := Lib.hid g2
  clear hb2 g2
  cases z2
  · go_wp2_with fail
    go_ret
    exact ⟨rfl, HB2.out⟩
  go_wp2_with fail
  refine (HX.out _ (tab_keep HT.out HB2.out)).mono ?_
  rintro e w3 ⟨rfl, hb3⟩
  have HB3 := Lib.hid (bstep HB2.out HB2.out.size hb3)
  clear hb3
  go_wp2_with fail
  refine (HY.out _ (tab_keep HT.out HB3.out)).mono ?_
  rintro e w4 ⟨rfl, hb4⟩
  have HB4 := Lib.hid (bstep HB3.out HB3.out.size hb4)
  clear hb4
  by_cases e1 : a = c
  · by_cases e2 : b = d
    · have e3 := HC.out e1 e2
      subst e1 e2 e3
      go_wp2_with fail
      go_ret
      exact ⟨by first | rfl | simp, HB4.out⟩
    · have e3 : X ≠ Y := fun h => e2 (HI.out (HG1.out rfl) (HG2.out rfl) h).2
      have f1 : (a == c) = true := by simpa using e1
      have f2 : (b == d) = false := by rw [beq_eq_false_iff_ne]; exact e2
      have f3 : ¬ X.toList = Y.toList := fun h => e3 (bytes_ext X Y h)
      clear e1 e2
      go_wp2_with fail
      go_ret
      exact ⟨by first | rfl | simp [f1, f2, f3] | simp [f3], HB4.out⟩
  · have e3 : X ≠ Y := fun h => e1 (HI.out (HG1.out rfl) (HG2.out rfl) h).1
    have f1 : (a == c) = false := by rw [beq_eq_false_iff_ne]; exact e1
    have f3 : ¬ X.toList = Y.toList := fun h => e3 (bytes_ext X Y h)
    clear e1
    go_wp2_with fail
    go_ret
    exact ⟨by first | rfl | simp [f1, f3] | simp [f3], HB4.out⟩
end Go.Proofs.YtjjfdamlicoeeaaDoor.X
