/- Contract of decFits. -/
import Derived.Test.YtjjfdamlicoeeaaDoorDfb
set_option linter.unusedVariables false
set_option linter.unusedSimpArgs false
set_option maxRecDepth 100000
namespace Go.Proofs.YtjjfdamlicoeeaaDoor.X
open Go.RowKit
theorem ub_dig (N : Nat) : 48 ≤ ((ub (48 + ((N % 10 : Nat) : Int))).toNat : Int) ∧ ((ub (48 + ((N % 10 : Nat) : Int))).toNat : Int) ≤ 57 := by rw [ub_toNat]; omega
theorem decl_dig (N : Nat) : ∀ b ∈ decl N, 48 ≤ (b.toNat : Int) ∧ (b.toNat : Int) ≤ 57 := by
  induction N using Nat.strongRecOn with
  | _ N ih =>
    intro b hb
    by_cases h : N = 0
    · subst h; rw [decl_zero] at hb; simp at hb
    · rw [decl_step N h, List.mem_append, List.mem_singleton] at hb
      rcases hb with hb | rfl
      · exact ih (N / 10) (by omega) b hb
      · exact ub_dig N
theorem decl_le : ∀ (k N : Nat), N < 10 ^ k → (decl N).length ≤ k
  | 0, N, h => by
    obtain rfl : N = 0 := by simpa using h
    rw [decl_zero]; simp
  | k + 1, N, h => by
    by_cases h0 : N = 0
    · subst h0; rw [decl_zero]; simp
    · rw [decl_step N h0, List.length_append]
      have := decl_le k (N / 10) (by rw [Nat.pow_succ] at h; omega)
      simp; omega
theorem decl_lt : ∀ (k N : Nat), (decl N).length ≤ k → N < 10 ^ k
  | 0, N, h => by
    by_cases h0 : N = 0
    · subst h0; simp
    · rw [decl_step N h0, List.length_append] at h; simp at h
  | k + 1, N, h => by
    by_cases h0 : N = 0
    · subst h0; exact Nat.pos_of_ne_zero (by simp)
    · rw [decl_step N h0, List.length_append] at h
      have := decl_lt k (N / 10) (by simp at h; omega)
      rw [Nat.pow_succ]; omega
theorem digs_dig (N : Nat) : AllDig ⟨(digs N).toArray⟩ := fun j h => by
  have hj : j < (digs N).length := by simpa [ByteArray.size] using h
  show 48 ≤ (((digs N)[j]).toNat : Int) ∧ (((digs N)[j]).toNat : Int) ≤ 57
  have hm := List.getElem_mem hj
  unfold digs at hm ⊢
  by_cases h0 : N = 0
  · subst h0
    have : j = 0 := by simp [digs] at hj; omega
    subst this
    simp
  · simp only [if_neg h0] at hm ⊢
    exact decl_dig N _ hm
theorem digs_size (N : Nat) (h : N < 340282366920938463463374607431768211456) : 1 ≤ (⟨(digs N).toArray⟩ : ByteArray).size ∧ (⟨(digs N).toArray⟩ : ByteArray).size ≤ 50 := by
  have e : (⟨(digs N).toArray⟩ : ByteArray).size = (digs N).length := by simp [ByteArray.size]
  rw [e]
  unfold digs
  by_cases h0 : N = 0
  · simp [h0]
  · rw [if_neg h0]
    refine ⟨by rw [decl_step N h0]; simp, decl_le 50 N (Nat.lt_of_lt_of_le h (by decide))⟩
theorem digs_34 (N : Nat) (h : (⟨(digs N).toArray⟩ : ByteArray).size ≤ 34) : N < 10 ^ 34 := by
  have e : (⟨(digs N).toArray⟩ : ByteArray).size = (digs N).length := by simp [ByteArray.size]
  rw [e] at h
  unfold digs at h
  by_cases h0 : N = 0
  · subst h0; decide
  · rw [if_neg h0] at h
    exact decl_lt 34 N h
/-- The coefficient. -/
def coP (h l : Int) : Nat := (hiP h * 18446744073709551616 + loP h l).toNat
/-- What bits that fit are. -/
structure Fits (h l : Int) : Prop where
  nan : k5P h = 31 → h = 8935141660703064064 ∧ l = 0
  inf : k5P h = 30 → h = (if (h / 9223372036854775808 == 1) = true then 17870283321406128128 else 8646911284551352320) ∧ l = 0
  fin : k5P h ≠ 30 → k5P h ≠ 31 → e3P h ≠ 3 ∧ coP h l < 10 ^ 34
def FitB (h l : Int) (z : Bool) : Prop := z = true → Fits h l
def RetF (w : World) (h l : Int) (e : Ending) (w' : World) : Prop := ∃ z, e = .returned (.bool z) ∧ FitB h l z ∧ Below w.heap.size w w'
theorem hiP_rng (h : Int) (h1 : 0 ≤ h) (h2 : h ≤ 18446744073709551615) : 0 ≤ hiP h ∧ hiP h < 562949953421312 := by
  unfold hiP
  split
  · omega
  · have e : bits .and .u64 h 562949953421311 = h % 562949953421312 := bits_mask .u64 64 (by decide) wraps_u64 49 (by decide) h h1 (by omega)
    rw [e]; omega
theorem exP_rng (h : Int) (h1 : 0 ≤ h) (h2 : h ≤ 18446744073709551615) : -6176 ≤ exP h ∧ exP h ≤ 10207 := by
  unfold exP
  split
  · have e : bits .and .u64 (h / 140737488355328) 16383 = h / 140737488355328 % 16384 := bits_mask .u64 64 (by decide) wraps_u64 14 (by decide) _ (by omega) (by omega)
    rw [e]; omega
  · have e : bits .and .u64 (h / 562949953421312) 16383 = h / 562949953421312 % 16384 := bits_mask .u64 64 (by decide) wraps_u64 14 (by decide) _ (by omega) (by omega)
    rw [e]; omega
theorem decFits_oth (k : Int) (hk : k = 1 ∨ k = 2) (h l : Int) (w : World) (hof : ∀ wx, Calls Tryd.prog 10 #[.int .u64 h, .int .u64 l] wx fun e w' => e = .returned (.agg #[.int .i64 k, .bool (h / 9223372036854775808 == 1), .string ⟨#[]⟩, .int .i64 0]) ∧ Below wx.heap.size wx w')
    (hok : h = (if k = 2 then 8935141660703064064 else if (h / 9223372036854775808 == 1) = true then 17870283321406128128 else 8646911284551352320) → l = 0 → Fits h l) :
    Calls Tryd.prog 9 #[.int .u64 h, .int .u64 l] w (RetF w h l) := by
  obtain ⟨ng, hng⟩ : ∃ ng, ng = (h / 9223372036854775808 == 1) := ⟨_, rfl⟩
  rw [← hng] at hof hok
  obtain ⟨P, hP⟩ : ∃ P, P = (if k = 2 then 8935141660703064064 else if ng = true then 17870283321406128128 else 8646911284551352320 : Int) := ⟨_, rfl⟩
  have HO := Lib.hid hof
  have HI := Lib.hid (fun wx => decIs_oth k hk ng ⟨#[]⟩ 0 wx)
  have HBt := Lib.hid (fun wx => decBits_oth k hk ng ⟨#[]⟩ 0 wx)
  rw [← hP] at HBt hok
  have HOK := Lib.hid hok
  have hk0 : (k == 0) = false := by rcases hk with rfl | rfl <;> rfl
  clear hof hok hng hP hk
  go_enter Tryd.func9, Tryd.ntmps9
  go_wp2_with fail
  refine (HO.out _).mono ?_
  rintro e w1 ⟨rfl, hb1⟩
  have HB1 := Lib.hid (balloc hb1 hb1.size (.cells #[.int .i64 k, .bool ng, .string ⟨#[]⟩, .int .i64 0] 25))
  clear hb1
  go_wp2_with fail
  refine (HI.out _).mono ?_
  rintro e w2 ⟨rfl, hb2⟩
  obtain ⟨hc2, -⟩ := bcell hb2
  have hz2 := hb2.size
  simp only [World.size_alloc] at hz2 hc2
  have v0 := hc2 w1.heap.size 0 (by omega)
  have v1 := hc2 w1.heap.size 1 (by omega)
  have v2 := hc2 w1.heap.size 2 (by omega)
  have v3 := hc2 w1.heap.size 3 (by omega)
  simp [go_sem] at v0 v1 v2 v3
  have HB2 := Lib.hid (bstep HB1.out HB1.out.size hb2)
  clear hb2 hc2
  go_wp2_with fail
  all_goals
    refine (HBt.out _).mono ?_
    rintro e w3 ⟨rfl, hb3⟩
    have HB3 := Lib.hid (bstep HB2.out HB2.out.size hb3)
    clear hb3
    by_cases e1 : P = h
    · have f1 : (P == h) = true := by simpa using e1
      by_cases e2 : l = 0
      · have f2 : (0 == l) = true := by simpa using e2.symm
        have HF := Lib.hid (HOK.out e1.symm e2)
        clear e1 e2
        go_wp2_with fail
        go_ret
        exact ⟨true, by first | rfl | simp [f2], fun _ => HF.out, HB3.out⟩
      · have f2 : (0 == l) = false := by rw [beq_eq_false_iff_ne]; exact fun h => e2 h.symm
        clear e1 e2
        go_wp2_with fail
        go_ret
        exact ⟨false, by first | rfl | simp [f2], (fun h => nomatch h), HB3.out⟩
    · have f1 : (P == h) = false := by rw [beq_eq_false_iff_ne]; exact e1
      clear e1
      go_wp2_with fail
      go_ret
      exact ⟨false, rfl, (fun h => nomatch h), HB3.out⟩
theorem decFits_fin (h l : Int) (w : World) (h1 : 0 ≤ h) (h2 : h ≤ 18446744073709551615) (h3 : 0 ≤ l) (h4 : l ≤ 18446744073709551615) (n30 : k5P h ≠ 30) (n31 : k5P h ≠ 31) :
    Calls Tryd.prog 9 #[.int .u64 h, .int .u64 l] w (RetF w h l) := by
  obtain ⟨ng, hng⟩ : ∃ ng, ng = (h / 9223372036854775808 == 1) := ⟨_, rfl⟩
  have hof := fun wx => decOf_any h l wx h1 h2 h3 h4
  have hr := hiP_rng h h1 h2
  have hx := exP_rng h h1 h2
  have hlo : 0 ≤ loP h l ∧ loP h l ≤ 18446744073709551615 := by unfold loP; split <;> omega
  have hN : coP h l < 340282366920938463463374607431768211456 := by unfold coP; omega
  simp only [if_neg n30, if_neg n31] at hof
  rw [← hng, show (hiP h * 18446744073709551616 + loP h l).toNat = coP h l from rfl] at hof
  have hds := digs_dig (coP h l)
  have hsz := digs_size (coP h l) hN
  have hok : e3P h ≠ 3 → (⟨(digs (coP h l)).toArray⟩ : ByteArray).size ≤ 34 → Fits h l := fun a b => ⟨fun h => absurd h n31, fun h => absurd h n30, fun _ _ => ⟨a, digs_34 _ b⟩⟩
  obtain ⟨s, hs⟩ : ∃ s, s = (⟨(digs (coP h l)).toArray⟩ : ByteArray) := ⟨_, rfl⟩
  obtain ⟨x, hxx⟩ : ∃ x, x = exP h := ⟨_, rfl⟩
  rw [← hs, ← hxx] at hof
  rw [← hs] at hds hsz hok
  rw [← hxx] at hx
  obtain ⟨e3, he3⟩ : ∃ e3, bits .and .u64 (h / 2305843009213693952) 3 = e3 := ⟨_, rfl⟩
  rw [show e3P h = e3 from he3] at hok
  have HO := Lib.hid hof
  have HI := Lib.hid (fun wx => decIs_fin ng s x wx hsz.1 hsz.2 (by omega) (by omega) hds)
  have HBt := Lib.hid (fun wx => decBits_fin ng s x wx hsz.2 (by omega) (by omega) hds)
  have HOK := Lib.hid hok
  clear hof hok hng hr hx hlo hN hds hsz hs hxx n30 n31
  go_enter Tryd.func9, Tryd.ntmps9
  go_wp2_with fail
  refine (HO.out _).mono ?_
  rintro e w1 ⟨rfl, hb1⟩
  have HB1 := Lib.hid (balloc hb1 hb1.size (.cells #[.int .i64 0, .bool ng, .string s, .int .i64 x] 25))
  clear hb1
  go_wp2_with fail
  refine (HI.out _).mono ?_
  rintro e w2 ⟨z, rfl, hz, hb2⟩
  obtain ⟨hc2, -⟩ := bcell hb2
  have hz2 := hb2.size
  simp only [World.size_alloc] at hz2 hc2
  have v0 := hc2 w1.heap.size 0 (by omega)
  have v1 := hc2 w1.heap.size 1 (by omega)
  have v2 := hc2 w1.heap.size 2 (by omega)
  have v3 := hc2 w1.heap.size 3 (by omega)
  simp [go_sem] at v0 v1 v2 v3
  have HB2 := Lib.hid (bstep HB1.out HB1.out.size hb2)
  have HZ := Lib.hid hz
  clear hb2 hc2 hz
  cases z
  · go_wp2_with fail
    go_ret
    exact ⟨false, rfl, (fun h => nomatch h), HB2.out⟩
  by_cases c3 : e3 = 3
  · subst c3
    go_wp2_with fail
    go_ret
    exact ⟨false, rfl, (fun h => nomatch h), HB2.out⟩
  have b3 : (e3 == 3) = false := by simpa using c3
  have HF : Hid (Fits h l) := Lib.hid (HOK.out c3 (HZ.out rfl))
  clear c3
  go_wp2_with fail
  refine (HBt.out _).mono ?_
  rintro e w3 ⟨p, q, rfl, hb3⟩
  have HB3 := Lib.hid (bstep HB2.out HB2.out.size hb3)
  clear hb3
  obtain ⟨z1, hz1⟩ : ∃ z1, (p == h) = z1 := ⟨_, rfl⟩
  obtain ⟨z2, hz2⟩ : ∃ z2, (q == l) = z2 := ⟨_, rfl⟩
  cases z1
  · go_wp2_with fail
    go_ret
    exact ⟨false, rfl, (fun h => nomatch h), HB3.out⟩
  · go_wp2_with fail
    go_ret
    exact ⟨z2, rfl, fun _ => HF.out, HB3.out⟩
theorem decFits_any (h l : Int) (w : World) (h1 : 0 ≤ h) (h2 : h ≤ 18446744073709551615) (h3 : 0 ≤ l) (h4 : l ≤ 18446744073709551615) :
    Calls Tryd.prog 9 #[.int .u64 h, .int .u64 l] w (RetF w h l) := by
  by_cases n30 : k5P h = 30
  · refine decFits_oth 1 (.inl rfl) h l w (fun wx => ?_) (fun e1 e2 => ⟨fun h => (by rw [n30] at h; omega), fun _ => ⟨by simpa using e1, e2⟩, fun a _ => absurd n30 a⟩)
    have h := decOf_any h l wx h1 h2 h3 h4
    rwa [if_pos n30] at h
  by_cases n31 : k5P h = 31
  · refine decFits_oth 2 (.inr rfl) h l w (fun wx => ?_) (fun e1 e2 => ⟨fun _ => ⟨by simpa using e1, e2⟩, fun h => absurd h n30, fun _ b => absurd n31 b⟩)
    have h := decOf_any h l wx h1 h2 h3 h4
    rwa [if_neg n30, if_pos n31] at h
  exact decFits_fin h l w h1 h2 h3 h4 n30 n31
end Go.Proofs.YtjjfdamlicoeeaaDoor.X
