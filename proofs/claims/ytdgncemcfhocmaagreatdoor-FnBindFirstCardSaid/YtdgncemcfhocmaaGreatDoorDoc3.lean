/- Contract of the function that takes a value's own fields away. -/
import Derived.Test.YtdgncemcfhocmaaGreatDoorWords
set_option linter.unusedVariables false
set_option linter.unusedSimpArgs false
set_option maxRecDepth 100000
namespace Go.Proofs.YtdgncemcfhocmaaGreatDoor.X
open Go.RowKit

/-- A value without the fields that its kind names. -/
def bare : Val → Val
  | .mk k t m n bi hi b ks =>
    if k = 1 ∨ k = 17 then .mk k t m n 0 hi b ks
    else if k = 2 ∨ k = 13 ∨ k = 14 then .mk k ⟨#[]⟩ m n bi hi b ks
    else if k = 3 ∨ k = 4 then .mk k t m n bi hi b []
    else if k = 5 then .mk k t m 0 bi hi [] ks
    else if k = 7 then .mk k t m n bi hi [] ks
    else if k = 8 ∨ k = 9 ∨ k = 16 ∨ k = 18 then .mk k t m 0 bi hi b ks
    else if k = 11 then .mk k ⟨#[]⟩ ⟨#[]⟩ n bi hi b ks
    else if k = 12 then .mk k ⟨#[]⟩ m n bi hi [] ks
    else if k = 15 then .mk k ⟨#[]⟩ m n bi hi b []
    else if k = 19 then .mk k t m n 0 0 b ks
    else .mk k t m n bi hi b ks

/-- What docBare gives back: the value without those fields. -/
def BareIs (v : Val) (x : Value) (w : World) : Prop := ∃ cs, x = .agg cs.toArray ∧ RV w (bare v) cs
set_option maxHeartbeats 1600000 in
theorem docBare (v : Val) (cs : List Value) (w : World) (hv : RV w v cs) : Calls Tryz.prog 71 #[.agg cs.toArray] w (Got w (BareIs v)) := by
  have hv0 := Lib.hid hv
  obtain ⟨k, text, more, n, bits, high, b, kids⟩ := v
  simp only [RV] at hv
  obtain ⟨A, c, K, d, rfl, hs, hd, hd2, hk⟩ := hv
  have hkeep : ∀ w1 : World, Below w.heap.size w w1 → (kids = [] ∨ ∃ blk off, K = some ⟨blk, off, none⟩ ∧ RKs w1 blk off kids) := fun w1 hb => by
    rcases hk with hk | ⟨blk, off, e, hk⟩
    · exact .inl hk
    · exact .inr ⟨blk, off, e, hk.keep hb⟩
  have HK : Hid (∀ w1 : World, Below w.heap.size w w1 → (kids = [] ∨ ∃ blk off, K = some ⟨blk, off, none⟩ ∧ RKs w1 blk off kids)) := Lib.hid hkeep
  clear hkeep hk
  by_cases h1 : k = 1
  · subst h1
    have HF : Hid (∀ w1 : World, Below w.heap.size w w1 → Got w (BareIs (.mk 1 text more n bits high b kids)) (.returned (.agg #[.int .i64 1, .string text, .string more, .int .i64 n, .int .u64 0, .int .u64 high, .slice A b.length c, .slice K kids.length d])) w1) := Lib.hid fun w1 hb => ⟨_, rfl, ⟨_, rfl, by change RV w1 (.mk 1 text more n 0 high b kids) _; simp only [RV]; exact ⟨A, c, K, d, rfl, hs.keep hb, hd, hd2, HK.out _ hb⟩⟩, hb⟩
    go_enter Tryz.func71, Tryz.ntmps71
    go_wp2
    refine bodyPost_ret (v := .agg #[.int .i64 1, .string text, .string more, .int .i64 n, .int .u64 0, .int .u64 high, .slice A b.length c, .slice K kids.length d]) (by simp [results, Tryz.results71, go_sem]) rfl (HF.out _ ?_)
    exact balloc (balloc (Below.refl _ _) (Nat.le_refl _) _) (by simp) _
  by_cases h17 : k = 17
  · subst h17
    clear h1
    have HF : Hid (∀ w1 : World, Below w.heap.size w w1 → Got w (BareIs (.mk 17 text more n bits high b kids)) (.returned (.agg #[.int .i64 17, .string text, .string more, .int .i64 n, .int .u64 0, .int .u64 high, .slice A b.length c, .slice K kids.length d])) w1) := Lib.hid fun w1 hb => ⟨_, rfl, ⟨_, rfl, by change RV w1 (.mk 17 text more n 0 high b kids) _; simp only [RV]; exact ⟨A, c, K, d, rfl, hs.keep hb, hd, hd2, HK.out _ hb⟩⟩, hb⟩
    go_enter Tryz.func71, Tryz.ntmps71
    go_wp2
    refine bodyPost_ret (v := .agg #[.int .i64 17, .string text, .string more, .int .i64 n, .int .u64 0, .int .u64 high, .slice A b.length c, .slice K kids.length d]) (by simp [results, Tryz.results71, go_sem]) rfl (HF.out _ ?_)
    exact balloc (balloc (Below.refl _ _) (Nat.le_refl _) _) (by simp) _
  by_cases h2 : k = 2
  · subst h2
    clear h1 h17
    have HF : Hid (∀ w1 : World, Below w.heap.size w w1 → Got w (BareIs (.mk 2 text more n bits high b kids)) (.returned (.agg #[.int .i64 2, .string ⟨#[]⟩, .string more, .int .i64 n, .int .u64 bits, .int .u64 high, .slice A b.length c, .slice K kids.length d])) w1) := Lib.hid fun w1 hb => ⟨_, rfl, ⟨_, rfl, by change RV w1 (.mk 2 ⟨#[]⟩ more n bits high b kids) _; simp only [RV]; exact ⟨A, c, K, d, rfl, hs.keep hb, hd, hd2, HK.out _ hb⟩⟩, hb⟩
    go_enter Tryz.func71, Tryz.ntmps71
    go_wp2
    refine bodyPost_ret (v := .agg #[.int .i64 2, .string ⟨#[]⟩, .string more, .int .i64 n, .int .u64 bits, .int .u64 high, .slice A b.length c, .slice K kids.length d]) (by simp [results, Tryz.results71, go_sem]) rfl (HF.out _ ?_)
    exact balloc (balloc (Below.refl _ _) (Nat.le_refl _) _) (by simp) _
  by_cases h13 : k = 13
  · subst h13
    clear h1 h17 h2
    have HF : Hid (∀ w1 : World, Below w.heap.size w w1 → Got w (BareIs (.mk 13 text more n bits high b kids)) (.returned (.agg #[.int .i64 13, .string ⟨#[]⟩, .string more, .int .i64 n, .int .u64 bits, .int .u64 high, .slice A b.length c, .slice K kids.length d])) w1) := Lib.hid fun w1 hb => ⟨_, rfl, ⟨_, rfl, by change RV w1 (.mk 13 ⟨#[]⟩ more n bits high b kids) _; simp only [RV]; exact ⟨A, c, K, d, rfl, hs.keep hb, hd, hd2, HK.out _ hb⟩⟩, hb⟩
    go_enter Tryz.func71, Tryz.ntmps71
    go_wp2
    refine bodyPost_ret (v := .agg #[.int .i64 13, .string ⟨#[]⟩, .string more, .int .i64 n, .int .u64 bits, .int .u64 high, .slice A b.length c, .slice K kids.length d]) (by simp [results, Tryz.results71, go_sem]) rfl (HF.out _ ?_)
    exact balloc (balloc (Below.refl _ _) (Nat.le_refl _) _) (by simp) _
  by_cases h14 : k = 14
  · subst h14
    clear h1 h17 h2 h13
    have HF : Hid (∀ w1 : World, Below w.heap.size w w1 → Got w (BareIs (.mk 14 text more n bits high b kids)) (.returned (.agg #[.int .i64 14, .string ⟨#[]⟩, .string more, .int .i64 n, .int .u64 bits, .int .u64 high, .slice A b.length c, .slice K kids.length d])) w1) := Lib.hid fun w1 hb => ⟨_, rfl, ⟨_, rfl, by change RV w1 (.mk 14 ⟨#[]⟩ more n bits high b kids) _; simp only [RV]; exact ⟨A, c, K, d, rfl, hs.keep hb, hd, hd2, HK.out _ hb⟩⟩, hb⟩
    go_enter Tryz.func71, Tryz.ntmps71
    go_wp2
    refine bodyPost_ret (v := .agg #[.int .i64 14, .string ⟨#[]⟩, .string more, .int .i64 n, .int .u64 bits, .int .u64 high, .slice A b.length c, .slice K kids.length d]) (by simp [results, Tryz.results71, go_sem]) rfl (HF.out _ ?_)
    exact balloc (balloc (Below.refl _ _) (Nat.le_refl _) _) (by simp) _
  by_cases h3 : k = 3
  · subst h3
    clear h1 h17 h2 h13 h14
    have HF : Hid (∀ w1 : World, Below w.heap.size w w1 → Got w (BareIs (.mk 3 text more n bits high b kids)) (.returned (.agg #[.int .i64 3, .string text, .string more, .int .i64 n, .int .u64 bits, .int .u64 high, .slice A b.length c, .slice none 0 0])) w1) := Lib.hid fun w1 hb => ⟨_, rfl, ⟨_, rfl, by change RV w1 (.mk 3 text more n bits high b []) _; simp only [RV]; exact ⟨A, c, none, 0, rfl, hs.keep hb, Nat.le_refl _, by omega, by simp⟩⟩, hb⟩
    go_enter Tryz.func71, Tryz.ntmps71
    go_wp2
    refine bodyPost_ret (v := .agg #[.int .i64 3, .string text, .string more, .int .i64 n, .int .u64 bits, .int .u64 high, .slice A b.length c, .slice none 0 0]) (by simp [results, Tryz.results71, go_sem]) rfl (HF.out _ ?_)
    exact balloc (balloc (Below.refl _ _) (Nat.le_refl _) _) (by simp) _
  by_cases h4 : k = 4
  · subst h4
    clear h1 h17 h2 h13 h14 h3
    have HF : Hid (∀ w1 : World, Below w.heap.size w w1 → Got w (BareIs (.mk 4 text more n bits high b kids)) (.returned (.agg #[.int .i64 4, .string text, .string more, .int .i64 n, .int .u64 bits, .int .u64 high, .slice A b.length c, .slice none 0 0])) w1) := Lib.hid fun w1 hb => ⟨_, rfl, ⟨_, rfl, by change RV w1 (.mk 4 text more n bits high b []) _; simp only [RV]; exact ⟨A, c, none, 0, rfl, hs.keep hb, Nat.le_refl _, by omega, by simp⟩⟩, hb⟩
    go_enter Tryz.func71, Tryz.ntmps71
    go_wp2
    refine bodyPost_ret (v := .agg #[.int .i64 4, .string text, .string more, .int .i64 n, .int .u64 bits, .int .u64 high, .slice A b.length c, .slice none 0 0]) (by simp [results, Tryz.results71, go_sem]) rfl (HF.out _ ?_)
    exact balloc (balloc (Below.refl _ _) (Nat.le_refl _) _) (by simp) _
  by_cases h5 : k = 5
  · subst h5
    clear h1 h17 h2 h13 h14 h3 h4
    have HF : Hid (∀ w1 : World, Below w.heap.size w w1 → Got w (BareIs (.mk 5 text more n bits high b kids)) (.returned (.agg #[.int .i64 5, .string text, .string more, .int .i64 0, .int .u64 bits, .int .u64 high, .slice none 0 0, .slice K kids.length d])) w1) := Lib.hid fun w1 hb => ⟨_, rfl, ⟨_, rfl, by change RV w1 (.mk 5 text more 0 bits high [] kids) _; simp only [RV]; exact ⟨none, 0, K, d, rfl, SB.nil _, hd, hd2, HK.out _ hb⟩⟩, hb⟩
    go_enter Tryz.func71, Tryz.ntmps71
    go_wp2
    refine bodyPost_ret (v := .agg #[.int .i64 5, .string text, .string more, .int .i64 0, .int .u64 bits, .int .u64 high, .slice none 0 0, .slice K kids.length d]) (by simp [results, Tryz.results71, go_sem]) rfl (HF.out _ ?_)
    exact balloc (balloc (Below.refl _ _) (Nat.le_refl _) _) (by simp) _
  by_cases h7 : k = 7
  · subst h7
    clear h1 h17 h2 h13 h14 h3 h4 h5
    have HF : Hid (∀ w1 : World, Below w.heap.size w w1 → Got w (BareIs (.mk 7 text more n bits high b kids)) (.returned (.agg #[.int .i64 7, .string text, .string more, .int .i64 n, .int .u64 bits, .int .u64 high, .slice none 0 0, .slice K kids.length d])) w1) := Lib.hid fun w1 hb => ⟨_, rfl, ⟨_, rfl, by change RV w1 (.mk 7 text more n bits high [] kids) _; simp only [RV]; exact ⟨none, 0, K, d, rfl, SB.nil _, hd, hd2, HK.out _ hb⟩⟩, hb⟩
    go_enter Tryz.func71, Tryz.ntmps71
    go_wp2
    refine bodyPost_ret (v := .agg #[.int .i64 7, .string text, .string more, .int .i64 n, .int .u64 bits, .int .u64 high, .slice none 0 0, .slice K kids.length d]) (by simp [results, Tryz.results71, go_sem]) rfl (HF.out _ ?_)
    exact balloc (balloc (Below.refl _ _) (Nat.le_refl _) _) (by simp) _
  by_cases h8 : k = 8
  · subst h8
    clear h1 h17 h2 h13 h14 h3 h4 h5 h7
    have HF : Hid (∀ w1 : World, Below w.heap.size w w1 → Got w (BareIs (.mk 8 text more n bits high b kids)) (.returned (.agg #[.int .i64 8, .string text, .string more, .int .i64 0, .int .u64 bits, .int .u64 high, .slice A b.length c, .slice K kids.length d])) w1) := Lib.hid fun w1 hb => ⟨_, rfl, ⟨_, rfl, by change RV w1 (.mk 8 text more 0 bits high b kids) _; simp only [RV]; exact ⟨A, c, K, d, rfl, hs.keep hb, hd, hd2, HK.out _ hb⟩⟩, hb⟩
    go_enter Tryz.func71, Tryz.ntmps71
    go_wp2
    refine bodyPost_ret (v := .agg #[.int .i64 8, .string text, .string more, .int .i64 0, .int .u64 bits, .int .u64 high, .slice A b.length c, .slice K kids.length d]) (by simp [results, Tryz.results71, go_sem]) rfl (HF.out _ ?_)
    exact balloc (balloc (Below.refl _ _) (Nat.le_refl _) _) (by simp) _
  by_cases h9 : k = 9
  · subst h9
    clear h1 h17 h2 h13 h14 h3 h4 h5 h7 h8
    have HF : Hid (∀ w1 : World, Below w.heap.size w w1 → Got w (BareIs (.mk 9 text more n bits high b kids)) (.returned (.agg #[.int .i64 9, .string text, .string more, .int .i64 0, .int .u64 bits, .int .u64 high, .slice A b.length c, .slice K kids.length d])) w1) := Lib.hid fun w1 hb => ⟨_, rfl, ⟨_, rfl, by change RV w1 (.mk 9 text more 0 bits high b kids) _; simp only [RV]; exact ⟨A, c, K, d, rfl, hs.keep hb, hd, hd2, HK.out _ hb⟩⟩, hb⟩
    go_enter Tryz.func71, Tryz.ntmps71
    go_wp2
    refine bodyPost_ret (v := .agg #[.int .i64 9, .string text, .string more, .int .i64 0, .int .u64 bits, .int .u64 high, .slice A b.length c, .slice K kids.length d]) (by simp [results, Tryz.results71, go_sem]) rfl (HF.out _ ?_)
    exact balloc (balloc (Below.refl _ _) (Nat.le_refl _) _) (by simp) _
  by_cases h16 : k = 16
  · subst h16
    clear h1 h17 h2 h13 h14 h3 h4 h5 h7 h8 h9
    have HF : Hid (∀ w1 : World, Below w.heap.size w w1 → Got w (BareIs (.mk 16 text more n bits high b kids)) (.returned (.agg #[.int .i64 16, .string text, .string more, .int .i64 0, .int .u64 bits, .int .u64 high, .slice A b.length c, .slice K kids.length d])) w1) := Lib.hid fun w1 hb => ⟨_, rfl, ⟨_, rfl, by change RV w1 (.mk 16 text more 0 bits high b kids) _; simp only [RV]; exact ⟨A, c, K, d, rfl, hs.keep hb, hd, hd2, HK.out _ hb⟩⟩, hb⟩
    go_enter Tryz.func71, Tryz.ntmps71
    go_wp2
    refine bodyPost_ret (v := .agg #[.int .i64 16, .string text, .string more, .int .i64 0, .int .u64 bits, .int .u64 high, .slice A b.length c, .slice K kids.length d]) (by simp [results, Tryz.results71, go_sem]) rfl (HF.out _ ?_)
    exact balloc (balloc (Below.refl _ _) (Nat.le_refl _) _) (by simp) _
  by_cases h18 : k = 18
  · subst h18
    clear h1 h17 h2 h13 h14 h3 h4 h5 h7 h8 h9 h16
    have HF : Hid (∀ w1 : World, Below w.heap.size w w1 → Got w (BareIs (.mk 18 text more n bits high b kids)) (.returned (.agg #[.int .i64 18, .string text, .string more, .int .i64 0, .int .u64 bits, .int .u64 high, .slice A b.length c, .slice K kids.length d])) w1) := Lib.hid fun w1 hb => ⟨_, rfl, ⟨_, rfl, by change RV w1 (.mk 18 text more 0 bits high b kids) _; simp only [RV]; exact ⟨A, c, K, d, rfl, hs.keep hb, hd, hd2, HK.out _ hb⟩⟩, hb⟩
    go_enter Tryz.func71, Tryz.ntmps71
    go_wp2
    refine bodyPost_ret (v := .agg #[.int .i64 18, .string text, .string more, .int .i64 0, .int .u64 bits, .int .u64 high, .slice A b.length c, .slice K kids.length d]) (by simp [results, Tryz.results71, go_sem]) rfl (HF.out _ ?_)
    exact balloc (balloc (Below.refl _ _) (Nat.le_refl _) _) (by simp) _
  by_cases h11 : k = 11
  · subst h11
    clear h1 h17 h2 h13 h14 h3 h4 h5 h7 h8 h9 h16 h18
    have HF : Hid (∀ w1 : World, Below w.heap.size w w1 → Got w (BareIs (.mk 11 text more n bits high b kids)) (.returned (.agg #[.int .i64 11, .string ⟨#[]⟩, .string ⟨#[]⟩, .int .i64 n, .int .u64 bits, .int .u64 high, .slice A b.length c, .slice K kids.length d])) w1) := Lib.hid fun w1 hb => ⟨_, rfl, ⟨_, rfl, by change RV w1 (.mk 11 ⟨#[]⟩ ⟨#[]⟩ n bits high b kids) _; simp only [RV]; exact ⟨A, c, K, d, rfl, hs.keep hb, hd, hd2, HK.out _ hb⟩⟩, hb⟩
    go_enter Tryz.func71, Tryz.ntmps71
    go_wp2
    refine bodyPost_ret (v := .agg #[.int .i64 11, .string ⟨#[]⟩, .string ⟨#[]⟩, .int .i64 n, .int .u64 bits, .int .u64 high, .slice A b.length c, .slice K kids.length d]) (by simp [results, Tryz.results71, go_sem]) rfl (HF.out _ ?_)
    exact balloc (balloc (Below.refl _ _) (Nat.le_refl _) _) (by simp) _
  by_cases h12 : k = 12
  · subst h12
    clear h1 h17 h2 h13 h14 h3 h4 h5 h7 h8 h9 h16 h18 h11
    have HF : Hid (∀ w1 : World, Below w.heap.size w w1 → Got w (BareIs (.mk 12 text more n bits high b kids)) (.returned (.agg #[.int .i64 12, .string ⟨#[]⟩, .string more, .int .i64 n, .int .u64 bits, .int .u64 high, .slice none 0 0, .slice K kids.length d])) w1) := Lib.hid fun w1 hb => ⟨_, rfl, ⟨_, rfl, by change RV w1 (.mk 12 ⟨#[]⟩ more n bits high [] kids) _; simp only [RV]; exact ⟨none, 0, K, d, rfl, SB.nil _, hd, hd2, HK.out _ hb⟩⟩, hb⟩
    go_enter Tryz.func71, Tryz.ntmps71
    go_wp2
    refine bodyPost_ret (v := .agg #[.int .i64 12, .string ⟨#[]⟩, .string more, .int .i64 n, .int .u64 bits, .int .u64 high, .slice none 0 0, .slice K kids.length d]) (by simp [results, Tryz.results71, go_sem]) rfl (HF.out _ ?_)
    exact balloc (balloc (Below.refl _ _) (Nat.le_refl _) _) (by simp) _
  by_cases h15 : k = 15
  · subst h15
    clear h1 h17 h2 h13 h14 h3 h4 h5 h7 h8 h9 h16 h18 h11 h12
    have HF : Hid (∀ w1 : World, Below w.heap.size w w1 → Got w (BareIs (.mk 15 text more n bits high b kids)) (.returned (.agg #[.int .i64 15, .string ⟨#[]⟩, .string more, .int .i64 n, .int .u64 bits, .int .u64 high, .slice A b.length c, .slice none 0 0])) w1) := Lib.hid fun w1 hb => ⟨_, rfl, ⟨_, rfl, by change RV w1 (.mk 15 ⟨#[]⟩ more n bits high b []) _; simp only [RV]; exact ⟨A, c, none, 0, rfl, hs.keep hb, Nat.le_refl _, by omega, by simp⟩⟩, hb⟩
    go_enter Tryz.func71, Tryz.ntmps71
    go_wp2
    refine bodyPost_ret (v := .agg #[.int .i64 15, .string ⟨#[]⟩, .string more, .int .i64 n, .int .u64 bits, .int .u64 high, .slice A b.length c, .slice none 0 0]) (by simp [results, Tryz.results71, go_sem]) rfl (HF.out _ ?_)
    exact balloc (balloc (Below.refl _ _) (Nat.le_refl _) _) (by simp) _
  by_cases h19 : k = 19
  · subst h19
    clear h1 h17 h2 h13 h14 h3 h4 h5 h7 h8 h9 h16 h18 h11 h12 h15
    have HF : Hid (∀ w1 : World, Below w.heap.size w w1 → Got w (BareIs (.mk 19 text more n bits high b kids)) (.returned (.agg #[.int .i64 19, .string text, .string more, .int .i64 n, .int .u64 0, .int .u64 0, .slice A b.length c, .slice K kids.length d])) w1) := Lib.hid fun w1 hb => ⟨_, rfl, ⟨_, rfl, by change RV w1 (.mk 19 text more n 0 0 b kids) _; simp only [RV]; exact ⟨A, c, K, d, rfl, hs.keep hb, hd, hd2, HK.out _ hb⟩⟩, hb⟩
    go_enter Tryz.func71, Tryz.ntmps71
    go_wp2
    refine bodyPost_ret (v := .agg #[.int .i64 19, .string text, .string more, .int .i64 n, .int .u64 0, .int .u64 0, .slice A b.length c, .slice K kids.length d]) (by simp [results, Tryz.results71, go_sem]) rfl (HF.out _ ?_)
    exact balloc (balloc (Below.refl _ _) (Nat.le_refl _) _) (by simp) _
  have e : (k == 1) = false ∧ (k == 17) = false ∧ (k == 2) = false ∧ (k == 13) = false ∧ (k == 14) = false ∧ (k == 3) = false ∧ (k == 4) = false ∧ (k == 5) = false ∧ (k == 7) = false ∧ (k == 8) = false ∧ (k == 9) = false ∧ (k == 16) = false ∧ (k == 18) = false ∧ (k == 11) = false ∧ (k == 12) = false ∧ (k == 15) = false ∧ (k == 19) = false := by simp only [beq_eq_false_iff_ne, ne_eq]; exact ⟨h1, h17, h2, h13, h14, h3, h4, h5, h7, h8, h9, h16, h18, h11, h12, h15, h19⟩
  obtain ⟨e1, e17, e2, e13, e14, e3, e4, e5, e7, e8, e9, e16, e18, e11, e12, e15, e19⟩ := e
  have HF : Hid (∀ w1 : World, Below w.heap.size w w1 → Got w (BareIs (.mk k text more n bits high b kids)) (.returned (.agg #[.int .i64 k, .string text, .string more, .int .i64 n, .int .u64 bits, .int .u64 high, .slice A b.length c, .slice K kids.length d])) w1) := Lib.hid fun w1 hb => ⟨_, rfl, ⟨_, rfl, by simp only [bare, h1, h17, h2, h13, h14, h3, h4, h5, h7, h8, h9, h16, h18, h11, h12, h15, h19, or_self, if_false]; simp only [RV]; exact ⟨A, c, K, d, rfl, hs.keep hb, hd, hd2, HK.out _ hb⟩⟩, hb⟩
  go_enter Tryz.func71, Tryz.ntmps71
  go_wp2
  refine bodyPost_ret (v := .agg #[.int .i64 k, .string text, .string more, .int .i64 n, .int .u64 bits, .int .u64 high, .slice A b.length c, .slice K kids.length d]) (by simp [results, Tryz.results71, go_sem]) rfl (HF.out _ ?_)
  exact balloc (balloc (Below.refl _ _) (Nat.le_refl _) _) (by simp) _
end Go.Proofs.YtdgncemcfhocmaaGreatDoor.X
