/- A text of at most 300 bytes of UTF-8, cut to n bytes, is its beginning without a part of a character, for every text and every n of 16 bits. The bound of 300 bytes is the statement's own. -/
import Derived.Test.YtfpnhlfmnoikhaaPFnTextStartx2
import Derived.OpenShut
namespace Go.Proofs.Ytfpnhlfmnoikhaa.Pure
open Go.RowKit Go.Proofs.Ytfpnhlfmnoikhaa.PFnTextStart Go.Proofs.YtfpnhlfmnoikhaaW.PrintWords Go.Proofs.YtfpnhlfmnoikhaaW.PrintLast

theorem bt_extract (s : ByteArray) (a j : Nat) (h : a + j < s.size) : bt (s.extract a s.size) j = bt s (a + j : Nat) := by
  unfold bt
  have h1 : ((j : Nat) : Int).toNat < (s.extract a s.size).size := by simp; omega
  have h2 : ((a + j : Nat) : Int).toNat < s.size := by simp; omega
  rw [dif_pos h1, dif_pos h2]
  congr 1
  simp only [Int.toNat_natCast]
  rw [ByteArray.getElem_extract]

theorem toList_mk (l : List UInt8) : (⟨l.toArray⟩ : ByteArray).toList = l := by
  simp

theorem l0_step (k : Nat) (s : ByteArray) (i : Int) : spec_ExtUTF8.l0 (k + 1) s i = if i < (s.size : Int) then (if 0 ≤ i then (if i ≤ (s.size : Int) then ((spec_extRune.f k (s.extract (i : Int).toNat s.size)).bind fun b => (if b.1 = 0 then (some false) else (spec_ExtUTF8.l0 k s (wrap64 (i + b.1))))) else (none)) else (none)) else (some true) := rfl

theorem cut_step (k : Nat) (s : ByteArray) (n i : Int) : spec_ExtCut.l0 (k + 1) s n i = if i < (s.size : Int) then (if 0 ≤ i then (if i ≤ (s.size : Int) then ((spec_extRune.f k (s.extract (i : Int).toNat s.size)).bind fun b => (if b.1 = 0 then (some (s.extract 0 (i : Int).toNat)) else (if (wrap64 (i + b.1)) > n then (some (s.extract 0 (i : Int).toNat)) else (spec_ExtCut.l0 k s n (wrap64 (i + b.1)))))) else (none)) else (none)) else (if 0 ≤ i then (if i ≤ (s.size : Int) then (some (s.extract 0 (i : Int).toNat)) else (none)) else (none)) := rfl

theorem trunc_step (k : Nat) (s : ByteArray) (x5 : Int) : bsoncoreutil_Truncate.l0 (k + 1) s x5 = if x5 > 0 then (if 0 ≤ x5 then (if x5 < (s.size : Int) then ((utf8_RuneStart.f (bt s x5)).bind fun t105 => (if t105 = true then (if x5 ≤ (s.size : Int) then (some (s.extract 0 (x5 : Int).toNat)) else (none)) else (bsoncoreutil_Truncate.l0 k s (wrap64 (x5 - 1))))) else (none)) else (none)) else (if 0 ≤ x5 then (if x5 ≤ (s.size : Int) then (some (s.extract 0 (x5 : Int).toNat)) else (none)) else (none)) := rfl

theorem w64 (x : Int) (h0 : 0 ≤ x) (h1 : x ≤ 1000000000000000) : wrap64 x = x := by unfold wrap64; omega

/-- A byte that a character begins with: by the two highest bits. -/
theorem start_bits (c : Int) (h0 : 0 ≤ c) (h1 : c ≤ 255) : (Go.bits .and .u8 c 192 != 128) = decide (c / 64 ≠ 2) := by
  obtain ⟨n, rfl⟩ := Int.eq_ofNat_of_zero_le h0
  have hn : n < 256 := by omega
  have all : ∀ m : Fin 256, (Go.bits .and .u8 ((m.val : Nat) : Int) 192 != 128) = decide (((m.val : Nat) : Int) / 64 ≠ 2) := by decide +kernel
  exact all ⟨n, hn⟩

/-- The rounds over the bytes behind the first one. -/
theorem conts (s : ByteArray) (n x6 : Int) (hn : n ≤ s.size) (hn4 : n ≤ 4) (d : Nat) : ∀ (x4 i : Int), 1 ≤ i → i ≤ n → n - i = d →
    ∃ r c, (∀ k, d < k → spec_extRune.l0 k s x4 n x6 i = some (r, c)) ∧ (r = 0 ∨ r = n ∧ ∀ j, i ≤ j → j < n → bt s j / 64 = 2) := by
  induction d with
  | zero =>
    intro x4 i h1 h2 h3
    have e : ¬ i < n := by omega
    by_cases c1 : x4 < x6
    · exact ⟨0, 0, fun k hk => by obtain ⟨k, rfl⟩ : ∃ m, k = m + 1 := ⟨k - 1, by omega⟩; simp only [spec_extRune.l0]; rw [if_neg e, if_pos c1], .inl rfl⟩
    by_cases c2 : x4 > 1114111
    · exact ⟨0, 0, fun k hk => by obtain ⟨k, rfl⟩ : ∃ m, k = m + 1 := ⟨k - 1, by omega⟩; simp only [spec_extRune.l0]; rw [if_neg e, if_neg c1, if_pos c2], .inl rfl⟩
    by_cases c3 : x4 ≥ 55296
    · by_cases c4 : x4 < 57344
      · exact ⟨0, 0, fun k hk => by obtain ⟨k, rfl⟩ : ∃ m, k = m + 1 := ⟨k - 1, by omega⟩; simp only [spec_extRune.l0]; rw [if_neg e, if_neg c1, if_neg c2, if_pos c3, if_pos c4], .inl rfl⟩
      · exact ⟨n, x4, fun k hk => by obtain ⟨k, rfl⟩ : ∃ m, k = m + 1 := ⟨k - 1, by omega⟩; simp only [spec_extRune.l0]; rw [if_neg e, if_neg c1, if_neg c2, if_pos c3, if_neg c4], .inr ⟨rfl, fun j a b => by omega⟩⟩
    · exact ⟨n, x4, fun k hk => by obtain ⟨k, rfl⟩ : ∃ m, k = m + 1 := ⟨k - 1, by omega⟩; simp only [spec_extRune.l0]; rw [if_neg e, if_neg c1, if_neg c2, if_neg c3], .inr ⟨rfl, fun j a b => by omega⟩⟩
  | succ d ih =>
    intro x4 i h1 h2 h3
    have e : i < n := by omega
    have e0 : 0 ≤ i := by omega
    have e1 : i < (s.size : Int) := by omega
    by_cases c1 : bt s i / 64 = 2
    · obtain ⟨r, c, hr, hp⟩ := ih (Go.bits .or .i64 (wrap64 (x4 * 64)) (wrap64 (Go.bits .and .u8 (bt s i) 63))) (i + 1) (by omega) (by omega) (by omega)
      refine ⟨r, c, fun k hk => ?_, ?_⟩
      · obtain ⟨k, rfl⟩ : ∃ m, k = m + 1 := ⟨k - 1, by omega⟩
        simp only [spec_extRune.l0]
        rw [if_pos e, if_pos e0, if_pos e1, if_pos c1, w64 (i + 1) (by omega) (by omega)]
        exact hr k (by omega)
      · rcases hp with hp | ⟨hp, hq⟩
        · exact .inl hp
        · refine .inr ⟨hp, fun j a b => ?_⟩
          by_cases ej : j = i
          · subst ej; exact c1
          · exact hq j (by omega) b
    · refine ⟨0, 0, fun k hk => ?_, .inl rfl⟩
      obtain ⟨k, rfl⟩ : ∃ m, k = m + 1 := ⟨k - 1, by omega⟩
      simp only [spec_extRune.l0]
      rw [if_pos e, if_pos e0, if_pos e1, if_neg c1]

/-- What is known of the character that begins at i. -/
def Rune (s : ByteArray) (i n : Int) : Prop := n = 0 ∨ 1 ≤ n ∧ n ≤ 4 ∧ i + n ≤ s.size ∧ bt s i / 64 ≠ 2 ∧ ∀ j, i < j → j < i + n → bt s j / 64 = 2

theorem j2_any (s : ByteArray) (x4 n x6 : Int) (hn : n = 0 ∨ 2 ≤ n) (hn4 : n ≤ 4) :
    ∃ r c, (∀ k, 8 ≤ k → spec_extRune.j2 k s x4 n x6 = some (r, c)) ∧ (r = 0 ∨ r = n ∧ 1 ≤ n ∧ n ≤ s.size ∧ ∀ j, 1 ≤ j → j < n → bt s j / 64 = 2) := by
  by_cases h : n = 0 ∨ (s.size : Int) < n
  · refine ⟨0, 0, fun k hk => ?_, .inl rfl⟩
    obtain ⟨k, rfl⟩ : ∃ m, k = m + 2 := ⟨k - 2, by omega⟩
    by_cases h0 : n = 0
    · simp [spec_extRune.j2, spec_extRune.j3, h0]
    · have h1 : (s.size : Int) < n := by omega
      simp [spec_extRune.j2, spec_extRune.j3, h0, h1]
  · have h0 : ¬ n = 0 := fun e => h (.inl e)
    have h1 : ¬ (s.size : Int) < n := fun e => h (.inr e)
    obtain ⟨r, c, hr, hp⟩ := conts s n x6 (by omega) hn4 (n - 1).toNat x4 1 (by omega) (by omega) (by omega)
    refine ⟨r, c, fun k hk => ?_, ?_⟩
    · obtain ⟨k, rfl⟩ : ∃ m, k = m + 2 := ⟨k - 2, by omega⟩
      simp only [spec_extRune.j2, spec_extRune.j3, if_neg h0]
      simp only [h1, decide_false]
      exact hr k (by omega)
    · rcases hp with hp | ⟨hp, hq⟩
      · exact .inl hp
      · exact .inr ⟨hp, by omega, by omega, hq⟩

theorem rune0 (s : ByteArray) : ∃ n c, (∀ k, 10 ≤ k → spec_extRune.f k s = some (n, c)) ∧ Rune s 0 n ∧ (n = 0 ∨ 0 < s.size) := by
  by_cases h : s.toList = ([] : List UInt8)
  · exact ⟨0, 0, fun k _ => by simp only [spec_extRune.f]; rw [if_pos h], .inl rfl, .inl rfl⟩
  have hs : 0 < (s.size : Int) := by
    have : s.size ≠ 0 := by
      intro e
      apply h
      have : s = ⟨List.toArray []⟩ := ByteArray.size_eq_zero_iff.mp e
      rw [this]
      exact toList_mk []
    omega
  obtain ⟨b0, b1⟩ := bt_range s 0
  have ew : wrap64 (bt s 0) = bt s 0 := w64 _ b0 (by omega)
  by_cases h1 : bt s 0 < 128
  · refine ⟨1, bt s 0, fun k _ => ?_, .inr ⟨by omega, by omega, by omega, by omega, fun j a b => by omega⟩, .inr (by omega)⟩
    simp only [spec_extRune.f, ew]
    rw [if_neg h, if_pos hs, if_pos h1]
  have key : ∃ x4 n x6 : Int, (n = 0 ∨ 2 ≤ n) ∧ n ≤ 4 ∧ (n ≠ 0 → bt s 0 ≥ 192) ∧ ∀ k, 10 ≤ k → ∃ k', 8 ≤ k' ∧ spec_extRune.f k s = spec_extRune.j2 k' s x4 n x6 := by
    by_cases h2 : bt s 0 ≥ 194
    · by_cases h3 : bt s 0 < 224
      · refine ⟨Go.bits .and .i64 (bt s 0) 31, 2, 128, .inr (by decide), by decide, fun _ => by omega, fun k hk => ⟨k - 1, by omega, ?_⟩⟩
        obtain ⟨k, rfl⟩ : ∃ m, k = m + 1 := ⟨k - 1, by omega⟩
        simp only [spec_extRune.f, ew, if_neg h, if_pos hs, if_neg h1, if_pos h2, h3, decide_true, spec_extRune.j0, if_true]
        rfl
      · have h3' : bt s 0 ≥ 224 := by omega
        by_cases h4 : bt s 0 < 240
        · refine ⟨Go.bits .and .i64 (bt s 0) 15, 3, 2048, .inr (by decide), by decide, fun _ => by omega, fun k hk => ⟨k - 2, by omega, ?_⟩⟩
          obtain ⟨k, rfl⟩ : ∃ m, k = m + 2 := ⟨k - 2, by omega⟩
          simp only [spec_extRune.f, ew, if_neg h, if_pos hs, if_neg h1, if_pos h2, h3, decide_false, spec_extRune.j0, if_pos h3', h4, decide_true, spec_extRune.j1, if_true, Bool.false_eq_true, if_false]
          rfl
        · have h4' : bt s 0 ≥ 240 := by omega
          by_cases h5 : bt s 0 < 245
          · refine ⟨Go.bits .and .i64 (bt s 0) 7, 4, 65536, .inr (by decide), by decide, fun _ => by omega, fun k hk => ⟨k - 2, by omega, ?_⟩⟩
            obtain ⟨k, rfl⟩ : ∃ m, k = m + 2 := ⟨k - 2, by omega⟩
            simp only [spec_extRune.f, ew, if_neg h, if_pos hs, if_neg h1, if_pos h2, h3, decide_false, spec_extRune.j0, if_pos h3', h4, spec_extRune.j1, if_pos h4', if_pos h5, Bool.false_eq_true, if_false]
            rfl
          · refine ⟨bt s 0, 0, 0, .inl rfl, by decide, fun e => absurd rfl e, fun k hk => ⟨k - 2, by omega, ?_⟩⟩
            obtain ⟨k, rfl⟩ : ∃ m, k = m + 2 := ⟨k - 2, by omega⟩
            simp only [spec_extRune.f, ew, if_neg h, if_pos hs, if_neg h1, if_pos h2, h3, decide_false, spec_extRune.j0, if_pos h3', h4, spec_extRune.j1, if_pos h4', if_neg h5, Bool.false_eq_true, if_false]
            rfl
    · have h3 : ¬ bt s 0 ≥ 224 := by omega
      have h4 : ¬ bt s 0 ≥ 240 := by omega
      refine ⟨bt s 0, 0, 0, .inl rfl, by decide, fun e => absurd rfl e, fun k hk => ⟨k - 2, by omega, ?_⟩⟩
      obtain ⟨k, rfl⟩ : ∃ m, k = m + 2 := ⟨k - 2, by omega⟩
      simp only [spec_extRune.f, ew, if_neg h, if_pos hs, if_neg h1, if_neg h2, spec_extRune.j0, if_neg h3, spec_extRune.j1, if_neg h4, Bool.false_eq_true, if_false]
      rfl
  obtain ⟨x4, n, x6, hn, hn4, hb, hk⟩ := key
  obtain ⟨r, c, hr, hp⟩ := j2_any s x4 n x6 hn hn4
  refine ⟨r, c, fun k h => ?_, ?_, .inr (by omega)⟩
  · obtain ⟨k', h', e⟩ := hk k h
    rw [e]; exact hr k' h'
  · rcases hp with hp | ⟨hp, hp1, hp2, hq⟩
    · exact .inl hp
    · subst hp
      have := hb (by omega)
      exact .inr ⟨hp1, hn4, by omega, by omega, fun j a b => hq j (by omega) (by omega)⟩

theorem rune_at (s : ByteArray) (i : Int) (h0 : 0 ≤ i) (hi : i ≤ s.size) :
    ∃ n c, (∀ k, 10 ≤ k → spec_extRune.f k (s.extract i.toNat s.size) = some (n, c)) ∧ Rune s i n := by
  obtain ⟨n, c, hk, hr, h1⟩ := rune0 (s.extract i.toNat s.size)
  refine ⟨n, c, hk, ?_⟩
  rcases hr with hr | ⟨r1, r2, r3, r4, r5⟩
  · exact .inl hr
  · have hsz : (s.extract i.toNat s.size).size = s.size - i.toNat := by simp
    rw [hsz] at r3
    have e0 : bt (s.extract i.toNat s.size) 0 = bt s i := by
      have := bt_extract s i.toNat 0 (by omega)
      rw [show ((0 : Nat) : Int) = 0 from rfl] at this
      rw [this]; congr 1; omega
    refine .inr ⟨r1, r2, by omega, by rw [← e0]; exact r4, fun j a b => ?_⟩
    have := r5 (j - i) (by omega) (by omega)
    rw [show j - i = (((j - i).toNat : Nat) : Int) by omega, bt_extract s i.toNat (j - i).toNat (by omega)] at this
    rw [show ((i.toNat + (j - i).toNat : Nat) : Int) = j by omega] at this
    exact this

/-- Going back over the bytes inside a character. -/
theorem back (s : ByteArray) (i : Int) (h0 : 0 ≤ i) (hi : i = 0 ∨ bt s i / 64 ≠ 2) (d : Nat) : ∀ j, i ≤ j → j < s.size → j - i = d → (∀ q, i < q → q ≤ j → bt s q / 64 = 2) → s.size ≤ 300 →
    ∀ k, d < k → bsoncoreutil_Truncate.l0 k s j = some (s.extract 0 i.toNat) := by
  induction d with
  | zero =>
    intro j h1 h2 h3 h4 h5 k hk
    obtain ⟨k, rfl⟩ : ∃ m, k = m + 1 := ⟨k - 1, by omega⟩
    obtain rfl : j = i := by omega
    rw [trunc_step]
    have e2 : j ≤ (s.size : Int) := by omega
    by_cases c : j > 0
    · have hi' : bt s j / 64 ≠ 2 := by
        rcases hi with h | h
        · omega
        · exact h
      obtain ⟨b0, b1⟩ := bt_range s j
      rw [if_pos c, if_pos h0, if_pos h2]
      simp only [utf8_RuneStart.f, start_bits _ b0 b1, Option.bind_some]
      rw [if_pos (decide_eq_true hi'), if_pos e2]
    · rw [if_neg c, if_pos h0, if_pos e2]
  | succ d ih =>
    intro j h1 h2 h3 h4 h5 k hk
    obtain ⟨k, rfl⟩ : ∃ m, k = m + 1 := ⟨k - 1, by omega⟩
    have c : j > 0 := by omega
    have c0 : 0 ≤ j := by omega
    have hj : bt s j / 64 = 2 := h4 j (by omega) (by omega)
    obtain ⟨b0, b1⟩ := bt_range s j
    rw [trunc_step]
    rw [if_pos c, if_pos c0, if_pos h2]
    simp only [utf8_RuneStart.f, start_bits _ b0 b1, hj, Option.bind_some]
    simp only [ne_eq, not_true_eq_false, decide_false, Bool.false_eq_true, if_false]
    rw [w64 (j - 1) (by omega) (by omega)]
    exact ih (j - 1) (by omega) (by omega) (by omega) (fun q a b => h4 q a (by omega)) h5 k (by omega)

/-- From a boundary i on: both ways of cutting come to one end, if what follows is UTF-8. -/
theorem both (s : ByteArray) (n : Int) (h5 : s.size ≤ 300) (d : Nat) : ∀ i, 0 ≤ i → (i ≤ n ∨ i = 0) → i ≤ s.size → s.size - i = d → (i = 0 ∨ i = s.size ∨ bt s i / 64 ≠ 2) → (∃ k, spec_ExtUTF8.l0 k s i = some true) →
    ∃ p, (∀ k, d + 12 ≤ k → spec_ExtCut.l0 k s n i = some (s.extract 0 p)) ∧ (s.size ≤ n → p = s.size) ∧ (n < s.size → 0 < n → ∀ k, 400 ≤ k → bsoncoreutil_Truncate.l0 k s n = some (s.extract 0 p)) ∧ (n = 0 → p = 0) := by
  induction d using Nat.strongRecOn with
  | ind d ih =>
    intro i h0 hin his hd hb hok
    by_cases e : i < (s.size : Int)
    · obtain ⟨m, c, hm, hr⟩ := rune_at s i h0 his
      obtain ⟨k, hk⟩ := hok
      have hm0 : m ≠ 0 := by
        intro e0
        have hk' : spec_ExtUTF8.l0 (k + 10 + 1) s i = some true := at_rounds (fun k => spec_ExtUTF8.mono_l k s i) (by omega) hk
        rw [l0_step] at hk'
        rw [if_pos e, if_pos h0, if_pos his, hm (k + 10) (by omega)] at hk'
        simp [e0] at hk'
      have hk2 : ∃ k, spec_ExtUTF8.l0 k s (i + m) = some true := by
        have hk' : spec_ExtUTF8.l0 (k + 10 + 1) s i = some true := at_rounds (fun k => spec_ExtUTF8.mono_l k s i) (by omega) hk
        rw [l0_step] at hk'
        rw [if_pos e, if_pos h0, if_pos his, hm (k + 10) (by omega)] at hk'
        simp only [Option.bind_some, if_neg hm0] at hk'
        rcases hr with hr | ⟨r1, r2, r3, r4, r5⟩
        · exact absurd hr hm0
        · rw [w64 (i + m) (by omega) (by omega)] at hk'
          exact ⟨_, hk'⟩
      rcases hr with hr | ⟨r1, r2, r3, r4, r5⟩
      · exact absurd hr hm0
      have ew : wrap64 (i + m) = i + m := w64 _ (by omega) (by omega)
      by_cases c1 : i + m > n
      · refine ⟨i.toNat, fun k hk => ?_, fun h => by omega, fun h1 h2 k hk => ?_, fun h => by omega⟩
        · obtain ⟨k, rfl⟩ : ∃ m, k = m + 1 := ⟨k - 1, by omega⟩
          rw [cut_step]
          rw [if_pos e, if_pos h0, if_pos his, hm k (by omega)]
          simp only [Option.bind_some, if_neg hm0, ew, if_pos c1]
        · have hib : i = 0 ∨ bt s i / 64 ≠ 2 := .inr r4
          exact back s i h0 hib (n - i).toNat n (by omega) h1 (by omega) (fun q a b => r5 q a (by omega)) h5 k (by omega)
      · have hb2 : i + m = 0 ∨ i + m = s.size ∨ bt s (i + m) / 64 ≠ 2 := by
          by_cases e2 : i + m = s.size
          · exact .inr (.inl e2)
          · obtain ⟨m2, c2, hm2, hr2⟩ := rune_at s (i + m) (by omega) (by omega)
            rcases hr2 with hr2 | ⟨_, _, _, q4, _⟩
            · exfalso
              obtain ⟨k2, hk2'⟩ := hk2
              have hk' : spec_ExtUTF8.l0 (k2 + 10 + 1) s (i + m) = some true := at_rounds (fun k => spec_ExtUTF8.mono_l k s (i + m)) (by omega) hk2'
              rw [l0_step] at hk'
              rw [if_pos (by omega), if_pos (by omega), if_pos (by omega), hm2 (k2 + 10) (by omega)] at hk'
              simp [hr2] at hk'
            · exact .inr (.inr q4)
        obtain ⟨p, p1, p2, p3, p4⟩ := ih (s.size - (i + m).toNat) (by omega) (i + m) (by omega) (.inl (by omega)) (by omega) (by omega) hb2 hk2
        refine ⟨p, fun k hk => ?_, p2, p3, p4⟩
        obtain ⟨k, rfl⟩ : ∃ m, k = m + 1 := ⟨k - 1, by omega⟩
        rw [cut_step]
        rw [if_pos e, if_pos h0, if_pos his, hm k (by omega)]
        simp only [Option.bind_some, if_neg hm0, ew, if_neg c1]
        exact p1 k (by omega)
    · refine ⟨s.size, fun k hk => ?_, fun _ => rfl, fun h1 h2 k hk => ?_, fun h => ?_⟩
      · obtain ⟨k, rfl⟩ : ∃ m, k = m + 1 := ⟨k - 1, by omega⟩
        rw [cut_step]
        rw [if_neg e, if_pos h0, if_pos his]
        congr 2; omega
      · omega
      · omega

theorem fixed : ∀ k, 4 ≤ k → impl_CutText.f k (⟨#[97, 195, 169]⟩ : ByteArray) 2 = some ⟨#[97]⟩ := by
  intro k hk
  obtain ⟨k, rfl⟩ : ∃ m, k = m + 4 := ⟨k - 4, by omega⟩
  have e1 : bt (⟨#[97, 195, 169]⟩ : ByteArray) 2 = 169 := by decide
  have e2 : bt (⟨#[97, 195, 169]⟩ : ByteArray) 1 = 195 := by decide
  have e3 : (⟨#[97, 195, 169]⟩ : ByteArray).size = 3 := by decide
  have s1 : (Go.bits .and .u8 169 192 != 128) = false := by decide
  have s2 : (Go.bits .and .u8 195 192 != 128) = true := by decide
  have w1 : wrap64 (2 - 1) = 1 := w64 1 (by omega) (by omega)
  have x : (⟨#[97, 195, 169]⟩ : ByteArray).extract 0 1 = ⟨#[97]⟩ := by decide
  simp only [impl_CutText.f, bsoncoreutil_Truncate.f, e1, e3, utf8_RuneStart.f, s1, Option.bind_some]
  rw [trunc_step, e3, e1, w1]
  simp only [utf8_RuneStart.f, s1, Option.bind_some]
  rw [trunc_step, e3, e2]
  simp only [utf8_RuneStart.f, s2, Option.bind_some]
  simp [x]

theorem FnTextStart : laws_FnTextStart.Pure := by
  intro s n hs wn
  have hn : -32768 ≤ n ∧ n ≤ 32767 := by
    simp [Lit.wf, IntKind.min, IntKind.max, IntKind.signed, IntKind.bits] at wn
    omega
  have ew : wrap64 n = n := by unfold wrap64; omega
  by_cases c1 : (s.size : Int) > 2147483647
  · exact ⟨0, by simp only [laws_FnTextStart.f]; rw [if_pos c1]⟩
  have hend : ∀ r q : ByteArray, (r.toList = q.toList) → (if r.toList = q.toList then ((some (⟨#[97]⟩ : ByteArray)).bind fun t112 => (some (t112.toList == ([97] : List UInt8)))) else (some false)) = some true := by
    intro r q h
    rw [if_pos h]
    simp only [Option.bind_some]
    rw [show (⟨#[97]⟩ : ByteArray).toList = [97] from toList_mk [97]]
    rfl
  by_cases c2 : (s.size : Int) ≤ 300
  · -- the text is looked at
    have ev : ∃ t, Ev (fun k => spec_ExtUTF8.f k s) t := by
      have : ∀ (d : Nat) (i : Int), 0 ≤ i → i ≤ s.size → s.size - i = d → ∃ t, ∀ k, d + 12 ≤ k → spec_ExtUTF8.l0 k s i = some t := by
        intro d
        induction d using Nat.strongRecOn with
        | ind d ih =>
          intro i h0 hi hd
          by_cases e : i < (s.size : Int)
          · obtain ⟨m, c, hm, hr⟩ := rune_at s i h0 hi
            by_cases hm0 : m = 0
            · refine ⟨false, fun k hk => ?_⟩
              obtain ⟨k, rfl⟩ : ∃ m, k = m + 1 := ⟨k - 1, by omega⟩
              rw [l0_step]
              rw [if_pos e, if_pos h0, if_pos hi, hm k (by omega)]
              simp [hm0]
            · rcases hr with hr | ⟨r1, r2, r3, r4, r5⟩
              · exact absurd hr hm0
              obtain ⟨t, ht⟩ := ih (s.size - (i + m).toNat) (by omega) (i + m) (by omega) (by omega) (by omega)
              refine ⟨t, fun k hk => ?_⟩
              obtain ⟨k, rfl⟩ : ∃ m, k = m + 1 := ⟨k - 1, by omega⟩
              rw [l0_step]
              rw [if_pos e, if_pos h0, if_pos hi, hm k (by omega)]
              simp only [Option.bind_some, if_neg hm0]
              rw [w64 (i + m) (by omega) (by omega)]
              exact ht k (by omega)
          · refine ⟨true, fun k hk => ?_⟩
            obtain ⟨k, rfl⟩ : ∃ m, k = m + 1 := ⟨k - 1, by omega⟩
            rw [l0_step]
            rw [if_neg e]
      obtain ⟨t, ht⟩ := this s.size 0 (by omega) (by omega) (by omega)
      exact ⟨t, s.size + 12, fun k hk => ht k hk⟩
    obtain ⟨t, K, ht0⟩ := ev
    have ht : ∀ k, K ≤ k → spec_ExtUTF8.f k s = some t := ht0
    clear ht0
    cases t with
    | false =>
      refine ⟨K, ?_⟩
      simp only [laws_FnTextStart.f, laws_extText.f]
      rw [if_neg c1, if_pos c2, ht K (by omega)]
      rfl
    | true =>
      have hutf : ∃ k, spec_ExtUTF8.l0 k s 0 = some true := ⟨K, ht K (by omega)⟩
      refine ⟨K + 1000, ?_⟩
      simp only [laws_FnTextStart.f, laws_extText.f, ew]
      rw [if_neg c1, if_pos c2, ht (K + 1000) (by omega)]
      simp only [Option.bind_some, if_true, fixed (K + 1000) (by omega)]
      by_cases c3 : n ≤ 0
      · have a1 : impl_CutText.f (K + 1000) s n = some ⟨#[]⟩ := by
          simp only [impl_CutText.f, bsoncoreutil_Truncate.f]
          rw [if_pos c3]; rfl
        have a2 : spec_ExtCut.f (K + 1000) s n = some (s.extract 0 0) := by
          simp only [spec_ExtCut.f]
          by_cases c4 : 0 < (s.size : Int)
          · obtain ⟨m, c, hm, hr⟩ := rune_at s 0 (by omega) (by omega)
            rw [cut_step]
            rw [if_pos c4, if_pos (by omega), if_pos (by omega), hm (K + 999) (by omega)]
            simp only [Option.bind_some]
            by_cases hm0 : m = 0
            · rw [if_pos hm0]; rfl
            · rw [if_neg hm0]
              rcases hr with hr | ⟨r1, r2, r3, r4, r5⟩
              · exact absurd hr hm0
              rw [w64 (0 + m) (by omega) (by omega), if_pos (by omega)]; rfl
          · rw [cut_step]
            rw [if_neg c4, if_pos (by omega), if_pos (by omega)]; rfl
        rw [a1, a2]
        simp only [Option.bind_some]
        have : (⟨#[]⟩ : ByteArray).toList = (s.extract 0 0).toList := by
          have : s.extract 0 0 = ⟨#[]⟩ := by
            apply ByteArray.ext
            simp
          rw [this]
        exact hend _ _ this
      · obtain ⟨p, p1, p2, p3, p4⟩ := both s n (by omega) s.size 0 (by omega) (.inr rfl) (by omega) (by omega) (.inl rfl) hutf
        have a2 : spec_ExtCut.f (K + 1000) s n = some (s.extract 0 p) := p1 (K + 1000) (by omega)
        have a1 : impl_CutText.f (K + 1000) s n = some (s.extract 0 p) := by
          simp only [impl_CutText.f, bsoncoreutil_Truncate.f]
          rw [if_neg c3]
          by_cases c4 : (s.size : Int) ≤ n
          · rw [if_pos c4, p2 c4]
            simp only [Option.bind_some]
            congr 1
            apply ByteArray.ext
            simp
          · have c5 : n < s.size := by omega
            have := p3 c5 (by omega) (K + 1000) (by omega)
            rw [if_neg c4, if_pos (by omega), if_pos c5]
            obtain ⟨b0, b1⟩ := bt_range s n
            simp only [utf8_RuneStart.f, Option.bind_some]
            by_cases c6 : (Go.bits .and .u8 (bt s n) 192 != 128) = true
            · rw [if_pos c6, if_pos (by omega)]
              have hk := this
              rw [trunc_step] at hk
              rw [if_pos (by omega), if_pos (by omega), if_pos c5] at hk
              simp only [utf8_RuneStart.f, Option.bind_some] at hk
              rw [if_pos c6, if_pos (by omega)] at hk
              simp only [Option.bind_some]
              exact hk
            · rw [if_neg c6, this]; rfl
        rw [a1, a2]
        exact hend _ _ rfl
  · refine ⟨0, ?_⟩
    simp only [laws_FnTextStart.f, laws_extText.f]
    rw [if_neg c1, if_neg c2]
    rfl

end Go.Proofs.Ytfpnhlfmnoikhaa.Pure
