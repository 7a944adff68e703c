/- What the text of 128 bits says: its digits and its exponent. No conditions: plain lemmas. -/
import Derived.Test.YtjjfdamlicoeeaaDoorStrA
set_option linter.unusedVariables false
set_option linter.unusedSimpArgs false
set_option maxRecDepth 100000
namespace Go.Proofs.YtjjfdamlicoeeaaDoor.X
open Go.RowKit
def cnt : List UInt8 → Nat
  | [] => 0
  | c :: r => (if c = 46 then 0 else 1) + cnt r
def num : List UInt8 → Int
  | [] => 0
  | c :: r => if c = 46 then num r else ((c.toNat : Int) - 48) * 10 ^ cnt r + num r
def frc : List UInt8 → Nat
  | [] => 0
  | c :: r => if c = 46 then cnt r else frc r
def Chars (l : List UInt8) : Prop := ∀ c ∈ l, c = 46 ∨ (48 ≤ c.toNat ∧ c.toNat ≤ 57)
theorem cnt_le (l : List UInt8) : cnt l ≤ l.length := by
  induction l with
  | nil => exact Nat.le_refl _
  | cons c r ih => simp only [cnt, List.length_cons]; split <;> omega
theorem frc_zero : ∀ (l : List UInt8), cnt l = l.length → frc l = 0
  | [], _ => rfl
  | c :: r, h => by
    have := cnt_le r
    simp only [cnt, List.length_cons] at h
    by_cases hc : c = 46
    · rw [if_pos hc] at h; omega
    · rw [if_neg hc] at h
      simp only [frc, if_neg hc]
      exact frc_zero r (by omega)
theorem txtL_cons (R : Nat → Int) (n : Nat) (h : n < 48) : txtL R n = ub (R n) :: txtL R (n + 1) := by
  unfold txtL
  rw [show 48 - n = (48 - (n + 1)) + 1 from by omega, List.range_succ_eq_map, List.map_cons, List.map_map]
  congr 1
  refine List.map_congr_left fun k _ => ?_
  simp only [Function.comp]
  congr 2
  omega
theorem txtL_congr (R R' : Nat → Int) (n : Nat) (h : ∀ j, n ≤ j → R j = R' j) : txtL R n = txtL R' n := by
  unfold txtL
  refine List.map_congr_left fun k _ => ?_
  rw [h (n + k) (by omega)]
theorem txtL_set (R : Nat → Int) (i c : Int) (h1 : 1 ≤ i) (h2 : i ≤ 48) : txtL (setR R (i - 1) c) (i - 1).toNat = ub c :: txtL R i.toNat := by
  rw [txtL_cons _ _ (by omega), show (i - 1).toNat + 1 = i.toNat from by omega]
  congr 1
  · simp [setR]
  · refine txtL_congr _ _ _ fun j hj => ?_
    simp only [setR]
    rw [if_neg (by omega)]
theorem ub48 (r : Int) (h0 : 0 ≤ r) (h1 : r < 10) : (((ub (48 + r)).toNat : Nat) : Int) = 48 + r := by rw [ub_toNat]; omega
theorem ub_ne46 (r : Int) (h0 : 0 ≤ r) (h1 : r < 10) : ub (48 + r) ≠ 46 := fun h => by
  have h2 := ub48 r h0 h1
  rw [h] at h2
  have : ((46 : UInt8).toNat : Int) = 46 := rfl
  omega
/-- The coefficient that is still to be written. -/
def V (s : DS) : Int := s.hi * 18446744073709551616 + s.lo
def C (s : DS) : List UInt8 := txtL s.R s.i.toNat
structure I2 (s : DS) (k n : Nat) (N e : Int) : Prop where
  inv : Inv s k
  val : num (C s) + 10 ^ k * (V s * 10 ^ n + s.rem) = N
  rm : s.rem < 10 ^ n
  cn : cnt (C s) = k
  ex : s.exp - (frc (C s) : Int) = e
  zr : ∀ p : Nat, s.i.toNat ≤ p → p < s.last.toNat → s.R p = 48
  ch : Chars (C s)
  le : s.i ≤ s.last
structure F2 (T : DS) (N e : Int) : Prop where
  okd : Okd T
  i0 : 0 ≤ T.i
  i1 : T.i ≤ 48
  nm : num (C T) = N
  ex : T.exp - (frc (C T) : Int) = e
  zr : ∀ p : Nat, T.i.toNat ≤ p → p < T.last.toNat → T.R p = 48
  ch : Chars (C T)
  le : T.i ≤ T.last
theorem aft2 {s : DS} {k n : Nat} {N e : Int} (h : I2 s k n N e) (hk : k ≤ 44) : num (C (aft s)) = num (C s) ∧ cnt (C (aft s)) = k ∧ (aft s).exp - (frc (C (aft s)) : Int) = e ∧ Chars (C (aft s)) ∧
    ((aft s).last = (aft s).i - 1 ∨ ((aft s).i ≤ (aft s).last ∧ ∀ p : Nat, (aft s).i.toNat ≤ p → p < (aft s).last.toNat → (aft s).R p = 48)) := by
  unfold aft
  by_cases hA : condA s = true
  · rw [if_pos hA]
    have hA0 := hA
    simp only [condA, Bool.and_eq_true, Bool.or_eq_true, decide_eq_true_eq] at hA
    obtain ⟨hi, hA⟩ := hA
    have hat := h.inv.at_
    have hm : s.i = 48 - (k : Int) := by
      rcases hat with ⟨e1, _⟩ | ⟨e1, e2, e3⟩
      · exact e1
      · exfalso; omega
    have hc : C (dotS s) = 46 :: C s := by
      have := txtL_set s.R s.i 46 (by omega) (by omega)
      exact this
    have hfr : frc (C s) = 0 := frc_zero _ (by rw [h.cn]; simp only [C, txtL_len]; omega)
    have he := h.ex
    rw [hfr] at he
    rw [hc]
    refine ⟨by simp [num], by simp [cnt, h.cn], ?_, ?_, .inl rfl⟩
    · simp only [frc, if_true, dotS, h.cn]
      omega
    · intro c hc
      rcases List.mem_cons.1 hc with rfl | hc
      · exact .inl rfl
      · exact h.ch c hc
  · rw [if_neg hA]
    exact ⟨rfl, h.cn, h.ex, h.ch, .inr ⟨h.le, h.zr⟩⟩
theorem round2 {s : DS} {k n : Nat} {N e : Int} (h : I2 s k (n + 1) N e) (hk : k ≤ 44) : ((round s).2 = true → F2 (round s).1 N e) ∧ ((round s).2 = false → I2 (round s).1 (k + 1) n N e) := by
  obtain ⟨q1, q2, q3, q4, q5⟩ := aft2 h hk
  obtain ⟨hok, h1, h2, h3, h4, h5, h6⟩ := aft_ok h.inv hk
  have hr := round_ok h.inv hk
  have e0 : round s = if condB (dig (aft s)) then (lastS (dig (aft s)), true) else (if (aft s).rem % 10 = 0 then dig (aft s) else lastS (dig (aft s)), condC (if (aft s).rem % 10 = 0 then dig (aft s) else lastS (dig (aft s)))) := rfl
  generalize hag : aft s = a at *
  have hrem0 := h.inv.ok.rem0
  have hC : C (dig a) = ub (48 + a.rem % 10) :: C a := txtL_set a.R a.i (48 + a.rem % 10) (by omega) (by omega)
  have hne := ub_ne46 (a.rem % 10) (by omega) (by omega)
  have hub := ub48 (a.rem % 10) (by omega) (by omega)
  have hnum : num (C (dig a)) = a.rem % 10 * 10 ^ k + num (C s) := by
    rw [hC]
    simp only [num, if_neg hne, q1, q2, hub]
    congr 2
    omega
  have hcnt : cnt (C (dig a)) = k + 1 := by
    rw [hC]; simp only [cnt, if_neg hne, q2]; omega
  have hfrc : frc (C (dig a)) = frc (C a) := by rw [hC]; simp only [frc, if_neg hne]
  have hch : Chars (C (dig a)) := by
    rw [hC]
    intro c hc
    rcases List.mem_cons.1 hc with rfl | hc
    · exact .inr (by omega)
    · exact q4 c hc
  have hval := h.val
  have hdi : (dig a).i = a.i - 1 := rfl
  have hdl : (dig a).last = a.last := rfl
  have hV : V (dig a) = V s := by simp only [V, dig, h1, h2]
  have hval2 : num (C (dig a)) + 10 ^ (k + 1) * (V (dig a) * 10 ^ n + (dig a).rem) = N := by
    rw [hnum, hV]
    show _ + 10 ^ (k + 1) * (_ + a.rem / 10) = N
    have hd := Int.emod_add_mul_ediv a.rem 10
    rw [← h3] at hval
    rw [Int.pow_succ] at hval ⊢
    generalize (10 : Int) ^ k = P at *
    generalize (10 : Int) ^ n = Q at *
    grind
  have hrm2 : (dig a).rem < 10 ^ n := by
    have := h.rm
    rw [← h3, Int.pow_succ] at this
    show a.rem / 10 < 10 ^ n
    generalize (10 : Int) ^ n = Q at *
    omega
  -- the text behind the round, its last place set or not
  have hb0 : V (dig a) = 0 → (dig a).rem = 0 → num (C (dig a)) = N := fun hv hz => by
    rw [← hval2, hv, hz]; simp
  have hlast : ∀ c : DS, (c = lastS (dig a) ∨ (c = dig a ∧ a.rem % 10 = 0)) → c.i ≤ c.last ∧ (∀ p : Nat, c.i.toNat ≤ p → p < c.last.toNat → c.R p = 48) := by
    rintro c (rfl | ⟨rfl, hz⟩)
    · exact ⟨Int.le_refl _, fun p hp hq => by simp only [lastS] at hp hq; omega⟩
    · rcases q5 with hq5 | ⟨hq5, hq6⟩
      · rw [hdi, hdl]
        exact ⟨by omega, fun p hp hq => by omega⟩
      · rw [hdi, hdl]
        refine ⟨by omega, fun p hp hq => ?_⟩
        show setR a.R (a.i - 1) (48 + a.rem % 10) p = 48
        unfold setR
        split
        · omega
        · exact hq6 p (by omega) hq
  have hCl : C (lastS (dig a)) = C (dig a) := rfl
  rw [e0] at hr ⊢
  by_cases hB : condB (dig a) = true
  · rw [if_pos hB] at hr ⊢
    refine ⟨fun _ => ?_, fun h => by cases h⟩
    simp only [condB, Bool.and_eq_true, Bool.or_eq_true, decide_eq_true_eq] at hB
    obtain ⟨⟨⟨⟨b1, b2⟩, b3⟩, b4⟩, b5⟩ := hB
    have hl := hlast _ (.inl rfl)
    refine ⟨hr.1, ?_, ?_, ?_, ?_, hl.2, hch, hl.1⟩
    · show 0 ≤ a.i - 1; omega
    · show a.i - 1 ≤ 48; omega
    · exact hb0 (by simp only [V, b1, b2]; rfl) b3
    · show a.exp - (frc (C (dig a)) : Int) = e
      rw [hfrc]; exact q3
  · rw [if_neg hB] at hr ⊢
    have key : ∀ c : DS, (c = lastS (dig a) ∨ (c = dig a ∧ a.rem % 10 = 0)) → Okd c → (condC c = false → Inv c (k + 1)) → (condC c = true → F2 c N e) ∧ (condC c = false → I2 c (k + 1) n N e) := by
      intro c hc hok hinv
      have hl := hlast c hc
      have ci : c.i = a.i - 1 ∧ C c = C (dig a) ∧ c.exp = a.exp ∧ c.rem = (dig a).rem ∧ V c = V (dig a) ∧ c.lo = (dig a).lo ∧ c.hi = (dig a).hi := by rcases hc with rfl | ⟨rfl, _⟩ <;> exact ⟨rfl, rfl, rfl, rfl, rfl, rfl, rfl⟩
      obtain ⟨c1, c2, c3, c4, c5, c6, c7⟩ := ci
      refine ⟨fun hC => ?_, fun hC => ?_⟩
      · simp only [condC, Bool.and_eq_true, decide_eq_true_eq] at hC
        obtain ⟨⟨⟨d1, d2⟩, d3⟩, d4⟩ := hC
        refine ⟨hok, by omega, by omega, ?_, ?_, hl.2, by rw [c2]; exact hch, hl.1⟩
        · rw [c2]
          exact hb0 (by simp only [V, ← c6, ← c7, d2, d3]; rfl) (by rw [← c4]; exact d4)
        · rw [c2, c3, hfrc]; exact q3
      · exact ⟨hinv hC, by rw [c2, c4, c5]; exact hval2, by rw [c4]; exact hrm2, by rw [c2]; exact hcnt, by rw [c2, c3, hfrc]; exact q3, hl.2, by rw [c2]; exact hch, hl.1⟩
    by_cases hz : a.rem % 10 = 0
    · rw [if_pos hz] at hr ⊢
      exact key _ (.inr ⟨rfl, hz⟩) hr.1 hr.2.2.2
    · rw [if_neg hz] at hr ⊢
      exact key _ (.inl rfl) hr.1 hr.2.2.2
theorem inn2 : ∀ (n : Nat) {s : DS} {k : Nat} {N e : Int}, I2 s k n N e → k + n ≤ 45 → ((inn n s).2 = true → F2 (inn n s).1 N e) ∧ ((inn n s).2 = false → I2 (inn n s).1 (k + n) 0 N e)
  | 0, s, k, N, e, h, _ => ⟨fun h => by simp [inn] at h, fun _ => h⟩
  | n + 1, s, k, N, e, h, hk => by
    have hr := round2 h (by omega)
    rw [inn]
    by_cases hb : (round s).2 = true
    · rw [if_pos hb]
      exact ⟨fun _ => hr.1 hb, fun h => by cases h⟩
    · rw [if_neg hb]
      have := inn2 n (hr.2 (by simpa using hb)) (by omega)
      rw [show k + 1 + n = k + (n + 1) from by omega] at this
      exact this
theorem nine2 {s : DS} {k : Nat} {N e : Int} (h : I2 s k 0 N e) : I2 (nine s) k 9 N e := by
  have hrem0 := h.inv.ok.rem0
  have hrm := h.rm
  have hz : s.rem = 0 := by simp at hrm; omega
  have hv := h.val
  rw [hz] at hv
  refine ⟨nine_ok h.inv, ?_, ?_, h.cn, h.ex, h.zr, h.ch, h.le⟩
  · rw [← hv]
    show num (C s) + 10 ^ k * (V (nine s) * 10 ^ 9 + (nine s).rem) = num (C s) + 10 ^ k * (V s * 10 ^ 0 + 0)
    have : V (nine s) * 10 ^ 9 + (nine s).rem = V s * 10 ^ 0 + 0 := by
      simp only [V, nine, dmH, dmL, dmR]
      omega
    rw [this]
  · simp only [nine, dmR]
    omega
theorem outr2 : ∀ (d : Nat) {s : DS} {k : Nat} {N e : Int}, I2 s k 0 N e → k + 9 * d = 45 → N < 10 ^ 45 → F2 (outr d s) N e
  | 0, s, k, N, e, h, hk, hN => by
    obtain rfl : k = 45 := by omega
    show F2 s N e
    have hi := h.inv.ok
    have hv := h.val
    have hrm := h.rm
    have hz : s.rem = 0 := by have := hi.rem0; simp at hrm; omega
    have hV : V s = 0 := by
      have h1 : 0 ≤ V s := by have := hi.hi0; have := hi.lo0; simp only [V]; omega
      have h2 : 0 ≤ num (C s) := numpos _ h.ch
      rw [hz] at hv
      omega
    have hat := h.inv.at_
    refine ⟨hi, by omega, by omega, ?_, h.ex, h.zr, h.ch, h.le⟩
    · rw [← hv, hV, hz]; simp
  | d + 1, s, k, N, e, h, hk, hN => by
    have hr := inn2 9 (nine2 h) (by omega)
    rw [outr]
    by_cases hb : (inn 9 (nine s)).2 = true
    · rw [if_pos hb]
      exact hr.1 hb
    · rw [if_neg hb]
      exact outr2 d (hr.2 (by simpa using hb)) (by omega) hN
where
  numpos : ∀ (l : List UInt8), Chars l → 0 ≤ num l
  | [], _ => Int.le_refl _
  | c :: r, h => by
    have h1 := numpos r fun x hx => h x (List.mem_cons_of_mem _ hx)
    simp only [num]
    split
    · exact h1
    · rename_i hc
      rcases h c (List.mem_cons_self ..) with h2 | h2
      · exact absurd h2 hc
      · exact Int.add_nonneg (Int.mul_nonneg (by omega) (Int.pow_nonneg (by decide))) h1
theorem num_drop (R : Nat → Int) (n : Nat) : ∀ d, n + d ≤ 48 → (∀ p, n ≤ p → p < n + d → R p = 48) → num (txtL R n) = num (txtL R (n + d)) ∧ frc (txtL R n) = frc (txtL R (n + d))
  | 0, _, _ => ⟨rfl, rfl⟩
  | d + 1, h, hz => by
    have ih := num_drop R n d (by omega) fun p h1 h2 => hz p h1 (by omega)
    have hc := txtL_cons R (n + d) (by omega)
    rw [hz (n + d) (by omega) (by omega)] at hc
    have h48 : ub 48 = 48 := rfl
    rw [h48] at hc
    rw [ih.1, ih.2, hc]
    refine ⟨?_, ?_⟩
    · have hne : (48 : UInt8) ≠ 46 := by decide
      have ht : ((48 : UInt8).toNat : Int) - 48 = 0 := rfl
      simp only [num, if_neg hne, ht, Int.zero_mul, Int.zero_add]
      rfl
    · have hne : (48 : UInt8) ≠ 46 := by decide
      simp only [frc, if_neg hne]
      rfl
theorem txtL_chars (R : Nat → Int) (n : Nat) : ∀ d, n + d ≤ 48 → Chars (txtL R n) → Chars (txtL R (n + d))
  | 0, _, h => h
  | d + 1, hd, h => fun c hc => by
    have ih := txtL_chars R n d (by omega) h
    rw [txtL_cons R (n + d) (by omega)] at ih
    exact ih c (List.mem_cons_of_mem _ hc)
def exT (x : Int) : List UInt8 := if 0 < x then 69 :: 43 :: Lib.itoa x else if x < 0 then 69 :: Lib.itoa x else []
def sgT (sg : Int) : List UInt8 := if sg = 1 then [] else [45]
/-- A text of a finite number. -/
def Says (t : ByteArray) (sg N e : Int) : Prop := ∃ (body : List UInt8) (x : Int), t.data.toList = sgT sg ++ (body ++ exT x) ∧ Chars body ∧ num body = N ∧ x - (frc body : Int) = e
theorem finT_says (sg : Int) (hsg : sg = 0 ∨ sg = 1) (T : DS) (N e : Int) (h : F2 T N e) : Says (finT sg T) sg N e := by
  have hl0 := h.okd.last0
  have hl1 := h.okd.last1
  have hi0 := h.i0
  have hle := h.le
  have hd := num_drop T.R T.i.toNat (T.last.toNat - T.i.toNat) (by omega) (fun p h1 h2 => h.zr p h1 (by omega))
  have hcc := txtL_chars T.R T.i.toNat (T.last.toNat - T.i.toNat) (by omega) h.ch
  rw [show T.i.toNat + (T.last.toNat - T.i.toNat) = T.last.toNat from by omega] at hd hcc
  refine ⟨txtL T.R T.last.toNat, T.exp, ?_, hcc, by rw [← hd.1]; exact h.nm, by rw [← hd.2]; exact h.ex⟩
  have hb : (txtB (setR T.R (T.last - 1) 45) (T.last - 1 + sg).toNat).data.toList = sgT sg ++ txtL T.R T.last.toNat := by
    show txtL _ _ = _
    have hs := txtL_set T.R T.last 45 (by omega) hl1
    rcases hsg with rfl | rfl
    · rw [Int.add_zero, hs]; rfl
    · rw [show T.last - 1 + 1 = T.last from by omega]
      have h2 := txtL_cons (setR T.R (T.last - 1) 45) (T.last - 1).toNat (by omega)
      rw [hs, show (T.last - 1).toNat + 1 = T.last.toNat from by omega] at h2
      injection h2 with h3 h4
      rw [← h4]
      rfl
  unfold finT exT
  by_cases h1 : 0 < T.exp
  · rw [if_pos h1, if_pos h1]
    simp only [ByteArray.data_append, Array.toList_append, hb, itB]
    simp
  · rw [if_neg h1, if_neg h1]
    by_cases h2 : T.exp < 0
    · rw [if_pos h2, if_pos h2]
      simp only [ByteArray.data_append, Array.toList_append, hb, itB]
      simp
    · rw [if_neg h2, if_neg h2, hb]
      simp
theorem split_at (a b : List UInt8) (x y : Int) (ha : Chars a) (hb : Chars b) (h : a ++ exT x = b ++ exT y) : a = b ∧ exT x = exT y := by
  have hx : ∀ z c, (exT z).head? = some c → c = 69 := fun z c hc => by
    unfold exT at hc
    split at hc
    · simpa [eq_comm] using hc
    · split at hc
      · simpa [eq_comm] using hc
      · simp at hc
  induction a generalizing b with
  | nil =>
    cases b with
    | nil => exact ⟨rfl, h⟩
    | cons c r =>
      have := hx x c (by rw [show exT x = c :: (r ++ exT y) from h]; rfl)
      rcases hb c (List.mem_cons_self ..) with h2 | h2
      · rw [this] at h2; exact absurd h2 (by decide)
      · rw [this] at h2; exact absurd h2.2 (by decide)
  | cons c r ih =>
    cases b with
    | nil =>
      have := hx y c (by rw [show exT y = c :: (r ++ exT x) from h.symm]; rfl)
      rcases ha c (List.mem_cons_self ..) with h2 | h2
      · rw [this] at h2; exact absurd h2 (by decide)
      · rw [this] at h2; exact absurd h2.2 (by decide)
    | cons d t =>
      simp only [List.cons_append, List.cons.injEq] at h
      have := ih t (fun x hx => ha x (List.mem_cons_of_mem _ hx)) (fun x hx => hb x (List.mem_cons_of_mem _ hx)) h.2
      exact ⟨by rw [h.1, this.1], this.2⟩
theorem decDigits_inj : ∀ (a b : Nat), Lib.decDigits a = Lib.decDigits b → a = b := by
  have key : ∀ a : Nat, ∃ l c, Lib.decDigits a = l ++ [c] ∧ c = UInt8.ofNat (48 + a % 10) ∧ (10 ≤ a → l = Lib.decDigits (a / 10)) ∧ (a < 10 → l = []) := fun a => by
    rw [Lib.decDigits]
    by_cases h : a < 10
    · rw [dif_pos h]; exact ⟨[], _, rfl, by rw [Nat.mod_eq_of_lt h], fun h2 => by omega, fun _ => rfl⟩
    · rw [dif_neg h]; exact ⟨_, _, rfl, rfl, fun _ => rfl, fun h2 => absurd h2 h⟩
  have ne : ∀ a, Lib.decDigits a ≠ [] := fun a h => by
    obtain ⟨l, c, e, _⟩ := key a
    rw [e] at h; simp at h
  intro a
  induction a using Nat.strongRecOn with
  | _ a ih =>
    intro b h
    obtain ⟨l, c, e1, e2, e3, e4⟩ := key a
    obtain ⟨m, d, f1, f2, f3, f4⟩ := key b
    rw [e1, f1] at h
    have h2 := List.append_inj' h rfl
    have h3 : a % 10 = b % 10 := by
      have : c = d := by simpa using h2.2
      rw [e2, f2] at this
      have := congrArg UInt8.toNat this
      simp at this
      omega
    by_cases ha : a < 10
    · by_cases hb : b < 10
      · omega
      · have := f3 (by omega)
        rw [← h2.1, e4 ha] at this
        exact absurd this.symm (ne _)
    · by_cases hb : b < 10
      · have := e3 (by omega)
        rw [h2.1, f4 hb] at this
        exact absurd this.symm (ne _)
      · have := ih (a / 10) (by omega) (b / 10) (by rw [← e3 (by omega), ← f3 (by omega), h2.1])
        omega
theorem decDigits_no45 (a : Nat) : ∀ c ∈ Lib.decDigits a, 48 ≤ c.toNat := by
  induction a using Nat.strongRecOn with
  | _ a ih =>
    intro c hc
    rw [Lib.decDigits] at hc
    by_cases h : a < 10
    · rw [dif_pos h, List.mem_singleton] at hc
      subst hc
      simp; omega
    · rw [dif_neg h, List.mem_append, List.mem_singleton] at hc
      rcases hc with hc | rfl
      · exact ih (a / 10) (by omega) c hc
      · simp; omega
theorem exT_inj (x y : Int) (h : exT x = exT y) : x = y := by
  have dn : ∀ a : Nat, ∀ r, Lib.decDigits a = 43 :: r → False := fun a r e => by
    have := decDigits_no45 a 43 (by rw [e]; exact List.mem_cons_self ..)
    exact absurd this (by decide)
  unfold exT at h
  by_cases x1 : 0 < x
  · rw [if_pos x1] at h
    by_cases y1 : 0 < y
    · rw [if_pos y1] at h
      simp only [List.cons.injEq, true_and, Lib.itoa, if_neg (show ¬ x < 0 by omega), if_neg (show ¬ y < 0 by omega)] at h
      have := decDigits_inj _ _ h
      omega
    · rw [if_neg y1] at h
      by_cases y2 : y < 0
      · rw [if_pos y2] at h
        simp [Lib.itoa, y2] at h
      · rw [if_neg y2] at h; simp at h
  · rw [if_neg x1] at h
    by_cases x2 : x < 0
    · rw [if_pos x2] at h
      by_cases y1 : 0 < y
      · rw [if_pos y1] at h
        simp [Lib.itoa, x2] at h
      · rw [if_neg y1] at h
        by_cases y2 : y < 0
        · rw [if_pos y2] at h
          simp only [List.cons.injEq, true_and, Lib.itoa, if_pos x2, if_pos y2] at h
          have := decDigits_inj _ _ h
          omega
        · rw [if_neg y2] at h; simp at h
    · rw [if_neg x2] at h
      by_cases y1 : 0 < y
      · rw [if_pos y1] at h; simp at h
      · rw [if_neg y1] at h
        by_cases y2 : y < 0
        · rw [if_pos y2] at h; simp at h
        · omega
theorem says_head (t : ByteArray) (sg N e : Int) (hsg : sg = 0 ∨ sg = 1) (h : Says t sg N e) : (sg = 1 → ∀ c, t.data.toList.head? = some c → c ≠ 45 ∧ c ≠ 78 ∧ c ≠ 73) ∧ (sg = 0 → t.data.toList.head? = some 45 ∧ ∀ c, t.data.toList.tail.head? = some c → c ≠ 73) := by
  obtain ⟨body, x, ht, hc, _, _⟩ := h
  have hh : ∀ c, (body ++ exT x).head? = some c → c ≠ 45 ∧ c ≠ 78 ∧ c ≠ 73 := fun c h => by
    cases body with
    | nil =>
      simp only [List.nil_append, exT] at h
      split at h
      · simp at h; subst h; decide
      · split at h
        · simp at h; subst h; decide
        · simp at h
    | cons d r =>
      simp only [List.cons_append, List.head?_cons, Option.some.injEq] at h
      subst h
      rcases hc d (List.mem_cons_self ..) with rfl | h2
      · decide
      · refine ⟨?_, ?_, ?_⟩ <;> (rintro rfl; revert h2; decide)
  rcases hsg with rfl | rfl
  · refine ⟨fun h => by omega, fun _ => ?_⟩
    rw [ht]
    exact ⟨rfl, fun c h => (hh c h).2.2⟩
  · refine ⟨fun _ => ?_, fun h => by omega⟩
    rw [ht]
    exact hh
theorem says_inj (t : ByteArray) (s1 N1 e1 s2 N2 e2 : Int) (h1 : s1 = 0 ∨ s1 = 1) (h2 : s2 = 0 ∨ s2 = 1) (g1 : Says t s1 N1 e1) (g2 : Says t s2 N2 e2) : s1 = s2 ∧ N1 = N2 ∧ e1 = e2 := by
  have k1 := says_head t s1 N1 e1 h1 g1
  have k2 := says_head t s2 N2 e2 h2 g2
  have hs : s1 = s2 := by
    rcases h1 with rfl | rfl <;> rcases h2 with rfl | rfl
    · rfl
    · exact absurd rfl (k2.1 rfl 45 (k1.2 rfl).1).1
    · exact absurd rfl (k1.1 rfl 45 (k2.2 rfl).1).1
    · rfl
  subst hs
  obtain ⟨b1, x1, t1, c1, n1, f1⟩ := g1
  obtain ⟨b2, x2, t2, c2, n2, f2⟩ := g2
  rw [t1] at t2
  have hq := List.append_cancel_left t2
  obtain ⟨hb, hx⟩ := split_at b1 b2 x1 x2 c1 c2 hq
  have hxx := exT_inj _ _ hx
  subst hb hxx
  exact ⟨rfl, by rw [← n1, n2], by rw [← f1, f2]⟩
end Go.Proofs.YtjjfdamlicoeeaaDoor.X
