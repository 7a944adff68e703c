/- The text of 128 bits, as decimal128.String makes it: plain law. No conditions: plain lemmas. -/
import Derived.Test.YtjjfdamlicoeeaaDoorDmod
set_option linter.unusedVariables false
set_option linter.unusedSimpArgs false
set_option maxRecDepth 100000
namespace Go.Proofs.YtjjfdamlicoeeaaDoor.X
/-- What the loops hold: the coefficient, the digits at hand, the exponent, where the text begins and ends, where the point comes, the text. -/
structure DS where
  hi : Int
  lo : Int
  rem : Int
  exp : Int
  i : Int
  last : Int
  dot : Int
  R : Nat → Int
def setR (R : Nat → Int) (i : Int) (c : Int) : Nat → Int := fun j => if j = i.toNat then c else R j
def condA (s : DS) : Bool := decide (s.i < 48) && (decide (s.dot = s.i) || (decide (s.lo = 0) && decide (s.hi = 0) && decide (0 < s.rem) && decide (s.rem < 10) && (decide (s.dot < s.i - 6) || decide (0 < s.exp))))
def dotS (s : DS) : DS := { s with exp := s.exp + (48 - s.i), i := s.i - 1, R := setR s.R (s.i - 1) 46, last := s.i - 1 - 1, dot := 48 }
def dig (s : DS) : DS := { s with rem := s.rem / 10, i := s.i - 1, R := setR s.R (s.i - 1) (48 + s.rem % 10) }
def condB (s : DS) : Bool := decide (s.lo = 0) && decide (s.hi = 0) && decide (s.rem = 0) && decide (s.i = 47) && (decide (s.dot < s.i - 5) || decide (0 < s.exp))
def condC (s : DS) : Bool := decide (s.i < s.dot) && decide (s.lo = 0) && decide (s.hi = 0) && decide (s.rem = 0)
def lastS (s : DS) : DS := { s with last := s.i }
/-- One round of the inner loop; whether it is the last one of both. -/
def round (s : DS) : DS × Bool :=
  let a := if condA s then dotS s else s
  let b := dig a
  if condB b then (lastS b, true)
  else
    let c := if a.rem % 10 = 0 then b else lastS b
    (c, condC c)
def inn : Nat → DS → DS × Bool
  | 0, s => (s, false)
  | n + 1, s => if (round s).2 then ((round s).1, true) else inn n (round s).1
def nine (s : DS) : DS := { s with hi := dmH s.hi s.lo, lo := dmL s.hi s.lo, rem := dmR s.hi s.lo }
def outr : Nat → DS → DS
  | 0, s => s
  | n + 1, s => if (inn 9 (nine s)).2 then (inn 9 (nine s)).1 else outr n (inn 9 (nine s)).1
/-- What always holds. -/
structure Okd (s : DS) : Prop where
  hi0 : 0 ≤ s.hi
  hi1 : s.hi ≤ 18446744073709551615
  lo0 : 0 ≤ s.lo
  lo1 : s.lo ≤ 18446744073709551615
  rem0 : 0 ≤ s.rem
  rem1 : s.rem < 1000000000
  exp0 : -7000 ≤ s.exp
  exp1 : s.exp ≤ 12000
  dot0 : -7000 ≤ s.dot
  dot1 : s.dot ≤ 12000
  last0 : 2 ≤ s.last
  last1 : s.last ≤ 48
  cell : ∀ j, 0 ≤ s.R j ∧ s.R j ≤ 255
/-- What holds at the head of a round, k digits written. -/
structure Inv (s : DS) (k : Nat) : Prop where
  ok : Okd s
  at_ : (s.i = 48 - (k : Int) ∧ s.dot = 48 + s.exp ∧ -6176 ≤ s.exp ∧ s.exp ≤ 11000) ∨ (s.i = 47 - (k : Int) ∧ s.dot = 48 ∧ s.exp = 0)
theorem setR_cell {R : Nat → Int} {i c : Int} (h : ∀ j, 0 ≤ R j ∧ R j ≤ 255) (hc : 0 ≤ c ∧ c ≤ 255) : ∀ j, 0 ≤ setR R i c j ∧ setR R i c j ≤ 255 := fun j => by
  unfold setR
  split
  · exact hc
  · exact h j
/-- Behind the point's test. -/
def aft (s : DS) : DS := if condA s then dotS s else s
theorem aft_ok {s : DS} {k : Nat} (h : Inv s k) (hk : k ≤ 44) : Okd (aft s) ∧ (aft s).hi = s.hi ∧ (aft s).lo = s.lo ∧ (aft s).rem = s.rem ∧ 3 ≤ (aft s).i ∧ (aft s).i ≤ 48 ∧
    (((aft s).i = 48 - (k : Int) ∧ (aft s).dot = 48 + (aft s).exp ∧ -6176 ≤ (aft s).exp ∧ (aft s).exp ≤ 11000) ∨ ((aft s).i = 47 - (k : Int) ∧ (aft s).dot = 48 ∧ ((aft s).exp = 0 ∨ (s.lo = 0 ∧ s.hi = 0 ∧ s.rem < 10)))) := by
  obtain ⟨⟨a1, a2, a3, a4, a5, a6, a7, a8, a9, a10, a11, a12, a13⟩, hat⟩ := h
  unfold aft
  by_cases hA : condA s = true
  · rw [if_pos hA]
    simp only [condA, Bool.and_eq_true, Bool.or_eq_true, decide_eq_true_eq] at hA
    obtain ⟨hi, hA⟩ := hA
    rcases hat with ⟨e1, e2, e3, e4⟩ | ⟨e1, e2, e3⟩
    · refine ⟨⟨a1, a2, a3, a4, a5, a6, ?_, ?_, ?_, ?_, ?_, ?_, setR_cell a13 (by omega)⟩, rfl, rfl, rfl, ?_, ?_, .inr ⟨?_, rfl, ?_⟩⟩
      all_goals simp only [dotS]
      all_goals omega
    · exfalso; omega
  · rw [if_neg hA]
    refine ⟨⟨a1, a2, a3, a4, a5, a6, a7, a8, a9, a10, a11, a12, a13⟩, rfl, rfl, rfl, by omega, by omega, ?_⟩
    rcases hat with e | ⟨e1, e2, e3⟩
    · exact .inl e
    · exact .inr ⟨e1, e2, .inl e3⟩
theorem round_ok {s : DS} {k : Nat} (h : Inv s k) (hk : k ≤ 44) : Okd (round s).1 ∧ (round s).1.hi = s.hi ∧ (round s).1.lo = s.lo ∧ ((round s).2 = false → Inv (round s).1 (k + 1)) := by
  obtain ⟨⟨a1, a2, a3, a4, a5, a6, a7, a8, a9, a10, a11, a12, a13⟩, h1, h2, h3, h4, h5, h6⟩ := aft_ok h hk
  have hd : Okd (dig (aft s)) := ⟨a1, a2, a3, a4, by simp only [dig]; omega, by simp only [dig]; omega, a7, a8, a9, a10, a11, a12, setR_cell a13 (by omega)⟩
  have hl : Okd (lastS (dig (aft s))) := ⟨hd.1, hd.2, hd.3, hd.4, hd.5, hd.6, hd.7, hd.8, hd.9, hd.10, by simp only [lastS, dig]; omega, by simp only [lastS, dig]; omega, hd.13⟩
  have e : round s = if condB (dig (aft s)) then (lastS (dig (aft s)), true) else (if (aft s).rem % 10 = 0 then dig (aft s) else lastS (dig (aft s)), condC (if (aft s).rem % 10 = 0 then dig (aft s) else lastS (dig (aft s)))) := rfl
  rw [e]
  by_cases hB : condB (dig (aft s)) = true
  · rw [if_pos hB]
    exact ⟨hl, h1, h2, fun h => by cases h⟩
  · rw [if_neg hB]
    have key : ∀ c : DS, Okd c → c.i = (dig (aft s)).i → c.dot = (aft s).dot → c.exp = (aft s).exp → c.hi = s.hi → c.lo = s.lo → c.rem = (aft s).rem / 10 → condC c = false → Inv c (k + 1) := by
      intro c hc ci cd ce ch cl cr hC
      refine ⟨hc, ?_⟩
      simp only [condC, Bool.and_eq_false_iff, decide_eq_false_iff_not] at hC
      simp only [dig] at ci
      rcases h6 with ⟨e1, e2, e3, e4⟩ | ⟨e1, e2, e3⟩
      · exact .inl (by omega)
      · exact .inr (by omega)
    by_cases hz : (aft s).rem % 10 = 0
    · rw [if_pos hz]
      exact ⟨hd, h1, h2, fun h => key _ hd rfl rfl rfl h1 h2 rfl h⟩
    · rw [if_neg hz]
      exact ⟨hl, h1, h2, fun h => key _ hl rfl rfl rfl h1 h2 rfl h⟩
theorem nine_ok {s : DS} {k : Nat} (h : Inv s k) : Inv (nine s) k := by
  obtain ⟨⟨a1, a2, a3, a4, a5, a6, a7, a8, a9, a10, a11, a12, a13⟩, hat⟩ := h
  refine ⟨⟨?_, ?_, ?_, ?_, ?_, ?_, a7, a8, a9, a10, a11, a12, a13⟩, hat⟩
  all_goals simp only [nine, dmH, dmL, dmR]
  all_goals omega
theorem round_step (H L r ex i la dt : Int) (R : Nat → Int) (d j : Nat) (hinv : Inv ⟨H, L, r, ex, i, la, dt, R⟩ (9 * d + j)) (hd : d < 5) (hj : j < 9) (F : DS × Bool) (T : DS) (hF : inn (9 - j) ⟨H, L, r, ex, i, la, dt, R⟩ = F) (hO : T = if F.2 then F.1 else outr (5 - (d + 1)) F.1)
    (ae ai al ad : Int) (aR : Nat → Int) (hA : aft ⟨H, L, r, ex, i, la, dt, R⟩ = ⟨H, L, r, ae, ai, al, ad, aR⟩) (rz y bi cl : Int) (bR : Nat → Int) (hrz : rz = r / 10) (hy : y = r % 10) (hbi : bi = ai - 1) (hbR : bR = setR aR (ai - 1) (48 + y)) (hcl : cl = if y = 0 then al else bi)
    (cB cC : Bool) (hB : cB = condB ⟨H, L, rz, ae, bi, al, ad, bR⟩) (hC : cC = condC ⟨H, L, rz, ae, bi, cl, ad, bR⟩) :
    (cB = true → T = ⟨H, L, rz, ae, bi, bi, ad, bR⟩ ∧ Okd T) ∧ (cB = false → cC = true → T = ⟨H, L, rz, ae, bi, cl, ad, bR⟩ ∧ Okd T) ∧
    (cB = false → cC = false → inn (9 - (j + 1)) ⟨H, L, rz, ae, bi, cl, ad, bR⟩ = F ∧ Inv ⟨H, L, rz, ae, bi, cl, ad, bR⟩ (9 * d + (j + 1))) := by
  have hr := round_ok hinv (by omega)
  have e : round ⟨H, L, r, ex, i, la, dt, R⟩ = if condB (dig (aft ⟨H, L, r, ex, i, la, dt, R⟩)) then (lastS (dig (aft ⟨H, L, r, ex, i, la, dt, R⟩)), true) else (if (aft ⟨H, L, r, ex, i, la, dt, R⟩).rem % 10 = 0 then dig (aft ⟨H, L, r, ex, i, la, dt, R⟩) else lastS (dig (aft ⟨H, L, r, ex, i, la, dt, R⟩)), condC (if (aft ⟨H, L, r, ex, i, la, dt, R⟩).rem % 10 = 0 then dig (aft ⟨H, L, r, ex, i, la, dt, R⟩) else lastS (dig (aft ⟨H, L, r, ex, i, la, dt, R⟩)))) := rfl
  rw [hA] at e
  have eb : dig ⟨H, L, r, ae, ai, al, ad, aR⟩ = ⟨H, L, rz, ae, bi, al, ad, bR⟩ := by subst hrz hy hbi hbR; rfl
  rw [eb] at e
  have ec : (if ((⟨H, L, r, ae, ai, al, ad, aR⟩ : DS).rem % 10 = 0) then (⟨H, L, rz, ae, bi, al, ad, bR⟩ : DS) else lastS ⟨H, L, rz, ae, bi, al, ad, bR⟩) = ⟨H, L, rz, ae, bi, cl, ad, bR⟩ := by
    subst hcl
    show (if r % 10 = 0 then _ else _) = _
    rw [← hy]
    by_cases hy0 : y = 0
    · rw [if_pos hy0, if_pos hy0]
    · rw [if_neg hy0, if_neg hy0]; rfl
  rw [ec, ← hB, ← hC] at e
  have el : lastS ⟨H, L, rz, ae, bi, al, ad, bR⟩ = ⟨H, L, rz, ae, bi, bi, ad, bR⟩ := rfl
  rw [el] at e
  rw [show 9 - j = (9 - (j + 1)) + 1 from by omega, inn] at hF
  refine ⟨fun h => ?_, fun h g => ?_, fun h g => ?_⟩
  · rw [if_pos h] at e
    rw [e] at hF hr
    rw [if_pos rfl] at hF
    rw [← hF, if_pos rfl] at hO
    rw [hO]
    exact ⟨rfl, hr.1⟩
  · rw [if_neg (by rw [h]; simp), g] at e
    rw [e] at hF hr
    rw [if_pos rfl] at hF
    rw [← hF, if_pos rfl] at hO
    rw [hO]
    exact ⟨rfl, hr.1⟩
  · rw [if_neg (by rw [h]; simp), g] at e
    rw [e] at hF hr
    rw [if_neg (by simp)] at hF
    exact ⟨hF, hr.2.2.2 rfl⟩
theorem done_inner (s : DS) (d : Nat) (F : DS × Bool) (T : DS) (hF : inn (9 - 9) s = F) (hO : T = if F.2 then F.1 else outr (5 - (d + 1)) F.1) : outr (5 - (d + 1)) s = T := by
  have e : F = (s, false) := hF.symm
  rw [e, if_neg (by simp)] at hO
  exact hO.symm
end Go.Proofs.YtjjfdamlicoeeaaDoor.X
