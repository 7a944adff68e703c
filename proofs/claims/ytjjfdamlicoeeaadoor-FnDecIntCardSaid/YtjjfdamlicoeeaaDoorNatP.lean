/- Numbers as digits of 32 bits, the least first; decimal digits, the last first. No conditions: plain lemmas. -/
import Derived.Test.YtjjfdamlicoeeaaDoorDxc
import Derived.Test.YtjjfdamlicoeeaaDoorVecS
set_option linter.unusedVariables false
set_option linter.unusedSimpArgs false
set_option maxRecDepth 100000
namespace Go.Proofs.YtjjfdamlicoeeaaDoor.X
open Go.RowKit
def nv : List Nat → Nat
  | [] => 0
  | a :: r => a + 4294967296 * nv r
def nat32 (N : Nat) : List Nat := if h : N = 0 then [] else (N % 4294967296) :: nat32 (N / 4294967296)
termination_by N
decreasing_by omega
theorem nat32_zero : nat32 0 = [] := by rw [nat32]; simp
theorem nat32_step (N : Nat) (h : N ≠ 0) : nat32 N = (N % 4294967296) :: nat32 (N / 4294967296) := by rw [nat32]; simp [h]
theorem nv_nat32 (N : Nat) : nv (nat32 N) = N := by
  induction N using Nat.strongRecOn with
  | _ N ih =>
    by_cases h : N = 0
    · subst h; rw [nat32_zero]; rfl
    · rw [nat32_step N h, nv, ih _ (by omega)]; omega
def Low (l : List Nat) : Prop := ∀ a ∈ l, a < 4294967296
theorem nat32_low (N : Nat) : Low (nat32 N) := by
  induction N using Nat.strongRecOn with
  | _ N ih =>
    intro a ha
    by_cases h : N = 0
    · subst h; rw [nat32_zero] at ha; simp at ha
    · rw [nat32_step N h, List.mem_cons] at ha
      rcases ha with rfl | ha
      · omega
      · exact ih _ (by omega) a ha
theorem nat32_len (k : Nat) : ∀ N, N < 4294967296 ^ k → (nat32 N).length ≤ k := by
  induction k with
  | zero =>
    intro N h
    have h0 : N = 0 := by simpa using h
    rw [h0, nat32_zero]; simp
  | succ k ih =>
    intro N h
    by_cases h0 : N = 0
    · subst h0; rw [nat32_zero]; simp
    · rw [nat32_step N h0, List.length_cons]
      have := ih (N / 4294967296) (by rw [Nat.pow_succ] at h; omega)
      omega
theorem nat32_nil (N : Nat) (h : (nat32 N).length = 0) : N = 0 := by
  have := List.eq_nil_of_length_eq_zero h
  rw [← nv_nat32 N, this]; rfl
theorem nat32_pos (N : Nat) (h : N ≠ 0) : 0 < (nat32 N).length := by rw [nat32_step N h]; simp
theorem nat32_cons (a : Nat) (r : List Nat) (ha : a < 4294967296) (h : 0 < nv r ∨ 0 < a) (hr : nat32 (nv r) = r) : nat32 (nv (a :: r)) = a :: r := by
  rw [nat32_step _ (by simp only [nv]; omega)]
  simp only [nv]
  rw [show (a + 4294967296 * nv r) % 4294967296 = a from by omega, show (a + 4294967296 * nv r) / 4294967296 = nv r from by omega, hr]
theorem nv_snoc0 (l : List Nat) : nv (l ++ [0]) = nv l := by
  induction l with
  | nil => rfl
  | cons a r ih => simp only [List.cons_append, nv, ih]
theorem nv_snoc_pos (l : List Nat) (a : Nat) (h : 0 < a) : 0 < nv (l ++ [a]) := by
  induction l with
  | nil => simp only [List.nil_append, nv]; omega
  | cons b r ih => simp only [List.cons_append, nv]; omega
theorem nat32_snoc (l : List Nat) (a : Nat) (hl : Low (l ++ [a])) (h : 0 < a) : nat32 (nv (l ++ [a])) = l ++ [a] := by
  induction l with
  | nil => exact nat32_cons a [] (hl a (by simp)) (.inr h) (by simp only [nv]; exact nat32_zero)
  | cons b r ih => exact nat32_cons b (r ++ [a]) (hl b (by simp)) (.inl (nv_snoc_pos r a h)) (ih fun x hx => hl x (List.mem_cons_of_mem _ hx))
theorem nv_lt : ∀ (l : List Nat), Low l → nv l < 4294967296 ^ l.length
  | [], _ => by simp [nv]
  | a :: r, h => by
    have h1 := nv_lt r fun x hx => h x (List.mem_cons_of_mem _ hx)
    have h2 := h a (List.mem_cons_self ..)
    simp only [nv, List.length_cons, Nat.pow_succ]
    omega
/-! ### decimal digits -/
def rdig (N : Nat) : List UInt8 := (decl N).reverse
theorem rdig_zero : rdig 0 = [] := by rw [rdig, decl_zero]; rfl
theorem rdig_step (N : Nat) (h : N ≠ 0) : rdig N = ub (48 + ((N % 10 : Nat) : Int)) :: rdig (N / 10) := by
  rw [rdig, decl_step N h, List.reverse_append]; rfl
theorem rdig_round (M r p : Nat) (h : 0 < M * (10 * p) + r) (hp : 0 < p) : rdig (M * (10 * p) + r) = ub (48 + ((r % 10 : Nat) : Int)) :: rdig (M * p + r / 10) := by
  rw [rdig_step _ (by omega)]
  have h1 : (M * (10 * p) + r) % 10 = r % 10 := by
    rw [show M * (10 * p) = 10 * (M * p) from by rw [Nat.mul_left_comm]]; omega
  have h2 : (M * (10 * p) + r) / 10 = M * p + r / 10 := by
    rw [show M * (10 * p) = 10 * (M * p) from by rw [Nat.mul_left_comm]]; omega
  rw [h1, h2]
/-- The text of a whole number. -/
def intT (neg : Bool) (N : Nat) : List UInt8 := if N = 0 then [48] else if neg then 45 :: decl N else decl N
end Go.Proofs.YtjjfdamlicoeeaaDoor.X
