/- Contracts of decDigits and of DecOf (its kind and its sign). -/
import Derived.Test.YtfpnhlfmnoikhaaDec2
set_option linter.unusedVariables false
set_option linter.unusedSimpArgs false
namespace Go.Proofs.Ytfpnhlfmnoikhaa.X
open Go.RowKit
theorem decDigits (N : Nat) (w : World) (hN : N < 340282366920938463463374607431768211456) :
    Calls Try.prog 38 #[.int .u64 (hiOf N), .int .u64 (loOf N)] w fun e w' => e = .returned (.string ⟨(digs N).toArray⟩) ∧ Below w.heap.size w w' := by
  by_cases h0 : N = 0
  · subst h0
    show Calls Try.prog 38 #[.int .u64 0, .int .u64 0] w _
    go_enter Try.func38, Try.ntmps38
    go_wp2
    go_ret
    exact ⟨rfl, Below.refl _ _⟩
  · have h := decDigits_loop N w (Lib.hid hN) (by
      by_cases h : hiOf N = 0
      · refine .inr ⟨h, ?_⟩
        simp only [beq_eq_false_iff_ne, ne_eq]
        exact fun h2 => h0 (Dig.lo0 h h2)
      · exact .inl (by simpa using h))
    rw [show digs N = decl N from by simp [digs, h0]]
    exact h
theorem digits_any (a b : Int) (w : World) (h1 : 0 ≤ a) (h2 : a ≤ 18446744073709551615) (h3 : 0 ≤ b) (h4 : b ≤ 18446744073709551615) :
    Calls Try.prog 38 #[.int .u64 a, .int .u64 b] w fun e w' => e = .returned (.string ⟨(digs (a * 18446744073709551616 + b).toNat).toArray⟩) ∧ Below w.heap.size w w' := by
  have h := decDigits (a * 18446744073709551616 + b).toNat w (by omega)
  rw [show hiOf (a * 18446744073709551616 + b).toNat = a from by simp only [hiOf]; omega, show loOf (a * 18446744073709551616 + b).toNat = b from by simp only [loOf]; omega] at h
  exact h

/-- The kind of a number: 1 infinite, 2 none, 0 finite. -/
def kindOf (k5 : Int) : Int := if k5 = 30 then 1 else if k5 = 31 then 2 else 0
set_option maxHeartbeats 6400000 in
theorem decOf_kind (hi lo : Int) (w : World) (h1 : 0 ≤ hi) (h2 : hi ≤ 18446744073709551615) (h3 : 0 ≤ lo) (h4 : lo ≤ 18446744073709551615) :
    Calls Try.prog 19 #[.int .u64 hi, .int .u64 lo] w fun e w' => ∃ s x, e = .returned (.agg #[.int .i64 (kindOf (bits .and .u64 (hi / 288230376151711744) 31)), .bool (hi / 9223372036854775808 == 1), .string s, .int .i64 x]) ∧ Below w.heap.size w w' := by
  obtain ⟨k5, hk5⟩ : ∃ x, bits .and .u64 (hi / 288230376151711744) 31 = x := ⟨_, rfl⟩
  obtain ⟨e3, he3⟩ : ∃ x, bits .and .u64 (hi / 2305843009213693952) 3 = x := ⟨_, rfl⟩
  obtain ⟨cf, hcf⟩ : ∃ x, bits .and .u64 hi 562949953421311 = x := ⟨_, rfl⟩
  have hcf2 : cf = hi % 562949953421312 := by rw [← hcf]; exact bits_mask .u64 64 (by decide) wraps_u64 49 (by decide) hi h1 (by omega)
  have hcr : 0 ≤ cf ∧ cf ≤ 18446744073709551615 := by omega
  obtain ⟨ng, hng⟩ : ∃ x, (hi / 9223372036854775808 == 1) = x := ⟨_, rfl⟩
  rw [hk5, hng]
  clear hcf2
  by_cases a30 : k5 = 30
  · subst a30
    go_enter Try.func19, Try.ntmps19
    go_wp2
    exact bodyPost_ret (v := .agg #[.int .i64 1, .bool ng, (.string ⟨#[]⟩), .int .i64 0]) (by simp [results, Try.results19, go_sem]) rfl ⟨_, _, rfl, balloc (balloc (Below.refl _ _) (Nat.le_refl _) _) (by simp) _⟩
  have b30 : (k5 == 30) = false := by simpa using a30
  by_cases a31 : k5 = 31
  · subst a31
    go_enter Try.func19, Try.ntmps19
    go_wp2
    exact bodyPost_ret (v := .agg #[.int .i64 2, .bool ng, (.string ⟨#[]⟩), .int .i64 0]) (by simp [results, Try.results19, go_sem]) rfl ⟨_, _, rfl, balloc (balloc (Below.refl _ _) (Nat.le_refl _) _) (by simp) _⟩
  have b31 : (k5 == 31) = false := by simpa using a31
  have hK : kindOf k5 = 0 := by simp [kindOf, a30, a31]
  rw [hK]
  by_cases a3 : e3 = 3
  · subst a3
    go_enter Try.func19, Try.ntmps19
    go_wp2
    refine bodyPost_ret (v := .agg #[.int .i64 0, .bool ng, .string ⟨#[48]⟩, .int .i64 _]) (by simp [results, Try.results19, go_sem]; rfl) rfl ⟨_, _, rfl, balloc (balloc (Below.refl _ _) (Nat.le_refl _) _) (by simp) _⟩
  have b3 : (e3 == 3) = false := by simpa using a3
  go_enter Try.func19, Try.ntmps19
  go_wp2_with fail
  refine (digits_any cf lo _ hcr.1 hcr.2 h3 h4).mono ?_
  rintro e w1 ⟨rfl, hb1⟩
  obtain ⟨s, hs⟩ : ∃ x, x = (⟨(digs (cf * 18446744073709551616 + lo).toNat).toArray⟩ : ByteArray) := ⟨_, rfl⟩
  rw [← hs]
  clear hs
  have c0 : w1.cell? ⟨w.heap.size, 0, none⟩ = some (.int .i64 0) := (hb1.cell (by simp; try omega)).trans (by go_simp)
  have fc0 : w1.frozen? ⟨w.heap.size, 0, none⟩ = false := (hb1.frozen (by simp; try omega)).trans (by go_simp)
  have c1 : w1.cell? ⟨w.heap.size, 1, none⟩ = some (.bool false) := (hb1.cell (by simp; try omega)).trans (by go_simp)
  have fc1 : w1.frozen? ⟨w.heap.size, 1, none⟩ = false := (hb1.frozen (by simp; try omega)).trans (by go_simp)
  have c2 : w1.cell? ⟨w.heap.size, 2, none⟩ = some (.string ⟨#[]⟩) := (hb1.cell (by simp; try omega)).trans (by go_simp)
  have fc2 : w1.frozen? ⟨w.heap.size, 2, none⟩ = false := (hb1.frozen (by simp; try omega)).trans (by go_simp)
  have c3 : w1.cell? ⟨w.heap.size, 3, none⟩ = some (.int .i64 0) := (hb1.cell (by simp; try omega)).trans (by go_simp)
  have fc3 : w1.frozen? ⟨w.heap.size, 3, none⟩ = false := (hb1.frozen (by simp; try omega)).trans (by go_simp)
  have d0 : w1.cell? ⟨w.heap.size + 1, 0, none⟩ = some (.int .i64 0) := (hb1.cell (by simp; try omega)).trans (by go_simp)
  have fd0 : w1.frozen? ⟨w.heap.size + 1, 0, none⟩ = false := (hb1.frozen (by simp; try omega)).trans (by go_simp)
  have d1 : w1.cell? ⟨w.heap.size + 1, 1, none⟩ = some (.bool ng) := (hb1.cell (by simp; try omega)).trans (by go_simp)
  have fd1 : w1.frozen? ⟨w.heap.size + 1, 1, none⟩ = false := (hb1.frozen (by simp; try omega)).trans (by go_simp)
  have d2 : w1.cell? ⟨w.heap.size + 1, 2, none⟩ = some (.string ⟨#[]⟩) := (hb1.cell (by simp; try omega)).trans (by go_simp)
  have fd2 : w1.frozen? ⟨w.heap.size + 1, 2, none⟩ = false := (hb1.frozen (by simp; try omega)).trans (by go_simp)
  have d3 : w1.cell? ⟨w.heap.size + 1, 3, none⟩ = some (.int .i64 0) := (hb1.cell (by simp; try omega)).trans (by go_simp)
  have fd3 : w1.frozen? ⟨w.heap.size + 1, 3, none⟩ = false := (hb1.frozen (by simp; try omega)).trans (by go_simp)
  have hz : w.heap.size + 1 < w1.heap.size := by have := hb1.size; simp at this; omega
  have hB : Below w.heap.size w w1 := (balloc (balloc (Below.refl _ _) (Nat.le_refl _) _) (by simp) _).trans (hb1.mono (by simp; omega))
  go_wp2
  refine bodyPost_ret (v := .agg #[.int .i64 0, .bool ng, .string s, .int .i64 _]) (by simp [results, Try.results19, go_sem, c0, c1, c2, c3, d0, d1, d2, d3, hz]; rfl) rfl ⟨_, _, rfl, ?_⟩
  exact (((((hB.setCell (by simp) _).setCell (by simp) _).setCell (Nat.le_refl _) _).setCell (Nat.le_refl _) _).setCell (Nat.le_refl _) _).setCell (Nat.le_refl _) _
end Go.Proofs.Ytfpnhlfmnoikhaa.X
