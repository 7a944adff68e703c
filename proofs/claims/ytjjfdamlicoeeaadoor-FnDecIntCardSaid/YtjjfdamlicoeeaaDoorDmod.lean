/- Contract of decimal128.divmod by 10^9. -/
import Derived.Test.YtjjfdamlicoeeaaDoorWords
import Derived.Laws.BitsLemmas
import Derived.Laws.MathBits
import Derived.Lib.EndianBits
import Derived.IntWalk
set_option linter.unusedVariables false
set_option linter.unusedSimpArgs false
set_option maxRecDepth 100000
namespace Go.Proofs.YtjjfdamlicoeeaaDoor.X
open Go.RowKit
theorem or_low (x y : Int) (hx : 0 ≤ x) (hx2 : x < 4294967296) (hy : 0 ≤ y) (hy2 : y < 4294967296) : bits .or .u64 (x * 4294967296) y = x * 4294967296 + y :=
  bits_join .u64 64 (by decide) wraps_u64 32 (x * 4294967296) y (by omega) (by omega) (by omega) hy (by omega) (by omega)
/-- A number of 128 bits, divided by 10^9: the upper and the lower part, and the rest. -/
def dmH (h l : Int) : Int := (h * 18446744073709551616 + l) / 1000000000 / 18446744073709551616
def dmL (h l : Int) : Int := (h * 18446744073709551616 + l) / 1000000000 % 18446744073709551616
def dmR (h l : Int) : Int := (h * 18446744073709551616 + l) % 1000000000
set_option maxHeartbeats 2000000 in
theorem divmod (hi lo : Int) (w : World) (h1 : 0 ≤ hi) (h2 : hi ≤ 18446744073709551615) (h3 : 0 ≤ lo) (h4 : lo ≤ 18446744073709551615) :
    Calls Tryd.prog 56 #[.int .u64 hi, .int .u64 lo, .int .u32 1000000000] w fun e w' => e = .returned (.tuple #[.int .u64 (dmH hi lo), .int .u64 (dmL hi lo), .int .u32 (dmR hi lo)]) ∧ w = w' := by
  obtain ⟨a, ha⟩ : ∃ a, hi / 4294967296 = a := ⟨_, rfl⟩
  obtain ⟨b, hb⟩ : ∃ a, hi % 4294967296 = a := ⟨_, rfl⟩
  obtain ⟨c, hc⟩ : ∃ a, lo / 4294967296 = a := ⟨_, rfl⟩
  obtain ⟨d, hd⟩ : ∃ a, lo % 4294967296 = a := ⟨_, rfl⟩
  have hb' : bits .and .u64 hi 4294967295 = b := by rw [and_low32 hi h1 (by omega)]; exact hb
  have hd' : bits .and .u64 lo 4294967295 = d := by rw [and_low32 lo h3 (by omega)]; exact hd
  obtain ⟨q1, hq1⟩ : ∃ q, q = a / 1000000000 := ⟨_, rfl⟩
  obtain ⟨r1, hr1⟩ : ∃ q, q = a % 1000000000 := ⟨_, rfl⟩
  obtain ⟨n2, hn2⟩ : ∃ q, q = r1 * 4294967296 + b := ⟨_, rfl⟩
  obtain ⟨q2, hq2⟩ : ∃ q, q = n2 / 1000000000 := ⟨_, rfl⟩
  obtain ⟨r2, hr2⟩ : ∃ q, q = n2 % 1000000000 := ⟨_, rfl⟩
  obtain ⟨n3, hn3⟩ : ∃ q, q = r2 * 4294967296 + c := ⟨_, rfl⟩
  obtain ⟨q3, hq3⟩ : ∃ q, q = n3 / 1000000000 := ⟨_, rfl⟩
  obtain ⟨r3, hr3⟩ : ∃ q, q = n3 % 1000000000 := ⟨_, rfl⟩
  obtain ⟨n4, hn4⟩ : ∃ q, q = r3 * 4294967296 + d := ⟨_, rfl⟩
  obtain ⟨q4, hq4⟩ : ∃ q, q = n4 / 1000000000 := ⟨_, rfl⟩
  obtain ⟨r4, hr4⟩ : ∃ q, q = n4 % 1000000000 := ⟨_, rfl⟩
  have D1 : 0 ≤ a ∧ a < 4294967296 := by omega
  have D2 : 0 ≤ b ∧ b < 4294967296 := by omega
  have D3 : 0 ≤ c ∧ c < 4294967296 := by omega
  have D4 : 0 ≤ d ∧ d < 4294967296 := by omega
  have B1 : 0 ≤ r1 ∧ r1 < 1000000000 := by omega
  have B2 : 0 ≤ r2 ∧ r2 < 1000000000 := by omega
  have B3 : 0 ≤ r3 ∧ r3 < 1000000000 := by omega
  have B4 : 0 ≤ r4 ∧ r4 < 1000000000 := by omega
  have t1 : IntKind.u64.wrap (a.tdiv 1000000000) = q1 := by rw [IntWalk.u64_quo a 1000000000 (by omega)]; omega
  have t2 : IntKind.u64.wrap (n2.tdiv 1000000000) = q2 := by rw [IntWalk.u64_quo n2 1000000000 (by omega)]; omega
  have t3 : IntKind.u64.wrap (n3.tdiv 1000000000) = q3 := by rw [IntWalk.u64_quo n3 1000000000 (by omega)]; omega
  have t4 : IntKind.u64.wrap (n4.tdiv 1000000000) = q4 := by rw [IntWalk.u64_quo n4 1000000000 (by omega)]; omega
  have m1 : a.tmod 1000000000 = r1 := by rw [Int.tmod_eq_emod_of_nonneg (by omega)]; omega
  have m2 : n2.tmod 1000000000 = r2 := by rw [Int.tmod_eq_emod_of_nonneg (by omega)]; omega
  have m3 : n3.tmod 1000000000 = r3 := by rw [Int.tmod_eq_emod_of_nonneg (by omega)]; omega
  have m4 : n4.tmod 1000000000 = r4 := by rw [Int.tmod_eq_emod_of_nonneg (by omega)]; omega
  have C1 : 0 ≤ q1 ∧ q1 < 4294967296 := by omega
  have C2 : 0 ≤ q2 ∧ q2 < 4294967296 := by omega
  have C3 : 0 ≤ q3 ∧ q3 < 4294967296 := by omega
  have C4 : 0 ≤ q4 ∧ q4 < 4294967296 := by omega
  have R1 : (q1 * 4294967296 + q2) * 18446744073709551616 + (q3 * 4294967296 + q4) = (hi * 18446744073709551616 + lo) / 1000000000 := by omega
  have R2 : r4 = dmR hi lo := by unfold dmR; omega
  have E1 : q1 * 4294967296 + q2 = dmH hi lo := by unfold dmH; omega
  have E2 : q3 * 4294967296 + q4 = dmL hi lo := by unfold dmL; omega
  have p1 : bits .or .u64 (q1 * 4294967296) q2 = q1 * 4294967296 + q2 := or_low q1 q2 (by omega) (by omega) (by omega) (by omega)
  have p2 : bits .or .u64 (q3 * 4294967296) q4 = q3 * 4294967296 + q4 := or_low q3 q4 (by omega) (by omega) (by omega) (by omega)
  have g2 : r1 * 4294967296 + b = n2 := hn2.symm
  have g3 : r2 * 4294967296 + c = n3 := hn3.symm
  have g4 : r3 * 4294967296 + d = n4 := hn4.symm
  have HE := Lib.hid (And.intro E1 (And.intro E2 R2))
  have hr : IntKind.u32.wrap r4 = r4 := IntWalk.u32_in _ (by omega)
  clear hb hd hq1 hr1 hq2 hr2 hq3 hr3 hq4 hr4 hn2 hn3 hn4 R1 R2 E1 E2
  go_enter Tryd.func56, Tryd.ntmps56
  go_wp2
  exact bodyPost_ret (v := .tuple #[.int .u64 (q1 * 4294967296 + q2), .int .u64 (q3 * 4294967296 + q4), .int .u32 r4]) (by simp [results, Tryd.results56, go_sem]) rfl ⟨by rw [HE.out.1, HE.out.2.1, HE.out.2.2], rfl⟩
end Go.Proofs.YtjjfdamlicoeeaaDoor.X
