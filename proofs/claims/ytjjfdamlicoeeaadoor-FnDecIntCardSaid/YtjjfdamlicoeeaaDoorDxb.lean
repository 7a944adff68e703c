/- Contract of decDigits: the digits of a number of 128 bits. -/
import Derived.Test.YtjjfdamlicoeeaaDoorDxa
import Derived.LoopTactic
set_option linter.unusedVariables false
set_option linter.unusedSimpArgs false
set_option maxRecDepth 100000
namespace Go.Proofs.YtjjfdamlicoeeaaDoor.X
open Go.RowKit
theorem infoB : (Tryd.prog.info? 5).map (fun i => (i.zero, i.size, i.bytes)) = some (some (.int .u8 0), 1, 1) := by kernel_rfl
/-- The digits of a number, none for 0. -/
def decl (N : Nat) : List UInt8 := if h : N = 0 then [] else decl (N / 10) ++ [ub (48 + ((N % 10 : Nat) : Int))]
termination_by N
decreasing_by omega
theorem decl_zero : decl 0 = [] := by rw [decl]; simp
theorem decl_step (N : Nat) (h : N ≠ 0) : decl N = decl (N / 10) ++ [ub (48 + ((N % 10 : Nat) : Int))] := by rw [decl]; simp [h]
/-- The digits of a number, one for 0. -/
def digs (N : Nat) : List UInt8 := if N = 0 then [48] else decl N
/-- The high and the low 64 bits, and the last digit. -/
def hiOf (M : Nat) : Int := ((M / 18446744073709551616 : Nat) : Int)
def loOf (M : Nat) : Int := ((M % 18446744073709551616 : Nat) : Int)
def dgOf (M : Nat) : Int := ((M % 10 : Nat) : Int)
structure Dig (N M k : Nat) (out : List UInt8) : Prop where
  lt : M < 2 ^ (129 - 3 * k)
  le : k ≤ 43
  len : out.length = k
  eq : decl N = decl M ++ out
theorem Dig.start {N : Nat} (h : N < 2 ^ 128) : Dig N N 0 [] := ⟨Nat.lt_trans h (by decide), by omega, rfl, by simp⟩
theorem Dig.step {N M k : Nat} {out : List UInt8} (h : Dig N M k out) (h0 : M ≠ 0) : Dig N (M / 10) (k + 1) (ub (48 + dgOf M) :: out) := by
  have hk : k ≤ 42 := by
    by_cases hk : k ≤ 42
    · exact hk
    · exfalso
      have h1 := h.lt
      have h2 := h.le
      rw [show 129 - 3 * k = 0 from by omega] at h1
      simp at h1
      exact h0 h1
  refine ⟨?_, by omega, by simp [h.len], ?_⟩
  · have h1 := h.lt
    rw [show 129 - 3 * k = (129 - 3 * (k + 1)) + 3 from by omega, Nat.pow_add] at h1
    generalize 2 ^ (129 - 3 * (k + 1)) = q at h1 ⊢
    omega
  · rw [h.eq, decl_step M h0]
    simp [dgOf]
theorem Dig.small {N M k : Nat} {out : List UInt8} (h : Dig N M k out) : M < 680564733841876926926749214863536422912 :=
  Nat.lt_of_lt_of_le h.lt (Nat.le_trans (Nat.pow_le_pow_right (by omega) (by omega : 129 - 3 * k ≤ 129)) (by decide))
theorem Dig.done {N M k : Nat} {out : List UInt8} (h : Dig N M k out) (h0 : M = 0) : decl N = out := by rw [h.eq, h0, decl_zero]; rfl
theorem Dig.lo0 {M : Nat} (h1 : hiOf M = 0) (h2 : loOf M = 0) : M = 0 := by simp only [hiOf, loOf] at h1 h2; omega
theorem dg_wrap (M : Nat) : IntKind.u8.wrap (48 + dgOf M) = 48 + dgOf M := IntWalk.u8_in _ (by simp only [dgOf]; omega)
theorem dg_ub (M : Nat) : [Value.int .u8 (48 + dgOf M)] = byv [ub (48 + dgOf M)] := by
  have : (48 + dgOf M) % 256 = 48 + dgOf M := by simp only [dgOf]; omega
  simp [byv, ub_toNat, this]
theorem tenth (M : Nat) (h : M < 340282366920938463463374607431768211456) (w : World) : Calls Tryd.prog 49 #[.int .u64 (hiOf M), .int .u64 (loOf M)] w fun e w' => e = .returned (.tuple #[.int .u64 (hiOf (M / 10)), .int .u64 (loOf (M / 10)), .int .u8 (dgOf M)]) ∧ Below w.heap.size w w' := by
  have h1 := decTenth (hiOf M) (loOf M) w (by simp only [hiOf]; omega) (by simp only [hiOf]; omega) (by simp only [loOf]; omega) (by simp only [loOf]; omega)
  rw [show (hiOf M * 18446744073709551616 + loOf M) / 10 / 18446744073709551616 = hiOf (M / 10) from by simp only [hiOf, loOf]; omega, show (hiOf M * 18446744073709551616 + loOf M) / 10 % 18446744073709551616 = loOf (M / 10) from by simp only [hiOf, loOf]; omega, show (hiOf M * 18446744073709551616 + loOf M) % 10 = dgOf M from by simp only [hiOf, loOf, dgOf]; omega] at h1
  exact h1
theorem hi_lo_meas (M : Nat) : (hiOf M * 18446744073709551616 + loOf M).toNat = M := by simp only [hiOf, loOf]; omega

/-- What a round of the loop holds. -/
def DRel (N : Nat) (w : World) (h l u : Value) (wr : World) : Prop := ∃ (M k : Nat) (out : List UInt8), h = .int .u64 (hiOf M) ∧ l = .int .u64 (loOf M) ∧ M < 340282366920938463463374607431768211456 ∧ Dig N M k out ∧ OB 5 wr w.heap.size u out ∧ Below w.heap.size w wr

set_option maxHeartbeats 1600000 in
theorem decDigits_loop (N : Nat) (w : World) (hN : Hid (N < 340282366920938463463374607431768211456)) (hs : (hiOf N == 0) = false ∨ (hiOf N = 0 ∧ (loOf N == 0) = false)) :
    Calls Tryd.prog 27 #[.int .u64 (hiOf N), .int .u64 (loOf N)] w fun e w' => e = .returned (.string ⟨(decl N).toArray⟩) ∧ Below w.heap.size w w' := by
  obtain ⟨H, hH⟩ : ∃ x, x = hiOf N := ⟨_, rfl⟩
  obtain ⟨L, hL⟩ : ∃ x, x = loOf N := ⟨_, rfl⟩
  rw [← hH, ← hL] at hs ⊢
  have hR0 : Hid (DRel N w (.int .u64 H) (.int .u64 L) (.slice none 0 0) w) := Lib.hid ⟨N, 0, [], by rw [hH], by rw [hL], hN.out, Dig.start (Nat.lt_of_lt_of_le hN.out (by decide)), OB.nil _ _, Below.refl _ _⟩
  clear hH hL
  have hs1 : Hid (DRel N w (.int .u64 H) (.int .u64 L) (.slice none 0 0) w) := hR0
  go_enter Tryd.func27, Tryd.ntmps27
  rcases hs with hs | ⟨hs0, hs⟩
  · go_wp2
    go_loopw [0, 1, 5] (fun h l u wr => DRel N w h l u wr) (fun h l _ _ => ((intOf h) * 18446744073709551616 + intOf l).toNat)
    case atStart => exact hR0.out
    case round =>
      obtain ⟨M, k, out, rfl, rfl, hM, hdig, ho, hbl⟩ := hrel
      have hlen : out.length ≤ 43 := by rw [hdig.len]; exact hdig.le
      by_cases hM0 : M = 0
      · have e1 : hiOf M = 0 := by rw [hM0]; rfl
        have e2 : loOf M = 0 := by rw [hM0]; rfl
        have hfin := Lib.hid (hdig.done hM0)
        rw [e1, e2]
        clear hM hdig hM0 e1 e2
        obtain ⟨A, c, rfl, hs1, -⟩ := ho.sb
        have hcv := run_string (P := Tryd.prog) Tryd.underlying38 Tryd.underlying5 Tryd.underlying9 _ A c out hs1
        go_wp2
        go_ret
        exact ⟨by rw [hfin.out]; rfl, hbl⟩
      · have hnz : (hiOf M == 0) = false ∨ (hiOf M = 0 ∧ (loOf M == 0) = false) := by
          by_cases h : hiOf M = 0
          · refine .inr ⟨h, ?_⟩
            simp only [beq_eq_false_iff_ne, ne_eq]
            exact fun h2 => hM0 (Dig.lo0 h h2)
          · exact .inl (by simpa using h)
        have HT : Hid (∀ wx : World, Calls Tryd.prog 49 #[.int .u64 (hiOf M), .int .u64 (loOf M)] wx fun e w' => e = .returned (.tuple #[.int .u64 (hiOf (M / 10)), .int .u64 (loOf (M / 10)), .int .u8 (dgOf M)]) ∧ Below wx.heap.size wx w') := Lib.hid fun wx => tenth M hM wx
        have HUB : Hid ([Value.int .u8 (48 + dgOf M)] = byv [ub (48 + dgOf M)]) := Lib.hid (dg_ub M)
        have hu8 := dg_wrap M
        have HREL : Hid (∀ v2 w2, OB 5 w2 w.heap.size v2 ([ub (48 + dgOf M)] ++ out) → Below w.heap.size w w2 → DRel N w (.int .u64 (hiOf (M / 10))) (.int .u64 (loOf (M / 10))) v2 w2) := Lib.hid fun v2 w2 h1 h2 => ⟨M / 10, k + 1, _, rfl, rfl, by omega, hdig.step hM0, h1, h2⟩
        have HMEAS : Hid ((hiOf (M / 10) * 18446744073709551616 + loOf (M / 10)).toNat < (hiOf M * 18446744073709551616 + loOf M).toNat) := Lib.hid (by rw [hi_lo_meas, hi_lo_meas]; omega)
        obtain ⟨PH, hPH⟩ : ∃ x, x = hiOf M := ⟨_, rfl⟩
        obtain ⟨PL, hPL⟩ : ∃ x, x = loOf M := ⟨_, rfl⟩
        obtain ⟨NH, hNH⟩ : ∃ x, x = hiOf (M / 10) := ⟨_, rfl⟩
        obtain ⟨NL, hNL⟩ : ∃ x, x = loOf (M / 10) := ⟨_, rfl⟩
        obtain ⟨UB, hUB⟩ : ∃ x, x = ub (48 + dgOf M) := ⟨_, rfl⟩
        rw [← hUB] at HUB HREL
        obtain ⟨DG, hDG⟩ : ∃ x, x = dgOf M := ⟨_, rfl⟩
        rw [← hPH, ← hPL] at HMEAS hnz HT
        rw [← hNH, ← hNL] at HMEAS HT HREL
        rw [← hDG] at HT HUB hu8
        rw [← hPH, ← hPL]
        clear hM hdig hM0 hPH hPL hNH hNL hUB hDG
        have hz0 := hbl.size
        rcases hnz with e1 | ⟨rfl, e1⟩
        · go_wp2_with fail
          refine (HT.out wr).mono ?_
          rintro e w1 ⟨rfl, hb1⟩
          have ho1 := ho.keep hb1
          obtain ⟨A, c, rfl, hs1, -⟩ := ho1.sb
          have hz1 := hb1.size
          go_wp2_with (first | (refine wp_app (.tmp 28) (.tmp 29) 38 rfl rfl infoB Tryd.underlying38 _ w.heap.size (.slice (some ⟨w1.heap.size, 0, none⟩) 1 1) [UB] A c out rfl rfl ?a1 ?a2 ?a3 ?a4 ?_) | fail)
          case a1 => exact (OB.lit_ w1 w.heap.size (by omega) [UB] [.int .u8 (48 + DG)] HUB.out (by show 1 ≤ 9223372036854775807; omega) 1 rfl)
          case a2 => exact hs1.alloc _
          case a3 => first | omega | (simp; done) | (simp; omega)
          case a4 => show 0 + 1 + out.length ≤ 140737488355328; omega
          intro v2 w2 h2
          go_wp2
          go_roundw
          case rel => exact HREL.out v2 w2 h2.own ((balloc (bstep hbl hz0 hb1) (by omega) _).trans (h2.kept (OB.lit_ w1 w.heap.size (by omega) [UB] [.int .u8 (48 + DG)] HUB.out (by show 1 ≤ 9223372036854775807; omega) 1 rfl) (by first | omega | (simp; done) | (simp; omega))))
          case measure => simpa [intOf] using HMEAS.out
        · go_wp2_with fail
          refine (HT.out wr).mono ?_
          rintro e w1 ⟨rfl, hb1⟩
          have ho1 := ho.keep hb1
          obtain ⟨A, c, rfl, hs1, -⟩ := ho1.sb
          have hz1 := hb1.size
          go_wp2_with (first | (refine wp_app (.tmp 28) (.tmp 29) 38 rfl rfl infoB Tryd.underlying38 _ w.heap.size (.slice (some ⟨w1.heap.size, 0, none⟩) 1 1) [UB] A c out rfl rfl ?a1 ?a2 ?a3 ?a4 ?_) | fail)
          case a1 => exact (OB.lit_ w1 w.heap.size (by omega) [UB] [.int .u8 (48 + DG)] HUB.out (by show 1 ≤ 9223372036854775807; omega) 1 rfl)
          case a2 => exact hs1.alloc _
          case a3 => first | omega | (simp; done) | (simp; omega)
          case a4 => show 0 + 1 + out.length ≤ 140737488355328; omega
          intro v2 w2 h2
          go_wp2
          go_roundw
          case rel => exact HREL.out v2 w2 h2.own ((balloc (bstep hbl hz0 hb1) (by omega) _).trans (h2.kept (OB.lit_ w1 w.heap.size (by omega) [UB] [.int .u8 (48 + DG)] HUB.out (by show 1 ≤ 9223372036854775807; omega) 1 rfl) (by first | omega | (simp; done) | (simp; omega))))
          case measure => simpa [intOf] using HMEAS.out
  · subst hs0
    go_wp2
    go_loopw [0, 1, 5] (fun h l u wr => DRel N w h l u wr) (fun h l _ _ => ((intOf h) * 18446744073709551616 + intOf l).toNat)
    case atStart => exact hR0.out
    case round =>
      obtain ⟨M, k, out, rfl, rfl, hM, hdig, ho, hbl⟩ := hrel
      have hlen : out.length ≤ 43 := by rw [hdig.len]; exact hdig.le
      by_cases hM0 : M = 0
      · have e1 : hiOf M = 0 := by rw [hM0]; rfl
        have e2 : loOf M = 0 := by rw [hM0]; rfl
        have hfin := Lib.hid (hdig.done hM0)
        rw [e1, e2]
        clear hM hdig hM0 e1 e2
        obtain ⟨A, c, rfl, hs1, -⟩ := ho.sb
        have hcv := run_string (P := Tryd.prog) Tryd.underlying38 Tryd.underlying5 Tryd.underlying9 _ A c out hs1
        go_wp2
        go_ret
        exact ⟨by rw [hfin.out]; rfl, hbl⟩
      · have hnz : (hiOf M == 0) = false ∨ (hiOf M = 0 ∧ (loOf M == 0) = false) := by
          by_cases h : hiOf M = 0
          · refine .inr ⟨h, ?_⟩
            simp only [beq_eq_false_iff_ne, ne_eq]
            exact fun h2 => hM0 (Dig.lo0 h h2)
          · exact .inl (by simpa using h)
        have HT : Hid (∀ wx : World, Calls Tryd.prog 49 #[.int .u64 (hiOf M), .int .u64 (loOf M)] wx fun e w' => e = .returned (.tuple #[.int .u64 (hiOf (M / 10)), .int .u64 (loOf (M / 10)), .int .u8 (dgOf M)]) ∧ Below wx.heap.size wx w') := Lib.hid fun wx => tenth M hM wx
        have HUB : Hid ([Value.int .u8 (48 + dgOf M)] = byv [ub (48 + dgOf M)]) := Lib.hid (dg_ub M)
        have hu8 := dg_wrap M
        have HREL : Hid (∀ v2 w2, OB 5 w2 w.heap.size v2 ([ub (48 + dgOf M)] ++ out) → Below w.heap.size w w2 → DRel N w (.int .u64 (hiOf (M / 10))) (.int .u64 (loOf (M / 10))) v2 w2) := Lib.hid fun v2 w2 h1 h2 => ⟨M / 10, k + 1, _, rfl, rfl, by omega, hdig.step hM0, h1, h2⟩
        have HMEAS : Hid ((hiOf (M / 10) * 18446744073709551616 + loOf (M / 10)).toNat < (hiOf M * 18446744073709551616 + loOf M).toNat) := Lib.hid (by rw [hi_lo_meas, hi_lo_meas]; omega)
        obtain ⟨PH, hPH⟩ : ∃ x, x = hiOf M := ⟨_, rfl⟩
        obtain ⟨PL, hPL⟩ : ∃ x, x = loOf M := ⟨_, rfl⟩
        obtain ⟨NH, hNH⟩ : ∃ x, x = hiOf (M / 10) := ⟨_, rfl⟩
        obtain ⟨NL, hNL⟩ : ∃ x, x = loOf (M / 10) := ⟨_, rfl⟩
        obtain ⟨UB, hUB⟩ : ∃ x, x = ub (48 + dgOf M) := ⟨_, rfl⟩
        rw [← hUB] at HUB HREL
        obtain ⟨DG, hDG⟩ : ∃ x, x = dgOf M := ⟨_, rfl⟩
        rw [← hPH, ← hPL] at HMEAS hnz HT
        rw [← hNH, ← hNL] at HMEAS HT HREL
        rw [← hDG] at HT HUB hu8
        rw [← hPH, ← hPL]
        clear hM hdig hM0 hPH hPL hNH hNL hUB hDG
        have hz0 := hbl.size
        rcases hnz with e1 | ⟨rfl, e1⟩
        · go_wp2_with fail
          refine (HT.out wr).mono ?_
          rintro e w1 ⟨rfl, hb1⟩
          have ho1 := ho.keep hb1
          obtain ⟨A, c, rfl, hs1, -⟩ := ho1.sb
          have hz1 := hb1.size
          go_wp2_with (first | (refine wp_app (.tmp 28) (.tmp 29) 38 rfl rfl infoB Tryd.underlying38 _ w.heap.size (.slice (some ⟨w1.heap.size, 0, none⟩) 1 1) [UB] A c out rfl rfl ?a1 ?a2 ?a3 ?a4 ?_) | fail)
          case a1 => exact (OB.lit_ w1 w.heap.size (by omega) [UB] [.int .u8 (48 + DG)] HUB.out (by show 1 ≤ 9223372036854775807; omega) 1 rfl)
          case a2 => exact hs1.alloc _
          case a3 => first | omega | (simp; done) | (simp; omega)
          case a4 => show 0 + 1 + out.length ≤ 140737488355328; omega
          intro v2 w2 h2
          go_wp2
          go_roundw
          case rel => exact HREL.out v2 w2 h2.own ((balloc (bstep hbl hz0 hb1) (by omega) _).trans (h2.kept (OB.lit_ w1 w.heap.size (by omega) [UB] [.int .u8 (48 + DG)] HUB.out (by show 1 ≤ 9223372036854775807; omega) 1 rfl) (by first | omega | (simp; done) | (simp; omega))))
          case measure => simpa [intOf] using HMEAS.out
        · go_wp2_with fail
          refine (HT.out wr).mono ?_
          rintro e w1 ⟨rfl, hb1⟩
          have ho1 := ho.keep hb1
          obtain ⟨A, c, rfl, hs1, -⟩ := ho1.sb
          have hz1 := hb1.size
          go_wp2_with (first | (refine wp_app (.tmp 28) (.tmp 29) 38 rfl rfl infoB Tryd.underlying38 _ w.heap.size (.slice (some ⟨w1.heap.size, 0, none⟩) 1 1) [UB] A c out rfl rfl ?a1 ?a2 ?a3 ?a4 ?_) | fail)
          case a1 => exact (OB.lit_ w1 w.heap.size (by omega) [UB] [.int .u8 (48 + DG)] HUB.out (by show 1 ≤ 9223372036854775807; omega) 1 rfl)
          case a2 => exact hs1.alloc _
          case a3 => first | omega | (simp; done) | (simp; omega)
          case a4 => show 0 + 1 + out.length ≤ 140737488355328; omega
          intro v2 w2 h2
          go_wp2
          go_roundw
          case rel => exact HREL.out v2 w2 h2.own ((balloc (bstep hbl hz0 hb1) (by omega) _).trans (h2.kept (OB.lit_ w1 w.heap.size (by omega) [UB] [.int .u8 (48 + DG)] HUB.out (by show 1 ≤ 9223372036854775807; omega) 1 rfl) (by first | omega | (simp; done) | (simp; omega))))
          case measure => simpa [intOf] using HMEAS.out
end Go.Proofs.YtjjfdamlicoeeaaDoor.X
