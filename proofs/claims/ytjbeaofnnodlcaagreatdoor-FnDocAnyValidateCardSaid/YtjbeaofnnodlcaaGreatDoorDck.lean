/- Put together: DChk, DChkB, DChkC, DPl. -/
import Derived.Test.YtjbeaofnnodlcaaGreatDoorParts2
import Derived.Test.YtjbeaofnnodlcaaGreatDoorDoc2
import Derived.Test.YtjbeaofnnodlcaaGreatDoorCode9
/- spec.DocCheck. -/
set_option linter.unusedVariables false
set_option linter.unusedSimpArgs false
set_option maxRecDepth 100000
namespace Go.Proofs.YtjbeaofnnodlcaaGreatDoor.X
open Go.RowKit Go.Proofs.YtjbeaofnnodlcaaGreatDoorW.PrintLast
namespace Ck
open Sp Al Av Aw

/-- The first reason among the parts of a document. -/
def vrd : List Pt → Int → Int
  | [], t => t
  | p :: r, t => if valIs (p.1.toNat : Int) p.2.2 = true then vrd r t else 1
def tailC (ok : Bool) (rest : List UInt8) : Int := if ok = true then (if rest.headD 1 = 0 then 0 else 3) else 1
theorem vrd_at : ∀ (P : List Pt) (i : Nat) (hi : i < P.length) (t : Int), valIs (P[i].1.toNat : Int) P[i].2.2 = true → vrd (P.drop i) t = vrd (P.drop (i + 1)) t := by
  intro P i hi t h
  rw [List.drop_eq_getElem_cons hi, vrd, if_pos h]
theorem vrd_bad : ∀ (P : List Pt) (i : Nat) (hi : i < P.length) (t : Int), ¬ valIs (P[i].1.toNat : Int) P[i].2.2 = true → vrd (P.drop i) t = 1 := by
  intro P i hi t h
  rw [List.drop_eq_getElem_cons hi, vrd, if_neg h]
set_option maxHeartbeats 4000000 in
theorem checkLoop (A : Option Addr) (c : Nat) (l : List UInt8) (nn R : Int) (w : World) (hs : SB w A c l) (hl : l.length ≤ 5000) (hr : numOf l = (nn, true)) (h5 : 5 ≤ nn) (hle : nn ≤ (l.length : Int)) (hz : l.getD (nn - 1).toNat 0 = 0)
    (hR : vrd (pts (l.length + 1) (nn - 4) (l.drop 4)).1 (tailC (pts (l.length + 1) (nn - 4) (l.drop 4)).2.2 (pts (l.length + 1) (nn - 4) (l.drop 4)).2.1) = R) :
    Calls Tryz.prog 9 #[.slice A l.length c, .bool false] w fun e w' => e = .returned (.int .i64 R) ∧ Below w.heap.size w w' := by
  have HP := Lib.hid (fun wx (h : Below w.heap.size w wx) => docParts A c l nn wx (hs.keep h) hl hr (by omega) (by omega))
  have HN : Hid (Calls Tryz.prog 24 #[.slice A l.length c] w fun e w' => e = .returned (.tuple #[.int .i64 nn, .bool true]) ∧ Below w.heap.size w w') := Lib.hid (by have h := docNumber A c l w hs; rw [hr] at h; exact h)
  obtain ⟨TOT, hT⟩ : ∃ x, x = pts (l.length + 1) (nn - 4) (l.drop 4) := ⟨_, rfl⟩
  rw [← hT] at HP hR
  obtain ⟨b, off, rfl, hc⟩ := hs.cells (by omega)
  have hzc : w.cell? ⟨b, off + (nn - 1).toNat, none⟩ = some (.int .u8 0) := by
    have h := hc (nn - 1).toNat (by omega)
    rw [h]
    have hg : l.getD (nn - 1).toNat 0 = l[(nn - 1).toNat]'(by omega) := by rw [List.getD_eq_getElem?_getD, List.getElem?_eq_getElem (by omega)]; rfl
    rw [hg] at hz
    rw [hz]
    rfl
  obtain ⟨N4, g8⟩ : ∃ N4 : Nat, (nn - 1).toNat = N4 := ⟨_, rfl⟩
  rw [g8] at hzc
  have hbl := World.block_lt_of_cell? _ _ hzc
  obtain ⟨p, hp⟩ : ∃ p, p = l.length := ⟨_, rfl⟩
  rw [← hp] at hle HP HN ⊢
  have n0 : decide (nn < 0) = false := decide_eq_false (by omega)
  have n1 : decide ((p : Int) < nn) = false := decide_eq_false (by omega)
  have n5 : decide (nn < 5) = false := decide_eq_false (by omega)
  have g6 : (nn - 1 < (p : Int)) = True := eq_true (by omega)
  have g7 : (0 ≤ nn - 1) = True := eq_true (by omega)
  have g9 : (nn < 1) = False := eq_false (by omega)
  have g10 : (1 ≤ nn) = True := eq_true (by omega)
  have HW : Hid (wrap64 (nn - 1) = nn - 1) := Lib.hid (by unfold wrap64; omega)
  have HR := Lib.hid hR
  clear hs hl hr h5 hle hz hR hT hc hp
  have i1 := HW.out
  go_enter Tryz.func9, Tryz.ntmps9
  go_wp2_with fail
  refine HN.out.mono ?_
  rintro e w1 ⟨rfl, hb1⟩
  have hz1 : w1.cell? ⟨b, off + N4, none⟩ = some (.int .u8 0) := (hb1.cell hbl).trans hzc
  have HB1 := Lib.hid hb1
  clear hb1 HN hzc
  go_wp2_with fail
  refine (HP.out _ HB1.out).mono ?_
  rintro e w2 ⟨⟨v, n, A2, q, c2, ok, xs, rfl, ho, hn5, hps, hnl, hq, hok, hs2⟩, hb2⟩
  obtain ⟨Av, cv, rfl⟩ := ho.form
  have HB2 := Lib.hid (bthen HB1.out hb2)
  have HB12 := Lib.hid hb2
  have HO := Lib.hid ho
  have HX := Lib.hid (And.intro hps (And.intro hnl (And.intro hq (And.intro hok hs2))))
  clear hb2 ho hps hnl hq hok hs2 HP hz1 i1 n0 n1 n5 g6 g7 g8 g9 g10
  go_wp2_with fail
  go_loopw [10] (fun a wr => ∃ i : Nat, i ≤ n ∧ a = .int .i64 i ∧ Hid (vrd (TOT.1.drop i) (tailC TOT.2.2 TOT.2.1) = R) ∧ Hid (Below w2.heap.size w2 wr)) (fun a _ => n - (intOf a).toNat)
  case atStart => exact ⟨0, Nat.zero_le _, rfl, HR, Lib.hid (Below.refl _ _)⟩
  case round =>
    obtain ⟨i, hi, rfl, HV, HBr⟩ := hrel
    by_cases hlt : i < n
    · obtain ⟨x1, x2, x3, x4, x5⟩ := HX.out
      obtain ⟨g, c9, hv9, hg9, hnc, hcc, hcells⟩ := (HO.out.keep HBr.out).cells (by omega)
      obtain ⟨rfl, rfl⟩ : Av = some ⟨g, 0, none⟩ ∧ cv = c9 := by simpa using hv9
      have hiT : i < TOT.1.length := by omega
      obtain ⟨cs, hpc, hat⟩ := PtsC.at x1 i hiT
      obtain ⟨pt, hpt⟩ : ∃ x, x = TOT.1[i]'hiT := ⟨_, rfl⟩
      rw [← hpt] at hpc
      have HPT : Hid (∃ h : i < TOT.1.length, pt = TOT.1[i]'h) := Lib.hid ⟨hiT, hpt⟩
      clear hpt
      obtain ⟨B2, d2, B3, n3, d3, rfl, hsv, hv5⟩ := hpc
      have HG := Lib.hid (fun wx (h : Below w1.heap.size w1 wx) => docGood B2 B3 d2 n3 d3 pt.2.2 ⟨pt.2.1.toArray⟩ (pt.1.toNat : Int) wx (hsv.keep h) hv5)
      obtain ⟨z0, hz0⟩ : ∃ s : ByteArray, s = ⟨pt.2.1.toArray⟩ := ⟨_, rfl⟩
      obtain ⟨z1, hz1⟩ : ∃ x : Int, x = (pt.1.toNat : Int) := ⟨_, rfl⟩
      obtain ⟨z2, hz2⟩ : ∃ x : Nat, x = pt.2.2.length := ⟨_, rfl⟩
      obtain ⟨vb, hvb⟩ : ∃ x : Bool, x = valIs (pt.1.toNat : Int) pt.2.2 := ⟨_, rfl⟩
      rw [← hvb, ← hz0, ← hz1, ← hz2] at HG
      rw [← hz0, ← hz1, ← hz2] at hat
      have HVB := Lib.hid hvb
      clear hz0 hz1 hz2 hvb hsv hv5
      have k0 := hcells (4 * i + 0) _ (hat 0 (by omega))
      have k1 := hcells (4 * i + 1) _ (hat 1 (by omega))
      have k2 := hcells (4 * i + 2) _ (hat 2 (by omega))
      have k3 := hcells (4 * i + 3) _ (hat 3 (by omega))
      rw [Nat.mul_comm 4 i] at k0 k1 k2 k3
      have k0' : wr.cell? ⟨g, i * 4, none⟩ = some (.string z0) := k0
      clear x1 x2 x3 x4 x5 hv9 hcells hat hiT k0
      go_wp2_with fail
      refine (HG.out wr (bthen HB12.out HBr.out)).mono ?_
      rintro e w4 ⟨rfl, hb4⟩
      have HB4 := Lib.hid (bthen HBr.out hb4)
      clear hb4 HG k0' k1 k2 k3
      obtain ⟨hiT, hpt⟩ := HPT.out
      cases vb with
      | false =>
        have HRR : Hid (1 = R) := Lib.hid (by
          have hb := vrd_bad TOT.1 i hiT (tailC TOT.2.2 TOT.2.1) (by rw [← hpt, ← HVB.out]; simp)
          rw [← hb]; exact HV.out)
        clear hpt hiT
        go_wp2_with fail
        go_ret
        exact ⟨by rw [← HRR.out]; rfl, bthen HB2.out HB4.out⟩
      | true =>
        have HV2 : Hid (vrd (TOT.1.drop (i + 1)) (tailC TOT.2.2 TOT.2.1) = R) := Lib.hid (by
          rw [← vrd_at TOT.1 i hiT (tailC TOT.2.2 TOT.2.1) (by rw [← hpt, ← HVB.out])]; exact HV.out)
        have HI : Hid (wrap64 ((i : Int) + 1) = (i : Int) + 1) := Lib.hid (w64one' i (by omega))
        clear hpt hiT
        go_wp2_with fail
        go_region
        go_wp2_with fail
        go_roundw
        case rel => exact ⟨i + 1, by omega, by first | rfl | (rw [HI.out]; simp), HV2, Lib.hid (bdrew HB4.out)⟩
        case measure => first | (rw [HI.out]; simp [intOf]; omega) | (simp [intOf]; omega)
    · obtain rfl : i = n := by omega
      obtain ⟨x1, x2, x3, x4, x5⟩ := HX.out
      have hv := HV.out
      rw [x2, List.drop_length, vrd] at hv
      unfold tailC at hv
      rw [← x4] at hv
      cases ok with
      | false =>
        have HRR : Hid (1 = R) := Lib.hid (by simpa using hv)
        clear x1 x2 x3 x4 x5 hv hlt hi
        go_wp2_with fail
        go_ret
        exact ⟨by rw [← HRR.out]; rfl, bthen HB2.out HBr.out⟩
      | true =>
        obtain ⟨rest, hrest⟩ : ∃ x, x = TOT.2.1 := ⟨_, rfl⟩
        rw [← hrest] at hv x3 x5
        have HRR : Hid ((if rest.headD 1 = 0 then 0 else 3) = R) := Lib.hid (by simpa using hv)
        have hs5 := x5.keep (bthen HB12.out HBr.out)
        clear x1 x2 x4 x5 hv hlt hi hrest
        rcases rest with _ | ⟨y, r⟩
        · have hq0 : q = 0 := x3
          subst hq0
          clear x3 hs5
          go_wp2_with fail
          go_ret
          exact ⟨by rw [← HRR.out]; rfl, bthen HB2.out HBr.out⟩
        · obtain ⟨mm, rfl⟩ : ∃ mm, q = mm + 1 := ⟨r.length, by simpa using x3⟩
          have d2 : ((mm + 1 : Nat) : Int) = (mm : Int) + 1 := by omega
          obtain ⟨b2, o2, rfl, hc2⟩ := hs5.cells (by simp)
          have hx' : wr.cell? ⟨b2, o2, none⟩ = some (.int .u8 (y.toNat : Int)) := hc2 0 (by simp)
          by_cases h0 : y = 0
          · subst h0
            have hx2 : wr.cell? ⟨b2, o2, none⟩ = some (.int .u8 0) := hx'
            clear x3 hs5 hc2 hx'
            go_wp2_with fail
            go_ret
            exact ⟨by rw [← HRR.out]; rfl, bthen HB2.out HBr.out⟩
          · obtain ⟨z, hz⟩ : ∃ z, z = (y.toNat : Int) := ⟨_, rfl⟩
            rw [← hz] at hx'
            have hz0 : (z != 0) = true := by rw [bne_iff_ne, hz]; intro h; exact h0 (UInt8.toNat_inj.1 (by simpa using h))
            have H0 := Lib.hid h0
            clear x3 hs5 hc2 hz h0
            go_wp2_with fail
            go_ret
            exact ⟨by rw [← HRR.out]; simp [H0.out], bthen HB2.out HBr.out⟩
end Ck
end Go.Proofs.YtjbeaofnnodlcaaGreatDoor.X


/- spec.DocCheck: the ways ahead of its loop, for documents and arrays. -/
set_option linter.unusedVariables false
set_option linter.unusedSimpArgs false
set_option maxRecDepth 100000
namespace Go.Proofs.YtjbeaofnnodlcaaGreatDoor.X
open Go.RowKit Go.Proofs.YtjbeaofnnodlcaaGreatDoorW.PrintLast
namespace Ck
open Sp Al Av Aw

theorem num_call (A : Option Addr) (c : Nat) (l : List UInt8) (nn : Int) (ok : Bool) (w : World) (hs : SB w A c l) (hr : numOf l = (nn, ok)) : Calls Tryz.prog 24 #[.slice A l.length c] w fun e w' => e = .returned (.tuple #[.int .i64 nn, .bool ok]) ∧ Below w.heap.size w w' := by
  have h := docNumber A c l w hs
  rw [hr] at h
  exact h
theorem checkNone (ar : Bool) (A : Option Addr) (c : Nat) (l : List UInt8) (nn : Int) (w : World) (hs : SB w A c l) (hr : numOf l = (nn, false)) :
    Calls Tryz.prog 9 #[.slice A l.length c, .bool ar] w fun e w' => e = .returned (.int .i64 1) ∧ Below w.heap.size w w' := by
  have HN := Lib.hid (num_call A c l nn false w hs hr)
  obtain ⟨p, hp⟩ : ∃ p, p = l.length := ⟨_, rfl⟩
  rw [← hp] at HN ⊢
  clear hs hr hp
  go_enter Tryz.func9, Tryz.ntmps9
  go_wp2_with fail
  refine HN.out.mono ?_
  rintro e w1 ⟨rfl, hb1⟩
  have HB1 := Lib.hid hb1
  clear hb1 HN
  go_wp2_with fail
  go_ret
  exact ⟨rfl, HB1.out⟩
theorem checkNeg (ar : Bool) (A : Option Addr) (c : Nat) (l : List UInt8) (nn : Int) (w : World) (hs : SB w A c l) (hr : numOf l = (nn, true)) (h0 : nn < 0) :
    Calls Tryz.prog 9 #[.slice A l.length c, .bool ar] w fun e w' => e = .returned (.int .i64 1) ∧ Below w.heap.size w w' := by
  have HN := Lib.hid (num_call A c l nn true w hs hr)
  obtain ⟨p, hp⟩ : ∃ p, p = l.length := ⟨_, rfl⟩
  rw [← hp] at HN ⊢
  have n0 : decide (nn < 0) = true := decide_eq_true h0
  clear hs hr hp h0
  go_enter Tryz.func9, Tryz.ntmps9
  go_wp2_with fail
  refine HN.out.mono ?_
  rintro e w1 ⟨rfl, hb1⟩
  have HB1 := Lib.hid hb1
  clear hb1 HN
  go_wp2_with fail
  go_ret
  exact ⟨rfl, HB1.out⟩
theorem checkLong (ar : Bool) (A : Option Addr) (c : Nat) (l : List UInt8) (nn : Int) (w : World) (hs : SB w A c l) (hr : numOf l = (nn, true)) (h0 : 0 ≤ nn) (h1 : (l.length : Int) < nn) :
    Calls Tryz.prog 9 #[.slice A l.length c, .bool ar] w fun e w' => e = .returned (.int .i64 4) ∧ Below w.heap.size w w' := by
  have HN := Lib.hid (num_call A c l nn true w hs hr)
  obtain ⟨p, hp⟩ : ∃ p, p = l.length := ⟨_, rfl⟩
  rw [← hp] at HN h1 ⊢
  have n0 : decide (nn < 0) = false := decide_eq_false (by omega)
  have n1 : decide ((p : Int) < nn) = true := decide_eq_true h1
  clear hs hr hp h0 h1
  go_enter Tryz.func9, Tryz.ntmps9
  go_wp2_with fail
  refine HN.out.mono ?_
  rintro e w1 ⟨rfl, hb1⟩
  have HB1 := Lib.hid hb1
  clear hb1 HN
  go_wp2_with fail
  go_ret
  exact ⟨rfl, HB1.out⟩
theorem checkLow (ar : Bool) (A : Option Addr) (c : Nat) (l : List UInt8) (nn : Int) (w : World) (hs : SB w A c l) (hr : numOf l = (nn, true)) (h0 : 0 ≤ nn) (h1 : nn ≤ (l.length : Int)) (h5 : nn < 5) :
    Calls Tryz.prog 9 #[.slice A l.length c, .bool ar] w fun e w' => e = .returned (.int .i64 2) ∧ Below w.heap.size w w' := by
  have HN := Lib.hid (num_call A c l nn true w hs hr)
  obtain ⟨p, hp⟩ : ∃ p, p = l.length := ⟨_, rfl⟩
  rw [← hp] at HN h1 ⊢
  have n0 : decide (nn < 0) = false := decide_eq_false (by omega)
  have n1 : decide ((p : Int) < nn) = false := decide_eq_false (by omega)
  have n5 : decide (nn < 5) = true := decide_eq_true h5
  clear hs hr hp h0 h1 h5
  go_enter Tryz.func9, Tryz.ntmps9
  go_wp2_with fail
  refine HN.out.mono ?_
  rintro e w1 ⟨rfl, hb1⟩
  have HB1 := Lib.hid hb1
  clear hb1 HN
  go_wp2_with fail
  go_ret
  exact ⟨rfl, HB1.out⟩
theorem checkLast (ar : Bool) (A : Option Addr) (c : Nat) (l : List UInt8) (nn : Int) (w : World) (hs : SB w A c l) (hr : numOf l = (nn, true)) (h5 : 5 ≤ nn) (hmx : l.length ≤ 5000) (hle : nn ≤ (l.length : Int)) (hz : ¬ l.getD (nn - 1).toNat 0 = 0) :
    Calls Tryz.prog 9 #[.slice A l.length c, .bool ar] w fun e w' => e = .returned (.int .i64 3) ∧ Below w.heap.size w w' := by
  have HN := Lib.hid (num_call A c l nn true w hs hr)
  obtain ⟨p, hp⟩ : ∃ p, p = l.length := ⟨_, rfl⟩
  obtain ⟨b, off, rfl, hc⟩ := hs.cells (by omega)
  obtain ⟨z, hzz⟩ : ∃ z, z = ((l.getD (nn - 1).toNat 0).toNat : Int) := ⟨_, rfl⟩
  have hzc : w.cell? ⟨b, off + (nn - 1).toNat, none⟩ = some (.int .u8 z) := by
    have h := hc (nn - 1).toNat (by omega)
    rw [h, hzz]
    have hg : l.getD (nn - 1).toNat 0 = l[(nn - 1).toNat]'(by omega) := by rw [List.getD_eq_getElem?_getD, List.getElem?_eq_getElem (by omega)]; rfl
    rw [hg]
  have hz0 : (z != 0) = true := by rw [bne_iff_ne, hzz]; intro h; exact hz (UInt8.toNat_inj.1 (by simpa using h))
  obtain ⟨N4, g8⟩ : ∃ N4 : Nat, (nn - 1).toNat = N4 := ⟨_, rfl⟩
  rw [g8] at hzc
  have hbl := World.block_lt_of_cell? _ _ hzc
  rw [← hp] at hle hmx HN ⊢
  have n0 : decide (nn < 0) = false := decide_eq_false (by omega)
  have n1 : decide ((p : Int) < nn) = false := decide_eq_false (by omega)
  have n5 : decide (nn < 5) = false := decide_eq_false (by omega)
  have g6 : (nn - 1 < (p : Int)) = True := eq_true (by omega)
  have g7 : (0 ≤ nn - 1) = True := eq_true (by omega)
  have g9 : (nn < 1) = False := eq_false (by omega)
  have g10 : (1 ≤ nn) = True := eq_true (by omega)
  have HW : Hid (wrap64 (nn - 1) = nn - 1) := Lib.hid (by unfold wrap64; omega)
  clear hs hr hp h5 hle hz hzz hc hmx
  have i1 := HW.out
  go_enter Tryz.func9, Tryz.ntmps9
  go_wp2_with fail
  refine HN.out.mono ?_
  rintro e w1 ⟨rfl, hb1⟩
  have hz1 : w1.cell? ⟨b, off + N4, none⟩ = some (.int .u8 z) := (hb1.cell hbl).trans hzc
  have HB1 := Lib.hid hb1
  clear hb1 HN hzc
  go_wp2_with fail
  go_ret
  exact ⟨rfl, HB1.out⟩
end Ck
end Go.Proofs.YtjbeaofnnodlcaaGreatDoor.X


/- spec.DocCheck of arrays: the loop. -/
set_option linter.unusedVariables false
set_option linter.unusedSimpArgs false
set_option maxRecDepth 100000
namespace Go.Proofs.YtjbeaofnnodlcaaGreatDoor.X
open Go.RowKit Go.Proofs.YtjbeaofnnodlcaaGreatDoorW.PrintLast
namespace Ck
open Sp Al Av Aw
def R9.T16 : Bool × List (List Nat × List Nat) := (true, [([], []), ([0], [0]), ([1], [1]), ([1], [1]), ([2, 3, 1], [1, 2, 3]), ([4, 1], [1, 4]), ([5, 1], [1, 5]), ([1], [1]), ([7, 1, 1], [1, 7]), ([6, 8, 1], [1, 6, 8]), ([1, 9], [1, 9])])
def R9.B16 : List Nat := [0, 1, 3, 3, 15, 31, 63, 3, 131, 511, 1023]
theorem R9.tab16 : rtab .any (opsOf Tryz.f9 16) = R9.T16 := by kernel_rfl
theorem R9.bits16 : waitsOk R9.T16.2 R9.B16 = true := by kernel_rfl
/-- The first reason among the parts of an array. -/
def vrdA : List Pt → Nat → Int → Int
  | [], _, t => t
  | p :: r, i, t => if valIs (p.1.toNat : Int) p.2.2 = true then (if p.2.1 = digits i then vrdA r (i + 1) t else 6) else 1
theorem vrdA_at : ∀ (P : List Pt) (i : Nat) (hi : i < P.length) (t : Int), valIs (P[i].1.toNat : Int) P[i].2.2 = true → P[i].2.1 = digits i → vrdA (P.drop i) i t = vrdA (P.drop (i + 1)) (i + 1) t := by
  intro P i hi t h hn
  rw [List.drop_eq_getElem_cons hi, vrdA, if_pos h, if_pos hn]
theorem vrdA_bad : ∀ (P : List Pt) (i : Nat) (hi : i < P.length) (t : Int), ¬ valIs (P[i].1.toNat : Int) P[i].2.2 = true → vrdA (P.drop i) i t = 1 := by
  intro P i hi t h
  rw [List.drop_eq_getElem_cons hi, vrdA, if_neg h]
theorem vrdA_name : ∀ (P : List Pt) (i : Nat) (hi : i < P.length) (t : Int), valIs (P[i].1.toNat : Int) P[i].2.2 = true → ¬ P[i].2.1 = digits i → vrdA (P.drop i) i t = 6 := by
  intro P i hi t h hn
  rw [List.drop_eq_getElem_cons hi, vrdA, if_pos h, if_neg hn]
set_option maxHeartbeats 4000000 in
theorem checkLoopA (A : Option Addr) (c : Nat) (l : List UInt8) (nn R : Int) (w : World) (hs : SB w A c l) (hl : l.length ≤ 5000) (hr : numOf l = (nn, true)) (h5 : 5 ≤ nn) (hle : nn ≤ (l.length : Int)) (hz : l.getD (nn - 1).toNat 0 = 0)
    (hR : vrdA (pts (l.length + 1) (nn - 4) (l.drop 4)).1 0 (tailC (pts (l.length + 1) (nn - 4) (l.drop 4)).2.2 (pts (l.length + 1) (nn - 4) (l.drop 4)).2.1) = R) :
    Calls Tryz.prog 9 #[.slice A l.length c, .bool true] w fun e w' => e = .returned (.int .i64 R) ∧ Below w.heap.size w w' := by
  have HP := Lib.hid (fun wx (h : Below w.heap.size w wx) => docParts A c l nn wx (hs.keep h) hl hr (by omega) (by omega))
  have HN : Hid (Calls Tryz.prog 24 #[.slice A l.length c] w fun e w' => e = .returned (.tuple #[.int .i64 nn, .bool true]) ∧ Below w.heap.size w w') := Lib.hid (by have h := docNumber A c l w hs; rw [hr] at h; exact h)
  obtain ⟨TOT, hT⟩ : ∃ x, x = pts (l.length + 1) (nn - 4) (l.drop 4) := ⟨_, rfl⟩
  rw [← hT] at HP hR
  obtain ⟨b, off, rfl, hc⟩ := hs.cells (by omega)
  have hzc : w.cell? ⟨b, off + (nn - 1).toNat, none⟩ = some (.int .u8 0) := by
    have h := hc (nn - 1).toNat (by omega)
    rw [h]
    have hg : l.getD (nn - 1).toNat 0 = l[(nn - 1).toNat]'(by omega) := by rw [List.getD_eq_getElem?_getD, List.getElem?_eq_getElem (by omega)]; rfl
    rw [hg] at hz
    rw [hz]
    rfl
  obtain ⟨N4, g8⟩ : ∃ N4 : Nat, (nn - 1).toNat = N4 := ⟨_, rfl⟩
  rw [g8] at hzc
  have hbl := World.block_lt_of_cell? _ _ hzc
  obtain ⟨p, hp⟩ : ∃ p, p = l.length := ⟨_, rfl⟩
  rw [← hp] at hle HP HN ⊢
  have n0 : decide (nn < 0) = false := decide_eq_false (by omega)
  have n1 : decide ((p : Int) < nn) = false := decide_eq_false (by omega)
  have n5 : decide (nn < 5) = false := decide_eq_false (by omega)
  have g6 : (nn - 1 < (p : Int)) = True := eq_true (by omega)
  have g7 : (0 ≤ nn - 1) = True := eq_true (by omega)
  have g9 : (nn < 1) = False := eq_false (by omega)
  have g10 : (1 ≤ nn) = True := eq_true (by omega)
  have HW : Hid (wrap64 (nn - 1) = nn - 1) := Lib.hid (by unfold wrap64; omega)
  have HR := Lib.hid hR
  clear hs hl hr h5 hle hz hR hT hc hp
  have i1 := HW.out
  go_enter Tryz.func9, Tryz.ntmps9
  go_wp2_with fail
  refine HN.out.mono ?_
  rintro e w1 ⟨rfl, hb1⟩
  have hz1 : w1.cell? ⟨b, off + N4, none⟩ = some (.int .u8 0) := (hb1.cell hbl).trans hzc
  have HB1 := Lib.hid hb1
  clear hb1 HN hzc
  go_wp2_with fail
  refine (HP.out _ HB1.out).mono ?_
  rintro e w2 ⟨⟨v, n, A2, q, c2, ok, xs, rfl, ho, hn5, hps, hnl, hq, hok, hs2⟩, hb2⟩
  obtain ⟨Av, cv, rfl⟩ := ho.form
  have HB2 := Lib.hid (bthen HB1.out hb2)
  have HB12 := Lib.hid hb2
  have HO := Lib.hid ho
  have HX := Lib.hid (And.intro hps (And.intro hnl (And.intro hq (And.intro hok hs2))))
  clear hb2 ho hps hnl hq hok hs2 HP hz1 i1 n0 n1 n5 g6 g7 g8 g9 g10
  go_wp2_with fail
  go_loopw [10] (fun a wr => ∃ i : Nat, i ≤ n ∧ a = .int .i64 i ∧ Hid (vrdA (TOT.1.drop i) i (tailC TOT.2.2 TOT.2.1) = R) ∧ Hid (Below w2.heap.size w2 wr)) (fun a _ => n - (intOf a).toNat)
  case atStart => exact ⟨0, Nat.zero_le _, rfl, HR, Lib.hid (Below.refl _ _)⟩
  case round =>
    obtain ⟨i, hi, rfl, HV, HBr⟩ := hrel
    by_cases hlt : i < n
    · obtain ⟨x1, x2, x3, x4, x5⟩ := HX.out
      obtain ⟨g, c9, hv9, hg9, hnc, hcc, hcells⟩ := (HO.out.keep HBr.out).cells (by omega)
      obtain ⟨rfl, rfl⟩ : Av = some ⟨g, 0, none⟩ ∧ cv = c9 := by simpa using hv9
      have hiT : i < TOT.1.length := by omega
      obtain ⟨cs, hpc, hat⟩ := PtsC.at x1 i hiT
      obtain ⟨pt, hpt⟩ : ∃ x, x = TOT.1[i]'hiT := ⟨_, rfl⟩
      rw [← hpt] at hpc
      have HPT : Hid (∃ h : i < TOT.1.length, pt = TOT.1[i]'h) := Lib.hid ⟨hiT, hpt⟩
      clear hpt
      obtain ⟨B2, d2, B3, n3, d3, rfl, hsv, hv5⟩ := hpc
      have HG := Lib.hid (fun wx (h : Below w1.heap.size w1 wx) => docGood B2 B3 d2 n3 d3 pt.2.2 ⟨pt.2.1.toArray⟩ (pt.1.toNat : Int) wx (hsv.keep h) hv5)
      obtain ⟨z0, hz0⟩ : ∃ s : ByteArray, s = ⟨pt.2.1.toArray⟩ := ⟨_, rfl⟩
      obtain ⟨z1, hz1⟩ : ∃ x : Int, x = (pt.1.toNat : Int) := ⟨_, rfl⟩
      obtain ⟨z2, hz2⟩ : ∃ x : Nat, x = pt.2.2.length := ⟨_, rfl⟩
      obtain ⟨vb, hvb⟩ : ∃ x : Bool, x = valIs (pt.1.toNat : Int) pt.2.2 := ⟨_, rfl⟩
      rw [← hvb, ← hz0, ← hz1, ← hz2] at HG
      rw [← hz0, ← hz1, ← hz2] at hat
      have HVB := Lib.hid hvb
      have HZ0 := Lib.hid hz0
      clear hz0 hz1 hz2 hvb hsv hv5
      have k0 := hcells (4 * i + 0) _ (hat 0 (by omega))
      have k1 := hcells (4 * i + 1) _ (hat 1 (by omega))
      have k2 := hcells (4 * i + 2) _ (hat 2 (by omega))
      have k3 := hcells (4 * i + 3) _ (hat 3 (by omega))
      rw [Nat.mul_comm 4 i] at k0 k1 k2 k3
      have k0' : wr.cell? ⟨g, i * 4, none⟩ = some (.string z0) := k0
      clear x1 x2 x3 x4 x5 hv9 hcells hat hiT k0
      go_wp2_with fail
      refine (HG.out wr (bthen HB12.out HBr.out)).mono ?_
      rintro e w4 ⟨rfl, hb4⟩
      have HB4 := Lib.hid (bthen HBr.out hb4)
      have HC4 := Lib.hid (And.intro (World.block_lt_of_cell? _ _ k0') hb4)
      clear hb4 HG k1 k2 k3
      obtain ⟨hiT, hpt⟩ := HPT.out
      cases vb with
      | false =>
        have HRR : Hid (1 = R) := Lib.hid (by
          have hb := vrdA_bad TOT.1 i hiT (tailC TOT.2.2 TOT.2.1) (by rw [← hpt, ← HVB.out]; simp)
          rw [← hb]; exact HV.out)
        clear hpt hiT k0'
        go_wp2_with fail
        go_ret
        exact ⟨by rw [← HRR.out]; rfl, bthen HB2.out HB4.out⟩
      | true =>
        have k0w : w4.cell? ⟨g, i * 4, none⟩ = some (.string z0) := (HC4.out.2.cell HC4.out.1).trans k0'
        have hdg : ∀ wx : World, Calls Tryz.prog 27 #[.int .i64 i] wx fun e w' => e = .returned (.string ⟨(digits i).toArray⟩) ∧ Below wx.heap.size wx w' := fun wx => by
          have := docDigits (i + 1) (i : Int) wx (by omega) (by omega) (by omega)
          rwa [Int.toNat_natCast] at this
        have HDG := Lib.hid hdg
        clear hdg k0'
        by_cases hnm : pt.2.1 = digits i
        · have HV2 : Hid (vrdA (TOT.1.drop (i + 1)) (i + 1) (tailC TOT.2.2 TOT.2.1) = R) := Lib.hid (by
            rw [← vrdA_at TOT.1 i hiT (tailC TOT.2.2 TOT.2.1) (by rw [← hpt, ← HVB.out]) (by rw [← hpt]; exact hnm)]; exact HV.out)
          have HI : Hid (wrap64 ((i : Int) + 1) = (i : Int) + 1) := Lib.hid (w64one' i (by omega))
          have hnd2 : (z0.toList == digits i) = true := by rw [beq_iff_eq, ← hnm, HZ0.out]; exact toList_data _
          have hnd3 : (z0.toList != digits i) = false := by simpa using hnd2
          clear hpt hiT hnm
          go_wp2_with fail
          refine start_ (n := 11) (S := fun w' => w'.cell? ⟨g, i * 4, none⟩ = some (.string z0)) (ds := []) #[false, false, false, false, false, false, false, false, false, false, false] (by kernel_rfl) rfl rfl (k0w) (fun hHeld => ?_)
          refine with_tabW R9.tab16 R9.bits16 (fun HT_ HW_ => ?_)
          refine pure_ (i := 0) (N := some 52) (v := ?_) (a' := ?_) #[true, false, false, false, false, false, false, false, false, false, false] rfl rfl (any_of HT_.out (by kernel_rfl)) (fun _ _ _ h => h) (Or.inl ⟨by rfl, ?_⟩) ?_ ?_
          rotate_left
          · intro w'
            go_simp
            with_reducible rfl
          rotate_left
          · simp only [Act.put, List.setIfInBounds_toArray, List.set_cons_zero, List.set_cons_succ, i64_w, i32_w]
            rfl
          refine pure_ (i := 1) (N := some 53) (v := ?_) (a' := ?_) #[true, true, false, false, false, false, false, false, false, false, false] rfl rfl (any_of HT_.out (by kernel_rfl)) (fun _ _ _ h => h) (Or.inl ⟨by rfl, ?_⟩) ?_ ?_
          rotate_left
          · intro w'
            go_simp
            with_reducible rfl
          rotate_left
          · simp only [Act.put, List.setIfInBounds_toArray, List.set_cons_zero, List.set_cons_succ, i64_w, i32_w]
            rfl
          refine pure_ (i := 2) (N := some 54) (v := ?_) (a' := ?_) #[true, true, true, false, false, false, false, false, false, false, false] rfl rfl (any_of HT_.out (by kernel_rfl)) (fun _ _ _ h => h) (Or.inl ⟨by rfl, ?_⟩) ?_ ?_
          rotate_left
          · intro w'
            go_simp
            with_reducible rfl
          rotate_left
          · simp only [Act.put, List.setIfInBounds_toArray, List.set_cons_zero, List.set_cons_succ, i64_w, i32_w]
            rfl
          refine pure_ (i := 3) (N := some 55) (v := ?_) (a' := ?_) #[true, true, true, true, false, false, false, false, false, false, false] rfl rfl (any_of HT_.out (by kernel_rfl)) (fun _ _ _ h => h) (Or.inl ⟨by rfl, ?_⟩) ?_ ?_
          rotate_left
          · intro w'
            go_simp
            with_reducible rfl
          rotate_left
          · simp only [Act.put, List.setIfInBounds_toArray, List.set_cons_zero, List.set_cons_succ, i64_w, i32_w]
            rfl
          refine pure_ (i := 4) (N := some 56) (v := ?_) (a' := ?_) #[true, true, true, true, true, false, false, false, false, false, false] rfl rfl (any_of HT_.out (by kernel_rfl)) (fun _ _ _ h => h) (Or.inl ⟨by rfl, ?_⟩) ?_ ?_
          rotate_left
          · intro w'
            go_simp
            with_reducible rfl
          rotate_left
          · simp only [Act.put, List.setIfInBounds_toArray, List.set_cons_zero, List.set_cons_succ, i64_w, i32_w]
            rfl
          refine pure_ (i := 5) (N := some 57) (v := ?_) (a' := ?_) #[true, true, true, true, true, true, false, false, false, false, false] rfl rfl (any_of HT_.out (by kernel_rfl)) (fun _ _ _ h => h) (Or.inl ⟨by rfl, ?_⟩) ?_ ?_
          rotate_left
          · intro w'
            go_simp
            with_reducible rfl
          rotate_left
          · simp only [Act.put, List.setIfInBounds_toArray, List.set_cons_zero, List.set_cons_succ, i64_w, i32_w]
            rfl
          refine pure_ (i := 7) (N := some 59) (v := ?_) (a' := ?_) #[true, true, true, true, true, true, false, true, false, false, false] rfl rfl (any_of HT_.out (by kernel_rfl)) (fun _ _ _ h => h) (Or.inl ⟨by rfl, ?_⟩) ?_ ?_
          rotate_left
          · intro w'
            go_simp
            with_reducible rfl
          rotate_left
          · simp only [Act.put, List.setIfInBounds_toArray, List.set_cons_zero, List.set_cons_succ, i64_w, i32_w]
            rfl
          refine take_ (i := 6) (N := some 58) (v := ?_) (a' := ?_) #[true, true, true, true, true, true, true, true, false, false, false] rfl rfl (take_ofW HT_.out HW_.out (by kernel_rfl)) (fun _ _ _ h => h) (Or.inl ⟨by rfl, ?_⟩) hHeld ?_ ?_
          rotate_left
          · intro w' s0
            go_simp
            with_reducible rfl
          rotate_left
          · simp only [Act.put, List.setIfInBounds_toArray, List.set_cons_zero, List.set_cons_succ, i64_w, i32_w]
            rfl
          refine one_ (i := 8) (N := some 60) #[true, true, true, true, true, true, true, true, true, false, false] rfl rfl (one_of HT_.out (by kernel_rfl)) (by decide) (fun K hK => ?_)
          refine goes_ Tryz.func27 (by kernel_rfl) rfl #[.int .i64 i] (by rfl) rfl rfl (by simp only [List.map_toArray, List.map_cons, List.map_nil]; rfl) ?_
          with_reducible refine (HDG.out _).mono ?_
          rintro e w5 ⟨rfl, hb5⟩
          refine ⟨_, rfl, ?_⟩
          refine hK.out _ _ (((hb5.cell (World.block_lt_of_cell? _ _ hHeld)).trans hHeld)) (fun hHeld => ?_)
          clear hK K
          refine norm_ (a' := ?_) ?_ ?_
          rotate_left
          · show Act.put _ (some 60) _ = _
            simp only [Act.put, List.setIfInBounds_toArray, List.set_cons_zero, List.set_cons_succ, i64_w, i32_w]
            rfl
          refine pure_ (i := 9) (N := some 61) (v := ?_) (a' := ?_) #[true, true, true, true, true, true, true, true, true, true, false] rfl rfl (any_of HT_.out (by kernel_rfl)) (fun _ _ _ h => h) (Or.inl ⟨by rfl, ?_⟩) ?_ ?_
          rotate_left
          · intro w'
            go_simp
            with_reducible rfl
          rotate_left
          · simp only [Act.put, List.setIfInBounds_toArray, List.set_cons_zero, List.set_cons_succ, i64_w, i32_w]
            rfl
          refine pure_ (i := 10) (N := some 62) (v := ?_) (a' := ?_) #[true, true, true, true, true, true, true, true, true, true, true] rfl rfl (any_of HT_.out (by kernel_rfl)) (fun _ _ _ h => h) (Or.inl ⟨by rfl, ?_⟩) ?_ ?_
          rotate_left
          · intro w'
            go_simp
            with_reducible rfl
          rotate_left
          · simp only [Act.put, List.setIfInBounds_toArray, List.set_cons_zero, List.set_cons_succ, i64_w, i32_w]
            rfl
          refine done_ (done_of HT_.out (by kernel_rfl)) ?_
          have HB5 := Lib.hid (bthen (bdrew HB4.out) hb5)
          go_wp2_with fail
          go_roundw
          case rel => exact ⟨i + 1, by omega, by first | rfl | (rw [HI.out]; simp), HV2, HB5⟩
          case measure => first | (rw [HI.out]; simp [intOf]; omega) | (simp [intOf]; omega)
        · have HRR : Hid (6 = R) := Lib.hid (by
            have hb := vrdA_name TOT.1 i hiT (tailC TOT.2.2 TOT.2.1) (by rw [← hpt, ← HVB.out]) (by rw [← hpt]; exact hnm)
            rw [← hb]; exact HV.out)
          have hnd2 : (z0.toList == digits i) = false := by rw [beq_eq_false_iff_ne, HZ0.out, toList_data]; exact hnm
          have hnd3 : (z0.toList != digits i) = true := by simpa using hnd2
          clear hpt hiT hnm
          go_wp2_with fail
          refine start_ (n := 11) (S := fun w' => w'.cell? ⟨g, i * 4, none⟩ = some (.string z0)) (ds := []) #[false, false, false, false, false, false, false, false, false, false, false] (by kernel_rfl) rfl rfl (k0w) (fun hHeld => ?_)
          refine with_tabW R9.tab16 R9.bits16 (fun HT_ HW_ => ?_)
          refine pure_ (i := 0) (N := some 52) (v := ?_) (a' := ?_) #[true, false, false, false, false, false, false, false, false, false, false] rfl rfl (any_of HT_.out (by kernel_rfl)) (fun _ _ _ h => h) (Or.inl ⟨by rfl, ?_⟩) ?_ ?_
          rotate_left
          · intro w'
            go_simp
            with_reducible rfl
          rotate_left
          · simp only [Act.put, List.setIfInBounds_toArray, List.set_cons_zero, List.set_cons_succ, i64_w, i32_w]
            rfl
          refine pure_ (i := 1) (N := some 53) (v := ?_) (a' := ?_) #[true, true, false, false, false, false, false, false, false, false, false] rfl rfl (any_of HT_.out (by kernel_rfl)) (fun _ _ _ h => h) (Or.inl ⟨by rfl, ?_⟩) ?_ ?_
          rotate_left
          · intro w'
            go_simp
            with_reducible rfl
          rotate_left
          · simp only [Act.put, List.setIfInBounds_toArray, List.set_cons_zero, List.set_cons_succ, i64_w, i32_w]
            rfl
          refine pure_ (i := 2) (N := some 54) (v := ?_) (a' := ?_) #[true, true, true, false, false, false, false, false, false, false, false] rfl rfl (any_of HT_.out (by kernel_rfl)) (fun _ _ _ h => h) (Or.inl ⟨by rfl, ?_⟩) ?_ ?_
          rotate_left
          · intro w'
            go_simp
            with_reducible rfl
          rotate_left
          · simp only [Act.put, List.setIfInBounds_toArray, List.set_cons_zero, List.set_cons_succ, i64_w, i32_w]
            rfl
          refine pure_ (i := 3) (N := some 55) (v := ?_) (a' := ?_) #[true, true, true, true, false, false, false, false, false, false, false] rfl rfl (any_of HT_.out (by kernel_rfl)) (fun _ _ _ h => h) (Or.inl ⟨by rfl, ?_⟩) ?_ ?_
          rotate_left
          · intro w'
            go_simp
            with_reducible rfl
          rotate_left
          · simp only [Act.put, List.setIfInBounds_toArray, List.set_cons_zero, List.set_cons_succ, i64_w, i32_w]
            rfl
          refine pure_ (i := 4) (N := some 56) (v := ?_) (a' := ?_) #[true, true, true, true, true, false, false, false, false, false, false] rfl rfl (any_of HT_.out (by kernel_rfl)) (fun _ _ _ h => h) (Or.inl ⟨by rfl, ?_⟩) ?_ ?_
          rotate_left
          · intro w'
            go_simp
            with_reducible rfl
          rotate_left
          · simp only [Act.put, List.setIfInBounds_toArray, List.set_cons_zero, List.set_cons_succ, i64_w, i32_w]
            rfl
          refine pure_ (i := 5) (N := some 57) (v := ?_) (a' := ?_) #[true, true, true, true, true, true, false, false, false, false, false] rfl rfl (any_of HT_.out (by kernel_rfl)) (fun _ _ _ h => h) (Or.inl ⟨by rfl, ?_⟩) ?_ ?_
          rotate_left
          · intro w'
            go_simp
            with_reducible rfl
          rotate_left
          · simp only [Act.put, List.setIfInBounds_toArray, List.set_cons_zero, List.set_cons_succ, i64_w, i32_w]
            rfl
          refine pure_ (i := 7) (N := some 59) (v := ?_) (a' := ?_) #[true, true, true, true, true, true, false, true, false, false, false] rfl rfl (any_of HT_.out (by kernel_rfl)) (fun _ _ _ h => h) (Or.inl ⟨by rfl, ?_⟩) ?_ ?_
          rotate_left
          · intro w'
            go_simp
            with_reducible rfl
          rotate_left
          · simp only [Act.put, List.setIfInBounds_toArray, List.set_cons_zero, List.set_cons_succ, i64_w, i32_w]
            rfl
          refine take_ (i := 6) (N := some 58) (v := ?_) (a' := ?_) #[true, true, true, true, true, true, true, true, false, false, false] rfl rfl (take_ofW HT_.out HW_.out (by kernel_rfl)) (fun _ _ _ h => h) (Or.inl ⟨by rfl, ?_⟩) hHeld ?_ ?_
          rotate_left
          · intro w' s0
            go_simp
            with_reducible rfl
          rotate_left
          · simp only [Act.put, List.setIfInBounds_toArray, List.set_cons_zero, List.set_cons_succ, i64_w, i32_w]
            rfl
          refine one_ (i := 8) (N := some 60) #[true, true, true, true, true, true, true, true, true, false, false] rfl rfl (one_of HT_.out (by kernel_rfl)) (by decide) (fun K hK => ?_)
          refine goes_ Tryz.func27 (by kernel_rfl) rfl #[.int .i64 i] (by rfl) rfl rfl (by simp only [List.map_toArray, List.map_cons, List.map_nil]; rfl) ?_
          with_reducible refine (HDG.out _).mono ?_
          rintro e w5 ⟨rfl, hb5⟩
          refine ⟨_, rfl, ?_⟩
          refine hK.out _ _ (((hb5.cell (World.block_lt_of_cell? _ _ hHeld)).trans hHeld)) (fun hHeld => ?_)
          clear hK K
          refine norm_ (a' := ?_) ?_ ?_
          rotate_left
          · show Act.put _ (some 60) _ = _
            simp only [Act.put, List.setIfInBounds_toArray, List.set_cons_zero, List.set_cons_succ, i64_w, i32_w]
            rfl
          refine pure_ (i := 9) (N := some 61) (v := ?_) (a' := ?_) #[true, true, true, true, true, true, true, true, true, true, false] rfl rfl (any_of HT_.out (by kernel_rfl)) (fun _ _ _ h => h) (Or.inl ⟨by rfl, ?_⟩) ?_ ?_
          rotate_left
          · intro w'
            go_simp
            with_reducible rfl
          rotate_left
          · simp only [Act.put, List.setIfInBounds_toArray, List.set_cons_zero, List.set_cons_succ, i64_w, i32_w]
            rfl
          refine pure_ (i := 10) (N := some 62) (v := ?_) (a' := ?_) #[true, true, true, true, true, true, true, true, true, true, true] rfl rfl (any_of HT_.out (by kernel_rfl)) (fun _ _ _ h => h) (Or.inl ⟨by rfl, ?_⟩) ?_ ?_
          rotate_left
          · intro w'
            go_simp
            with_reducible rfl
          rotate_left
          · simp only [Act.put, List.setIfInBounds_toArray, List.set_cons_zero, List.set_cons_succ, i64_w, i32_w]
            rfl
          refine done_ (done_of HT_.out (by kernel_rfl)) ?_
          have HB5 := Lib.hid (bthen (bdrew HB4.out) hb5)
          go_wp2_with fail
          go_ret
          exact ⟨by rw [← HRR.out]; rfl, bthen HB2.out HB5.out⟩
    · obtain rfl : i = n := by omega
      obtain ⟨x1, x2, x3, x4, x5⟩ := HX.out
      have hv := HV.out
      rw [x2, List.drop_length, vrdA] at hv
      unfold tailC at hv
      rw [← x4] at hv
      cases ok with
      | false =>
        have HRR : Hid (1 = R) := Lib.hid (by simpa using hv)
        clear x1 x2 x3 x4 x5 hv hlt hi
        go_wp2_with fail
        go_ret
        exact ⟨by rw [← HRR.out]; rfl, bthen HB2.out HBr.out⟩
      | true =>
        obtain ⟨rest, hrest⟩ : ∃ x, x = TOT.2.1 := ⟨_, rfl⟩
        rw [← hrest] at hv x3 x5
        have HRR : Hid ((if rest.headD 1 = 0 then 0 else 3) = R) := Lib.hid (by simpa using hv)
        have hs5 := x5.keep (bthen HB12.out HBr.out)
        clear x1 x2 x4 x5 hv hlt hi hrest
        rcases rest with _ | ⟨y, r⟩
        · have hq0 : q = 0 := x3
          subst hq0
          clear x3 hs5
          go_wp2_with fail
          go_ret
          exact ⟨by rw [← HRR.out]; rfl, bthen HB2.out HBr.out⟩
        · obtain ⟨mm, rfl⟩ : ∃ mm, q = mm + 1 := ⟨r.length, by simpa using x3⟩
          have d2 : ((mm + 1 : Nat) : Int) = (mm : Int) + 1 := by omega
          obtain ⟨b2, o2, rfl, hc2⟩ := hs5.cells (by simp)
          have hx' : wr.cell? ⟨b2, o2, none⟩ = some (.int .u8 (y.toNat : Int)) := hc2 0 (by simp)
          by_cases h0 : y = 0
          · subst h0
            have hx2 : wr.cell? ⟨b2, o2, none⟩ = some (.int .u8 0) := hx'
            clear x3 hs5 hc2 hx'
            go_wp2_with fail
            go_ret
            exact ⟨by rw [← HRR.out]; rfl, bthen HB2.out HBr.out⟩
          · obtain ⟨z, hz⟩ : ∃ z, z = (y.toNat : Int) := ⟨_, rfl⟩
            rw [← hz] at hx'
            have hz0 : (z != 0) = true := by rw [bne_iff_ne, hz]; intro h; exact h0 (UInt8.toNat_inj.1 (by simpa using h))
            have H0 := Lib.hid h0
            clear x3 hs5 hc2 hz h0
            go_wp2_with fail
            go_ret
            exact ⟨by rw [← HRR.out]; simp [H0.out], bthen HB2.out HBr.out⟩
end Ck
end Go.Proofs.YtjbeaofnnodlcaaGreatDoor.X


/- What spec.DocCheck says is what Document.Validate and Array.Validate tell: plain law; DocCheck for all bytes. -/
set_option linter.unusedVariables false
set_option linter.unusedSimpArgs false
set_option maxRecDepth 100000
namespace Go.Proofs.YtjbeaofnnodlcaaGreatDoor.X
open Go.RowKit Go.Proofs.YtjbeaofnnodlcaaGreatDoorW.PrintLast
namespace Ck
open Sp Al Av Aw
theorem dec_digits (i : Nat) : Lib.decDigits i = digits i := by
  induction i using Nat.strongRecOn with
  | ind n ih =>
    rw [Lib.decDigits, digits]
    split
    · rfl
    · rename_i h
      rw [ih (n / 10) (by omega)]
theorem itoa_digits (i : Nat) : Lib.itoa (i : Int) = digits i := by rw [Lib.itoa_nonneg, dec_digits]
/-- The code of the element that begins some bytes: whether its value is one. -/
theorem code_first (rem : List UInt8) (k : Nat) (h : firstN rem = some k) : elemCode (rem.take k) = if valIs ((rem.headD 0).toNat : Int) ((rem.take k).drop (elName rem).length.succ.succ) = true then 0 else 1 := by
  obtain ⟨t, nm, v, h1, h2, h3⟩ := first_split rem k h
  have hhd : rem.headD 0 = t := by
    cases rem with
    | nil => simp at h1
    | cons x r =>
      cases k with
      | zero => simp at h1
      | succ k => rw [List.take_succ_cons] at h1; exact (List.cons.inj h1).1
  have hv : (rem.take k).drop (elName rem).length.succ.succ = v := by
    rw [h1, h3, List.drop_succ_cons, List.drop_append, List.drop_of_length_le (by omega), show nm.length.succ - nm.length = 1 from by omega]
    rfl
  rw [hv, hhd, h1]
  have hi : Lib.indexByte (nm ++ 0 :: v) ((0 : Int).toNat.toUInt8) = nm.length := index_plain nm v h2
  unfold elemCode
  rw [if_pos (by simp)]
  have e1 : (t :: (nm ++ 0 :: v)).drop 1 = nm ++ 0 :: v := rfl
  rw [e1, hi, if_pos (by omega)]
  have e2 : ((nm.length : Int) + 2).toNat = nm.length + 1 + 1 := by omega
  have e3 : (t :: (nm ++ 0 :: v)).drop ((nm.length : Int) + 2).toNat = v := by
    rw [e2, List.drop_succ_cons, List.drop_append, List.drop_of_length_le (by omega), show nm.length + 1 - nm.length = 1 from by omega]
    rfl
  rw [e3]
  rfl
theorem vrd_chk : ∀ (f : Nat) (left : Int) (rem : List UInt8), vrd (pts f left rem).1 (tailC (pts f left rem).2.2 (pts f left rem).2.1) = chk f left rem
  | 0, left, rem => by simp [pts, vrd, tailC, chk]
  | f + 1, left, rem => by
    by_cases h1 : 1 < left
    · cases hf : firstN rem with
      | none => rw [pts_none f left rem h1 hf, chk_none f left rem h1 hf]; simp [vrd, tailC]
      | some k =>
        have hc := code_first rem k hf
        rw [pts_step f left rem k h1 hf]
        simp only [vrd]
        by_cases hv : valIs ((rem.headD 0).toNat : Int) ((rem.take k).drop (elName rem).length.succ.succ) = true
        · rw [if_pos hv] at hc ⊢
          rw [chk_step f left rem k h1 hf hc]
          exact vrd_chk f _ _
        · rw [if_neg hv] at hc ⊢
          rw [chk_bad f left rem k 1 (by decide) h1 hf hc]
    · rw [pts_end f left rem h1, chk_end f left rem h1]
      simp [vrd, tailC]
/-- What impl.ValidateArray makes of a code. -/
def told (n : Int) : Int := if n = 9 then 6 else n
theorem vrdA_chk : ∀ (f : Nat) (left : Int) (rem : List UInt8) (i : Nat), vrdA (pts f left rem).1 i (tailC (pts f left rem).2.2 (pts f left rem).2.1) = told (chkA f left rem i)
  | 0, left, rem, i => by simp [pts, vrdA, tailC, chkA, told]
  | f + 1, left, rem, i => by
    by_cases h1 : 1 < left
    · cases hf : firstN rem with
      | none => rw [pts_none f left rem h1 hf, chkA_none f left rem i h1 hf]; simp [vrdA, tailC, told]
      | some k =>
        have hc := code_first rem k hf
        rw [pts_step f left rem k h1 hf]
        simp only [vrdA]
        by_cases hv : valIs ((rem.headD 0).toNat : Int) ((rem.take k).drop (elName rem).length.succ.succ) = true
        · rw [if_pos hv] at hc ⊢
          by_cases hn : elName rem = digits i
          · rw [if_pos hn, chkA_step f left rem k i h1 hf hc (by rw [itoa_digits]; exact hn)]
            exact vrdA_chk f _ _ _
          · rw [if_neg hn, chkA_name f left rem k i h1 hf hc (by rw [itoa_digits]; exact hn)]
            rfl
        · rw [if_neg hv] at hc ⊢
          rw [chkA_bad f left rem k i 1 (by decide) h1 hf hc]
          rfl
    · rw [pts_end f left rem h1, chkA_end f left rem i h1]
      simp only [vrdA, tailC, if_true, told]
      split <;> rfl
theorem read_no (l : List UInt8) (h : (numOf l).2 = false) : (readLen l).2 = false := by rw [read_num, h]; rfl
theorem read_neg (l : List UInt8) (h : (numOf l).1 < 0) : (readLen l).2 = false := by rw [read_num, decide_eq_false (by omega)]; simp
theorem read_yes (l : List UInt8) (nn : Int) (h : numOf l = (nn, true)) (h0 : 0 ≤ nn) : readLen l = (nn, true) := by rw [read_num, h]; simp [h0]
theorem checkDoc (A : Option Addr) (c : Nat) (l : List UInt8) (w : World) (hs : SB w A c l) (hl : l.length ≤ 5000) :
    Calls Tryz.prog 9 #[.slice A l.length c, .bool false] w fun e w' => e = .returned (.int .i64 (docCode l)) ∧ Below w.heap.size w w' := by
  obtain ⟨⟨nn, ok⟩, hr⟩ : ∃ x, numOf l = x := ⟨_, rfl⟩
  unfold docCode
  cases ok with
  | false =>
    rw [read_no l (by rw [hr]), if_neg (by simp)]
    exact checkNone false A c l nn w hs hr
  | true =>
    by_cases h0 : nn < 0
    · rw [read_neg l (by rw [hr]; exact h0), if_neg (by simp)]
      exact checkNeg false A c l nn w hs hr h0
    · rw [read_yes l nn hr (by omega)]
      simp only [if_true]
      by_cases h1 : (l.length : Int) < nn
      · rw [if_pos h1]
        exact checkLong false A c l nn w hs hr (by omega) h1
      · rw [if_neg h1]
        by_cases h5 : nn < 5
        · rw [if_pos h5]
          exact checkLow false A c l nn w hs hr (by omega) (by omega) h5
        · rw [if_neg h5]
          by_cases hz : l.getD (nn - 1).toNat 0 = 0
          · rw [if_pos hz]
            exact checkLoop A c l nn _ w hs hl hr (by omega) (by omega) hz (vrd_chk _ _ _)
          · rw [if_neg hz]
            exact checkLast false A c l nn w hs hr (by omega) hl (by omega) hz
theorem checkArr (A : Option Addr) (c : Nat) (l : List UInt8) (w : World) (hs : SB w A c l) (hl : l.length ≤ 5000) :
    Calls Tryz.prog 9 #[.slice A l.length c, .bool true] w fun e w' => e = .returned (.int .i64 (arrTold l)) ∧ Below w.heap.size w w' := by
  obtain ⟨⟨nn, ok⟩, hr⟩ : ∃ x, numOf l = x := ⟨_, rfl⟩
  have ht : arrTold l = told (arrCode l) := rfl
  rw [ht]
  unfold arrCode
  cases ok with
  | false =>
    rw [read_no l (by rw [hr]), if_neg (by simp)]
    exact checkNone true A c l nn w hs hr
  | true =>
    by_cases h0 : nn < 0
    · rw [read_neg l (by rw [hr]; exact h0), if_neg (by simp)]
      exact checkNeg true A c l nn w hs hr h0
    · rw [read_yes l nn hr (by omega)]
      simp only [if_true]
      by_cases h1 : (l.length : Int) < nn
      · rw [if_pos h1]
        exact checkLong true A c l nn w hs hr (by omega) h1
      · rw [if_neg h1]
        by_cases h5 : nn < 5
        · rw [if_pos h5]
          exact checkLow true A c l nn w hs hr (by omega) (by omega) h5
        · rw [if_neg h5]
          by_cases hz : l.getD (nn - 1).toNat 0 = 0
          · rw [if_pos hz]
            exact checkLoopA A c l nn _ w hs hl hr (by omega) (by omega) hz (vrdA_chk _ _ _ _)
          · rw [if_neg hz]
            exact checkLast true A c l nn w hs hr (by omega) hl (by omega) hz
end Ck
end Go.Proofs.YtjbeaofnnodlcaaGreatDoor.X


