/- Built of one element of 32 bits. -/
import Derived.Test.YtohfgfbfohkkkaaGreatDoorAwC
set_option linter.unusedVariables false
set_option linter.unusedSimpArgs false
set_option maxRecDepth 100000
namespace Go.Proofs.YtohfgfbfohkkkaaGreatDoor.X
open Go.RowKit Go.Proofs.YtohfgfbfohkkkaaGreatDoorW.PrintLast
namespace Aw
def KidAt (W : World) (kb : Nat) (sa : ByteArray) : Prop := ∃ s1 s2, W.heap[kb]? = some (.cells #[.string sa, .int .i64 16, .string s1, .string s2, .int .i64 7, .int .u64 0, .int .u64 0, .slice none 0 0, .slice none 0 0] 57 (0, 0))
set_option maxHeartbeats 1600000 in
theorem buildOne (W : World) (base B kb : Nat) (l : List UInt8) (sa : ByteArray) (hsa : sa = ⟨#[97]⟩) (hB : B < base) (hbase : base ≤ W.heap.size) (hk : KidAt W kb sa) (h : Bld W base B l) (hl : l.length ≤ 1000) :
    Calls Tryz.prog 48 #[.pointer (some ⟨B, 0, none⟩), .slice (some ⟨kb, 0, none⟩) 1 1] W fun e w' => e = .returned (.tuple #[]) ∧ Bld w' base B (l ++ [16, 97, 0, 7, 0, 0, 0]) ∧ Below B W w' := by
  obtain ⟨s1, s2, hkid⟩ := hk
  have k0 : W.cell? ⟨kb, 0, none⟩ = some (.string sa) := by simp only [World.cell?, hkid]; rfl
  have k1 : W.cell? ⟨kb, 1, none⟩ = some (.int .i64 16) := by simp only [World.cell?, hkid]; rfl
  have k2 : W.cell? ⟨kb, 2, none⟩ = some (.string s1) := by simp only [World.cell?, hkid]; rfl
  have k3 : W.cell? ⟨kb, 3, none⟩ = some (.string s2) := by simp only [World.cell?, hkid]; rfl
  have k4 : W.cell? ⟨kb, 4, none⟩ = some (.int .i64 7) := by simp only [World.cell?, hkid]; rfl
  have k5 : W.cell? ⟨kb, 5, none⟩ = some (.int .u64 0) := by simp only [World.cell?, hkid]; rfl
  have k6 : W.cell? ⟨kb, 6, none⟩ = some (.int .u64 0) := by simp only [World.cell?, hkid]; rfl
  have k7 : W.cell? ⟨kb, 7, none⟩ = some (.slice none 0 0) := by simp only [World.cell?, hkid]; rfl
  have k8 : W.cell? ⟨kb, 8, none⟩ = some (.slice none 0 0) := by simp only [World.cell?, hkid]; rfl
  have HC : Hid (∀ wx, Below W.heap.size W wx → Calls Tryz.prog 125 #[.pointer (some ⟨B, 0, none⟩), .string sa, .int .i32 7] wx fun e w' => e = .returned (.pointer (some ⟨B, 0, none⟩)) ∧ Bld w' base B (l ++ [16, 97, 0, 7, 0, 0, 0]) ∧ Below B W w') := Lib.hid fun wx hx => by
    have hb : Bld wx base B l := by
      obtain ⟨A, c, Ai, ci, hbx, ho, hg⟩ := h
      exact ⟨A, c, Ai, ci, (hx.block B (by omega)).trans hbx, ho.keep hx, hg.keep hx⟩
    refine (append7 wx base B l sa hsa hB (by have := hx.size; omega) hb hl).mono ?_
    rintro e w' ⟨rfl, h1, h2⟩
    exact ⟨rfl, h1, (hx.mono (by omega)).trans h2⟩
  have hltk : kb < W.heap.size := World.block_lt_of_cell? _ _ k0
  clear hsa hB hbase h hl hkid
  go_enter Tryz.func48, Tryz.ntmps48
  go_wp2_with fail
  go_loopw [9] (fun i wr => (i = .int .i64 0 ∧ wr = W) ∨ (i = .int .i64 1 ∧ Hid (Bld wr base B (l ++ [16, 97, 0, 7, 0, 0, 0]) ∧ Below B W wr))) (fun i _ => 1 - (intOf i).toNat)
  case atStart => exact Or.inl ⟨rfl, rfl⟩
  case round =>
    rcases hrel with ⟨rfl, rfl⟩ | ⟨rfl, hd⟩
    · go_wp2_with fail
      refine (HC.out _ (by exact balloc (balloc (Below.refl _ _) (Nat.le_refl _) _) (by simp) _)).mono ?_
      rintro e w1 ⟨rfl, h1, h2⟩
      have HD := Lib.hid (And.intro h1 h2)
      clear h1 h2 HC k0 k1 k2 k3 k4 k5 k6 k7 k8 hltk
      go_wp2_with fail
      go_roundw
      case rel => exact Or.inr ⟨by first | rfl | trivial, HD⟩
      case measure => simp [intOf]
    · clear k0 k1 k2 k3 k4 k5 k6 k7 k8 hltk
      go_wp2_with fail
      exact bodyPost_end (v := .tuple #[]) (by first | rfl | simp [results, Tryz.results48, go_sem]) rfl ⟨rfl, hd.out⟩
theorem builtOne (W : World) (kb : Nat) (sa : ByteArray) (hsa : sa = ⟨#[97]⟩) (hk : KidAt W kb sa) :
    Calls Tryz.prog 21 #[.slice (some ⟨kb, 0, none⟩) 1 1] W fun e w' => ∃ A c, e = .returned (.slice A 12 c) ∧ SB w' A c [12, 0, 0, 0, 16, 97, 0, 7, 0, 0, 0, 0] ∧ Below W.heap.size W w' := by
  have HN := Lib.hid (newBuilder W)
  have HC : Hid (∀ wx, Bld wx (W.heap.size + 1) W.heap.size [0, 0, 0, 0] → Below W.heap.size W wx → W.heap.size + 1 ≤ wx.heap.size → Calls Tryz.prog 48 #[.pointer (some ⟨W.heap.size, 0, none⟩), .slice (some ⟨kb, 0, none⟩) 1 1] wx fun e w' => e = .returned (.tuple #[]) ∧ Bld w' (W.heap.size + 1) W.heap.size [0, 0, 0, 0, 16, 97, 0, 7, 0, 0, 0] ∧ Below W.heap.size wx w') := Lib.hid fun wx hb hx hz => by
    obtain ⟨s1, s2, hkid⟩ := hk
    have hlt : kb < W.heap.size := (Array.getElem?_eq_some_iff.1 hkid).1
    exact buildOne wx _ _ kb [0, 0, 0, 0] sa hsa (Nat.lt_succ_self _) hz ⟨s1, s2, (hx.block kb hlt).trans hkid⟩ hb (by simp)
  have HD : Hid (∀ wx, Bld wx (W.heap.size + 1) W.heap.size [0, 0, 0, 0, 16, 97, 0, 7, 0, 0, 0] → W.heap.size + 1 ≤ wx.heap.size → Calls Tryz.prog 33 #[.pointer (some ⟨W.heap.size, 0, none⟩)] wx fun e w' => ∃ A c, e = .returned (.slice A 12 c) ∧ SB w' A c [12, 0, 0, 0, 16, 97, 0, 7, 0, 0, 0, 0] ∧ Below W.heap.size wx w') := Lib.hid fun wx hb hz => by
    have h := buildDoc wx _ _ [16, 97, 0, 7, 0, 0, 0] (Nat.lt_succ_self _) hz hb (by simp)
    rw [show i32 ((([16, 97, 0, 7, 0, 0, 0] : List UInt8).length : Int) + 5) ++ ([16, 97, 0, 7, 0, 0, 0] ++ [0]) = [12, 0, 0, 0, 16, 97, 0, 7, 0, 0, 0, 0] from by decide] at h
    exact h
  clear hsa hk
  go_enter Tryz.func21, Tryz.ntmps21
  go_wp2_with fail
  refine HN.out.mono ?_
  rintro e w1 ⟨rfl, h1, hb1⟩
  have hz1 : W.heap.size + 1 ≤ w1.heap.size := by
    obtain ⟨A, c, Ai, ci, hbx, -⟩ := h1
    exact (Array.getElem?_eq_some_iff.1 hbx).1
  have HX := Lib.hid (HC.out w1 h1 hb1 hz1)
  have HB1 := Lib.hid hb1
  clear h1 hb1 HN HC
  go_wp2_with fail
  refine HX.out.mono ?_
  rintro e w2 ⟨rfl, h2, hb2⟩
  have HX2 := Lib.hid (HD.out w2 h2 (by have := hb2.size; omega))
  have HB2 := Lib.hid (HB1.out.trans hb2)
  clear h2 hb2 HX HD hz1 HB1
  go_wp2_with fail
  refine HX2.out.mono ?_
  rintro e w3 ⟨A, c, rfl, hs, hb3⟩
  have HS := Lib.hid hs
  have HB3 := Lib.hid (HB2.out.trans hb3)
  clear hs hb3 HX2 HB2
  go_wp2_with fail
  go_ret
  exact ⟨A, c, rfl, HS.out, HB3.out⟩
end Aw
end Go.Proofs.YtohfgfbfohkkkaaGreatDoor.X
