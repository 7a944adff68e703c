/- docAwake holds. -/
import Derived.Test.YtohfgfbfohkkkaaGreatDoorAwD
import Derived.Test.YtohfgfbfohkkkaaGreatDoorAwE
import Derived.Test.YtohfgfbfohkkkaaGreatDoorAwF
import Derived.Test.YtohfgfbfohkkkaaGreatDoorLook2
set_option linter.unusedVariables false
set_option linter.unusedSimpArgs false
set_option maxRecDepth 100000
namespace Go.Proofs.YtohfgfbfohkkkaaGreatDoor.X
open Go.RowKit Go.Proofs.YtohfgfbfohkkkaaGreatDoorW.PrintLast
namespace Aw
open Lo
theorem awBuilt (wx : World) : Calls Tryz.prog 21 #[.slice (some ⟨wx.heap.size, 0, none⟩) 1 1] (wx.alloc (.cells #[.string ⟨#[97]⟩, .int .i64 16, .string ⟨#[]⟩, .string ⟨#[]⟩, .int .i64 7, .int .u64 0, .int .u64 0, .slice none 0 0, .slice none 0 0] 57)) fun e w' => ∃ A c, e = .returned (.slice A 12 c) ∧ SB w' A c docB ∧ Below wx.heap.size wx w' := by
  refine (builtOne _ wx.heap.size ⟨#[97]⟩ rfl ⟨_, _, heap_alloc_new wx _⟩).mono ?_
  rintro e w' ⟨A, c, rfl, h1, h2⟩
  exact ⟨A, c, rfl, h1, (balloc (Below.refl _ _) (Nat.le_refl _) _).trans (h2.mono (by simp))⟩
theorem awRead (wx : World) : Calls Tryz.prog 22 #[.int .i64 16, .slice (some ⟨wx.heap.size, 0, none⟩) 5 5] (wx.alloc (.cells #[.int .u8 7, .int .u8 0, .int .u8 0, .int .u8 0, .int .u8 9] 5)) fun e w' => ∃ A1 c1, e = .returned (.tuple #[.agg #[.int .i64 16, .string ⟨#[]⟩, .string ⟨#[]⟩, .int .i64 7, .int .u64 0, .int .u64 0, .slice none 0 0, .slice none 0 0], .slice A1 1 c1, .bool true]) ∧ Below wx.heap.size wx w' := by
  have hs := SB.lit_ (E := 5) wx [7, 0, 0, 0, 9] [.int .u8 7, .int .u8 0, .int .u8 0, .int .u8 0, .int .u8 9] rfl (by decide) 5 rfl
  refine (read7 _ _ _ hs).mono ?_
  rintro e w' ⟨A1, c1, rfl, h2⟩
  exact ⟨A1, c1, rfl, (balloc (Below.refl _ _) (Nat.le_refl _) _).trans (h2.mono (by simp))⟩
theorem awLookup (wx : World) (n : Nat) (hn : n = wx.heap.size) (A : Option Addr) (c : Nat) (h : SB wx A c docB) : Calls Tryz.prog 23 #[.slice A 12 c, .slice (some ⟨n, 0, none⟩) 1 1] (wx.alloc (.cells #[.string ⟨#[97]⟩] 9)) fun e w' => ∃ A1 c1, e = .returned (.tuple #[.agg #[.int .i64 16, .slice A1 4 c1], .int .i64 0]) ∧ SB w' A1 c1 l4 ∧ Below wx.heap.size wx w' := by
  subst hn
  refine (implLookup A c wx.heap.size 0 1 ⟨#[97]⟩ _ rfl (h.alloc _) (keycell _ _ rfl _ _)).mono ?_
  rintro e w' ⟨A1, c1, rfl, h1, h2⟩
  exact ⟨A1, c1, rfl, h1, (balloc (Below.refl _ _) (Nat.le_refl _) _).trans (h2.mono (by simp))⟩
set_option maxHeartbeats 1600000 in
theorem docAwake (w : World) : Calls Tryz.prog 8 #[] w fun e w' => e = .returned (.bool true) ∧ Below w.heap.size w w' := by
  go_enter Tryz.func8, Tryz.ntmps8
  go_wp2_with fail
  refine (awBuilt w).mono ?_
  rintro e w1 ⟨A, c, rfl, hs1, hb1⟩
  have HS1 := Lib.hid hs1
  have HB1 := Lib.hid hb1
  clear hs1 hb1
  go_wp2_with fail
  refine (awRead w1).mono ?_
  rintro e w2 ⟨A2, c2, rfl, hb2⟩
  have HS2 := Lib.hid (HS1.out.keep hb2)
  have HB2 := Lib.hid (bthen HB1.out hb2)
  clear hb2 HS1 HB1
  go_wp2_with fail
  have HS2a := Lib.hid (HS2.out.alloc (.cells #[.int .i64 16, .string ⟨#[]⟩, .string ⟨#[]⟩, .int .i64 7, .int .u64 0, .int .u64 0, .slice none 0 0, .slice none 0 0] 45))
  refine (awLookup _ (w2.heap.size + 1) (by simp) A c HS2a.out).mono ?_
  rintro e w3 ⟨A3, c3, rfl, hs3, hb3⟩
  have hbx : Below (w2.heap.size + 1) (w2.alloc (.cells #[.int .i64 16, .string ⟨#[]⟩, .string ⟨#[]⟩, .int .i64 7, .int .u64 0, .int .u64 0, .slice none 0 0, .slice none 0 0] 45)) w3 := by simpa using hb3
  have q3 := boxc hbx 3
  simp only [List.getElem?_cons_succ, List.getElem?_cons_zero] at q3
  have hz := boxs hbx
  have hlt : w2.heap.size < w3.heap.size := by omega
  have hb23 := boxb hbx
  have HS3 := Lib.hid ((HS2.out.keep hb23).alloc (.cells #[.int .i64 16, .slice A3 4 c3] 37))
  have HB3 := Lib.hid (balloc (bthen HB2.out hb23) (bthen HB2.out hb23).size (.cells #[.int .i64 16, .slice A3 4 c3] 37))
  have hst := str_of HS3.out
  have hcap := HS3.out.le
  have hcc := HS3.out.cap
  obtain ⟨A4, e4, s4⟩ := SB.to_ (P := Tryz.prog) Tryz.underlying22 rfl rfl .i64 A c docB 11 (by decide) HS3.out.le
  have S4 := Lib.hid s4
  have e4' : ∀ W : World, (Instr.slice 22 (.slice A 12 c) none (some (.int .i64 11)) none).run Tryz.prog W = .ok (.slice A4 11 c) W := e4
  have hst' : (convert 22 9 (.slice A 12 c)).run Tryz.prog (w3.alloc (.cells #[.int .i64 16, .slice A3 4 c3] 37)) = .ok (.string ⟨#[12, 0, 0, 0, 16, 97, 0, 7, 0, 0, 0, 0]⟩) (w3.alloc (.cells #[.int .i64 16, .slice A3 4 c3] 37)) := hst
  clear hs3 hb3 hbx hb23 HS2a HS2 HB2 e4 s4 hst
  have HV := Lib.hid (valLenErr A4 c 11 (docB.take 11) 12 _ (by decide) (S4.out _ HS3.out) (by decide +kernel) (by decide))
  clear S4 HS3
  go_wp2_with fail
  refine HV.out.mono ?_
  rintro e w4 ⟨rfl, hb4⟩
  have HB4 := Lib.hid (bthen HB3.out hb4)
  clear hb4 HV HB3
  go_wp2_with fail
  go_ret
  exact ⟨rfl, HB4.out⟩
end Aw
end Go.Proofs.YtohfgfbfohkkkaaGreatDoor.X
