/- The look-up through bson and impl. -/
import Derived.Test.YtohfgfbfohkkkaaGreatDoorLook
set_option linter.unusedVariables false
set_option linter.unusedSimpArgs false
set_option maxRecDepth 100000
namespace Go.Proofs.YtohfgfbfohkkkaaGreatDoor.X
open Go.RowKit Go.Proofs.YtohfgfbfohkkkaaGreatDoorW.PrintLast
namespace Lo
open Al A2
theorem implLookup (A : Option Addr) (c kb ko ck : Nat) (sa : ByteArray) (w : World) (hsa : sa = ⟨#[97]⟩) (hs : SB w A c docB) (hk : w.cell? ⟨kb, ko, none⟩ = some (.string sa)) :
    Calls Tryz.prog 23 #[.slice A 12 c, .slice (some ⟨kb, ko, none⟩) 1 ck] w fun e w' => ∃ A1 c1, e = .returned (.tuple #[.agg #[.int .i64 16, .slice A1 4 c1], .int .i64 0]) ∧ SB w' A1 c1 l4 ∧ Below w.heap.size w w' := by
  have HK := Lib.hid (fun wx (h : Below w.heap.size w wx) => lookupErr A c kb ko ck sa wx hsa (hs.keep h) ((h.cell (World.block_lt_of_cell? _ _ hk)).trans hk))
  have HO : Hid (∀ A1 c1 wx, SB wx A1 c1 l4 → Calls Tryz.prog 28 #[.agg #[.int .u8 16, .slice A1 4 c1]] wx fun e w' => ∃ A3 c3, e = .returned (.agg #[.int .i64 16, .slice A3 4 c3]) ∧ SB w' A3 c3 l4 ∧ (∀ a, A3 = some a → wx.heap.size ≤ a.block) ∧ Below wx.heap.size wx w') := Lib.hid fun A1 c1 wx h => implRaw A1 c1 l4 16 wx h (by omega) (by omega) (by decide)
  clear hs hk hsa
  go_enter Tryz.func23, Tryz.ntmps23
  go_wp2_with fail
  refine (HK.out _ (balloc (Below.refl _ _) (Nat.le_refl _) _)).mono ?_
  rintro e w1 ⟨A1, c1, rfl, hs1, hb⟩
  have hb1 : Below (w.heap.size + 1) (w.alloc (.cells #[.int .i64 0, .slice none 0 0] 37)) w1 := by simpa using hb
  have HS1 := Lib.hid hs1
  have hz1 := boxs hb1
  clear hb HK hs1
  go_wp2_with fail
  refine (HO.out A1 c1 _ (HS1.out.alloc _)).mono ?_
  rintro e w2 ⟨A3, c3, rfl, hs3, hn3, hb2⟩
  have hb2' : Below w1.heap.size w1 w2 := (balloc (Below.refl _ _) (Nat.le_refl _) _).trans (hb2.mono (by simp))
  have hX := hb1.trans (hb2'.mono hz1)
  have HN3 : Hid (∀ a, A3 = some a → a.block ≠ w.heap.size) := Lib.hid fun a ha => by have h := hn3 a ha; simp at h; omega
  have HS3 := Lib.hid hs3
  clear hb2 hb2' hb1 HS1 hs3 hn3 HO
  go_wp2_with fail
  refine (code_nil w2).mono ?_
  rintro e w3 ⟨rfl, hb3⟩
  have hY := hX.trans (hb3.mono (boxs hX))
  have q0 := boxc hY 0
  have q1 := boxc hY 1
  simp only [List.getElem?_cons_succ, List.getElem?_cons_zero] at q0 q1
  have f0 := boxf hY 0
  have f1 := boxf hY 1
  have hz3 := boxs hY
  have hlt : w.heap.size < w3.heap.size := by omega
  have HB := Lib.hid (boxb hY)
  have HS33 := Lib.hid (HS3.out.keep hb3)
  clear hX hY hb3 HS3
  go_wp2_with fail
  exact bodyPost_ret (v := .tuple #[.agg #[.int .i64 16, .slice A3 4 c3], .int .i64 0]) (by simp [results, Tryz.results23, go_sem, q0, q1]) rfl ⟨A3, c3, rfl, (HS33.out.far HN3.out _).far HN3.out _, (HB.out.setCell (Nat.le_refl _) _).setCell (Nat.le_refl _) _⟩
theorem keycell (W : World) (n : Nat) (hn : n = W.heap.size) (sa : ByteArray) (t : TypeId) : (W.alloc (.cells #[.string sa] t)).cell? ⟨n, 0, none⟩ = some (.string sa) := by
  subst hn
  exact boxc (w := W) (cs := [.string sa]) (t := t) (Below.refl _ _) 0
end Lo
end Go.Proofs.YtohfgfbfohkkkaaGreatDoor.X
