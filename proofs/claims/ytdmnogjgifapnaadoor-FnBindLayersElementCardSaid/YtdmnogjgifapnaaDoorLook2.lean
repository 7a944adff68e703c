/- The look-up through bson and impl. -/
import Derived.Test.YtdmnogjgifapnaaDoorLook
set_option linter.unusedVariables false
set_option linter.unusedSimpArgs false
set_option maxRecDepth 100000
namespace Go.Proofs.YtdmnogjgifapnaaDoor.X
open Go.RowKit Go.Proofs.YtdmnogjgifapnaaDoorW.PrintLast
namespace Lo
open Al A2
theorem bsonLookupErr (A : Option Addr) (c kb ko ck : Nat) (sa : ByteArray) (w : World) (hsa : sa = ⟨#[97]⟩) (hs : SB w A c docB) (hk : w.cell? ⟨kb, ko, none⟩ = some (.string sa)) :
    Calls Tryd.prog 68 #[.slice A 12 c, .slice (some ⟨kb, ko, none⟩) 1 ck] w fun e w' => ∃ A1 c1, e = .returned (.tuple #[.agg #[.int .u8 16, .slice A1 4 c1], .nilIface]) ∧ SB w' A1 c1 l4 ∧ Below w.heap.size w w' := by
  have HK := Lib.hid (fun wx (h : Below w.heap.size w wx) => lookupErr A c kb ko ck sa wx hsa (hs.keep h) ((h.cell (World.block_lt_of_cell? _ _ hk)).trans hk))
  clear hs hk hsa
  go_enter Tryd.func68, Tryd.ntmps68
  go_wp2_with fail
  refine (HK.out _ (balloc (Below.refl _ _) (Nat.le_refl _) _)).mono ?_
  rintro e w1 ⟨A1, c1, rfl, hs1, hb⟩
  have hb1 : Below (w.heap.size + 1) (w.alloc (.cells #[.int .u8 0, .slice none 0 0] 78)) w1 := by simpa using hb
  have HS1 := Lib.hid hs1
  have hz1 := boxs hb1
  clear hb HK hs1
  go_wp2_with fail
  refine (fromCore _ _ _ _ _).mono ?_
  rintro e w2 ⟨rfl, hb2⟩
  have hb2' : Below w1.heap.size w1 w2 := (balloc (Below.refl _ _) (Nat.le_refl _) _).trans (hb2.mono (by simp))
  have HB := hb1.trans (hb2'.mono hz1)
  have HS2 := Lib.hid (HS1.out.keep hb2')
  have HN := Lib.hid (SB.notbox HB HS2.out (by decide))
  have q0 := boxc HB 0
  have q1 := boxc HB 1
  simp only [List.getElem?_cons_succ, List.getElem?_cons_zero] at q0 q1
  have f0 := boxf HB 0
  have f1 := boxf HB 1
  have hz2 := boxs HB
  have hlt : w.heap.size < w2.heap.size := by omega
  have HBB := Lib.hid (boxb HB)
  clear hb2 hb2' HB hb1 HS1
  go_wp2_with fail
  exact bodyPost_ret (v := .tuple #[.agg #[.int .u8 16, .slice A1 4 c1], .nilIface]) (by simp [results, Tryd.results68, go_sem, q0, q1]) rfl ⟨A1, c1, rfl, (HS2.out.far HN.out _).far HN.out _, (HBB.out.setCell (Nat.le_refl _) _).setCell (Nat.le_refl _) _⟩
theorem implRawLookup (A : Option Addr) (c kb ko ck : Nat) (sa : ByteArray) (w : World) (hsa : sa = ⟨#[97]⟩) (hs : SB w A c docB) (hk : w.cell? ⟨kb, ko, none⟩ = some (.string sa)) :
    Calls Tryd.prog 51 #[.slice A 12 c, .slice (some ⟨kb, ko, none⟩) 1 ck] w fun e w' => ∃ A1 c1, e = .returned (.tuple #[.agg #[.int .i64 16, .slice A1 4 c1], .int .i64 0]) ∧ SB w' A1 c1 l4 ∧ Below w.heap.size w w' := by
  have HK := Lib.hid (fun wx (h : Below w.heap.size w wx) => bsonLookupErr A c kb ko ck sa wx hsa (hs.keep h) ((h.cell (World.block_lt_of_cell? _ _ hk)).trans hk))
  have HO : Hid (∀ A1 c1 wx, SB wx A1 c1 l4 → Calls Tryd.prog 41 #[.agg #[.int .u8 16, .slice A1 4 c1]] wx fun e w' => ∃ A3 c3, e = .returned (.agg #[.int .i64 16, .slice A3 4 c3]) ∧ SB w' A3 c3 l4 ∧ (∀ a, A3 = some a → wx.heap.size ≤ a.block) ∧ Below wx.heap.size wx w') := Lib.hid fun A1 c1 wx h => implSome1 A1 c1 l4 16 wx h (by omega) (by omega) (by decide)
  clear hs hk hsa
  go_enter Tryd.func51, Tryd.ntmps51
  go_wp2_with fail
  refine (HK.out _ (balloc (Below.refl _ _) (Nat.le_refl _) _)).mono ?_
  rintro e w1 ⟨A1, c1, rfl, hs1, hb⟩
  have hb1 : Below (w.heap.size + 1) (w.alloc (.cells #[.int .i64 0, .slice none 0 0] 42)) w1 := by simpa using hb
  have HS1 := Lib.hid hs1
  have hz1 := boxs hb1
  clear hb HK hs1
  go_wp2_with fail
  refine (HO.out A1 c1 _ (HS1.out.alloc _)).mono ?_
  rintro e w2 ⟨A3, c3, rfl, hs3, hn3, hb2⟩
  have hb2' : Below w1.heap.size w1 w2 := (balloc (Below.refl _ _) (Nat.le_refl _) _).trans (hb2.mono (by simp))
  have hX := hb1.trans (hb2'.mono hz1)
  have HN3 : Hid (∀ a, A3 = some a → a.block ≠ w.heap.size) := Lib.hid fun a ha => by have h := hn3 a ha; simp at h; omega
  have HS3 := Lib.hid hs3
  clear hb2 hb2' hb1 HS1 hs3 hn3 HO
  go_wp2_with fail
  refine (code_nil w2).mono ?_
  rintro e w3 ⟨rfl, hb3⟩
  have hY := hX.trans (hb3.mono (boxs hX))
  have q0 := boxc hY 0
  have q1 := boxc hY 1
  simp only [List.getElem?_cons_succ, List.getElem?_cons_zero] at q0 q1
  have f0 := boxf hY 0
  have f1 := boxf hY 1
  have hz3 := boxs hY
  have hlt : w.heap.size < w3.heap.size := by omega
  have HB := Lib.hid (boxb hY)
  have HS33 := Lib.hid (HS3.out.keep hb3)
  clear hX hY hb3 HS3
  go_wp2_with fail
  exact bodyPost_ret (v := .tuple #[.agg #[.int .i64 16, .slice A3 4 c3], .int .i64 0]) (by simp [results, Tryd.results51, go_sem, q0, q1]) rfl ⟨A3, c3, rfl, (HS33.out.far HN3.out _).far HN3.out _, (HB.out.setCell (Nat.le_refl _) _).setCell (Nat.le_refl _) _⟩
theorem implLookup (A : Option Addr) (c kb ko ck : Nat) (sa : ByteArray) (w : World) (hsa : sa = ⟨#[97]⟩) (hs : SB w A c docB) (hk : w.cell? ⟨kb, ko, none⟩ = some (.string sa)) :
    Calls Tryd.prog 52 #[.slice A 12 c, .slice (some ⟨kb, ko, none⟩) 1 ck] w fun e w' => ∃ A1 c1, e = .returned (.tuple #[.agg #[.int .i64 16, .slice A1 4 c1], .int .i64 0]) ∧ SB w' A1 c1 l4 ∧ Below w.heap.size w w' := by
  have HK := Lib.hid (fun wx (h : Below w.heap.size w wx) => lookupErr A c kb ko ck sa wx hsa (hs.keep h) ((h.cell (World.block_lt_of_cell? _ _ hk)).trans hk))
  have HO : Hid (∀ A1 c1 wx, SB wx A1 c1 l4 → Calls Tryd.prog 49 #[.agg #[.int .u8 16, .slice A1 4 c1]] wx fun e w' => ∃ A3 c3, e = .returned (.agg #[.int .i64 16, .slice A3 4 c3]) ∧ SB w' A3 c3 l4 ∧ (∀ a, A3 = some a → wx.heap.size ≤ a.block) ∧ Below wx.heap.size wx w') := Lib.hid fun A1 c1 wx h => implRaw A1 c1 l4 16 wx h (by omega) (by omega) (by decide)
  clear hs hk hsa
  go_enter Tryd.func52, Tryd.ntmps52
  go_wp2_with fail
  refine (HK.out _ (balloc (Below.refl _ _) (Nat.le_refl _) _)).mono ?_
  rintro e w1 ⟨A1, c1, rfl, hs1, hb⟩
  have hb1 : Below (w.heap.size + 1) (w.alloc (.cells #[.int .i64 0, .slice none 0 0] 42)) w1 := by simpa using hb
  have HS1 := Lib.hid hs1
  have hz1 := boxs hb1
  clear hb HK hs1
  go_wp2_with fail
  refine (HO.out A1 c1 _ (HS1.out.alloc _)).mono ?_
  rintro e w2 ⟨A3, c3, rfl, hs3, hn3, hb2⟩
  have hb2' : Below w1.heap.size w1 w2 := (balloc (Below.refl _ _) (Nat.le_refl _) _).trans (hb2.mono (by simp))
  have hX := hb1.trans (hb2'.mono hz1)
  have HN3 : Hid (∀ a, A3 = some a → a.block ≠ w.heap.size) := Lib.hid fun a ha => by have h := hn3 a ha; simp at h; omega
  have HS3 := Lib.hid hs3
  clear hb2 hb2' hb1 HS1 hs3 hn3 HO
  go_wp2_with fail
  refine (code_nil w2).mono ?_
  rintro e w3 ⟨rfl, hb3⟩
  have hY := hX.trans (hb3.mono (boxs hX))
  have q0 := boxc hY 0
  have q1 := boxc hY 1
  simp only [List.getElem?_cons_succ, List.getElem?_cons_zero] at q0 q1
  have f0 := boxf hY 0
  have f1 := boxf hY 1
  have hz3 := boxs hY
  have hlt : w.heap.size < w3.heap.size := by omega
  have HB := Lib.hid (boxb hY)
  have HS33 := Lib.hid (HS3.out.keep hb3)
  clear hX hY hb3 HS3
  go_wp2_with fail
  exact bodyPost_ret (v := .tuple #[.agg #[.int .i64 16, .slice A3 4 c3], .int .i64 0]) (by simp [results, Tryd.results52, go_sem, q0, q1]) rfl ⟨A3, c3, rfl, (HS33.out.far HN3.out _).far HN3.out _, (HB.out.setCell (Nat.le_refl _) _).setCell (Nat.le_refl _) _⟩
theorem keycell (W : World) (n : Nat) (hn : n = W.heap.size) (sa : ByteArray) (t : TypeId) : (W.alloc (.cells #[.string sa] t)).cell? ⟨n, 0, none⟩ = some (.string sa) := by
  subst hn
  exact boxc (w := W) (cs := [.string sa]) (t := t) (Below.refl _ _) 0
set_option maxHeartbeats 1000000 in
theorem bindStands (w : World) : Calls Tryd.prog 27 #[] w fun e w' => e = .returned (.bool true) ∧ Below w.heap.size w w' := by
  have hs0 := SB.lit_ (E := 5) w docB [.int .u8 12, .int .u8 0, .int .u8 0, .int .u8 0, .int .u8 16, .int .u8 97, .int .u8 0, .int .u8 7, .int .u8 0, .int .u8 0, .int .u8 0, .int .u8 0] rfl (by decide) 12 rfl
  have HS0 := Lib.hid hs0
  clear hs0
  go_enter Tryd.func27, Tryd.ntmps27
  go_wp2_with fail
  refine (implRawLookup (some ⟨w.heap.size, 0, none⟩) 12 (w.heap.size + 1) 0 1 ⟨#[97]⟩ _ rfl (HS0.out.alloc _) ?_).mono ?_
  · exact keycell _ _ (by simp) _ _
  rintro e w1 ⟨A1, c1, rfl, hs1, hb1⟩
  have HD1 := Lib.hid ((HS0.out.alloc _).keep hb1)
  have hB1 : Below w.heap.size w w1 := (balloc (balloc (Below.refl _ _) (Nat.le_refl _) _) (by simp) _).trans (hb1.mono (by first | (simp; done) | (simp; omega)))
  have HB1 := Lib.hid hB1
  have HS1 := Lib.hid hs1
  clear hs1 hb1 hB1 HS0
  go_wp2_with fail
  refine (implLookup (some ⟨w.heap.size, 0, none⟩) 12 (w1.heap.size + 1) 0 1 ⟨#[97]⟩ _ rfl ((HD1.out.alloc _).alloc _) ?_).mono ?_
  · exact keycell _ _ (by simp) _ _
  rintro e w2 ⟨A2, c2, rfl, hs2, hb2⟩
  have hbx : Below (w1.heap.size + 1) (w1.alloc (.cells #[.int .i64 16, .slice A1 4 c1] 42)) w2 := (balloc (Below.refl _ _) (by simp) _).trans (hb2.mono (by first | (simp; done) | (simp; omega)))
  have q0 := boxc hbx 0
  have q1 := boxc hbx 1
  simp only [List.getElem?_cons_succ, List.getElem?_cons_zero] at q0 q1
  have hz := boxs hbx
  have hlt : w1.heap.size < w2.heap.size := by omega
  have hb12 := boxb hbx
  have HS1' := Lib.hid (HS1.out.keep hb12)
  have HS2 := Lib.hid hs2
  have HB2 := Lib.hid (HB1.out.trans (hb12.mono HB1.out.size))
  clear hs2 hb2 hbx hb12 HB1 HS1 HD1
  go_wp2_with fail
  refine (bindSame_same A1 A2 c1 c2 l4 16 _ (HS1'.out.alloc _) (HS2.out.alloc _)).mono ?_
  rintro e w3 ⟨rfl, hb3⟩
  have HB3 := Lib.hid ((balloc HB2.out HB2.out.size _).trans (hb3.mono (by have := HB2.out.size; simp; omega)))
  clear hb3 HB2 q0 q1
  go_wp2_with fail
  go_ret
  exact ⟨rfl, HB3.out⟩
end Lo
end Go.Proofs.YtdmnogjgifapnaaDoor.X
