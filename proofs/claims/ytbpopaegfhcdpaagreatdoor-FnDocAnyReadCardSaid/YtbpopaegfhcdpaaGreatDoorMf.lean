/- Put together, without what nothing reaches: RdiB, RdiC, RdiE, RdiD, RdiF. -/
import Derived.Test.YtbpopaegfhcdpaaGreatDoorMe
/- impl.Read by kind. (gen_rdi.py) -/
set_option linter.unusedVariables false
set_option linter.unusedSimpArgs false
set_option maxRecDepth 100000
namespace Go.Proofs.YtbpopaegfhcdpaaGreatDoor.X
open Go.RowKit Go.Proofs.YtbpopaegfhcdpaaGreatDoorW.PrintLast
namespace Rs
open Sp Al Av Aw Ck Lk Rr

theorem w6432 (n : Int) : wrap64 (wrap32 n) = wrap32 n := by unfold wrap64 wrap32; omega
theorem implOne (t : Bool) (w : World) : Calls Tryz.prog 53 #[.bool t] w fun e w' => e = .returned (.int .i64 (if t = true then 1 else 0)) ∧ w = w' := by
  cases t <;>
  · go_enter Tryz.func53, Tryz.ntmps53
    go_wp2
    go_ret
    exact ⟨rfl, rfl⟩
set_option maxHeartbeats 8000000 in
theorem rd_9_ok (A : Option Addr) (c : Nat) (l : List UInt8) (w : World) (hs : SB w A c l) (hl : l.length ≤ 5000) (b0 b1 b2 b3 b4 b5 b6 b7 : UInt8) (r : List UInt8) (hlr : l = b0 :: b1 :: b2 :: b3 :: b4 :: b5 :: b6 :: b7 :: r) : RdOk 9 l ⟨#[]⟩ ⟨#[]⟩ (wrap64 (leI [b0, b1, b2, b3, b4, b5, b6, b7])) 0 0 [] r A c w := by
  unfold RdOk
  have hrl : r.length ≤ 5000 := by rw [hlr] at hl; simp at hl; omega
  obtain ⟨rr, hrr⟩ : ∃ x, x = r := ⟨_, rfl⟩
  rw [← hrr] at hrl ⊢
  have HX : Hid (∀ wx, Below w.heap.size w wx → Calls Tryz.prog 54 #[.slice A l.length c] wx fun e w' => ∃ A1 c1, e = .returned (.tuple #[.int .i64 (wrap64 (leI [b0, b1, b2, b3, b4, b5, b6, b7])), .slice A1 rr.length c1, .bool true]) ∧ Sm A c l A1 c1 rr ∧ Below wx.heap.size wx w') := Lib.hid fun wx hb => by
    have h8 := readI64S A c b0 b1 b2 b3 b4 b5 b6 b7 r wx (by rw [← hlr]; exact hs.keep hb)
    rw [← hlr] at h8
    refine (wrapReadDateTime (h8.mono (?_ : ∀ (e : Ending) (w' : World), _ → ∃ x y z : Value, e = .returned (.tuple #[x, y, z]) ∧ ((∃ A1 c1, x = .int .i64 (wrap64 (leI [b0, b1, b2, b3, b4, b5, b6, b7])) ∧ y = .slice A1 rr.length c1 ∧ z = .bool true ∧ Sm A c l A1 c1 rr) ∧ Below wx.heap.size wx w')))).mono ?_
    · rintro e w' ⟨A1, rfl, h1, h2⟩
      exact ⟨_, _, _, rfl, ⟨A1, _, rfl, by rw [hrr], rfl, by rw [hrr]; exact h1⟩, h2⟩
    · rintro e w' ⟨x, y, z, rfl, ⟨A1, c1, rfl, rfl, rfl, h1⟩, h2⟩
      exact ⟨A1, c1, rfl, h1, h2⟩
  have HOWN := Lib.hid (fun A1 c1 wx (h : SB wx A1 c1 rr) => ownF A1 c1 rr wx h hrl)
  have HS := Lib.hid hs
  obtain ⟨p, hp⟩ : ∃ p, p = l.length := ⟨_, rfl⟩
  obtain ⟨q, hq⟩ : ∃ p, p = rr.length := ⟨_, rfl⟩
  obtain ⟨NV, hNV⟩ : ∃ x, x = wrap64 (leI [b0, b1, b2, b3, b4, b5, b6, b7]) := ⟨_, rfl⟩
  rw [← hNV] at HX ⊢
  rw [← hp, ← hq] at HX
  rw [← hq] at HOWN
  rw [← hp, ← hq]
  clear hs hl hrl hp hq hlr hrr hNV
  go_enter Tryz.func17, Tryz.ntmps17
  go_wp2_with fail
  refine (HX.out _ (balloc (Below.refl _ _) (Nat.le_refl _) _)).mono ?_
  rintro e w1 ⟨A1, c1, rfl, hsm, hb⟩
  have hbx : Below (w.heap.size + 1) (w.alloc (.cells #[.int .i64 9, .string ⟨#[]⟩, .string ⟨#[]⟩, .int .i64 0, .int .u64 0, .int .u64 0, .slice none 0 0, .slice none 0 0] 27)) w1 := by simpa using hb
  have HBX := Lib.hid hbx
  have HSR := Lib.hid hsm
  have hz1 := boxs hbx
  have HB1 := Lib.hid (boxb hbx)
  have hblk1 : w1.heap[w.heap.size]? = some (.cells #[.int .i64 9, .string ⟨#[]⟩, .string ⟨#[]⟩, .int .i64 0, .int .u64 0, .int .u64 0, .slice none 0 0, .slice none 0 0] 27 (0, 0)) := by rw [HBX.out.block w.heap.size (by omega)]; exact heap_alloc_new w _
  obtain ⟨q0, q1, q2, q3, q4, q5, q6, q7, f0, f1, f2, f3, f4, f5, f6, f7⟩ := cells8 hblk1
  have hlt1 : w.heap.size < w1.heap.size := by omega
  clear hb hbx hsm HX
  go_wp2_with fail
  refine tail59 w _ 9 NV 0 0 ⟨#[]⟩ ⟨#[]⟩ none 0 0 A1 c1 q true _ (fun _ _ _ _ _ h => h) ?h1 ?h2 (fun wx hb => HOWN.out _ _ wx (HSR.out _ (HS.out.keep hb))) ?_
  case h1 => (refine Eq.trans (heap_setCell_same _ _ _ _ _ _ hblk1) ?_; first | rfl | simp)
  case h2 => (iterate 1 (refine bsR _ ?_)); exact HB1.out
  intro A3 c3 w9 hblk9 hb9 hs9 hx9
  obtain ⟨u0, u1, u2, u3, u4, u5, u6, u7, -⟩ := cells8 hblk9
  have hlt9 : w.heap.size < w9.heap.size := (Array.getElem?_eq_some_iff.1 hblk9).1
  go_wp2_with fail
  exact bodyPost_ret (v := .tuple #[.agg #[.int .i64 9, .string ⟨#[]⟩, .string ⟨#[]⟩, .int .i64 NV, .int .u64 0, .int .u64 0, .slice none 0 0, .slice none 0 0], .slice A3 q c3, .bool true]) (by simp [results, Tryz.results17, go_sem, u0, u1, u2, u3, u4, u5, u6, u7, hlt9]) rfl ⟨⟨none, 0, A3, c3, rfl, SB.nil _, hs9⟩, hb9⟩
set_option maxHeartbeats 8000000 in
theorem rd_9_no (A : Option Addr) (c : Nat) (l : List UInt8) (w : World) (hs : SB w A c l) (hl : l.length ≤ 5000) (h : l.length < 8) : RdNo 9 l A c w := by
  unfold RdNo
  have HX : Hid (∀ wx, Below w.heap.size w wx → Calls Tryz.prog 54 #[.slice A l.length c] wx fun e w' => ∃ A1 c1, e = .returned (.tuple #[.int .i64 0, .slice A1 l.length c1, .bool false]) ∧ Sm A c l A1 c1 l ∧ Below wx.heap.size wx w') := Lib.hid fun wx hb => by
    refine (wrapReadDateTime ((i64No A c l.length wx h).mono (?_ : ∀ (e : Ending) (w' : World), _ → ∃ x y z : Value, e = .returned (.tuple #[x, y, z]) ∧ (x = .int .i64 0 ∧ y = .slice A l.length c ∧ z = .bool false ∧ Below wx.heap.size wx w')))).mono ?_
    · rintro e w' ⟨rfl, h2⟩
      exact ⟨_, _, _, rfl, rfl, rfl, rfl, h2⟩
    · rintro e w' ⟨x, y, z, rfl, rfl, rfl, rfl, h2⟩
      exact ⟨A, c, rfl, fun wy h => h, h2⟩
  have HOWN := Lib.hid (fun A1 c1 wx (h : SB wx A1 c1 l) => ownF A1 c1 l wx h hl)
  have HS := Lib.hid hs
  obtain ⟨p, hp⟩ : ∃ p, p = l.length := ⟨_, rfl⟩
  rw [← hp] at HX HOWN ⊢
  clear hs hl hp h
  go_enter Tryz.func17, Tryz.ntmps17
  go_wp2_with fail
  refine (HX.out _ (balloc (Below.refl _ _) (Nat.le_refl _) _)).mono ?_
  rintro e w1 ⟨A1, c1, rfl, hsm, hb⟩
  have hbx : Below (w.heap.size + 1) (w.alloc (.cells #[.int .i64 9, .string ⟨#[]⟩, .string ⟨#[]⟩, .int .i64 0, .int .u64 0, .int .u64 0, .slice none 0 0, .slice none 0 0] 27)) w1 := by simpa using hb
  have HBX := Lib.hid hbx
  have HSR := Lib.hid hsm
  have hz1 := boxs hbx
  have HB1 := Lib.hid (boxb hbx)
  have hblk1 : w1.heap[w.heap.size]? = some (.cells #[.int .i64 9, .string ⟨#[]⟩, .string ⟨#[]⟩, .int .i64 0, .int .u64 0, .int .u64 0, .slice none 0 0, .slice none 0 0] 27 (0, 0)) := by rw [HBX.out.block w.heap.size (by omega)]; exact heap_alloc_new w _
  obtain ⟨q0, q1, q2, q3, q4, q5, q6, q7, f0, f1, f2, f3, f4, f5, f6, f7⟩ := cells8 hblk1
  have hlt1 : w.heap.size < w1.heap.size := by omega
  clear hb hbx hsm HX
  go_wp2_with fail
  refine tail59 w _ 0 0 0 0 ⟨#[]⟩ ⟨#[]⟩ none 0 0 A1 c1 p false _ (fun _ _ _ _ _ h => h) ?h1 ?h2 (fun wx hb => HOWN.out _ _ wx (HSR.out _ (HS.out.keep hb))) ?_
  case h1 => (refine Eq.trans (heap_setCell_same _ _ _ _ _ _ (heap_setCell_same _ _ _ _ _ _ (heap_setCell_same _ _ _ _ _ _ (heap_setCell_same _ _ _ _ _ _ (heap_setCell_same _ _ _ _ _ _ (heap_setCell_same _ _ _ _ _ _ (heap_setCell_same _ _ _ _ _ _ (heap_setCell_same _ _ _ _ _ _ (heap_setCell_same _ _ _ _ _ _ hblk1))))))))) ?_; first | rfl | simp)
  case h2 => (iterate 9 (refine bsR _ ?_)); exact HB1.out
  intro A3 c3 w9 hblk9 hb9 hs9 hx9
  obtain ⟨u0, u1, u2, u3, u4, u5, u6, u7, -⟩ := cells8 hblk9
  have hlt9 : w.heap.size < w9.heap.size := (Array.getElem?_eq_some_iff.1 hblk9).1
  go_wp2_with fail
  exact bodyPost_ret (v := .tuple #[.agg #[.int .i64 0, .string ⟨#[]⟩, .string ⟨#[]⟩, .int .i64 0, .int .u64 0, .int .u64 0, .slice none 0 0, .slice none 0 0], .slice A3 p c3, .bool false]) (by simp [results, Tryz.results17, go_sem, u0, u1, u2, u3, u4, u5, u6, u7, hlt9]) rfl ⟨⟨A3, c3, rfl, hs9⟩, hb9⟩
set_option maxHeartbeats 8000000 in
theorem rd_18_ok (A : Option Addr) (c : Nat) (l : List UInt8) (w : World) (hs : SB w A c l) (hl : l.length ≤ 5000) (b0 b1 b2 b3 b4 b5 b6 b7 : UInt8) (r : List UInt8) (hlr : l = b0 :: b1 :: b2 :: b3 :: b4 :: b5 :: b6 :: b7 :: r) : RdOk 18 l ⟨#[]⟩ ⟨#[]⟩ (wrap64 (leI [b0, b1, b2, b3, b4, b5, b6, b7])) 0 0 [] r A c w := by
  unfold RdOk
  have hrl : r.length ≤ 5000 := by rw [hlr] at hl; simp at hl; omega
  obtain ⟨rr, hrr⟩ : ∃ x, x = r := ⟨_, rfl⟩
  rw [← hrr] at hrl ⊢
  have HX : Hid (∀ wx, Below w.heap.size w wx → Calls Tryz.prog 62 #[.slice A l.length c] wx fun e w' => ∃ A1 c1, e = .returned (.tuple #[.int .i64 (wrap64 (leI [b0, b1, b2, b3, b4, b5, b6, b7])), .slice A1 rr.length c1, .bool true]) ∧ Sm A c l A1 c1 rr ∧ Below wx.heap.size wx w') := Lib.hid fun wx hb => by
    have h8 := readI64S A c b0 b1 b2 b3 b4 b5 b6 b7 r wx (by rw [← hlr]; exact hs.keep hb)
    rw [← hlr] at h8
    refine (wrapReadInt64 (h8.mono (?_ : ∀ (e : Ending) (w' : World), _ → ∃ x y z : Value, e = .returned (.tuple #[x, y, z]) ∧ ((∃ A1 c1, x = .int .i64 (wrap64 (leI [b0, b1, b2, b3, b4, b5, b6, b7])) ∧ y = .slice A1 rr.length c1 ∧ z = .bool true ∧ Sm A c l A1 c1 rr) ∧ Below wx.heap.size wx w')))).mono ?_
    · rintro e w' ⟨A1, rfl, h1, h2⟩
      exact ⟨_, _, _, rfl, ⟨A1, _, rfl, by rw [hrr], rfl, by rw [hrr]; exact h1⟩, h2⟩
    · rintro e w' ⟨x, y, z, rfl, ⟨A1, c1, rfl, rfl, rfl, h1⟩, h2⟩
      exact ⟨A1, c1, rfl, h1, h2⟩
  have HOWN := Lib.hid (fun A1 c1 wx (h : SB wx A1 c1 rr) => ownF A1 c1 rr wx h hrl)
  have HS := Lib.hid hs
  obtain ⟨p, hp⟩ : ∃ p, p = l.length := ⟨_, rfl⟩
  obtain ⟨q, hq⟩ : ∃ p, p = rr.length := ⟨_, rfl⟩
  obtain ⟨NV, hNV⟩ : ∃ x, x = wrap64 (leI [b0, b1, b2, b3, b4, b5, b6, b7]) := ⟨_, rfl⟩
  rw [← hNV] at HX ⊢
  rw [← hp, ← hq] at HX
  rw [← hq] at HOWN
  rw [← hp, ← hq]
  clear hs hl hrl hp hq hlr hrr hNV
  go_enter Tryz.func17, Tryz.ntmps17
  go_wp2_with fail
  refine (HX.out _ (balloc (Below.refl _ _) (Nat.le_refl _) _)).mono ?_
  rintro e w1 ⟨A1, c1, rfl, hsm, hb⟩
  have hbx : Below (w.heap.size + 1) (w.alloc (.cells #[.int .i64 18, .string ⟨#[]⟩, .string ⟨#[]⟩, .int .i64 0, .int .u64 0, .int .u64 0, .slice none 0 0, .slice none 0 0] 27)) w1 := by simpa using hb
  have HBX := Lib.hid hbx
  have HSR := Lib.hid hsm
  have hz1 := boxs hbx
  have HB1 := Lib.hid (boxb hbx)
  have hblk1 : w1.heap[w.heap.size]? = some (.cells #[.int .i64 18, .string ⟨#[]⟩, .string ⟨#[]⟩, .int .i64 0, .int .u64 0, .int .u64 0, .slice none 0 0, .slice none 0 0] 27 (0, 0)) := by rw [HBX.out.block w.heap.size (by omega)]; exact heap_alloc_new w _
  obtain ⟨q0, q1, q2, q3, q4, q5, q6, q7, f0, f1, f2, f3, f4, f5, f6, f7⟩ := cells8 hblk1
  have hlt1 : w.heap.size < w1.heap.size := by omega
  clear hb hbx hsm HX
  go_wp2_with fail
  refine tail59 w _ 18 NV 0 0 ⟨#[]⟩ ⟨#[]⟩ none 0 0 A1 c1 q true _ (fun _ _ _ _ _ h => h) ?h1 ?h2 (fun wx hb => HOWN.out _ _ wx (HSR.out _ (HS.out.keep hb))) ?_
  case h1 => (refine Eq.trans (heap_setCell_same _ _ _ _ _ _ hblk1) ?_; first | rfl | simp)
  case h2 => (iterate 1 (refine bsR _ ?_)); exact HB1.out
  intro A3 c3 w9 hblk9 hb9 hs9 hx9
  obtain ⟨u0, u1, u2, u3, u4, u5, u6, u7, -⟩ := cells8 hblk9
  have hlt9 : w.heap.size < w9.heap.size := (Array.getElem?_eq_some_iff.1 hblk9).1
  go_wp2_with fail
  exact bodyPost_ret (v := .tuple #[.agg #[.int .i64 18, .string ⟨#[]⟩, .string ⟨#[]⟩, .int .i64 NV, .int .u64 0, .int .u64 0, .slice none 0 0, .slice none 0 0], .slice A3 q c3, .bool true]) (by simp [results, Tryz.results17, go_sem, u0, u1, u2, u3, u4, u5, u6, u7, hlt9]) rfl ⟨⟨none, 0, A3, c3, rfl, SB.nil _, hs9⟩, hb9⟩
set_option maxHeartbeats 8000000 in
theorem rd_18_no (A : Option Addr) (c : Nat) (l : List UInt8) (w : World) (hs : SB w A c l) (hl : l.length ≤ 5000) (h : l.length < 8) : RdNo 18 l A c w := by
  unfold RdNo
  have HX : Hid (∀ wx, Below w.heap.size w wx → Calls Tryz.prog 62 #[.slice A l.length c] wx fun e w' => ∃ A1 c1, e = .returned (.tuple #[.int .i64 0, .slice A1 l.length c1, .bool false]) ∧ Sm A c l A1 c1 l ∧ Below wx.heap.size wx w') := Lib.hid fun wx hb => by
    refine (wrapReadInt64 ((i64No A c l.length wx h).mono (?_ : ∀ (e : Ending) (w' : World), _ → ∃ x y z : Value, e = .returned (.tuple #[x, y, z]) ∧ (x = .int .i64 0 ∧ y = .slice A l.length c ∧ z = .bool false ∧ Below wx.heap.size wx w')))).mono ?_
    · rintro e w' ⟨rfl, h2⟩
      exact ⟨_, _, _, rfl, rfl, rfl, rfl, h2⟩
    · rintro e w' ⟨x, y, z, rfl, rfl, rfl, rfl, h2⟩
      exact ⟨A, c, rfl, fun wy h => h, h2⟩
  have HOWN := Lib.hid (fun A1 c1 wx (h : SB wx A1 c1 l) => ownF A1 c1 l wx h hl)
  have HS := Lib.hid hs
  obtain ⟨p, hp⟩ : ∃ p, p = l.length := ⟨_, rfl⟩
  rw [← hp] at HX HOWN ⊢
  clear hs hl hp h
  go_enter Tryz.func17, Tryz.ntmps17
  go_wp2_with fail
  refine (HX.out _ (balloc (Below.refl _ _) (Nat.le_refl _) _)).mono ?_
  rintro e w1 ⟨A1, c1, rfl, hsm, hb⟩
  have hbx : Below (w.heap.size + 1) (w.alloc (.cells #[.int .i64 18, .string ⟨#[]⟩, .string ⟨#[]⟩, .int .i64 0, .int .u64 0, .int .u64 0, .slice none 0 0, .slice none 0 0] 27)) w1 := by simpa using hb
  have HBX := Lib.hid hbx
  have HSR := Lib.hid hsm
  have hz1 := boxs hbx
  have HB1 := Lib.hid (boxb hbx)
  have hblk1 : w1.heap[w.heap.size]? = some (.cells #[.int .i64 18, .string ⟨#[]⟩, .string ⟨#[]⟩, .int .i64 0, .int .u64 0, .int .u64 0, .slice none 0 0, .slice none 0 0] 27 (0, 0)) := by rw [HBX.out.block w.heap.size (by omega)]; exact heap_alloc_new w _
  obtain ⟨q0, q1, q2, q3, q4, q5, q6, q7, f0, f1, f2, f3, f4, f5, f6, f7⟩ := cells8 hblk1
  have hlt1 : w.heap.size < w1.heap.size := by omega
  clear hb hbx hsm HX
  go_wp2_with fail
  refine tail59 w _ 0 0 0 0 ⟨#[]⟩ ⟨#[]⟩ none 0 0 A1 c1 p false _ (fun _ _ _ _ _ h => h) ?h1 ?h2 (fun wx hb => HOWN.out _ _ wx (HSR.out _ (HS.out.keep hb))) ?_
  case h1 => (refine Eq.trans (heap_setCell_same _ _ _ _ _ _ (heap_setCell_same _ _ _ _ _ _ (heap_setCell_same _ _ _ _ _ _ (heap_setCell_same _ _ _ _ _ _ (heap_setCell_same _ _ _ _ _ _ (heap_setCell_same _ _ _ _ _ _ (heap_setCell_same _ _ _ _ _ _ (heap_setCell_same _ _ _ _ _ _ (heap_setCell_same _ _ _ _ _ _ hblk1))))))))) ?_; first | rfl | simp)
  case h2 => (iterate 9 (refine bsR _ ?_)); exact HB1.out
  intro A3 c3 w9 hblk9 hb9 hs9 hx9
  obtain ⟨u0, u1, u2, u3, u4, u5, u6, u7, -⟩ := cells8 hblk9
  have hlt9 : w.heap.size < w9.heap.size := (Array.getElem?_eq_some_iff.1 hblk9).1
  go_wp2_with fail
  exact bodyPost_ret (v := .tuple #[.agg #[.int .i64 0, .string ⟨#[]⟩, .string ⟨#[]⟩, .int .i64 0, .int .u64 0, .int .u64 0, .slice none 0 0, .slice none 0 0], .slice A3 p c3, .bool false]) (by simp [results, Tryz.results17, go_sem, u0, u1, u2, u3, u4, u5, u6, u7, hlt9]) rfl ⟨⟨A3, c3, rfl, hs9⟩, hb9⟩
set_option maxHeartbeats 8000000 in
theorem rd_16_ok (A : Option Addr) (c : Nat) (l : List UInt8) (w : World) (hs : SB w A c l) (hl : l.length ≤ 5000) (b0 b1 b2 b3 : UInt8) (r : List UInt8) (hlr : l = b0 :: b1 :: b2 :: b3 :: r) : RdOk 16 l ⟨#[]⟩ ⟨#[]⟩ (wrap32 (leI [b0, b1, b2, b3])) 0 0 [] r A c w := by
  unfold RdOk
  have hrl : r.length ≤ 5000 := by rw [hlr] at hl; simp at hl; omega
  obtain ⟨rr, hrr⟩ : ∃ x, x = r := ⟨_, rfl⟩
  rw [← hrr] at hrl ⊢
  have HX : Hid (∀ wx, Below w.heap.size w wx → Calls Tryz.prog 60 #[.slice A l.length c] wx fun e w' => ∃ A1 c1, e = .returned (.tuple #[.int .i32 (wrap32 (leI [b0, b1, b2, b3])), .slice A1 rr.length c1, .bool true]) ∧ Sm A c l A1 c1 rr ∧ Below wx.heap.size wx w') := Lib.hid fun wx hb => by
    have h8 := readI32S A c b0 b1 b2 b3 r wx (by rw [← hlr]; exact hs.keep hb)
    rw [← hlr] at h8
    refine (wrapReadInt32 (h8.mono (?_ : ∀ (e : Ending) (w' : World), _ → ∃ x y z : Value, e = .returned (.tuple #[x, y, z]) ∧ ((∃ A1 c1, x = .int .i32 (wrap32 (leI [b0, b1, b2, b3])) ∧ y = .slice A1 rr.length c1 ∧ z = .bool true ∧ Sm A c l A1 c1 rr) ∧ Below wx.heap.size wx w')))).mono ?_
    · rintro e w' ⟨A1, rfl, h1, h2⟩
      exact ⟨_, _, _, rfl, ⟨A1, _, rfl, by rw [hrr], rfl, by rw [hrr]; exact h1⟩, h2⟩
    · rintro e w' ⟨x, y, z, rfl, ⟨A1, c1, rfl, rfl, rfl, h1⟩, h2⟩
      exact ⟨A1, c1, rfl, h1, h2⟩
  have HOWN := Lib.hid (fun A1 c1 wx (h : SB wx A1 c1 rr) => ownF A1 c1 rr wx h hrl)
  have HS := Lib.hid hs
  obtain ⟨p, hp⟩ : ∃ p, p = l.length := ⟨_, rfl⟩
  obtain ⟨q, hq⟩ : ∃ p, p = rr.length := ⟨_, rfl⟩
  obtain ⟨NV, hNV⟩ : ∃ x, x = wrap32 (leI [b0, b1, b2, b3]) := ⟨_, rfl⟩
  rw [← hNV] at HX ⊢
  have HI1 : Hid (wrap64 NV = NV) := Lib.hid (by rw [hNV]; exact w6432 _)
  rw [← hp, ← hq] at HX
  rw [← hq] at HOWN
  rw [← hp, ← hq]
  clear hs hl hrl hp hq hlr hrr hNV
  have i1 := HI1.out
  go_enter Tryz.func17, Tryz.ntmps17
  go_wp2_with fail
  refine (HX.out _ (balloc (Below.refl _ _) (Nat.le_refl _) _)).mono ?_
  rintro e w1 ⟨A1, c1, rfl, hsm, hb⟩
  have hbx : Below (w.heap.size + 1) (w.alloc (.cells #[.int .i64 16, .string ⟨#[]⟩, .string ⟨#[]⟩, .int .i64 0, .int .u64 0, .int .u64 0, .slice none 0 0, .slice none 0 0] 27)) w1 := by simpa using hb
  have HBX := Lib.hid hbx
  have HSR := Lib.hid hsm
  have hz1 := boxs hbx
  have HB1 := Lib.hid (boxb hbx)
  have hblk1 : w1.heap[w.heap.size]? = some (.cells #[.int .i64 16, .string ⟨#[]⟩, .string ⟨#[]⟩, .int .i64 0, .int .u64 0, .int .u64 0, .slice none 0 0, .slice none 0 0] 27 (0, 0)) := by rw [HBX.out.block w.heap.size (by omega)]; exact heap_alloc_new w _
  obtain ⟨q0, q1, q2, q3, q4, q5, q6, q7, f0, f1, f2, f3, f4, f5, f6, f7⟩ := cells8 hblk1
  have hlt1 : w.heap.size < w1.heap.size := by omega
  clear hb hbx hsm HX
  go_wp2_with fail
  refine tail59 w _ 16 NV 0 0 ⟨#[]⟩ ⟨#[]⟩ none 0 0 A1 c1 q true _ (fun _ _ _ _ _ h => h) ?h1 ?h2 (fun wx hb => HOWN.out _ _ wx (HSR.out _ (HS.out.keep hb))) ?_
  case h1 => (refine Eq.trans (heap_setCell_same _ _ _ _ _ _ hblk1) ?_; first | rfl | simp)
  case h2 => (iterate 1 (refine bsR _ ?_)); exact HB1.out
  intro A3 c3 w9 hblk9 hb9 hs9 hx9
  obtain ⟨u0, u1, u2, u3, u4, u5, u6, u7, -⟩ := cells8 hblk9
  have hlt9 : w.heap.size < w9.heap.size := (Array.getElem?_eq_some_iff.1 hblk9).1
  go_wp2_with fail
  exact bodyPost_ret (v := .tuple #[.agg #[.int .i64 16, .string ⟨#[]⟩, .string ⟨#[]⟩, .int .i64 NV, .int .u64 0, .int .u64 0, .slice none 0 0, .slice none 0 0], .slice A3 q c3, .bool true]) (by simp [results, Tryz.results17, go_sem, u0, u1, u2, u3, u4, u5, u6, u7, hlt9]) rfl ⟨⟨none, 0, A3, c3, rfl, SB.nil _, hs9⟩, hb9⟩
set_option maxHeartbeats 8000000 in
theorem rd_16_no (A : Option Addr) (c : Nat) (l : List UInt8) (w : World) (hs : SB w A c l) (hl : l.length ≤ 5000) (h : l.length < 4) : RdNo 16 l A c w := by
  unfold RdNo
  have HX : Hid (∀ wx, Below w.heap.size w wx → Calls Tryz.prog 60 #[.slice A l.length c] wx fun e w' => ∃ A1 c1, e = .returned (.tuple #[.int .i32 0, .slice A1 l.length c1, .bool false]) ∧ Sm A c l A1 c1 l ∧ Below wx.heap.size wx w') := Lib.hid fun wx hb => by
    refine (wrapReadInt32 ((i32No A c l.length wx h).mono (?_ : ∀ (e : Ending) (w' : World), _ → ∃ x y z : Value, e = .returned (.tuple #[x, y, z]) ∧ (x = .int .i32 0 ∧ y = .slice A l.length c ∧ z = .bool false ∧ Below wx.heap.size wx w')))).mono ?_
    · rintro e w' ⟨rfl, h2⟩
      exact ⟨_, _, _, rfl, rfl, rfl, rfl, h2⟩
    · rintro e w' ⟨x, y, z, rfl, rfl, rfl, rfl, h2⟩
      exact ⟨A, c, rfl, fun wy h => h, h2⟩
  have HOWN := Lib.hid (fun A1 c1 wx (h : SB wx A1 c1 l) => ownF A1 c1 l wx h hl)
  have HS := Lib.hid hs
  obtain ⟨p, hp⟩ : ∃ p, p = l.length := ⟨_, rfl⟩
  rw [← hp] at HX HOWN ⊢
  clear hs hl hp h
  have i1 : wrap64 0 = 0 := by decide +kernel
  go_enter Tryz.func17, Tryz.ntmps17
  go_wp2_with fail
  refine (HX.out _ (balloc (Below.refl _ _) (Nat.le_refl _) _)).mono ?_
  rintro e w1 ⟨A1, c1, rfl, hsm, hb⟩
  have hbx : Below (w.heap.size + 1) (w.alloc (.cells #[.int .i64 16, .string ⟨#[]⟩, .string ⟨#[]⟩, .int .i64 0, .int .u64 0, .int .u64 0, .slice none 0 0, .slice none 0 0] 27)) w1 := by simpa using hb
  have HBX := Lib.hid hbx
  have HSR := Lib.hid hsm
  have hz1 := boxs hbx
  have HB1 := Lib.hid (boxb hbx)
  have hblk1 : w1.heap[w.heap.size]? = some (.cells #[.int .i64 16, .string ⟨#[]⟩, .string ⟨#[]⟩, .int .i64 0, .int .u64 0, .int .u64 0, .slice none 0 0, .slice none 0 0] 27 (0, 0)) := by rw [HBX.out.block w.heap.size (by omega)]; exact heap_alloc_new w _
  obtain ⟨q0, q1, q2, q3, q4, q5, q6, q7, f0, f1, f2, f3, f4, f5, f6, f7⟩ := cells8 hblk1
  have hlt1 : w.heap.size < w1.heap.size := by omega
  clear hb hbx hsm HX
  go_wp2_with fail
  refine tail59 w _ 0 0 0 0 ⟨#[]⟩ ⟨#[]⟩ none 0 0 A1 c1 p false _ (fun _ _ _ _ _ h => h) ?h1 ?h2 (fun wx hb => HOWN.out _ _ wx (HSR.out _ (HS.out.keep hb))) ?_
  case h1 => (refine Eq.trans (heap_setCell_same _ _ _ _ _ _ (heap_setCell_same _ _ _ _ _ _ (heap_setCell_same _ _ _ _ _ _ (heap_setCell_same _ _ _ _ _ _ (heap_setCell_same _ _ _ _ _ _ (heap_setCell_same _ _ _ _ _ _ (heap_setCell_same _ _ _ _ _ _ (heap_setCell_same _ _ _ _ _ _ (heap_setCell_same _ _ _ _ _ _ hblk1))))))))) ?_; first | rfl | simp)
  case h2 => (iterate 9 (refine bsR _ ?_)); exact HB1.out
  intro A3 c3 w9 hblk9 hb9 hs9 hx9
  obtain ⟨u0, u1, u2, u3, u4, u5, u6, u7, -⟩ := cells8 hblk9
  have hlt9 : w.heap.size < w9.heap.size := (Array.getElem?_eq_some_iff.1 hblk9).1
  go_wp2_with fail
  exact bodyPost_ret (v := .tuple #[.agg #[.int .i64 0, .string ⟨#[]⟩, .string ⟨#[]⟩, .int .i64 0, .int .u64 0, .int .u64 0, .slice none 0 0, .slice none 0 0], .slice A3 p c3, .bool false]) (by simp [results, Tryz.results17, go_sem, u0, u1, u2, u3, u4, u5, u6, u7, hlt9]) rfl ⟨⟨A3, c3, rfl, hs9⟩, hb9⟩
set_option maxHeartbeats 8000000 in
theorem rd_1_ok (A : Option Addr) (c : Nat) (l : List UInt8) (w : World) (hs : SB w A c l) (hl : l.length ≤ 5000) (b0 b1 b2 b3 b4 b5 b6 b7 : UInt8) (r : List UInt8) (hlr : l = b0 :: b1 :: b2 :: b3 :: b4 :: b5 :: b6 :: b7 :: r) : RdOk 1 l ⟨#[]⟩ ⟨#[]⟩ 0 (Lib.leNat [b0, b1, b2, b3, b4, b5, b6, b7]) 0 [] r A c w := by
  unfold RdOk
  have hrl : r.length ≤ 5000 := by rw [hlr] at hl; simp at hl; omega
  obtain ⟨rr, hrr⟩ : ∃ x, x = r := ⟨_, rfl⟩
  rw [← hrr] at hrl ⊢
  have HX : Hid (∀ wx, Below w.heap.size w wx → Calls Tryz.prog 45 #[.slice A l.length c] wx fun e w' => ∃ A1 c1, e = .returned (.tuple #[.float .f64 (Lib.leNat [b0, b1, b2, b3, b4, b5, b6, b7]), .slice A1 rr.length c1, .bool true]) ∧ Sm A c l A1 c1 rr ∧ Below wx.heap.size wx w') := Lib.hid fun wx hb => by
    have h8 := dbl_ok A c b0 b1 b2 b3 b4 b5 b6 b7 r wx (by rw [← hlr]; exact hs.keep hb)
    rw [← hlr] at h8
    refine h8.mono ?_
    rintro e w' ⟨A1, rfl, h1, h2⟩
    exact ⟨A1, _, by rw [hrr], by rw [hrr]; exact h1, h2⟩
  have HOWN := Lib.hid (fun A1 c1 wx (h : SB wx A1 c1 rr) => ownF A1 c1 rr wx h hrl)
  have HS := Lib.hid hs
  obtain ⟨p, hp⟩ : ∃ p, p = l.length := ⟨_, rfl⟩
  obtain ⟨q, hq⟩ : ∃ p, p = rr.length := ⟨_, rfl⟩
  obtain ⟨NV, hNV⟩ : ∃ x, x = Lib.leNat [b0, b1, b2, b3, b4, b5, b6, b7] := ⟨_, rfl⟩
  rw [← hNV] at HX ⊢
  have hfb : ∀ W : World, Sem.run Tryz.prog (callFunc 46 #[.float .f64 NV]) W = .ok (.value (.int .u64 (NV : Int))) W := fun W => by kernel_rfl
  rw [← hp, ← hq] at HX
  rw [← hq] at HOWN
  rw [← hp, ← hq]
  clear hs hl hrl hp hq hlr hrr hNV
  go_enter Tryz.func17, Tryz.ntmps17
  go_wp2_with fail
  refine (HX.out _ (balloc (Below.refl _ _) (Nat.le_refl _) _)).mono ?_
  rintro e w1 ⟨A1, c1, rfl, hsm, hb⟩
  have hbx : Below (w.heap.size + 1) (w.alloc (.cells #[.int .i64 1, .string ⟨#[]⟩, .string ⟨#[]⟩, .int .i64 0, .int .u64 0, .int .u64 0, .slice none 0 0, .slice none 0 0] 27)) w1 := by simpa using hb
  have HBX := Lib.hid hbx
  have HSR := Lib.hid hsm
  have hz1 := boxs hbx
  have HB1 := Lib.hid (boxb hbx)
  have hblk1 : w1.heap[w.heap.size]? = some (.cells #[.int .i64 1, .string ⟨#[]⟩, .string ⟨#[]⟩, .int .i64 0, .int .u64 0, .int .u64 0, .slice none 0 0, .slice none 0 0] 27 (0, 0)) := by rw [HBX.out.block w.heap.size (by omega)]; exact heap_alloc_new w _
  obtain ⟨q0, q1, q2, q3, q4, q5, q6, q7, f0, f1, f2, f3, f4, f5, f6, f7⟩ := cells8 hblk1
  have hlt1 : w.heap.size < w1.heap.size := by omega
  clear hb hbx hsm HX
  go_wp2_with fail
  refine tail59 w _ 1 0 NV 0 ⟨#[]⟩ ⟨#[]⟩ none 0 0 A1 c1 q true _ (fun _ _ _ _ _ h => h) ?h1 ?h2 (fun wx hb => HOWN.out _ _ wx (HSR.out _ (HS.out.keep hb))) ?_
  case h1 => (refine Eq.trans (heap_setCell_same _ _ _ _ _ _ hblk1) ?_; first | rfl | simp)
  case h2 => (iterate 1 (refine bsR _ ?_)); exact HB1.out
  intro A3 c3 w9 hblk9 hb9 hs9 hx9
  obtain ⟨u0, u1, u2, u3, u4, u5, u6, u7, -⟩ := cells8 hblk9
  have hlt9 : w.heap.size < w9.heap.size := (Array.getElem?_eq_some_iff.1 hblk9).1
  go_wp2_with fail
  exact bodyPost_ret (v := .tuple #[.agg #[.int .i64 1, .string ⟨#[]⟩, .string ⟨#[]⟩, .int .i64 0, .int .u64 NV, .int .u64 0, .slice none 0 0, .slice none 0 0], .slice A3 q c3, .bool true]) (by simp [results, Tryz.results17, go_sem, u0, u1, u2, u3, u4, u5, u6, u7, hlt9]) rfl ⟨⟨none, 0, A3, c3, rfl, SB.nil _, hs9⟩, hb9⟩
set_option maxHeartbeats 8000000 in
theorem rd_1_no (A : Option Addr) (c : Nat) (l : List UInt8) (w : World) (hs : SB w A c l) (hl : l.length ≤ 5000) (h : l.length < 8) : RdNo 1 l A c w := by
  unfold RdNo
  have HX : Hid (∀ wx, Below w.heap.size w wx → Calls Tryz.prog 45 #[.slice A l.length c] wx fun e w' => ∃ A1 c1, e = .returned (.tuple #[.float .f64 0, .slice A1 l.length c1, .bool false]) ∧ Sm A c l A1 c1 l ∧ Below wx.heap.size wx w') := Lib.hid fun wx hb => by
    refine (dbl_no A c l.length wx h).mono ?_
    rintro e w' ⟨rfl, h2⟩
    exact ⟨A, c, rfl, fun wy h => h, h2⟩
  have HOWN := Lib.hid (fun A1 c1 wx (h : SB wx A1 c1 l) => ownF A1 c1 l wx h hl)
  have HS := Lib.hid hs
  obtain ⟨p, hp⟩ : ∃ p, p = l.length := ⟨_, rfl⟩
  have hfb : ∀ W : World, Sem.run Tryz.prog (callFunc 46 #[.float .f64 0]) W = .ok (.value (.int .u64 0)) W := fun W => by kernel_rfl
  rw [← hp] at HX HOWN ⊢
  clear hs hl hp h
  go_enter Tryz.func17, Tryz.ntmps17
  go_wp2_with fail
  refine (HX.out _ (balloc (Below.refl _ _) (Nat.le_refl _) _)).mono ?_
  rintro e w1 ⟨A1, c1, rfl, hsm, hb⟩
  have hbx : Below (w.heap.size + 1) (w.alloc (.cells #[.int .i64 1, .string ⟨#[]⟩, .string ⟨#[]⟩, .int .i64 0, .int .u64 0, .int .u64 0, .slice none 0 0, .slice none 0 0] 27)) w1 := by simpa using hb
  have HBX := Lib.hid hbx
  have HSR := Lib.hid hsm
  have hz1 := boxs hbx
  have HB1 := Lib.hid (boxb hbx)
  have hblk1 : w1.heap[w.heap.size]? = some (.cells #[.int .i64 1, .string ⟨#[]⟩, .string ⟨#[]⟩, .int .i64 0, .int .u64 0, .int .u64 0, .slice none 0 0, .slice none 0 0] 27 (0, 0)) := by rw [HBX.out.block w.heap.size (by omega)]; exact heap_alloc_new w _
  obtain ⟨q0, q1, q2, q3, q4, q5, q6, q7, f0, f1, f2, f3, f4, f5, f6, f7⟩ := cells8 hblk1
  have hlt1 : w.heap.size < w1.heap.size := by omega
  clear hb hbx hsm HX
  go_wp2_with fail
  refine tail59 w _ 0 0 0 0 ⟨#[]⟩ ⟨#[]⟩ none 0 0 A1 c1 p false _ (fun _ _ _ _ _ h => h) ?h1 ?h2 (fun wx hb => HOWN.out _ _ wx (HSR.out _ (HS.out.keep hb))) ?_
  case h1 => (refine Eq.trans (heap_setCell_same _ _ _ _ _ _ (heap_setCell_same _ _ _ _ _ _ (heap_setCell_same _ _ _ _ _ _ (heap_setCell_same _ _ _ _ _ _ (heap_setCell_same _ _ _ _ _ _ (heap_setCell_same _ _ _ _ _ _ (heap_setCell_same _ _ _ _ _ _ (heap_setCell_same _ _ _ _ _ _ (heap_setCell_same _ _ _ _ _ _ hblk1))))))))) ?_; first | rfl | simp)
  case h2 => (iterate 9 (refine bsR _ ?_)); exact HB1.out
  intro A3 c3 w9 hblk9 hb9 hs9 hx9
  obtain ⟨u0, u1, u2, u3, u4, u5, u6, u7, -⟩ := cells8 hblk9
  have hlt9 : w.heap.size < w9.heap.size := (Array.getElem?_eq_some_iff.1 hblk9).1
  go_wp2_with fail
  exact bodyPost_ret (v := .tuple #[.agg #[.int .i64 0, .string ⟨#[]⟩, .string ⟨#[]⟩, .int .i64 0, .int .u64 0, .int .u64 0, .slice none 0 0, .slice none 0 0], .slice A3 p c3, .bool false]) (by simp [results, Tryz.results17, go_sem, u0, u1, u2, u3, u4, u5, u6, u7, hlt9]) rfl ⟨⟨A3, c3, rfl, hs9⟩, hb9⟩
set_option maxHeartbeats 8000000 in
theorem rd_8_ok (A : Option Addr) (c : Nat) (l : List UInt8) (w : World) (hs : SB w A c l) (hl : l.length ≤ 5000) (b0 : UInt8) (r : List UInt8) (hlr : l = b0 :: r) : RdOk 8 l ⟨#[]⟩ ⟨#[]⟩ (if decide (b0 = 1) = true then 1 else 0) 0 0 [] r A c w := by
  unfold RdOk
  have hrl : r.length ≤ 5000 := by rw [hlr] at hl; simp at hl; omega
  obtain ⟨rr, hrr⟩ : ∃ x, x = r := ⟨_, rfl⟩
  rw [← hrr] at hrl ⊢
  have HX : Hid (∀ wx, Below w.heap.size w wx → Calls Tryz.prog 52 #[.slice A l.length c] wx fun e w' => ∃ A1 c1, e = .returned (.tuple #[.bool (decide (b0 = 1)), .slice A1 rr.length c1, .bool true]) ∧ Sm A c l A1 c1 rr ∧ Below wx.heap.size wx w') := Lib.hid fun wx hb => by
    have h8 := bool_ok A c b0 r wx (by rw [← hlr]; exact hs.keep hb)
    rw [← hlr] at h8
    refine h8.mono ?_
    rintro e w' ⟨A1, rfl, h1, h2⟩
    exact ⟨A1, _, by rw [hrr], by rw [hrr]; exact h1, h2⟩
  have HOWN := Lib.hid (fun A1 c1 wx (h : SB wx A1 c1 rr) => ownF A1 c1 rr wx h hrl)
  have HS := Lib.hid hs
  obtain ⟨p, hp⟩ : ∃ p, p = l.length := ⟨_, rfl⟩
  obtain ⟨q, hq⟩ : ∃ p, p = rr.length := ⟨_, rfl⟩
  obtain ⟨t, ht⟩ : ∃ x, x = decide (b0 = 1) := ⟨_, rfl⟩
  rw [← ht] at HX ⊢
  have HONE := Lib.hid (fun W => implOne t W)
  obtain ⟨NV, hNV⟩ : ∃ x : Int, x = (if t = true then 1 else 0) := ⟨_, rfl⟩
  rw [← hNV] at HONE ⊢
  rw [← hp, ← hq] at HX
  rw [← hq] at HOWN
  rw [← hp, ← hq]
  clear hs hl hrl hp hq hlr hrr ht hNV
  go_enter Tryz.func17, Tryz.ntmps17
  go_wp2_with fail
  refine (HX.out _ (balloc (Below.refl _ _) (Nat.le_refl _) _)).mono ?_
  rintro e w1 ⟨A1, c1, rfl, hsm, hb⟩
  have hbx : Below (w.heap.size + 1) (w.alloc (.cells #[.int .i64 8, .string ⟨#[]⟩, .string ⟨#[]⟩, .int .i64 0, .int .u64 0, .int .u64 0, .slice none 0 0, .slice none 0 0] 27)) w1 := by simpa using hb
  have HBX := Lib.hid hbx
  have HSR := Lib.hid hsm
  have hz1 := boxs hbx
  have HB1 := Lib.hid (boxb hbx)
  have hblk1 : w1.heap[w.heap.size]? = some (.cells #[.int .i64 8, .string ⟨#[]⟩, .string ⟨#[]⟩, .int .i64 0, .int .u64 0, .int .u64 0, .slice none 0 0, .slice none 0 0] 27 (0, 0)) := by rw [HBX.out.block w.heap.size (by omega)]; exact heap_alloc_new w _
  obtain ⟨q0, q1, q2, q3, q4, q5, q6, q7, f0, f1, f2, f3, f4, f5, f6, f7⟩ := cells8 hblk1
  have hlt1 : w.heap.size < w1.heap.size := by omega
  clear hb hbx hsm HX
  go_wp2_with fail
  refine (HONE.out _).mono ?_
  rintro e w9 ⟨rfl, rfl⟩
  go_wp2_with fail
  refine tail59 w _ 8 NV 0 0 ⟨#[]⟩ ⟨#[]⟩ none 0 0 A1 c1 q true _ (fun _ _ _ _ _ h => h) ?h1 ?h2 (fun wx hb => HOWN.out _ _ wx (HSR.out _ (HS.out.keep hb))) ?_
  case h1 => (refine Eq.trans (heap_setCell_same _ _ _ _ _ _ hblk1) ?_; first | rfl | simp)
  case h2 => (iterate 1 (refine bsR _ ?_)); exact HB1.out
  intro A3 c3 w9 hblk9 hb9 hs9 hx9
  obtain ⟨u0, u1, u2, u3, u4, u5, u6, u7, -⟩ := cells8 hblk9
  have hlt9 : w.heap.size < w9.heap.size := (Array.getElem?_eq_some_iff.1 hblk9).1
  go_wp2_with fail
  exact bodyPost_ret (v := .tuple #[.agg #[.int .i64 8, .string ⟨#[]⟩, .string ⟨#[]⟩, .int .i64 NV, .int .u64 0, .int .u64 0, .slice none 0 0, .slice none 0 0], .slice A3 q c3, .bool true]) (by simp [results, Tryz.results17, go_sem, u0, u1, u2, u3, u4, u5, u6, u7, hlt9]) rfl ⟨⟨none, 0, A3, c3, rfl, SB.nil _, hs9⟩, hb9⟩
set_option maxHeartbeats 8000000 in
theorem rd_8_no (A : Option Addr) (c : Nat) (l : List UInt8) (w : World) (hs : SB w A c l) (hl : l.length ≤ 5000) (h : l = []) : RdNo 8 l A c w := by
  unfold RdNo
  have HX : Hid (∀ wx, Below w.heap.size w wx → Calls Tryz.prog 52 #[.slice A l.length c] wx fun e w' => ∃ A1 c1, e = .returned (.tuple #[.bool false, .slice A1 l.length c1, .bool false]) ∧ Sm A c l A1 c1 l ∧ Below wx.heap.size wx w') := Lib.hid fun wx hb => by
    rw [show l.length = 0 from by rw [h]; rfl]
    refine (bool_no A c wx).mono ?_
    rintro e w' ⟨rfl, h2⟩
    exact ⟨A, c, rfl, fun wy h => h, h2⟩
  have HOWN := Lib.hid (fun A1 c1 wx (h : SB wx A1 c1 l) => ownF A1 c1 l wx h hl)
  have HS := Lib.hid hs
  obtain ⟨p, hp⟩ : ∃ p, p = l.length := ⟨_, rfl⟩
  rw [← hp] at HX HOWN ⊢
  clear hs hl hp h
  go_enter Tryz.func17, Tryz.ntmps17
  go_wp2_with fail
  refine (HX.out _ (balloc (Below.refl _ _) (Nat.le_refl _) _)).mono ?_
  rintro e w1 ⟨A1, c1, rfl, hsm, hb⟩
  have hbx : Below (w.heap.size + 1) (w.alloc (.cells #[.int .i64 8, .string ⟨#[]⟩, .string ⟨#[]⟩, .int .i64 0, .int .u64 0, .int .u64 0, .slice none 0 0, .slice none 0 0] 27)) w1 := by simpa using hb
  have HBX := Lib.hid hbx
  have HSR := Lib.hid hsm
  have hz1 := boxs hbx
  have HB1 := Lib.hid (boxb hbx)
  have hblk1 : w1.heap[w.heap.size]? = some (.cells #[.int .i64 8, .string ⟨#[]⟩, .string ⟨#[]⟩, .int .i64 0, .int .u64 0, .int .u64 0, .slice none 0 0, .slice none 0 0] 27 (0, 0)) := by rw [HBX.out.block w.heap.size (by omega)]; exact heap_alloc_new w _
  obtain ⟨q0, q1, q2, q3, q4, q5, q6, q7, f0, f1, f2, f3, f4, f5, f6, f7⟩ := cells8 hblk1
  have hlt1 : w.heap.size < w1.heap.size := by omega
  clear hb hbx hsm HX
  go_wp2_with fail
  refine (implOne _ _).mono ?_
  rintro e w9 ⟨rfl, rfl⟩
  go_wp2_with fail
  refine tail59 w _ 0 0 0 0 ⟨#[]⟩ ⟨#[]⟩ none 0 0 A1 c1 p false _ (fun _ _ _ _ _ h => h) ?h1 ?h2 (fun wx hb => HOWN.out _ _ wx (HSR.out _ (HS.out.keep hb))) ?_
  case h1 => (refine Eq.trans (heap_setCell_same _ _ _ _ _ _ (heap_setCell_same _ _ _ _ _ _ (heap_setCell_same _ _ _ _ _ _ (heap_setCell_same _ _ _ _ _ _ (heap_setCell_same _ _ _ _ _ _ (heap_setCell_same _ _ _ _ _ _ (heap_setCell_same _ _ _ _ _ _ (heap_setCell_same _ _ _ _ _ _ (heap_setCell_same _ _ _ _ _ _ hblk1))))))))) ?_; first | rfl | simp)
  case h2 => (iterate 9 (refine bsR _ ?_)); exact HB1.out
  intro A3 c3 w9 hblk9 hb9 hs9 hx9
  obtain ⟨u0, u1, u2, u3, u4, u5, u6, u7, -⟩ := cells8 hblk9
  have hlt9 : w.heap.size < w9.heap.size := (Array.getElem?_eq_some_iff.1 hblk9).1
  go_wp2_with fail
  exact bodyPost_ret (v := .tuple #[.agg #[.int .i64 0, .string ⟨#[]⟩, .string ⟨#[]⟩, .int .i64 0, .int .u64 0, .int .u64 0, .slice none 0 0, .slice none 0 0], .slice A3 p c3, .bool false]) (by simp [results, Tryz.results17, go_sem, u0, u1, u2, u3, u4, u5, u6, u7, hlt9]) rfl ⟨⟨A3, c3, rfl, hs9⟩, hb9⟩
set_option maxHeartbeats 8000000 in
theorem rd_11_ok (A : Option Addr) (c : Nat) (l : List UInt8) (w : World) (hs : SB w A c l) (hl : l.length ≤ 5000) (p1 p2 r : List UInt8) (h1 : plainB p1 = true) (h2 : plainB p2 = true) (hlr : l = p1 ++ 0 :: (p2 ++ 0 :: r)) : RdOk 11 l ⟨p1.toArray⟩ ⟨p2.toArray⟩ 0 0 0 [] r A c w := by
  unfold RdOk
  have hrl : r.length ≤ 5000 := by rw [hlr] at hl; simp at hl; omega
  obtain ⟨rr, hrr⟩ : ∃ x, x = r := ⟨_, rfl⟩
  rw [← hrr] at hrl ⊢
  have HX : Hid (∀ wx, Below w.heap.size w wx → Calls Tryz.prog 55 #[.slice A l.length c] wx fun e w' => ∃ A1 c1, e = .returned (.tuple #[.string ⟨p1.toArray⟩, .string ⟨p2.toArray⟩, .slice A1 rr.length c1, .bool true]) ∧ Sm A c l A1 c1 rr ∧ Below wx.heap.size wx w') := Lib.hid fun wx hb => by
    have h8 := re_ok A c p1 p2 r wx (by rw [← hlr]; exact hs.keep hb) h1 h2 (by rw [← hlr]; exact hl)
    rw [← hlr] at h8
    refine h8.mono ?_
    rintro e w' ⟨A1, c1, rfl, h1, h2⟩
    exact ⟨A1, _, by rw [hrr], by rw [hrr]; exact h1, h2⟩
  have HOWN := Lib.hid (fun A1 c1 wx (h : SB wx A1 c1 rr) => ownF A1 c1 rr wx h hrl)
  have HS := Lib.hid hs
  obtain ⟨p, hp⟩ : ∃ p, p = l.length := ⟨_, rfl⟩
  obtain ⟨q, hq⟩ : ∃ p, p = rr.length := ⟨_, rfl⟩
  obtain ⟨sa1, hz1'⟩ : ∃ z : ByteArray, z = ⟨p1.toArray⟩ := ⟨_, rfl⟩
  obtain ⟨sa2, hz2'⟩ : ∃ z : ByteArray, z = ⟨p2.toArray⟩ := ⟨_, rfl⟩
  rw [← hz1', ← hz2'] at HX ⊢
  rw [← hp, ← hq] at HX
  rw [← hq] at HOWN
  rw [← hp, ← hq]
  clear hs hl hrl hp hq hlr hrr h1 h2 hz1' hz2'
  go_enter Tryz.func17, Tryz.ntmps17
  go_wp2_with fail
  refine (HX.out _ (balloc (Below.refl _ _) (Nat.le_refl _) _)).mono ?_
  rintro e w1 ⟨A1, c1, rfl, hsm, hb⟩
  have hbx : Below (w.heap.size + 1) (w.alloc (.cells #[.int .i64 11, .string ⟨#[]⟩, .string ⟨#[]⟩, .int .i64 0, .int .u64 0, .int .u64 0, .slice none 0 0, .slice none 0 0] 27)) w1 := by simpa using hb
  have HBX := Lib.hid hbx
  have HSR := Lib.hid hsm
  have hz1 := boxs hbx
  have HB1 := Lib.hid (boxb hbx)
  have hblk1 : w1.heap[w.heap.size]? = some (.cells #[.int .i64 11, .string ⟨#[]⟩, .string ⟨#[]⟩, .int .i64 0, .int .u64 0, .int .u64 0, .slice none 0 0, .slice none 0 0] 27 (0, 0)) := by rw [HBX.out.block w.heap.size (by omega)]; exact heap_alloc_new w _
  obtain ⟨q0, q1, q2, q3, q4, q5, q6, q7, f0, f1, f2, f3, f4, f5, f6, f7⟩ := cells8 hblk1
  have hlt1 : w.heap.size < w1.heap.size := by omega
  clear hb hbx hsm HX
  go_wp2_with fail
  refine tail59 w _ 11 0 0 0 sa1 sa2 none 0 0 A1 c1 q true _ (fun _ _ _ _ _ h => h) ?h1 ?h2 (fun wx hb => HOWN.out _ _ wx (HSR.out _ (HS.out.keep hb))) ?_
  case h1 => (refine Eq.trans (heap_setCell_same _ _ _ _ _ _ (heap_setCell_same _ _ _ _ _ _ hblk1)) ?_; first | rfl | simp)
  case h2 => (iterate 2 (refine bsR _ ?_)); exact HB1.out
  intro A3 c3 w9 hblk9 hb9 hs9 hx9
  obtain ⟨u0, u1, u2, u3, u4, u5, u6, u7, -⟩ := cells8 hblk9
  have hlt9 : w.heap.size < w9.heap.size := (Array.getElem?_eq_some_iff.1 hblk9).1
  go_wp2_with fail
  exact bodyPost_ret (v := .tuple #[.agg #[.int .i64 11, .string sa1, .string sa2, .int .i64 0, .int .u64 0, .int .u64 0, .slice none 0 0, .slice none 0 0], .slice A3 q c3, .bool true]) (by simp [results, Tryz.results17, go_sem, u0, u1, u2, u3, u4, u5, u6, u7, hlt9]) rfl ⟨⟨none, 0, A3, c3, rfl, SB.nil _, hs9⟩, hb9⟩
set_option maxHeartbeats 8000000 in
theorem rd_11_no (A : Option Addr) (c : Nat) (l : List UInt8) (w : World) (hs : SB w A c l) (hl : l.length ≤ 5000) (h : Lib.indexByte l ((0 : Int).toNat.toUInt8) = -1 ∨ ∃ p1 r, l = p1 ++ 0 :: r ∧ plainB p1 = true ∧ Lib.indexByte r ((0 : Int).toNat.toUInt8) = -1) : RdNo 11 l A c w := by
  unfold RdNo
  have HX : Hid (∀ wx, Below w.heap.size w wx → Calls Tryz.prog 55 #[.slice A l.length c] wx fun e w' => ∃ A1 c1, e = .returned (.tuple #[.string ⟨#[]⟩, .string ⟨#[]⟩, .slice A1 l.length c1, .bool false]) ∧ Sm A c l A1 c1 l ∧ Below wx.heap.size wx w') := Lib.hid fun wx hb => by
    refine (re_no A c l wx (hs.keep hb) hl h).mono ?_
    rintro e w' ⟨rfl, h2⟩
    exact ⟨A, c, rfl, fun wy h => h, h2⟩
  have HOWN := Lib.hid (fun A1 c1 wx (h : SB wx A1 c1 l) => ownF A1 c1 l wx h hl)
  have HS := Lib.hid hs
  obtain ⟨p, hp⟩ : ∃ p, p = l.length := ⟨_, rfl⟩
  rw [← hp] at HX HOWN ⊢
  clear hs hl hp h
  go_enter Tryz.func17, Tryz.ntmps17
  go_wp2_with fail
  refine (HX.out _ (balloc (Below.refl _ _) (Nat.le_refl _) _)).mono ?_
  rintro e w1 ⟨A1, c1, rfl, hsm, hb⟩
  have hbx : Below (w.heap.size + 1) (w.alloc (.cells #[.int .i64 11, .string ⟨#[]⟩, .string ⟨#[]⟩, .int .i64 0, .int .u64 0, .int .u64 0, .slice none 0 0, .slice none 0 0] 27)) w1 := by simpa using hb
  have HBX := Lib.hid hbx
  have HSR := Lib.hid hsm
  have hz1 := boxs hbx
  have HB1 := Lib.hid (boxb hbx)
  have hblk1 : w1.heap[w.heap.size]? = some (.cells #[.int .i64 11, .string ⟨#[]⟩, .string ⟨#[]⟩, .int .i64 0, .int .u64 0, .int .u64 0, .slice none 0 0, .slice none 0 0] 27 (0, 0)) := by rw [HBX.out.block w.heap.size (by omega)]; exact heap_alloc_new w _
  obtain ⟨q0, q1, q2, q3, q4, q5, q6, q7, f0, f1, f2, f3, f4, f5, f6, f7⟩ := cells8 hblk1
  have hlt1 : w.heap.size < w1.heap.size := by omega
  clear hb hbx hsm HX
  go_wp2_with fail
  refine tail59 w _ 0 0 0 0 ⟨#[]⟩ ⟨#[]⟩ none 0 0 A1 c1 p false _ (fun _ _ _ _ _ h => h) ?h1 ?h2 (fun wx hb => HOWN.out _ _ wx (HSR.out _ (HS.out.keep hb))) ?_
  case h1 => (refine Eq.trans (heap_setCell_same _ _ _ _ _ _ (heap_setCell_same _ _ _ _ _ _ (heap_setCell_same _ _ _ _ _ _ (heap_setCell_same _ _ _ _ _ _ (heap_setCell_same _ _ _ _ _ _ (heap_setCell_same _ _ _ _ _ _ (heap_setCell_same _ _ _ _ _ _ (heap_setCell_same _ _ _ _ _ _ (heap_setCell_same _ _ _ _ _ _ (heap_setCell_same _ _ _ _ _ _ hblk1)))))))))) ?_; first | rfl | simp)
  case h2 => (iterate 10 (refine bsR _ ?_)); exact HB1.out
  intro A3 c3 w9 hblk9 hb9 hs9 hx9
  obtain ⟨u0, u1, u2, u3, u4, u5, u6, u7, -⟩ := cells8 hblk9
  have hlt9 : w.heap.size < w9.heap.size := (Array.getElem?_eq_some_iff.1 hblk9).1
  go_wp2_with fail
  exact bodyPost_ret (v := .tuple #[.agg #[.int .i64 0, .string ⟨#[]⟩, .string ⟨#[]⟩, .int .i64 0, .int .u64 0, .int .u64 0, .slice none 0 0, .slice none 0 0], .slice A3 p c3, .bool false]) (by simp [results, Tryz.results17, go_sem, u0, u1, u2, u3, u4, u5, u6, u7, hlt9]) rfl ⟨⟨A3, c3, rfl, hs9⟩, hb9⟩
set_option maxHeartbeats 8000000 in
theorem rd_19_ok (A : Option Addr) (c : Nat) (l : List UInt8) (w : World) (hs : SB w A c l) (hl : l.length ≤ 5000) (b0 b1 b2 b3 b4 b5 b6 b7 b8 b9 b10 b11 b12 b13 b14 b15 : UInt8) (r : List UInt8) (hlr : l = b0 :: b1 :: b2 :: b3 :: b4 :: b5 :: b6 :: b7 :: b8 :: b9 :: b10 :: b11 :: b12 :: b13 :: b14 :: b15 :: r) : RdOk 19 l ⟨#[]⟩ ⟨#[]⟩ 0 (Lib.leNat [b0, b1, b2, b3, b4, b5, b6, b7]) (Lib.leNat [b8, b9, b10, b11, b12, b13, b14, b15]) [] r A c w := by
  unfold RdOk
  have hrl : r.length ≤ 5000 := by rw [hlr] at hl; simp at hl; omega
  obtain ⟨rr, hrr⟩ : ∃ x, x = r := ⟨_, rfl⟩
  rw [← hrr] at hrl ⊢
  have HX : Hid (∀ wx, Below w.heap.size w wx → Calls Tryz.prog 63 #[.slice A l.length c] wx fun e w' => ∃ A1 c1, e = .returned (.tuple #[.int .u64 (Lib.leNat [b8, b9, b10, b11, b12, b13, b14, b15]), .int .u64 (Lib.leNat [b0, b1, b2, b3, b4, b5, b6, b7]), .slice A1 rr.length c1, .bool true]) ∧ Sm A c l A1 c1 rr ∧ Below wx.heap.size wx w') := Lib.hid fun wx hb => by
    have h8 := dec_ok A c b0 b1 b2 b3 b4 b5 b6 b7 b8 b9 b10 b11 b12 b13 b14 b15 r wx (by rw [← hlr]; exact hs.keep hb)
    rw [← hlr] at h8
    refine h8.mono ?_
    rintro e w' ⟨A1, rfl, h1, h2⟩
    exact ⟨A1, _, by rw [hrr], by rw [hrr]; exact h1, h2⟩
  have HOWN := Lib.hid (fun A1 c1 wx (h : SB wx A1 c1 rr) => ownF A1 c1 rr wx h hrl)
  have HS := Lib.hid hs
  obtain ⟨p, hp⟩ : ∃ p, p = l.length := ⟨_, rfl⟩
  obtain ⟨q, hq⟩ : ∃ p, p = rr.length := ⟨_, rfl⟩
  obtain ⟨n1, hn1⟩ : ∃ x, x = Lib.leNat [b0, b1, b2, b3, b4, b5, b6, b7] := ⟨_, rfl⟩
  obtain ⟨n2, hn2⟩ : ∃ x, x = Lib.leNat [b8, b9, b10, b11, b12, b13, b14, b15] := ⟨_, rfl⟩
  rw [← hn1, ← hn2] at HX ⊢
  rw [← hp, ← hq] at HX
  rw [← hq] at HOWN
  rw [← hp, ← hq]
  clear hs hl hrl hp hq hlr hrr hn1 hn2
  go_enter Tryz.func17, Tryz.ntmps17
  go_wp2_with fail
  refine (HX.out _ (balloc (Below.refl _ _) (Nat.le_refl _) _)).mono ?_
  rintro e w1 ⟨A1, c1, rfl, hsm, hb⟩
  have hbx : Below (w.heap.size + 1) (w.alloc (.cells #[.int .i64 19, .string ⟨#[]⟩, .string ⟨#[]⟩, .int .i64 0, .int .u64 0, .int .u64 0, .slice none 0 0, .slice none 0 0] 27)) w1 := by simpa using hb
  have HBX := Lib.hid hbx
  have HSR := Lib.hid hsm
  have hz1 := boxs hbx
  have HB1 := Lib.hid (boxb hbx)
  have hblk1 : w1.heap[w.heap.size]? = some (.cells #[.int .i64 19, .string ⟨#[]⟩, .string ⟨#[]⟩, .int .i64 0, .int .u64 0, .int .u64 0, .slice none 0 0, .slice none 0 0] 27 (0, 0)) := by rw [HBX.out.block w.heap.size (by omega)]; exact heap_alloc_new w _
  obtain ⟨q0, q1, q2, q3, q4, q5, q6, q7, f0, f1, f2, f3, f4, f5, f6, f7⟩ := cells8 hblk1
  have hlt1 : w.heap.size < w1.heap.size := by omega
  clear hb hbx hsm HX
  go_wp2_with fail
  refine tail59 w _ 19 0 n1 n2 ⟨#[]⟩ ⟨#[]⟩ none 0 0 A1 c1 q true _ (fun _ _ _ _ _ h => h) ?h1 ?h2 (fun wx hb => HOWN.out _ _ wx (HSR.out _ (HS.out.keep hb))) ?_
  case h1 => (refine Eq.trans (heap_setCell_same _ _ _ _ _ _ (heap_setCell_same _ _ _ _ _ _ hblk1)) ?_; first | rfl | simp)
  case h2 => (iterate 2 (refine bsR _ ?_)); exact HB1.out
  intro A3 c3 w9 hblk9 hb9 hs9 hx9
  obtain ⟨u0, u1, u2, u3, u4, u5, u6, u7, -⟩ := cells8 hblk9
  have hlt9 : w.heap.size < w9.heap.size := (Array.getElem?_eq_some_iff.1 hblk9).1
  go_wp2_with fail
  exact bodyPost_ret (v := .tuple #[.agg #[.int .i64 19, .string ⟨#[]⟩, .string ⟨#[]⟩, .int .i64 0, .int .u64 n1, .int .u64 n2, .slice none 0 0, .slice none 0 0], .slice A3 q c3, .bool true]) (by simp [results, Tryz.results17, go_sem, u0, u1, u2, u3, u4, u5, u6, u7, hlt9]) rfl ⟨⟨none, 0, A3, c3, rfl, SB.nil _, hs9⟩, hb9⟩
set_option maxHeartbeats 8000000 in
theorem rd_19_no (A : Option Addr) (c : Nat) (l : List UInt8) (w : World) (hs : SB w A c l) (hl : l.length ≤ 5000) (h : l.length < 16) : RdNo 19 l A c w := by
  unfold RdNo
  have HX : Hid (∀ wx, Below w.heap.size w wx → Calls Tryz.prog 63 #[.slice A l.length c] wx fun e w' => ∃ A1 c1, e = .returned (.tuple #[.int .u64 0, .int .u64 0, .slice A1 l.length c1, .bool false]) ∧ Sm A c l A1 c1 l ∧ Below wx.heap.size wx w') := Lib.hid fun wx hb => by
    refine (dec_no A c l wx (hs.keep hb) h).mono ?_
    rintro e w' ⟨rfl, h2⟩
    exact ⟨A, c, rfl, fun wy h => h, h2⟩
  have HOWN := Lib.hid (fun A1 c1 wx (h : SB wx A1 c1 l) => ownF A1 c1 l wx h hl)
  have HS := Lib.hid hs
  obtain ⟨p, hp⟩ : ∃ p, p = l.length := ⟨_, rfl⟩
  rw [← hp] at HX HOWN ⊢
  clear hs hl hp h
  go_enter Tryz.func17, Tryz.ntmps17
  go_wp2_with fail
  refine (HX.out _ (balloc (Below.refl _ _) (Nat.le_refl _) _)).mono ?_
  rintro e w1 ⟨A1, c1, rfl, hsm, hb⟩
  have hbx : Below (w.heap.size + 1) (w.alloc (.cells #[.int .i64 19, .string ⟨#[]⟩, .string ⟨#[]⟩, .int .i64 0, .int .u64 0, .int .u64 0, .slice none 0 0, .slice none 0 0] 27)) w1 := by simpa using hb
  have HBX := Lib.hid hbx
  have HSR := Lib.hid hsm
  have hz1 := boxs hbx
  have HB1 := Lib.hid (boxb hbx)
  have hblk1 : w1.heap[w.heap.size]? = some (.cells #[.int .i64 19, .string ⟨#[]⟩, .string ⟨#[]⟩, .int .i64 0, .int .u64 0, .int .u64 0, .slice none 0 0, .slice none 0 0] 27 (0, 0)) := by rw [HBX.out.block w.heap.size (by omega)]; exact heap_alloc_new w _
  obtain ⟨q0, q1, q2, q3, q4, q5, q6, q7, f0, f1, f2, f3, f4, f5, f6, f7⟩ := cells8 hblk1
  have hlt1 : w.heap.size < w1.heap.size := by omega
  clear hb hbx hsm HX
  go_wp2_with fail
  refine tail59 w _ 0 0 0 0 ⟨#[]⟩ ⟨#[]⟩ none 0 0 A1 c1 p false _ (fun _ _ _ _ _ h => h) ?h1 ?h2 (fun wx hb => HOWN.out _ _ wx (HSR.out _ (HS.out.keep hb))) ?_
  case h1 => (refine Eq.trans (heap_setCell_same _ _ _ _ _ _ (heap_setCell_same _ _ _ _ _ _ (heap_setCell_same _ _ _ _ _ _ (heap_setCell_same _ _ _ _ _ _ (heap_setCell_same _ _ _ _ _ _ (heap_setCell_same _ _ _ _ _ _ (heap_setCell_same _ _ _ _ _ _ (heap_setCell_same _ _ _ _ _ _ (heap_setCell_same _ _ _ _ _ _ (heap_setCell_same _ _ _ _ _ _ hblk1)))))))))) ?_; first | rfl | simp)
  case h2 => (iterate 10 (refine bsR _ ?_)); exact HB1.out
  intro A3 c3 w9 hblk9 hb9 hs9 hx9
  obtain ⟨u0, u1, u2, u3, u4, u5, u6, u7, -⟩ := cells8 hblk9
  have hlt9 : w.heap.size < w9.heap.size := (Array.getElem?_eq_some_iff.1 hblk9).1
  go_wp2_with fail
  exact bodyPost_ret (v := .tuple #[.agg #[.int .i64 0, .string ⟨#[]⟩, .string ⟨#[]⟩, .int .i64 0, .int .u64 0, .int .u64 0, .slice none 0 0, .slice none 0 0], .slice A3 p c3, .bool false]) (by simp [results, Tryz.results17, go_sem, u0, u1, u2, u3, u4, u5, u6, u7, hlt9]) rfl ⟨⟨A3, c3, rfl, hs9⟩, hb9⟩
end Rs
end Go.Proofs.YtbpopaegfhcdpaaGreatDoor.X


/- impl.Read by kind. (gen_rdi.py) -/
set_option linter.unusedVariables false
set_option linter.unusedSimpArgs false
set_option maxRecDepth 100000
namespace Go.Proofs.YtbpopaegfhcdpaaGreatDoor.X
open Go.RowKit Go.Proofs.YtbpopaegfhcdpaaGreatDoorW.PrintLast
namespace Rt
open Sp Al Av Aw Ck Lk Rr

theorem u64_in' (n : Int) (h0 : 0 ≤ n) (h1 : n < 18446744073709551616) : IntKind.u64.wrap n = n := by
  simp only [IntKind.wrap, IntKind.signed, IntKind.bits]
  simp
  omega
theorem bor_comm (k : IntKind) (x y : Int) : bits .or k x y = bits .or k y x := by
  simp only [bits, BitVec.or_comm]
theorem ts_val (n1 n2 : Nat) (h1 : n1 < 4294967296) (h2 : n2 < 4294967296) : bits .or .u64 (IntKind.u64.wrap (IntKind.u64.wrap (n2 : Int) * 4294967296)) (IntKind.u64.wrap (n1 : Int)) = ((n1 + n2 * 4294967296 : Nat) : Int) := by
  have e1 : IntKind.u64.wrap (n1 : Int) = n1 := u64_in' _ (by omega) (by omega)
  have e2 : IntKind.u64.wrap (n2 : Int) = n2 := u64_in' _ (by omega) (by omega)
  have e3 : IntKind.u64.wrap ((n2 : Int) * 4294967296) = (n2 : Int) * 4294967296 := u64_in' _ (by omega) (by omega)
  rw [e2, e3, e1, bor_comm]
  have h := or_join .u64 (n1 : Int) ((n2 : Int) * 4294967296) n1 n2 32 (by omega) (by simp [IntKind.bits]; omega) (by simp [IntKind.bits]; omega) (by simp [IntKind.bits]; omega)
  rw [h]
  have h3 := u64_in' ((n1 + n2 * 2 ^ 32 : Nat) : Int) (by omega) (by omega)
  rw [h3]
theorem le8_split (b0 b1 b2 b3 b4 b5 b6 b7 : UInt8) : Lib.leNat [b0, b1, b2, b3, b4, b5, b6, b7] = Lib.leNat [b0, b1, b2, b3] + Lib.leNat [b4, b5, b6, b7] * 4294967296 ∧ Lib.leNat [b0, b1, b2, b3] < 4294967296 ∧ Lib.leNat [b4, b5, b6, b7] < 4294967296 := by
  have k0 := b0.toNat_lt; have k1 := b1.toNat_lt; have k2 := b2.toNat_lt; have k3 := b3.toNat_lt
  have k4 := b4.toNat_lt; have k5 := b5.toNat_lt; have k6 := b6.toNat_lt; have k7 := b7.toNat_lt
  simp only [Lib.leNat]
  omega
set_option maxHeartbeats 8000000 in
theorem rd_17_ok (A : Option Addr) (c : Nat) (l : List UInt8) (w : World) (hs : SB w A c l) (hl : l.length ≤ 5000) (b0 b1 b2 b3 b4 b5 b6 b7 : UInt8) (r : List UInt8) (hlr : l = b0 :: b1 :: b2 :: b3 :: b4 :: b5 :: b6 :: b7 :: r) : RdOk 17 l ⟨#[]⟩ ⟨#[]⟩ 0 (Lib.leNat [b0, b1, b2, b3, b4, b5, b6, b7]) 0 [] r A c w := by
  unfold RdOk
  have hrl : r.length ≤ 5000 := by rw [hlr] at hl; simp at hl; omega
  obtain ⟨rr, hrr⟩ : ∃ x, x = r := ⟨_, rfl⟩
  rw [← hrr] at hrl ⊢
  have HX : Hid (∀ wx, Below w.heap.size w wx → Calls Tryz.prog 61 #[.slice A l.length c] wx fun e w' => ∃ A1 c1, e = .returned (.tuple #[.int .u32 (Lib.leNat [b4, b5, b6, b7]), .int .u32 (Lib.leNat [b0, b1, b2, b3]), .slice A1 rr.length c1, .bool true]) ∧ Sm A c l A1 c1 rr ∧ Below wx.heap.size wx w') := Lib.hid fun wx hb => by
    have h8 := ts_ok A c b0 b1 b2 b3 b4 b5 b6 b7 r wx (by rw [← hlr]; exact hs.keep hb)
    rw [← hlr] at h8
    refine h8.mono ?_
    rintro e w' ⟨A1, rfl, h1, h2⟩
    exact ⟨A1, _, by rw [hrr], by rw [hrr]; exact h1, h2⟩
  have HOWN := Lib.hid (fun A1 c1 wx (h : SB wx A1 c1 rr) => ownF A1 c1 rr wx h hrl)
  have HS := Lib.hid hs
  obtain ⟨p, hp⟩ : ∃ p, p = l.length := ⟨_, rfl⟩
  obtain ⟨q, hq⟩ : ∃ p, p = rr.length := ⟨_, rfl⟩
  obtain ⟨n1, hn1⟩ : ∃ x : Nat, x = Lib.leNat [b0, b1, b2, b3] := ⟨_, rfl⟩
  obtain ⟨n2, hn2⟩ : ∃ x : Nat, x = Lib.leNat [b4, b5, b6, b7] := ⟨_, rfl⟩
  rw [← hn1, ← hn2] at HX
  obtain ⟨NV, hNV⟩ : ∃ x : Nat, x = Lib.leNat [b0, b1, b2, b3, b4, b5, b6, b7] := ⟨_, rfl⟩
  rw [← hNV]
  have HV : Hid (bits .or .u64 (IntKind.u64.wrap (IntKind.u64.wrap (n2 : Int) * 4294967296)) (IntKind.u64.wrap (n1 : Int)) = (NV : Int)) := Lib.hid (by obtain ⟨g1, g2, g3⟩ := le8_split b0 b1 b2 b3 b4 b5 b6 b7; rw [hNV, g1, hn1, hn2]; exact ts_val _ _ g2 g3)
  rw [← hp, ← hq] at HX
  rw [← hq] at HOWN
  rw [← hp, ← hq]
  clear hs hl hrl hp hq hlr hrr hn1 hn2 hNV
  have hv8 := HV.out
  go_enter Tryz.func17, Tryz.ntmps17
  go_wp2_with fail
  refine (HX.out _ (balloc (Below.refl _ _) (Nat.le_refl _) _)).mono ?_
  rintro e w1 ⟨A1, c1, rfl, hsm, hb⟩
  have hbx : Below (w.heap.size + 1) (w.alloc (.cells #[.int .i64 17, .string ⟨#[]⟩, .string ⟨#[]⟩, .int .i64 0, .int .u64 0, .int .u64 0, .slice none 0 0, .slice none 0 0] 27)) w1 := by simpa using hb
  have HBX := Lib.hid hbx
  have HSR := Lib.hid hsm
  have hz1 := boxs hbx
  have HB1 := Lib.hid (boxb hbx)
  have hblk1 : w1.heap[w.heap.size]? = some (.cells #[.int .i64 17, .string ⟨#[]⟩, .string ⟨#[]⟩, .int .i64 0, .int .u64 0, .int .u64 0, .slice none 0 0, .slice none 0 0] 27 (0, 0)) := by rw [HBX.out.block w.heap.size (by omega)]; exact heap_alloc_new w _
  obtain ⟨q0, q1, q2, q3, q4, q5, q6, q7, f0, f1, f2, f3, f4, f5, f6, f7⟩ := cells8 hblk1
  have hlt1 : w.heap.size < w1.heap.size := by omega
  clear hb hbx hsm HX
  go_wp2_with fail
  refine tail59 w _ 17 0 NV 0 ⟨#[]⟩ ⟨#[]⟩ none 0 0 A1 c1 q true _ (fun _ _ _ _ _ h => h) ?h1 ?h2 (fun wx hb => HOWN.out _ _ wx (HSR.out _ (HS.out.keep hb))) ?_
  case h1 => (refine Eq.trans (heap_setCell_same _ _ _ _ _ _ hblk1) ?_; first | rfl | simp)
  case h2 => (iterate 1 (refine bsR _ ?_)); exact HB1.out
  intro A3 c3 w9 hblk9 hb9 hs9 hx9
  obtain ⟨u0, u1, u2, u3, u4, u5, u6, u7, -⟩ := cells8 hblk9
  have hlt9 : w.heap.size < w9.heap.size := (Array.getElem?_eq_some_iff.1 hblk9).1
  go_wp2_with fail
  exact bodyPost_ret (v := .tuple #[.agg #[.int .i64 17, .string ⟨#[]⟩, .string ⟨#[]⟩, .int .i64 0, .int .u64 NV, .int .u64 0, .slice none 0 0, .slice none 0 0], .slice A3 q c3, .bool true]) (by simp [results, Tryz.results17, go_sem, u0, u1, u2, u3, u4, u5, u6, u7, hlt9]) rfl ⟨⟨none, 0, A3, c3, rfl, SB.nil _, hs9⟩, hb9⟩
set_option maxHeartbeats 8000000 in
theorem rd_17_no (A : Option Addr) (c : Nat) (l : List UInt8) (w : World) (hs : SB w A c l) (hl : l.length ≤ 5000) (h : l.length < 8) : RdNo 17 l A c w := by
  unfold RdNo
  have HX : Hid (∀ wx, Below w.heap.size w wx → Calls Tryz.prog 61 #[.slice A l.length c] wx fun e w' => ∃ A1 c1, e = .returned (.tuple #[.int .u32 0, .int .u32 0, .slice A1 l.length c1, .bool false]) ∧ Sm A c l A1 c1 l ∧ Below wx.heap.size wx w') := Lib.hid fun wx hb => by
    refine (ts_no A c l wx (hs.keep hb) h).mono ?_
    rintro e w' ⟨rfl, h2⟩
    exact ⟨A, c, rfl, fun wy h => h, h2⟩
  have HOWN := Lib.hid (fun A1 c1 wx (h : SB wx A1 c1 l) => ownF A1 c1 l wx h hl)
  have HS := Lib.hid hs
  obtain ⟨p, hp⟩ : ∃ p, p = l.length := ⟨_, rfl⟩
  have hv8 : bits .or .u64 (IntKind.u64.wrap (IntKind.u64.wrap 0 * 4294967296)) (IntKind.u64.wrap 0) = 0 := by decide +kernel
  rw [← hp] at HX HOWN ⊢
  clear hs hl hp h
  go_enter Tryz.func17, Tryz.ntmps17
  go_wp2_with fail
  refine (HX.out _ (balloc (Below.refl _ _) (Nat.le_refl _) _)).mono ?_
  rintro e w1 ⟨A1, c1, rfl, hsm, hb⟩
  have hbx : Below (w.heap.size + 1) (w.alloc (.cells #[.int .i64 17, .string ⟨#[]⟩, .string ⟨#[]⟩, .int .i64 0, .int .u64 0, .int .u64 0, .slice none 0 0, .slice none 0 0] 27)) w1 := by simpa using hb
  have HBX := Lib.hid hbx
  have HSR := Lib.hid hsm
  have hz1 := boxs hbx
  have HB1 := Lib.hid (boxb hbx)
  have hblk1 : w1.heap[w.heap.size]? = some (.cells #[.int .i64 17, .string ⟨#[]⟩, .string ⟨#[]⟩, .int .i64 0, .int .u64 0, .int .u64 0, .slice none 0 0, .slice none 0 0] 27 (0, 0)) := by rw [HBX.out.block w.heap.size (by omega)]; exact heap_alloc_new w _
  obtain ⟨q0, q1, q2, q3, q4, q5, q6, q7, f0, f1, f2, f3, f4, f5, f6, f7⟩ := cells8 hblk1
  have hlt1 : w.heap.size < w1.heap.size := by omega
  clear hb hbx hsm HX
  go_wp2_with fail
  refine tail59 w _ 0 0 0 0 ⟨#[]⟩ ⟨#[]⟩ none 0 0 A1 c1 p false _ (fun _ _ _ _ _ h => h) ?h1 ?h2 (fun wx hb => HOWN.out _ _ wx (HSR.out _ (HS.out.keep hb))) ?_
  case h1 => (refine Eq.trans (heap_setCell_same _ _ _ _ _ _ (heap_setCell_same _ _ _ _ _ _ (heap_setCell_same _ _ _ _ _ _ (heap_setCell_same _ _ _ _ _ _ (heap_setCell_same _ _ _ _ _ _ (heap_setCell_same _ _ _ _ _ _ (heap_setCell_same _ _ _ _ _ _ (heap_setCell_same _ _ _ _ _ _ (heap_setCell_same _ _ _ _ _ _ hblk1))))))))) ?_; first | rfl | simp)
  case h2 => (iterate 9 (refine bsR _ ?_)); exact HB1.out
  intro A3 c3 w9 hblk9 hb9 hs9 hx9
  obtain ⟨u0, u1, u2, u3, u4, u5, u6, u7, -⟩ := cells8 hblk9
  have hlt9 : w.heap.size < w9.heap.size := (Array.getElem?_eq_some_iff.1 hblk9).1
  go_wp2_with fail
  exact bodyPost_ret (v := .tuple #[.agg #[.int .i64 0, .string ⟨#[]⟩, .string ⟨#[]⟩, .int .i64 0, .int .u64 0, .int .u64 0, .slice none 0 0, .slice none 0 0], .slice A3 p c3, .bool false]) (by simp [results, Tryz.results17, go_sem, u0, u1, u2, u3, u4, u5, u6, u7, hlt9]) rfl ⟨⟨A3, c3, rfl, hs9⟩, hb9⟩
end Rt
end Go.Proofs.YtbpopaegfhcdpaaGreatDoor.X


/- impl.Read by kind. (gen_rdi.py) -/
set_option linter.unusedVariables false
set_option linter.unusedSimpArgs false
set_option maxRecDepth 100000
namespace Go.Proofs.YtbpopaegfhcdpaaGreatDoor.X
open Go.RowKit Go.Proofs.YtbpopaegfhcdpaaGreatDoorW.PrintLast
namespace Rv
open Sp Al Av Aw Ck Lk Rr

set_option maxHeartbeats 8000000 in
theorem rd_3_no (A : Option Addr) (c : Nat) (l : List UInt8) (w : World) (hs : SB w A c l) (hl : l.length ≤ 5000) (h : (readLen l).2 = false ∨ (readLen l).1 < 4 ∨ (l.length : Int) < (readLen l).1) : RdNo 3 l A c w := by
  unfold RdNo
  have HX : Hid (∀ wx, Below w.heap.size w wx → Calls Tryz.prog 48 #[.slice A l.length c] wx fun e w' => ∃ A1 c1, e = .returned (.tuple #[.slice none 0 0, .slice A1 l.length c1, .bool false]) ∧ Sm A c l A1 c1 l ∧ Below wx.heap.size wx w') := Lib.hid fun wx hb => by
    refine (wrapReadDocument ((rlb_no A c l wx (hs.keep hb) hl h).mono (?_ : ∀ (e : Ending) (w' : World), _ → ∃ x y z : Value, e = .returned (.tuple #[x, y, z]) ∧ (x = .slice none 0 0 ∧ y = .slice A l.length c ∧ z = .bool false ∧ Below wx.heap.size wx w')))).mono ?_
    · rintro e w' ⟨rfl, h2⟩
      exact ⟨_, _, _, rfl, rfl, rfl, rfl, h2⟩
    · rintro e w' ⟨x, y, z, rfl, rfl, rfl, rfl, h2⟩
      exact ⟨A, c, rfl, fun wy h => h, h2⟩
  have HOWN := Lib.hid (fun A1 c1 wx (h : SB wx A1 c1 l) => ownF A1 c1 l wx h hl)
  have HS := Lib.hid hs
  obtain ⟨p, hp⟩ : ∃ p, p = l.length := ⟨_, rfl⟩
  rw [← hp] at HX HOWN ⊢
  clear hs hl hp h
  go_enter Tryz.func17, Tryz.ntmps17
  go_wp2_with fail
  refine (HX.out _ (balloc (Below.refl _ _) (Nat.le_refl _) _)).mono ?_
  rintro e w1 ⟨A1, c1, rfl, hsm, hb⟩
  have hbx : Below (w.heap.size + 1) (w.alloc (.cells #[.int .i64 3, .string ⟨#[]⟩, .string ⟨#[]⟩, .int .i64 0, .int .u64 0, .int .u64 0, .slice none 0 0, .slice none 0 0] 27)) w1 := by simpa using hb
  have HBX := Lib.hid hbx
  have HSR := Lib.hid hsm
  have hz1 := boxs hbx
  have HB1 := Lib.hid (boxb hbx)
  have hblk1 : w1.heap[w.heap.size]? = some (.cells #[.int .i64 3, .string ⟨#[]⟩, .string ⟨#[]⟩, .int .i64 0, .int .u64 0, .int .u64 0, .slice none 0 0, .slice none 0 0] 27 (0, 0)) := by rw [HBX.out.block w.heap.size (by omega)]; exact heap_alloc_new w _
  obtain ⟨q0, q1, q2, q3, q4, q5, q6, q7, f0, f1, f2, f3, f4, f5, f6, f7⟩ := cells8 hblk1
  have hlt1 : w.heap.size < w1.heap.size := by omega
  clear hb hbx hsm HX
  go_wp2_with fail
  refine (ownF none 0 [] w1 (SB.nil w1) (by simp)).mono ?_
  rintro e w5 ⟨A5, c5, rfl, hs5, hn5, hb5⟩
  have hblk5 := (hb5.block w.heap.size hlt1).trans hblk1
  have HB5 := Lib.hid (bthen HB1.out hb5)
  have hlt5 : w.heap.size < w5.heap.size := (Array.getElem?_eq_some_iff.1 hblk5).1
  clear q0 f0 q1 f1 q2 f2 q3 f3 q4 f4 q5 f5 q6 f6 q7 f7 hb5 hs5 hn5 hblk1
  obtain ⟨q0, q1, q2, q3, q4, q5, q6, q7, f0, f1, f2, f3, f4, f5, f6, f7⟩ := cells8 hblk5
  go_wp2_with fail
  refine tail59 w _ 0 0 0 0 ⟨#[]⟩ ⟨#[]⟩ none 0 0 A1 c1 p false _ (fun _ _ _ _ _ h => h) ?h1 ?h2 (fun wx hb => HOWN.out _ _ wx (HSR.out _ (HS.out.keep hb))) ?_
  case h1 => (refine Eq.trans (heap_setCell_same _ _ _ _ _ _ (heap_setCell_same _ _ _ _ _ _ (heap_setCell_same _ _ _ _ _ _ (heap_setCell_same _ _ _ _ _ _ (heap_setCell_same _ _ _ _ _ _ (heap_setCell_same _ _ _ _ _ _ (heap_setCell_same _ _ _ _ _ _ (heap_setCell_same _ _ _ _ _ _ (heap_setCell_same _ _ _ _ _ _ hblk5))))))))) ?_; first | rfl | simp)
  case h2 => (iterate 9 (refine bsR _ ?_)); exact HB5.out
  intro A3 c3 w9 hblk9 hb9 hs9 hx9
  obtain ⟨u0, u1, u2, u3, u4, u5, u6, u7, -⟩ := cells8 hblk9
  have hlt9 : w.heap.size < w9.heap.size := (Array.getElem?_eq_some_iff.1 hblk9).1
  go_wp2_with fail
  exact bodyPost_ret (v := .tuple #[.agg #[.int .i64 0, .string ⟨#[]⟩, .string ⟨#[]⟩, .int .i64 0, .int .u64 0, .int .u64 0, .slice none 0 0, .slice none 0 0], .slice A3 p c3, .bool false]) (by simp [results, Tryz.results17, go_sem, u0, u1, u2, u3, u4, u5, u6, u7, hlt9]) rfl ⟨⟨A3, c3, rfl, hs9⟩, hb9⟩
set_option maxHeartbeats 8000000 in
theorem rd_4_no (A : Option Addr) (c : Nat) (l : List UInt8) (w : World) (hs : SB w A c l) (hl : l.length ≤ 5000) (h : (readLen l).2 = false ∨ (readLen l).1 < 4 ∨ (l.length : Int) < (readLen l).1) : RdNo 4 l A c w := by
  unfold RdNo
  have HX : Hid (∀ wx, Below w.heap.size w wx → Calls Tryz.prog 49 #[.slice A l.length c] wx fun e w' => ∃ A1 c1, e = .returned (.tuple #[.slice none 0 0, .slice A1 l.length c1, .bool false]) ∧ Sm A c l A1 c1 l ∧ Below wx.heap.size wx w') := Lib.hid fun wx hb => by
    refine (wrapReadArray ((rlb_no A c l wx (hs.keep hb) hl h).mono (?_ : ∀ (e : Ending) (w' : World), _ → ∃ x y z : Value, e = .returned (.tuple #[x, y, z]) ∧ (x = .slice none 0 0 ∧ y = .slice A l.length c ∧ z = .bool false ∧ Below wx.heap.size wx w')))).mono ?_
    · rintro e w' ⟨rfl, h2⟩
      exact ⟨_, _, _, rfl, rfl, rfl, rfl, h2⟩
    · rintro e w' ⟨x, y, z, rfl, rfl, rfl, rfl, h2⟩
      exact ⟨A, c, rfl, fun wy h => h, h2⟩
  have HOWN := Lib.hid (fun A1 c1 wx (h : SB wx A1 c1 l) => ownF A1 c1 l wx h hl)
  have HS := Lib.hid hs
  obtain ⟨p, hp⟩ : ∃ p, p = l.length := ⟨_, rfl⟩
  rw [← hp] at HX HOWN ⊢
  clear hs hl hp h
  go_enter Tryz.func17, Tryz.ntmps17
  go_wp2_with fail
  refine (HX.out _ (balloc (Below.refl _ _) (Nat.le_refl _) _)).mono ?_
  rintro e w1 ⟨A1, c1, rfl, hsm, hb⟩
  have hbx : Below (w.heap.size + 1) (w.alloc (.cells #[.int .i64 4, .string ⟨#[]⟩, .string ⟨#[]⟩, .int .i64 0, .int .u64 0, .int .u64 0, .slice none 0 0, .slice none 0 0] 27)) w1 := by simpa using hb
  have HBX := Lib.hid hbx
  have HSR := Lib.hid hsm
  have hz1 := boxs hbx
  have HB1 := Lib.hid (boxb hbx)
  have hblk1 : w1.heap[w.heap.size]? = some (.cells #[.int .i64 4, .string ⟨#[]⟩, .string ⟨#[]⟩, .int .i64 0, .int .u64 0, .int .u64 0, .slice none 0 0, .slice none 0 0] 27 (0, 0)) := by rw [HBX.out.block w.heap.size (by omega)]; exact heap_alloc_new w _
  obtain ⟨q0, q1, q2, q3, q4, q5, q6, q7, f0, f1, f2, f3, f4, f5, f6, f7⟩ := cells8 hblk1
  have hlt1 : w.heap.size < w1.heap.size := by omega
  clear hb hbx hsm HX
  go_wp2_with fail
  refine (ownF none 0 [] w1 (SB.nil w1) (by simp)).mono ?_
  rintro e w5 ⟨A5, c5, rfl, hs5, hn5, hb5⟩
  have hblk5 := (hb5.block w.heap.size hlt1).trans hblk1
  have HB5 := Lib.hid (bthen HB1.out hb5)
  have hlt5 : w.heap.size < w5.heap.size := (Array.getElem?_eq_some_iff.1 hblk5).1
  clear q0 f0 q1 f1 q2 f2 q3 f3 q4 f4 q5 f5 q6 f6 q7 f7 hb5 hs5 hn5 hblk1
  obtain ⟨q0, q1, q2, q3, q4, q5, q6, q7, f0, f1, f2, f3, f4, f5, f6, f7⟩ := cells8 hblk5
  go_wp2_with fail
  refine tail59 w _ 0 0 0 0 ⟨#[]⟩ ⟨#[]⟩ none 0 0 A1 c1 p false _ (fun _ _ _ _ _ h => h) ?h1 ?h2 (fun wx hb => HOWN.out _ _ wx (HSR.out _ (HS.out.keep hb))) ?_
  case h1 => (refine Eq.trans (heap_setCell_same _ _ _ _ _ _ (heap_setCell_same _ _ _ _ _ _ (heap_setCell_same _ _ _ _ _ _ (heap_setCell_same _ _ _ _ _ _ (heap_setCell_same _ _ _ _ _ _ (heap_setCell_same _ _ _ _ _ _ (heap_setCell_same _ _ _ _ _ _ (heap_setCell_same _ _ _ _ _ _ (heap_setCell_same _ _ _ _ _ _ hblk5))))))))) ?_; first | rfl | simp)
  case h2 => (iterate 9 (refine bsR _ ?_)); exact HB5.out
  intro A3 c3 w9 hblk9 hb9 hs9 hx9
  obtain ⟨u0, u1, u2, u3, u4, u5, u6, u7, -⟩ := cells8 hblk9
  have hlt9 : w.heap.size < w9.heap.size := (Array.getElem?_eq_some_iff.1 hblk9).1
  go_wp2_with fail
  exact bodyPost_ret (v := .tuple #[.agg #[.int .i64 0, .string ⟨#[]⟩, .string ⟨#[]⟩, .int .i64 0, .int .u64 0, .int .u64 0, .slice none 0 0, .slice none 0 0], .slice A3 p c3, .bool false]) (by simp [results, Tryz.results17, go_sem, u0, u1, u2, u3, u4, u5, u6, u7, hlt9]) rfl ⟨⟨A3, c3, rfl, hs9⟩, hb9⟩
end Rv
end Go.Proofs.YtbpopaegfhcdpaaGreatDoor.X


/- impl.Read by kind. (gen_rdi.py) -/
set_option linter.unusedVariables false
set_option linter.unusedSimpArgs false
set_option maxRecDepth 100000
namespace Go.Proofs.YtbpopaegfhcdpaaGreatDoor.X
open Go.RowKit Go.Proofs.YtbpopaegfhcdpaaGreatDoorW.PrintLast
namespace Ru
open Sp Al Av Aw Ck Lk Rr

set_option maxHeartbeats 8000000 in
theorem rd_3_ok (A : Option Addr) (c : Nat) (l : List UInt8) (w : World) (hs : SB w A c l) (hl : l.length ≤ 5000) (n : Nat) (hr : readLen l = ((n : Int), true)) (h4 : 4 ≤ n) (hle : n ≤ l.length) : RdOk 3 l ⟨#[]⟩ ⟨#[]⟩ 0 0 0 (l.take n) (l.drop n) A c w := by
  unfold RdOk
  obtain ⟨rr, hrr⟩ : ∃ x, x = l.drop n := ⟨_, rfl⟩
  obtain ⟨bb, hbb⟩ : ∃ x, x = l.take n := ⟨_, rfl⟩
  have hrl : rr.length ≤ 5000 := by rw [hrr, List.length_drop]; omega
  have hbl : bb.length ≤ 5000 := by rw [hbb, List.length_take]; omega
  rw [← hrr, ← hbb]
  have HX : Hid (∀ wx, Below w.heap.size w wx → Calls Tryz.prog 48 #[.slice A l.length c] wx fun e w' => ∃ D1 d1 A1 c1, e = .returned (.tuple #[.slice D1 bb.length d1, .slice A1 rr.length c1, .bool true]) ∧ Sm A c l D1 d1 bb ∧ Sm A c l A1 c1 rr ∧ Below wx.heap.size wx w') := Lib.hid fun wx hb => by
    refine (wrapReadDocument ((rlb_ok A c l n wx (hs.keep hb) hl hr h4 hle).mono (?_ : ∀ (e : Ending) (w' : World), _ → ∃ x y z : Value, e = .returned (.tuple #[x, y, z]) ∧ ((∃ D1 d1 A1 c1, x = .slice D1 bb.length d1 ∧ y = .slice A1 rr.length c1 ∧ z = .bool true ∧ Sm A c l D1 d1 bb ∧ Sm A c l A1 c1 rr) ∧ Below wx.heap.size wx w')))).mono ?_
    · rintro e w' ⟨D1, d1, A1, c1, rfl, h1, h2, hb2⟩
      exact ⟨_, _, _, rfl, ⟨D1, d1, A1, c1, by rw [hbb, List.length_take, Nat.min_eq_left hle], by rw [hrr, List.length_drop], rfl, by rw [hbb]; exact h1, by rw [hrr]; exact h2⟩, hb2⟩
    · rintro e w' ⟨x, y, z, rfl, ⟨D1, d1, A1, c1, rfl, rfl, rfl, h1, h2⟩, hb2⟩
      exact ⟨D1, d1, A1, c1, rfl, h1, h2, hb2⟩
  have HOWN := Lib.hid (fun A1 c1 wx (h : SB wx A1 c1 rr) => ownF A1 c1 rr wx h hrl)
  have HOWB := Lib.hid (fun A1 c1 wx (h : SB wx A1 c1 bb) => ownF A1 c1 bb wx h hbl)
  have HS := Lib.hid hs
  obtain ⟨p, hp⟩ : ∃ p, p = l.length := ⟨_, rfl⟩
  obtain ⟨q, hq⟩ : ∃ p, p = rr.length := ⟨_, rfl⟩
  obtain ⟨m, hm⟩ : ∃ p, p = bb.length := ⟨_, rfl⟩
  rw [← hp, ← hq, ← hm] at HX
  rw [← hq] at HOWN
  rw [← hm] at HOWB
  rw [← hp, ← hq, ← hm]
  clear hs hl hrl hbl hp hq hm hr h4 hle hrr hbb
  go_enter Tryz.func17, Tryz.ntmps17
  go_wp2_with fail
  refine (HX.out _ (balloc (Below.refl _ _) (Nat.le_refl _) _)).mono ?_
  rintro e w1 ⟨D1, d1, A1, c1, rfl, hsd, hsm, hb⟩
  have hbx : Below (w.heap.size + 1) (w.alloc (.cells #[.int .i64 3, .string ⟨#[]⟩, .string ⟨#[]⟩, .int .i64 0, .int .u64 0, .int .u64 0, .slice none 0 0, .slice none 0 0] 27)) w1 := by simpa using hb
  have HBX := Lib.hid hbx
  have HSR := Lib.hid hsm
  have HSD := Lib.hid hsd
  have hz1 := boxs hbx
  have HB1 := Lib.hid (boxb hbx)
  have hblk1 : w1.heap[w.heap.size]? = some (.cells #[.int .i64 3, .string ⟨#[]⟩, .string ⟨#[]⟩, .int .i64 0, .int .u64 0, .int .u64 0, .slice none 0 0, .slice none 0 0] 27 (0, 0)) := by rw [HBX.out.block w.heap.size (by omega)]; exact heap_alloc_new w _
  have hlt1 : w.heap.size < w1.heap.size := by omega
  clear hb hbx hsm hsd HX
  go_wp2_with fail
  refine (HOWB.out D1 d1 w1 (HSD.out _ (HS.out.keep HB1.out))).mono ?_
  rintro e w5 ⟨A5, c5, rfl, hs5, hn5, hb5⟩
  have hblk5 := (hb5.block w.heap.size hlt1).trans hblk1
  have HB5 := Lib.hid (bthen HB1.out hb5)
  have hA5 : ∀ a, A5 = some a → a.block ≠ w.heap.size := fun a ha => by have := hn5 a ha; omega
  have HA5 := Lib.hid hA5
  have HS5 := Lib.hid hs5
  have hlt5 : w.heap.size < w5.heap.size := (Array.getElem?_eq_some_iff.1 hblk5).1
  obtain ⟨q0, q1, q2, q3, q4, q5, q6, q7, f0, f1, f2, f3, f4, f5, f6, f7⟩ := cells8 hblk5
  clear hb5 hs5 hn5 hA5 hblk1 HOWB
  go_wp2_with fail
  refine tail59 w _ 3 0 0 0 ⟨#[]⟩ ⟨#[]⟩ A5 m c5 A1 c1 q true _ (fun _ _ _ _ _ h => h) ?h1 ?h2 (fun wx hb => HOWN.out _ _ wx (HSR.out _ (HS.out.keep hb))) ?_
  case h1 => (refine Eq.trans (heap_setCell_same _ _ _ _ _ _ hblk5) ?_; first | rfl | simp)
  case h2 => (iterate 1 (refine bsR _ ?_)); exact HB5.out
  intro A3 c3 w9 hblk9 hb9 hs9 hx9
  obtain ⟨u0, u1, u2, u3, u4, u5, u6, u7, -⟩ := cells8 hblk9
  have hlt9 : w.heap.size < w9.heap.size := (Array.getElem?_eq_some_iff.1 hblk9).1
  go_wp2_with fail
  exact bodyPost_ret (v := .tuple #[.agg #[.int .i64 3, .string ⟨#[]⟩, .string ⟨#[]⟩, .int .i64 0, .int .u64 0, .int .u64 0, .slice A5 m c5, .slice none 0 0], .slice A3 q c3, .bool true]) (by simp [results, Tryz.results17, go_sem, u0, u1, u2, u3, u4, u5, u6, u7, hlt9]) rfl ⟨⟨A5, c5, A3, c3, rfl, hx9 A5 c5 _ (by (iterate 1 (refine SB.far ?_ HA5.out _)); exact HS5.out) HA5.out, hs9⟩, hb9⟩
set_option maxHeartbeats 8000000 in
theorem rd_4_ok (A : Option Addr) (c : Nat) (l : List UInt8) (w : World) (hs : SB w A c l) (hl : l.length ≤ 5000) (n : Nat) (hr : readLen l = ((n : Int), true)) (h4 : 4 ≤ n) (hle : n ≤ l.length) : RdOk 4 l ⟨#[]⟩ ⟨#[]⟩ 0 0 0 (l.take n) (l.drop n) A c w := by
  unfold RdOk
  obtain ⟨rr, hrr⟩ : ∃ x, x = l.drop n := ⟨_, rfl⟩
  obtain ⟨bb, hbb⟩ : ∃ x, x = l.take n := ⟨_, rfl⟩
  have hrl : rr.length ≤ 5000 := by rw [hrr, List.length_drop]; omega
  have hbl : bb.length ≤ 5000 := by rw [hbb, List.length_take]; omega
  rw [← hrr, ← hbb]
  have HX : Hid (∀ wx, Below w.heap.size w wx → Calls Tryz.prog 49 #[.slice A l.length c] wx fun e w' => ∃ D1 d1 A1 c1, e = .returned (.tuple #[.slice D1 bb.length d1, .slice A1 rr.length c1, .bool true]) ∧ Sm A c l D1 d1 bb ∧ Sm A c l A1 c1 rr ∧ Below wx.heap.size wx w') := Lib.hid fun wx hb => by
    refine (wrapReadArray ((rlb_ok A c l n wx (hs.keep hb) hl hr h4 hle).mono (?_ : ∀ (e : Ending) (w' : World), _ → ∃ x y z : Value, e = .returned (.tuple #[x, y, z]) ∧ ((∃ D1 d1 A1 c1, x = .slice D1 bb.length d1 ∧ y = .slice A1 rr.length c1 ∧ z = .bool true ∧ Sm A c l D1 d1 bb ∧ Sm A c l A1 c1 rr) ∧ Below wx.heap.size wx w')))).mono ?_
    · rintro e w' ⟨D1, d1, A1, c1, rfl, h1, h2, hb2⟩
      exact ⟨_, _, _, rfl, ⟨D1, d1, A1, c1, by rw [hbb, List.length_take, Nat.min_eq_left hle], by rw [hrr, List.length_drop], rfl, by rw [hbb]; exact h1, by rw [hrr]; exact h2⟩, hb2⟩
    · rintro e w' ⟨x, y, z, rfl, ⟨D1, d1, A1, c1, rfl, rfl, rfl, h1, h2⟩, hb2⟩
      exact ⟨D1, d1, A1, c1, rfl, h1, h2, hb2⟩
  have HOWN := Lib.hid (fun A1 c1 wx (h : SB wx A1 c1 rr) => ownF A1 c1 rr wx h hrl)
  have HOWB := Lib.hid (fun A1 c1 wx (h : SB wx A1 c1 bb) => ownF A1 c1 bb wx h hbl)
  have HS := Lib.hid hs
  obtain ⟨p, hp⟩ : ∃ p, p = l.length := ⟨_, rfl⟩
  obtain ⟨q, hq⟩ : ∃ p, p = rr.length := ⟨_, rfl⟩
  obtain ⟨m, hm⟩ : ∃ p, p = bb.length := ⟨_, rfl⟩
  rw [← hp, ← hq, ← hm] at HX
  rw [← hq] at HOWN
  rw [← hm] at HOWB
  rw [← hp, ← hq, ← hm]
  clear hs hl hrl hbl hp hq hm hr h4 hle hrr hbb
  go_enter Tryz.func17, Tryz.ntmps17
  go_wp2_with fail
  refine (HX.out _ (balloc (Below.refl _ _) (Nat.le_refl _) _)).mono ?_
  rintro e w1 ⟨D1, d1, A1, c1, rfl, hsd, hsm, hb⟩
  have hbx : Below (w.heap.size + 1) (w.alloc (.cells #[.int .i64 4, .string ⟨#[]⟩, .string ⟨#[]⟩, .int .i64 0, .int .u64 0, .int .u64 0, .slice none 0 0, .slice none 0 0] 27)) w1 := by simpa using hb
  have HBX := Lib.hid hbx
  have HSR := Lib.hid hsm
  have HSD := Lib.hid hsd
  have hz1 := boxs hbx
  have HB1 := Lib.hid (boxb hbx)
  have hblk1 : w1.heap[w.heap.size]? = some (.cells #[.int .i64 4, .string ⟨#[]⟩, .string ⟨#[]⟩, .int .i64 0, .int .u64 0, .int .u64 0, .slice none 0 0, .slice none 0 0] 27 (0, 0)) := by rw [HBX.out.block w.heap.size (by omega)]; exact heap_alloc_new w _
  have hlt1 : w.heap.size < w1.heap.size := by omega
  clear hb hbx hsm hsd HX
  go_wp2_with fail
  refine (HOWB.out D1 d1 w1 (HSD.out _ (HS.out.keep HB1.out))).mono ?_
  rintro e w5 ⟨A5, c5, rfl, hs5, hn5, hb5⟩
  have hblk5 := (hb5.block w.heap.size hlt1).trans hblk1
  have HB5 := Lib.hid (bthen HB1.out hb5)
  have hA5 : ∀ a, A5 = some a → a.block ≠ w.heap.size := fun a ha => by have := hn5 a ha; omega
  have HA5 := Lib.hid hA5
  have HS5 := Lib.hid hs5
  have hlt5 : w.heap.size < w5.heap.size := (Array.getElem?_eq_some_iff.1 hblk5).1
  obtain ⟨q0, q1, q2, q3, q4, q5, q6, q7, f0, f1, f2, f3, f4, f5, f6, f7⟩ := cells8 hblk5
  clear hb5 hs5 hn5 hA5 hblk1 HOWB
  go_wp2_with fail
  refine tail59 w _ 4 0 0 0 ⟨#[]⟩ ⟨#[]⟩ A5 m c5 A1 c1 q true _ (fun _ _ _ _ _ h => h) ?h1 ?h2 (fun wx hb => HOWN.out _ _ wx (HSR.out _ (HS.out.keep hb))) ?_
  case h1 => (refine Eq.trans (heap_setCell_same _ _ _ _ _ _ hblk5) ?_; first | rfl | simp)
  case h2 => (iterate 1 (refine bsR _ ?_)); exact HB5.out
  intro A3 c3 w9 hblk9 hb9 hs9 hx9
  obtain ⟨u0, u1, u2, u3, u4, u5, u6, u7, -⟩ := cells8 hblk9
  have hlt9 : w.heap.size < w9.heap.size := (Array.getElem?_eq_some_iff.1 hblk9).1
  go_wp2_with fail
  exact bodyPost_ret (v := .tuple #[.agg #[.int .i64 4, .string ⟨#[]⟩, .string ⟨#[]⟩, .int .i64 0, .int .u64 0, .int .u64 0, .slice A5 m c5, .slice none 0 0], .slice A3 q c3, .bool true]) (by simp [results, Tryz.results17, go_sem, u0, u1, u2, u3, u4, u5, u6, u7, hlt9]) rfl ⟨⟨A5, c5, A3, c3, rfl, hx9 A5 c5 _ (by (iterate 1 (refine SB.far ?_ HA5.out _)); exact HS5.out) HA5.out, hs9⟩, hb9⟩
end Ru
end Go.Proofs.YtbpopaegfhcdpaaGreatDoor.X


/- impl.Read of code with scope and of binaries. (gen_rdi2.py) -/
set_option linter.unusedVariables false
set_option linter.unusedSimpArgs false
set_option maxRecDepth 100000
namespace Go.Proofs.YtbpopaegfhcdpaaGreatDoor.X
open Go.RowKit Go.Proofs.YtbpopaegfhcdpaaGreatDoorW.PrintLast
namespace Rw
open Sp Al Av Aw Ck Lk Rr Ru

/-- Why no binary begins some bytes. -/
def BinNo (l : List UInt8) : Prop := (readLen l).2 = false ∨ l.length = 4 ∧ (readLen l).2 = true ∨ ∃ t r, l.drop 4 = t :: r ∧ (readLen l).2 = true ∧ (r.length : Int) < (readLen l).1
theorem bin_no (A : Option Addr) (c : Nat) (l : List UInt8) (w : World) (hs : SB w A c l) (hl : l.length ≤ 5000) (h : BinNo l) :
    Calls Tryz.prog 50 #[.slice A l.length c] w fun e w' => e = .returned (.tuple #[.int .u8 0, .slice none 0 0, .slice A l.length c, .bool false]) ∧ Below w.heap.size w w' := by
  rcases h with h | ⟨h, h2⟩ | ⟨t, r, h1, h2, h3⟩
  · exact bin_no1 A c l w hs h
  · exact bin_no2 A c l (readLen l).1 w hs (by rw [← h2]) h
  · exact bin_long A c l (readLen l).1 t r w hs hl (by rw [← h2]) h1 h3 (readLen_bd l).2
set_option maxHeartbeats 8000000 in
theorem rd_15_ok (A : Option Addr) (c : Nat) (l : List UInt8) (w : World) (hs : SB w A c l) (hl : l.length ≤ 5000) (l1 l2 : List UInt8) (N n m : Nat) (hr : readLen l = ((N : Int), true)) (hN : N ≤ l.length) (e1 : l1 = l.drop 4) (hr1 : readLen l1 = ((n : Int) + 1, true)) (h1 : n + 5 ≤ l1.length) (e2 : l2 = l1.drop (n + 5)) (hr2 : readLen l2 = ((m : Int), true)) (h4 : 4 ≤ m) (h2 : m ≤ l2.length) : RdOk 15 l ⟨((l1.drop 4).take n).toArray⟩ ⟨#[]⟩ 0 0 0 (l2.take m) (l2.drop m) A c w := by
  unfold RdOk
  have hll1 : l1.length = l.length - 4 := by rw [e1, List.length_drop]
  have hll2 : l2.length = l1.length - (n + 5) := by rw [e2, List.length_drop]
  obtain ⟨rr, hrr⟩ : ∃ x, x = l2.drop m := ⟨_, rfl⟩
  obtain ⟨bb, hbb⟩ : ∃ x, x = l2.take m := ⟨_, rfl⟩
  have hrl : rr.length ≤ 5000 := by rw [hrr]; simp only [List.length_drop, List.length_take]; omega
  have hbl : bb.length ≤ 5000 := by rw [hbb]; simp only [List.length_drop, List.length_take]; omega
  rw [← hrr, ← hbb]
  have HX : Hid (∀ wx, Below w.heap.size w wx → Calls Tryz.prog 59 #[.slice A l.length c] wx fun e w' => ∃ D1 d1 A1 c1, e = .returned (.tuple #[.string ⟨((l1.drop 4).take n).toArray⟩, .slice D1 bb.length d1, .slice A1 rr.length c1, .bool true]) ∧ Sm A c l D1 d1 bb ∧ Sm A c l A1 c1 rr ∧ Below wx.heap.size wx w') := Lib.hid fun wx hb => by
    refine (cws_ok A c l l1 l2 N n m wx (hs.keep hb) hl hr hN e1 hr1 h1 e2 hr2 h4 h2).mono ?_
    rintro e w' ⟨D1, d1, A1, c1, rfl, h1, h2, hb2⟩
    exact ⟨D1, d1, A1, c1, by rw [hbb, hrr, List.length_take, List.length_drop, Nat.min_eq_left (by assumption)], by rw [hbb]; exact h1, by rw [hrr]; exact h2, hb2⟩
  have HOWN := Lib.hid (fun A1 c1 wx (h : SB wx A1 c1 rr) => ownF A1 c1 rr wx h hrl)
  have HOWB := Lib.hid (fun A1 c1 wx (h : SB wx A1 c1 bb) => ownF A1 c1 bb wx h hbl)
  have HS := Lib.hid hs
  obtain ⟨p, hp⟩ : ∃ p, p = l.length := ⟨_, rfl⟩
  obtain ⟨q, hq⟩ : ∃ p, p = rr.length := ⟨_, rfl⟩
  obtain ⟨m', hm'⟩ : ∃ p, p = bb.length := ⟨_, rfl⟩
  obtain ⟨Z, hZ⟩ : ∃ z : ByteArray, z = ⟨((l1.drop 4).take n).toArray⟩ := ⟨_, rfl⟩
  rw [← hZ] at HX ⊢
  rw [← hp, ← hq, ← hm'] at HX
  rw [← hq] at HOWN
  rw [← hm'] at HOWB
  rw [← hp, ← hq, ← hm']
  clear hs hl hrl hbl hp hq hm' hr hN e1 hr1 h1 e2 hr2 h4 h2 hll1 hll2 hrr hbb hZ
  go_enter Tryz.func17, Tryz.ntmps17
  go_wp2_with fail
  refine (HX.out _ (balloc (Below.refl _ _) (Nat.le_refl _) _)).mono ?_
  rintro e w1 ⟨D1, d1, A1, c1, rfl, hsd, hsm, hb⟩
  have hbx : Below (w.heap.size + 1) (w.alloc (.cells #[.int .i64 15, .string ⟨#[]⟩, .string ⟨#[]⟩, .int .i64 0, .int .u64 0, .int .u64 0, .slice none 0 0, .slice none 0 0] 27)) w1 := by simpa using hb
  have HBX := Lib.hid hbx
  have HSR := Lib.hid hsm
  have HSD := Lib.hid hsd
  have hz1 := boxs hbx
  have HB1 := Lib.hid (boxb hbx)
  have hblk1 : w1.heap[w.heap.size]? = some (.cells #[.int .i64 15, .string ⟨#[]⟩, .string ⟨#[]⟩, .int .i64 0, .int .u64 0, .int .u64 0, .slice none 0 0, .slice none 0 0] 27 (0, 0)) := by rw [HBX.out.block w.heap.size (by omega)]; exact heap_alloc_new w _
  have hlt1 : w.heap.size < w1.heap.size := by omega
  clear hb hbx hsm hsd HX
  obtain ⟨q0, q1, q2, q3, q4, q5, q6, q7, f0, f1, f2, f3, f4, f5, f6, f7⟩ := cells8 hblk1
  have hS0 := heap_setCell_same w1 w.heap.size 1 _ _ (.string Z) hblk1
  have hS1 := heap_setCell_same _ w.heap.size 6 _ _ ((.slice D1 m' d1)) hS0
  go_wp2_with fail
  refine (HOWB.out D1 d1 _ (HSD.out _ (HS.out.keep (bsR _ (bsR _ HB1.out))))).mono ?_
  rintro e w5 ⟨A5, c5, rfl, hs5, hn5, hb5⟩
  have hblk5 : w5.heap[w.heap.size]? = some (.cells #[.int .i64 15, .string Z, .string ⟨#[]⟩, .int .i64 0, .int .u64 0, .int .u64 0, (.slice D1 m' d1), .slice none 0 0] 27 (0, 0)) := (hb5.block w.heap.size (by simp; exact hlt1)).trans (by simpa using hS1)
  have HB5 := Lib.hid (bthen (bsR _ (bsR _ HB1.out)) hb5)
  have hA5 : ∀ a, A5 = some a → a.block ≠ w.heap.size := fun a ha => by have h := hn5 a ha; simp at h; omega
  have HA5 := Lib.hid hA5
  have HS5 := Lib.hid hs5
  have hlt5 : w.heap.size < w5.heap.size := (Array.getElem?_eq_some_iff.1 hblk5).1
  clear q0 f0 q1 f1 q2 f2 q3 f3 q4 f4 q5 f5 q6 f6 q7 f7 hb5 hs5 hn5 hA5 hS1 hS0 hblk1 HOWB
  obtain ⟨q0, q1, q2, q3, q4, q5, q6, q7, f0, f1, f2, f3, f4, f5, f6, f7⟩ := cells8 hblk5
  go_wp2_with fail
  refine tail59 w _ 15 0 0 0 Z ⟨#[]⟩ A5 m' c5 A1 c1 q true _ (fun _ _ _ _ _ h => h) ?h1 ?h2 (fun wx hb => HOWN.out _ _ wx (HSR.out _ (HS.out.keep hb))) ?_
  case h1 => (refine Eq.trans (heap_setCell_same _ _ _ _ _ _ hblk5) ?_; first | rfl | simp)
  case h2 => (iterate 1 (refine bsR _ ?_)); exact HB5.out
  intro A3 c3 w9 hblk9 hb9 hs9 hx9
  obtain ⟨u0, u1, u2, u3, u4, u5, u6, u7, -⟩ := cells8 hblk9
  have hlt9 : w.heap.size < w9.heap.size := (Array.getElem?_eq_some_iff.1 hblk9).1
  go_wp2_with fail
  exact bodyPost_ret (v := .tuple #[.agg #[.int .i64 15, .string Z, .string ⟨#[]⟩, .int .i64 0, .int .u64 0, .int .u64 0, .slice A5 m' c5, .slice none 0 0], .slice A3 q c3, .bool true]) (by simp [results, Tryz.results17, go_sem, u0, u1, u2, u3, u4, u5, u6, u7, hlt9]) rfl ⟨⟨A5, c5, A3, c3, rfl, hx9 A5 c5 _ (by (iterate 1 (refine SB.far ?_ HA5.out _)); exact HS5.out) HA5.out, hs9⟩, hb9⟩
set_option maxHeartbeats 8000000 in
theorem rd_5_ok (A : Option Addr) (c : Nat) (l : List UInt8) (w : World) (hs : SB w A c l) (hl : l.length ≤ 5000) (n : Nat) (t : UInt8) (r : List UInt8) (hr : readLen l = ((n : Int), true)) (e1 : l.drop 4 = t :: r) (hn : n ≤ r.length) (ht : t ≠ 2) : RdOk 5 l ⟨#[]⟩ ⟨#[]⟩ (t.toNat : Int) 0 0 (r.take n) (r.drop n) A c w := by
  unfold RdOk
  have hlr : l.length - 4 = r.length + 1 := by rw [← List.length_drop, e1]; simp
  obtain ⟨rr, hrr⟩ : ∃ x, x = r.drop n := ⟨_, rfl⟩
  obtain ⟨bb, hbb⟩ : ∃ x, x = r.take n := ⟨_, rfl⟩
  have hrl : rr.length ≤ 5000 := by rw [hrr]; simp only [List.length_drop, List.length_take]; omega
  have hbl : bb.length ≤ 5000 := by rw [hbb]; simp only [List.length_drop, List.length_take]; omega
  rw [← hrr, ← hbb]
  have HX : Hid (∀ wx, Below w.heap.size w wx → Calls Tryz.prog 50 #[.slice A l.length c] wx fun e w' => ∃ D1 d1 A1 c1, e = .returned (.tuple #[.int .u8 (t.toNat : Int), .slice D1 bb.length d1, .slice A1 rr.length c1, .bool true]) ∧ Sm A c l D1 d1 bb ∧ Sm A c l A1 c1 rr ∧ Below wx.heap.size wx w') := Lib.hid fun wx hb => by
    refine (bin_ok A c l n t r wx (hs.keep hb) hl hr e1 hn ht).mono ?_
    rintro e w' ⟨D1, d1, A1, c1, rfl, h1, h2, hb2⟩
    exact ⟨D1, d1, A1, c1, by rw [hbb, hrr, List.length_take, List.length_drop, Nat.min_eq_left hn], by rw [hbb]; exact h1, by rw [hrr]; exact h2, hb2⟩
  have HOWN := Lib.hid (fun A1 c1 wx (h : SB wx A1 c1 rr) => ownF A1 c1 rr wx h hrl)
  have HOWB := Lib.hid (fun A1 c1 wx (h : SB wx A1 c1 bb) => ownF A1 c1 bb wx h hbl)
  have HS := Lib.hid hs
  obtain ⟨p, hp⟩ : ∃ p, p = l.length := ⟨_, rfl⟩
  obtain ⟨q, hq⟩ : ∃ p, p = rr.length := ⟨_, rfl⟩
  obtain ⟨m', hm'⟩ : ∃ p, p = bb.length := ⟨_, rfl⟩
  obtain ⟨NV, hNV⟩ : ∃ x : Int, x = (t.toNat : Int) := ⟨_, rfl⟩
  rw [← hNV] at HX ⊢
  have HW : Hid (wrap64 NV = NV) := Lib.hid (by rw [hNV]; have := UInt8.toNat_lt t; unfold wrap64; omega)
  rw [← hp, ← hq, ← hm'] at HX
  rw [← hq] at HOWN
  rw [← hm'] at HOWB
  rw [← hp, ← hq, ← hm']
  clear hs hl hrl hbl hp hq hm' hr e1 hn ht hlr hrr hbb hNV
  have hwn := HW.out
  go_enter Tryz.func17, Tryz.ntmps17
  go_wp2_with fail
  refine (HX.out _ (balloc (Below.refl _ _) (Nat.le_refl _) _)).mono ?_
  rintro e w1 ⟨D1, d1, A1, c1, rfl, hsd, hsm, hb⟩
  have hbx : Below (w.heap.size + 1) (w.alloc (.cells #[.int .i64 5, .string ⟨#[]⟩, .string ⟨#[]⟩, .int .i64 0, .int .u64 0, .int .u64 0, .slice none 0 0, .slice none 0 0] 27)) w1 := by simpa using hb
  have HBX := Lib.hid hbx
  have HSR := Lib.hid hsm
  have HSD := Lib.hid hsd
  have hz1 := boxs hbx
  have HB1 := Lib.hid (boxb hbx)
  have hblk1 : w1.heap[w.heap.size]? = some (.cells #[.int .i64 5, .string ⟨#[]⟩, .string ⟨#[]⟩, .int .i64 0, .int .u64 0, .int .u64 0, .slice none 0 0, .slice none 0 0] 27 (0, 0)) := by rw [HBX.out.block w.heap.size (by omega)]; exact heap_alloc_new w _
  have hlt1 : w.heap.size < w1.heap.size := by omega
  clear hb hbx hsm hsd HX
  obtain ⟨q0, q1, q2, q3, q4, q5, q6, q7, f0, f1, f2, f3, f4, f5, f6, f7⟩ := cells8 hblk1
  have hS0 := heap_setCell_same w1 w.heap.size 6 _ _ ((.slice D1 m' d1)) hblk1
  go_wp2_with fail
  refine (HOWB.out D1 d1 _ (HSD.out _ (HS.out.keep (bsR _ HB1.out)))).mono ?_
  rintro e w5 ⟨A5, c5, rfl, hs5, hn5, hb5⟩
  have hblk5 : w5.heap[w.heap.size]? = some (.cells #[.int .i64 5, .string ⟨#[]⟩, .string ⟨#[]⟩, .int .i64 0, .int .u64 0, .int .u64 0, (.slice D1 m' d1), .slice none 0 0] 27 (0, 0)) := (hb5.block w.heap.size (by simp; exact hlt1)).trans (by simpa using hS0)
  have HB5 := Lib.hid (bthen (bsR _ HB1.out) hb5)
  have hA5 : ∀ a, A5 = some a → a.block ≠ w.heap.size := fun a ha => by have h := hn5 a ha; simp at h; omega
  have HA5 := Lib.hid hA5
  have HS5 := Lib.hid hs5
  have hlt5 : w.heap.size < w5.heap.size := (Array.getElem?_eq_some_iff.1 hblk5).1
  clear q0 f0 q1 f1 q2 f2 q3 f3 q4 f4 q5 f5 q6 f6 q7 f7 hb5 hs5 hn5 hA5 hS0 hblk1 HOWB
  obtain ⟨q0, q1, q2, q3, q4, q5, q6, q7, f0, f1, f2, f3, f4, f5, f6, f7⟩ := cells8 hblk5
  go_wp2_with fail
  refine tail59 w _ 5 NV 0 0 ⟨#[]⟩ ⟨#[]⟩ A5 m' c5 A1 c1 q true _ (fun _ _ _ _ _ h => h) ?h1 ?h2 (fun wx hb => HOWN.out _ _ wx (HSR.out _ (HS.out.keep hb))) ?_
  case h1 => (refine Eq.trans (heap_setCell_same _ _ _ _ _ _ (heap_setCell_same _ _ _ _ _ _ hblk5)) ?_; first | rfl | simp)
  case h2 => (iterate 2 (refine bsR _ ?_)); exact HB5.out
  intro A3 c3 w9 hblk9 hb9 hs9 hx9
  obtain ⟨u0, u1, u2, u3, u4, u5, u6, u7, -⟩ := cells8 hblk9
  have hlt9 : w.heap.size < w9.heap.size := (Array.getElem?_eq_some_iff.1 hblk9).1
  go_wp2_with fail
  exact bodyPost_ret (v := .tuple #[.agg #[.int .i64 5, .string ⟨#[]⟩, .string ⟨#[]⟩, .int .i64 NV, .int .u64 0, .int .u64 0, .slice A5 m' c5, .slice none 0 0], .slice A3 q c3, .bool true]) (by simp [results, Tryz.results17, go_sem, u0, u1, u2, u3, u4, u5, u6, u7, hlt9]) rfl ⟨⟨A5, c5, A3, c3, rfl, hx9 A5 c5 _ (by (iterate 2 (refine SB.far ?_ HA5.out _)); exact HS5.out) HA5.out, hs9⟩, hb9⟩
set_option maxHeartbeats 8000000 in
theorem rd_5_old (A : Option Addr) (c : Nat) (l : List UInt8) (w : World) (hs : SB w A c l) (hl : l.length ≤ 5000) (n k : Nat) (r : List UInt8) (hr : readLen l = ((n : Int), true)) (e1 : l.drop 4 = 2 :: r) (hn : n ≤ r.length) (hk : readLen r = ((k : Int), true)) (hkl : k + 4 ≤ r.length) : RdOk 5 l ⟨#[]⟩ ⟨#[]⟩ 2 0 0 ((r.drop 4).take k) (r.drop (k + 4)) A c w := by
  unfold RdOk
  have hlr : l.length - 4 = r.length + 1 := by rw [← List.length_drop, e1]; simp
  obtain ⟨rr, hrr⟩ : ∃ x, x = r.drop (k + 4) := ⟨_, rfl⟩
  obtain ⟨bb, hbb⟩ : ∃ x, x = (r.drop 4).take k := ⟨_, rfl⟩
  have hrl : rr.length ≤ 5000 := by rw [hrr]; simp only [List.length_drop, List.length_take]; omega
  have hbl : bb.length ≤ 5000 := by rw [hbb]; simp only [List.length_drop, List.length_take]; omega
  rw [← hrr, ← hbb]
  have HX : Hid (∀ wx, Below w.heap.size w wx → Calls Tryz.prog 50 #[.slice A l.length c] wx fun e w' => ∃ D1 d1 A1 c1, e = .returned (.tuple #[.int .u8 2, .slice D1 bb.length d1, .slice A1 rr.length c1, .bool true]) ∧ Sm A c l D1 d1 bb ∧ Sm A c l A1 c1 rr ∧ Below wx.heap.size wx w') := Lib.hid fun wx hb => by
    refine (bin_ok2 A c l n k r wx (hs.keep hb) hl hr e1 hn hk hkl).mono ?_
    rintro e w' ⟨D1, d1, A1, c1, rfl, h1, h2, hb2⟩
    have x1 : (r.drop 4).drop k = rr := by rw [hrr, List.drop_drop, Nat.add_comm]
    have x2 : r.length - 4 - k = rr.length := by rw [← x1]; simp only [List.length_drop]
    have x3 : k = bb.length := by rw [hbb, List.length_take, List.length_drop]; omega
    exact ⟨D1, d1, A1, c1, by rw [← x2, ← x3], by rw [hbb]; exact h1, by rw [← x1]; exact h2, hb2⟩
  have HOWN := Lib.hid (fun A1 c1 wx (h : SB wx A1 c1 rr) => ownF A1 c1 rr wx h hrl)
  have HOWB := Lib.hid (fun A1 c1 wx (h : SB wx A1 c1 bb) => ownF A1 c1 bb wx h hbl)
  have HS := Lib.hid hs
  obtain ⟨p, hp⟩ : ∃ p, p = l.length := ⟨_, rfl⟩
  obtain ⟨q, hq⟩ : ∃ p, p = rr.length := ⟨_, rfl⟩
  obtain ⟨m', hm'⟩ : ∃ p, p = bb.length := ⟨_, rfl⟩
  obtain ⟨NV, hNV⟩ : ∃ x : Int, x = 2 := ⟨_, rfl⟩
  rw [← hNV] at HX ⊢
  have HW : Hid (wrap64 NV = NV) := Lib.hid (by rw [hNV]; decide +kernel)
  rw [← hp, ← hq, ← hm'] at HX
  rw [← hq] at HOWN
  rw [← hm'] at HOWB
  rw [← hp, ← hq, ← hm']
  clear hs hl hrl hbl hp hq hm' hr e1 hn hk hkl hlr hrr hbb hNV
  have hwn := HW.out
  go_enter Tryz.func17, Tryz.ntmps17
  go_wp2_with fail
  refine (HX.out _ (balloc (Below.refl _ _) (Nat.le_refl _) _)).mono ?_
  rintro e w1 ⟨D1, d1, A1, c1, rfl, hsd, hsm, hb⟩
  have hbx : Below (w.heap.size + 1) (w.alloc (.cells #[.int .i64 5, .string ⟨#[]⟩, .string ⟨#[]⟩, .int .i64 0, .int .u64 0, .int .u64 0, .slice none 0 0, .slice none 0 0] 27)) w1 := by simpa using hb
  have HBX := Lib.hid hbx
  have HSR := Lib.hid hsm
  have HSD := Lib.hid hsd
  have hz1 := boxs hbx
  have HB1 := Lib.hid (boxb hbx)
  have hblk1 : w1.heap[w.heap.size]? = some (.cells #[.int .i64 5, .string ⟨#[]⟩, .string ⟨#[]⟩, .int .i64 0, .int .u64 0, .int .u64 0, .slice none 0 0, .slice none 0 0] 27 (0, 0)) := by rw [HBX.out.block w.heap.size (by omega)]; exact heap_alloc_new w _
  have hlt1 : w.heap.size < w1.heap.size := by omega
  clear hb hbx hsm hsd HX
  obtain ⟨q0, q1, q2, q3, q4, q5, q6, q7, f0, f1, f2, f3, f4, f5, f6, f7⟩ := cells8 hblk1
  have hS0 := heap_setCell_same w1 w.heap.size 6 _ _ ((.slice D1 m' d1)) hblk1
  go_wp2_with fail
  refine (HOWB.out D1 d1 _ (HSD.out _ (HS.out.keep (bsR _ HB1.out)))).mono ?_
  rintro e w5 ⟨A5, c5, rfl, hs5, hn5, hb5⟩
  have hblk5 : w5.heap[w.heap.size]? = some (.cells #[.int .i64 5, .string ⟨#[]⟩, .string ⟨#[]⟩, .int .i64 0, .int .u64 0, .int .u64 0, (.slice D1 m' d1), .slice none 0 0] 27 (0, 0)) := (hb5.block w.heap.size (by simp; exact hlt1)).trans (by simpa using hS0)
  have HB5 := Lib.hid (bthen (bsR _ HB1.out) hb5)
  have hA5 : ∀ a, A5 = some a → a.block ≠ w.heap.size := fun a ha => by have h := hn5 a ha; simp at h; omega
  have HA5 := Lib.hid hA5
  have HS5 := Lib.hid hs5
  have hlt5 : w.heap.size < w5.heap.size := (Array.getElem?_eq_some_iff.1 hblk5).1
  clear q0 f0 q1 f1 q2 f2 q3 f3 q4 f4 q5 f5 q6 f6 q7 f7 hb5 hs5 hn5 hA5 hS0 hblk1 HOWB
  obtain ⟨q0, q1, q2, q3, q4, q5, q6, q7, f0, f1, f2, f3, f4, f5, f6, f7⟩ := cells8 hblk5
  go_wp2_with fail
  refine tail59 w _ 5 NV 0 0 ⟨#[]⟩ ⟨#[]⟩ A5 m' c5 A1 c1 q true _ (fun _ _ _ _ _ h => h) ?h1 ?h2 (fun wx hb => HOWN.out _ _ wx (HSR.out _ (HS.out.keep hb))) ?_
  case h1 => (refine Eq.trans (heap_setCell_same _ _ _ _ _ _ (heap_setCell_same _ _ _ _ _ _ hblk5)) ?_; first | rfl | simp)
  case h2 => (iterate 2 (refine bsR _ ?_)); exact HB5.out
  intro A3 c3 w9 hblk9 hb9 hs9 hx9
  obtain ⟨u0, u1, u2, u3, u4, u5, u6, u7, -⟩ := cells8 hblk9
  have hlt9 : w.heap.size < w9.heap.size := (Array.getElem?_eq_some_iff.1 hblk9).1
  go_wp2_with fail
  exact bodyPost_ret (v := .tuple #[.agg #[.int .i64 5, .string ⟨#[]⟩, .string ⟨#[]⟩, .int .i64 NV, .int .u64 0, .int .u64 0, .slice A5 m' c5, .slice none 0 0], .slice A3 q c3, .bool true]) (by simp [results, Tryz.results17, go_sem, u0, u1, u2, u3, u4, u5, u6, u7, hlt9]) rfl ⟨⟨A5, c5, A3, c3, rfl, hx9 A5 c5 _ (by (iterate 2 (refine SB.far ?_ HA5.out _)); exact HS5.out) HA5.out, hs9⟩, hb9⟩
set_option maxHeartbeats 8000000 in
theorem rd_5_no (A : Option Addr) (c : Nat) (l : List UInt8) (w : World) (hs : SB w A c l) (hl : l.length ≤ 5000) (h : BinNo l) : RdNo 5 l A c w := by
  unfold RdNo
  have HX : Hid (∀ wx, Below w.heap.size w wx → Calls Tryz.prog 50 #[.slice A l.length c] wx fun e w' => ∃ A1 c1, e = .returned (.tuple #[.int .u8 0, .slice none 0 0, .slice A1 l.length c1, .bool false]) ∧ Sm A c l A1 c1 l ∧ Below wx.heap.size wx w') := Lib.hid fun wx hb => by
    refine ((bin_no A c l wx (hs.keep hb) hl h)).mono ?_
    rintro e w' ⟨rfl, h2⟩
    exact ⟨A, c, rfl, fun wy h => h, h2⟩
  have HOWN := Lib.hid (fun A1 c1 wx (h : SB wx A1 c1 l) => ownF A1 c1 l wx h hl)
  have HS := Lib.hid hs
  obtain ⟨p, hp⟩ : ∃ p, p = l.length := ⟨_, rfl⟩
  rw [← hp] at HX HOWN ⊢
  clear hs hl hp h
  have hwz : wrap64 0 = 0 := by decide +kernel
  go_enter Tryz.func17, Tryz.ntmps17
  go_wp2_with fail
  refine (HX.out _ (balloc (Below.refl _ _) (Nat.le_refl _) _)).mono ?_
  rintro e w1 ⟨A1, c1, rfl, hsm, hb⟩
  have hbx : Below (w.heap.size + 1) (w.alloc (.cells #[.int .i64 5, .string ⟨#[]⟩, .string ⟨#[]⟩, .int .i64 0, .int .u64 0, .int .u64 0, .slice none 0 0, .slice none 0 0] 27)) w1 := by simpa using hb
  have HBX := Lib.hid hbx
  have HSR := Lib.hid hsm
  have hz1 := boxs hbx
  have HB1 := Lib.hid (boxb hbx)
  have hblk1 : w1.heap[w.heap.size]? = some (.cells #[.int .i64 5, .string ⟨#[]⟩, .string ⟨#[]⟩, .int .i64 0, .int .u64 0, .int .u64 0, .slice none 0 0, .slice none 0 0] 27 (0, 0)) := by rw [HBX.out.block w.heap.size (by omega)]; exact heap_alloc_new w _
  obtain ⟨q0, q1, q2, q3, q4, q5, q6, q7, f0, f1, f2, f3, f4, f5, f6, f7⟩ := cells8 hblk1
  have hlt1 : w.heap.size < w1.heap.size := by omega
  clear hb hbx hsm HX
  go_wp2_with fail
  have hS0 := heap_setCell_same w1 w.heap.size 6 _ _ (.slice none 0 0) hblk1
  refine (ownF none 0 [] _ (SB.nil _) (by simp)).mono ?_
  rintro e w5 ⟨A5, c5, rfl, hs5, hn5, hb5⟩
  have hblk5 : w5.heap[w.heap.size]? = some (.cells #[.int .i64 5, .string ⟨#[]⟩, .string ⟨#[]⟩, .int .i64 0, .int .u64 0, .int .u64 0, .slice none 0 0, .slice none 0 0] 27 (0, 0)) := (hb5.block w.heap.size (by simp; exact hlt1)).trans (by simpa using hS0)
  have HB5 := Lib.hid (bthen (bsR _ HB1.out) hb5)
  have hlt5 : w.heap.size < w5.heap.size := (Array.getElem?_eq_some_iff.1 hblk5).1
  clear q0 f0 q1 f1 q2 f2 q3 f3 q4 f4 q5 f5 q6 f6 q7 f7 hb5 hs5 hn5 hS0 hblk1
  obtain ⟨q0, q1, q2, q3, q4, q5, q6, q7, f0, f1, f2, f3, f4, f5, f6, f7⟩ := cells8 hblk5
  go_wp2_with fail
  refine tail59 w _ 0 0 0 0 ⟨#[]⟩ ⟨#[]⟩ none 0 0 A1 c1 p false _ (fun _ _ _ _ _ h => h) ?h1 ?h2 (fun wx hb => HOWN.out _ _ wx (HSR.out _ (HS.out.keep hb))) ?_
  case h1 => (refine Eq.trans (heap_setCell_same _ _ _ _ _ _ (heap_setCell_same _ _ _ _ _ _ (heap_setCell_same _ _ _ _ _ _ (heap_setCell_same _ _ _ _ _ _ (heap_setCell_same _ _ _ _ _ _ (heap_setCell_same _ _ _ _ _ _ (heap_setCell_same _ _ _ _ _ _ (heap_setCell_same _ _ _ _ _ _ (heap_setCell_same _ _ _ _ _ _ (heap_setCell_same _ _ _ _ _ _ hblk5)))))))))) ?_; first | rfl | simp)
  case h2 => (iterate 10 (refine bsR _ ?_)); exact HB5.out
  intro A3 c3 w9 hblk9 hb9 hs9 hx9
  obtain ⟨u0, u1, u2, u3, u4, u5, u6, u7, -⟩ := cells8 hblk9
  have hlt9 : w.heap.size < w9.heap.size := (Array.getElem?_eq_some_iff.1 hblk9).1
  go_wp2_with fail
  exact bodyPost_ret (v := .tuple #[.agg #[.int .i64 0, .string ⟨#[]⟩, .string ⟨#[]⟩, .int .i64 0, .int .u64 0, .int .u64 0, .slice none 0 0, .slice none 0 0], .slice A3 p c3, .bool false]) (by simp [results, Tryz.results17, go_sem, u0, u1, u2, u3, u4, u5, u6, u7, hlt9]) rfl ⟨⟨A3, c3, rfl, hs9⟩, hb9⟩
end Rw
end Go.Proofs.YtbpopaegfhcdpaaGreatDoor.X


