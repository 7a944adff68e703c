/- Put together, without what nothing reaches: RdiG, RdiI, RdiH. -/
import Derived.Test.YtbpopaegfhcdpaaGreatDoorMf
import Derived.Test.YtbpopaegfhcdpaaGreatDoorMe
/- impl.Read of identifiers and pointers. (gen_rdi2.py) -/
set_option linter.unusedVariables false
set_option linter.unusedSimpArgs false
set_option maxRecDepth 100000
namespace Go.Proofs.YtbpopaegfhcdpaaGreatDoor.X
open Go.RowKit Go.Proofs.YtbpopaegfhcdpaaGreatDoorW.PrintLast
namespace Rx
open Sp Al Av Aw Ck Lk Rr Ru

theorem cells12 {W : World} {B : Nat} {T : TypeId} {c0 c1 c2 c3 c4 c5 c6 c7 c8 c9 c10 c11 : Value} (h : W.heap[B]? = some (.cells #[c0, c1, c2, c3, c4, c5, c6, c7, c8, c9, c10, c11] T (0, 0))) : W.cell? ⟨B, 0, none⟩ = some c0 ∧ W.cell? ⟨B, 1, none⟩ = some c1 ∧ W.cell? ⟨B, 2, none⟩ = some c2 ∧ W.cell? ⟨B, 3, none⟩ = some c3 ∧ W.cell? ⟨B, 4, none⟩ = some c4 ∧ W.cell? ⟨B, 5, none⟩ = some c5 ∧ W.cell? ⟨B, 6, none⟩ = some c6 ∧ W.cell? ⟨B, 7, none⟩ = some c7 ∧ W.cell? ⟨B, 8, none⟩ = some c8 ∧ W.cell? ⟨B, 9, none⟩ = some c9 ∧ W.cell? ⟨B, 10, none⟩ = some c10 ∧ W.cell? ⟨B, 11, none⟩ = some c11 ∧ W.frozen? ⟨B, 0, none⟩ = false ∧ W.frozen? ⟨B, 1, none⟩ = false ∧ W.frozen? ⟨B, 2, none⟩ = false ∧ W.frozen? ⟨B, 3, none⟩ = false ∧ W.frozen? ⟨B, 4, none⟩ = false ∧ W.frozen? ⟨B, 5, none⟩ = false ∧ W.frozen? ⟨B, 6, none⟩ = false ∧ W.frozen? ⟨B, 7, none⟩ = false ∧ W.frozen? ⟨B, 8, none⟩ = false ∧ W.frozen? ⟨B, 9, none⟩ = false ∧ W.frozen? ⟨B, 10, none⟩ = false ∧ W.frozen? ⟨B, 11, none⟩ = false := by
  refine ⟨?_, ?_, ?_, ?_, ?_, ?_, ?_, ?_, ?_, ?_, ?_, ?_, ?_, ?_, ?_, ?_, ?_, ?_, ?_, ?_, ?_, ?_, ?_, ?_⟩ <;> first | (simp only [World.cell?, h]; rfl) | (simp only [World.frozen?, h]; rfl)
theorem sb_row {w : World} {g : Nat} {l : List UInt8} {T : TypeId} {fr : Nat × Nat} (hg : w.heap[g]? = some (.cells (byv l).toArray T fr)) (hl : l.length ≤ 9223372036854775807) : SB w (some ⟨g, 0, none⟩) l.length l :=
  ⟨Nat.le_refl _, hl, fun _ => ⟨g, 0, rfl, fun j hj => by simp [World.cell?, hg, byv, hj]⟩⟩
set_option maxHeartbeats 16000000 in
theorem rd_7_ok (A : Option Addr) (c : Nat) (l : List UInt8) (w : World) (hs : SB w A c l) (hl : l.length ≤ 5000) (m r : List UInt8) (hlr : l = m ++ r) (hm : m.length = 12) : RdOk 7 l ⟨#[]⟩ ⟨#[]⟩ 0 0 0 m r A c w := by
  unfold RdOk
  have hrl : r.length ≤ 5000 := by rw [hlr] at hl; simp at hl; omega
  obtain ⟨rr, hrr⟩ : ∃ x, x = r := ⟨_, rfl⟩
  rw [← hrr] at hrl ⊢
  obtain ⟨b0, b1, b2, b3, b4, b5, b6, b7, b8, b9, b10, b11, hmb⟩ := split12 hm
  have eAR : arrV m = .agg #[.int .u8 b0.toNat, .int .u8 b1.toNat, .int .u8 b2.toNat, .int .u8 b3.toNat, .int .u8 b4.toNat, .int .u8 b5.toNat, .int .u8 b6.toNat, .int .u8 b7.toNat, .int .u8 b8.toNat, .int .u8 b9.toNat, .int .u8 b10.toNat, .int .u8 b11.toNat] := by rw [hmb]; rfl
  have HX : Hid (∀ wx, Below w.heap.size w wx → Calls Tryz.prog 51 #[.slice A l.length c] wx fun e w' => ∃ A1 c1, e = .returned (.tuple #[(.agg #[.int .u8 b0.toNat, .int .u8 b1.toNat, .int .u8 b2.toNat, .int .u8 b3.toNat, .int .u8 b4.toNat, .int .u8 b5.toNat, .int .u8 b6.toNat, .int .u8 b7.toNat, .int .u8 b8.toNat, .int .u8 b9.toNat, .int .u8 b10.toNat, .int .u8 b11.toNat]), .slice A1 rr.length c1, .bool true]) ∧ Sm A c l A1 c1 rr ∧ Below wx.heap.size wx w') := Lib.hid fun wx hb => by
    have h8 := oid_ok A c m r wx (by rw [← hlr]; exact hs.keep hb) hm
    rw [← hlr, eAR] at h8
    refine h8.mono ?_
    rintro e w' ⟨A1, c1, rfl, h1, h2⟩
    exact ⟨A1, c1, by rw [hrr], by rw [hrr]; exact h1, h2⟩
  have HOWN := Lib.hid (fun A1 c1 wx (h : SB wx A1 c1 rr) => ownF A1 c1 rr wx h hrl)
  have HS := Lib.hid hs
  obtain ⟨p, hp⟩ : ∃ p, p = l.length := ⟨_, rfl⟩
  have HOWT : Hid (∀ (B : Nat) (wx : World), wx.heap[B]? = some (.cells #[.int .u8 b0.toNat, .int .u8 b1.toNat, .int .u8 b2.toNat, .int .u8 b3.toNat, .int .u8 b4.toNat, .int .u8 b5.toNat, .int .u8 b6.toNat, .int .u8 b7.toNat, .int .u8 b8.toNat, .int .u8 b9.toNat, .int .u8 b10.toNat, .int .u8 b11.toNat] 94 (0, 0)) → Calls Tryz.prog 40 #[.slice (some ⟨B, 0, none⟩) 12 12] wx fun e w' => ∃ A1 c1, e = .returned (.slice A1 12 c1) ∧ SB w' A1 c1 [b0, b1, b2, b3, b4, b5, b6, b7, b8, b9, b10, b11] ∧ (∀ a, A1 = some a → wx.heap.size ≤ a.block) ∧ Below wx.heap.size wx w') := Lib.hid fun B wx h => ownF (some ⟨B, 0, none⟩) 12 [b0, b1, b2, b3, b4, b5, b6, b7, b8, b9, b10, b11] wx (sb_row (l := [b0, b1, b2, b3, b4, b5, b6, b7, b8, b9, b10, b11]) h (by simp)) (by simp)
  obtain ⟨q, hq⟩ : ∃ p, p = rr.length := ⟨_, rfl⟩
  rw [hmb]
  rw [← hp, ← hq] at HX
  rw [← hq] at HOWN
  rw [← hp, ← hq]
  clear hs hl hrl hp hq hlr hm hrr hmb eAR
  go_enter Tryz.func17, Tryz.ntmps17
  go_wp2_with fail
  refine (HX.out _ (balloc (balloc (Below.refl _ _) (Nat.le_refl _) _) (by simp) _)).mono ?_
  rintro e w1 ⟨A1, c1, rfl, hsm, hb⟩
  have hb2 : Below (w.heap.size + 1 + 1) ((w.alloc (.cells #[.int .i64 7, .string ⟨#[]⟩, .string ⟨#[]⟩, .int .i64 0, .int .u64 0, .int .u64 0, .slice none 0 0, .slice none 0 0] 27)).alloc (.cells #[.int .u8 0, .int .u8 0, .int .u8 0, .int .u8 0, .int .u8 0, .int .u8 0, .int .u8 0, .int .u8 0, .int .u8 0, .int .u8 0, .int .u8 0, .int .u8 0] 94)) w1 := by simpa using hb
  have hz1 : w.heap.size + 2 ≤ w1.heap.size := by have h := hb2.size; simpa using h
  have hblk1 : w1.heap[w.heap.size]? = some (.cells #[.int .i64 7, .string ⟨#[]⟩, .string ⟨#[]⟩, .int .i64 0, .int .u64 0, .int .u64 0, .slice none 0 0, .slice none 0 0] 27 (0, 0)) := by rw [hb2.block _ (by omega)]; exact ((balloc (Below.refl _ _) (Nat.le_refl _) _ : Below (w.alloc (.cells #[.int .i64 7, .string ⟨#[]⟩, .string ⟨#[]⟩, .int .i64 0, .int .u64 0, .int .u64 0, .slice none 0 0, .slice none 0 0] 27)).heap.size (w.alloc (.cells #[.int .i64 7, .string ⟨#[]⟩, .string ⟨#[]⟩, .int .i64 0, .int .u64 0, .int .u64 0, .slice none 0 0, .slice none 0 0] 27)) ((w.alloc (.cells #[.int .i64 7, .string ⟨#[]⟩, .string ⟨#[]⟩, .int .i64 0, .int .u64 0, .int .u64 0, .slice none 0 0, .slice none 0 0] 27)).alloc (.cells #[.int .u8 0, .int .u8 0, .int .u8 0, .int .u8 0, .int .u8 0, .int .u8 0, .int .u8 0, .int .u8 0, .int .u8 0, .int .u8 0, .int .u8 0, .int .u8 0] 94))).block w.heap.size (by simp)).trans (heap_alloc_new w _)
  have hbk2 : w1.heap[w.heap.size + 1]? = some (.cells #[.int .u8 0, .int .u8 0, .int .u8 0, .int .u8 0, .int .u8 0, .int .u8 0, .int .u8 0, .int .u8 0, .int .u8 0, .int .u8 0, .int .u8 0, .int .u8 0] 94 (0, 0)) := by rw [hb2.block _ (by omega)]; have h := heap_alloc_new (w.alloc (.cells #[.int .i64 7, .string ⟨#[]⟩, .string ⟨#[]⟩, .int .i64 0, .int .u64 0, .int .u64 0, .slice none 0 0, .slice none 0 0] 27)) (.cells #[.int .u8 0, .int .u8 0, .int .u8 0, .int .u8 0, .int .u8 0, .int .u8 0, .int .u8 0, .int .u8 0, .int .u8 0, .int .u8 0, .int .u8 0, .int .u8 0] 94); simpa using h
  have HB1 := Lib.hid ((balloc (balloc (Below.refl _ _) (Nat.le_refl _) _) (by simp) _ : Below w.heap.size w ((w.alloc (.cells #[.int .i64 7, .string ⟨#[]⟩, .string ⟨#[]⟩, .int .i64 0, .int .u64 0, .int .u64 0, .slice none 0 0, .slice none 0 0] 27)).alloc (.cells #[.int .u8 0, .int .u8 0, .int .u8 0, .int .u8 0, .int .u8 0, .int .u8 0, .int .u8 0, .int .u8 0, .int .u8 0, .int .u8 0, .int .u8 0, .int .u8 0] 94))).trans (hb2.mono (by omega)))
  have HSR := Lib.hid hsm
  have hlt1 : w.heap.size < w1.heap.size := by omega
  have hlt2' : w.heap.size + 1 < w1.heap.size := by omega
  clear hb hb2 hsm HX
  obtain ⟨q0, q1, q2, q3, q4, q5, q6, q7, f0, f1, f2, f3, f4, f5, f6, f7⟩ := cells8 hblk1
  obtain ⟨q2_0, q2_1, q2_2, q2_3, q2_4, q2_5, q2_6, q2_7, q2_8, q2_9, q2_10, q2_11, f2_0, f2_1, f2_2, f2_3, f2_4, f2_5, f2_6, f2_7, f2_8, f2_9, f2_10, f2_11⟩ := cells12 hbk2
  have hbk2b := hbk2
  have HB1b := HB1
  have hx9 := sets12 w1 (w.heap.size + 1) 94 (.int .u8 0) (.int .u8 0) (.int .u8 0) (.int .u8 0) (.int .u8 0) (.int .u8 0) (.int .u8 0) (.int .u8 0) (.int .u8 0) (.int .u8 0) (.int .u8 0) (.int .u8 0) (.int .u8 b0.toNat) (.int .u8 b1.toNat) (.int .u8 b2.toNat) (.int .u8 b3.toNat) (.int .u8 b4.toNat) (.int .u8 b5.toNat) (.int .u8 b6.toNat) (.int .u8 b7.toNat) (.int .u8 b8.toNat) (.int .u8 b9.toNat) (.int .u8 b10.toNat) (.int .u8 b11.toNat) hbk2b
  have hb12 : Below (w.heap.size + 1) w1 ((((((((((((w1.setCell ⟨w.heap.size + 1, 0, none⟩ (.int .u8 b0.toNat)).setCell ⟨w.heap.size + 1, 1, none⟩ (.int .u8 b1.toNat)).setCell ⟨w.heap.size + 1, 2, none⟩ (.int .u8 b2.toNat)).setCell ⟨w.heap.size + 1, 3, none⟩ (.int .u8 b3.toNat)).setCell ⟨w.heap.size + 1, 4, none⟩ (.int .u8 b4.toNat)).setCell ⟨w.heap.size + 1, 5, none⟩ (.int .u8 b5.toNat)).setCell ⟨w.heap.size + 1, 6, none⟩ (.int .u8 b6.toNat)).setCell ⟨w.heap.size + 1, 7, none⟩ (.int .u8 b7.toNat)).setCell ⟨w.heap.size + 1, 8, none⟩ (.int .u8 b8.toNat)).setCell ⟨w.heap.size + 1, 9, none⟩ (.int .u8 b9.toNat)).setCell ⟨w.heap.size + 1, 10, none⟩ (.int .u8 b10.toNat)).setCell ⟨w.heap.size + 1, 11, none⟩ (.int .u8 b11.toNat)) := by (iterate 12 (refine bsR _ ?_)); exact Below.refl _ _
  go_wp2_with fail
  refine (HOWT.out (w.heap.size + 1) _ hx9).mono ?_
  rintro e w5 ⟨A5, c5, rfl, hs5, hn5, hb5⟩
  have hblk5 : w5.heap[w.heap.size]? = some (.cells #[.int .i64 7, .string ⟨#[]⟩, .string ⟨#[]⟩, .int .i64 0, .int .u64 0, .int .u64 0, .slice none 0 0, .slice none 0 0] 27 (0, 0)) := (hb5.block w.heap.size (by simp; exact hlt1)).trans ((hb12.block w.heap.size (by omega)).trans hblk1)
  have HB5 := Lib.hid (bthen (HB1b.out.trans (hb12.mono (by omega))) hb5)
  have hA5 : ∀ a, A5 = some a → a.block ≠ w.heap.size := fun a ha => by have h := hn5 a ha; simp at h; omega
  have HA5 := Lib.hid hA5
  have HS5 := Lib.hid hs5
  have hlt5 : w.heap.size < w5.heap.size := (Array.getElem?_eq_some_iff.1 hblk5).1
  clear q0 f0 q1 f1 q2 f2 q3 f3 q4 f4 q5 f5 q6 f6 q7 f7 q2_0 f2_0 q2_1 f2_1 q2_2 f2_2 q2_3 f2_3 q2_4 f2_4 q2_5 f2_5 q2_6 f2_6 q2_7 f2_7 q2_8 f2_8 q2_9 f2_9 q2_10 f2_10 q2_11 f2_11 hb5 hs5 hn5 hA5 hx9 hb12 hbk2b hbk2 HB1b  hblk1 HOWT HB1 hz1 hlt1 hlt2'
  obtain ⟨q0, q1, q2, q3, q4, q5, q6, q7, f0, f1, f2, f3, f4, f5, f6, f7⟩ := cells8 hblk5
  go_wp2_with fail
  refine tail59 w _ 7 0 0 0 ⟨#[]⟩ ⟨#[]⟩ A5 12 c5 A1 c1 q true _ (fun _ _ _ _ _ h => h) ?h1 ?h2 (fun wx hb => HOWN.out _ _ wx (HSR.out _ (HS.out.keep hb))) ?_
  case h1 => (refine Eq.trans (heap_setCell_same _ _ _ _ _ _ hblk5) ?_; first | rfl | simp)
  case h2 => (iterate 1 (refine bsR _ ?_)); exact HB5.out
  intro A3 c3 w9 hblk9 hb9 hs9 hx9
  obtain ⟨u0, u1, u2, u3, u4, u5, u6, u7, -⟩ := cells8 hblk9
  have hlt9 : w.heap.size < w9.heap.size := (Array.getElem?_eq_some_iff.1 hblk9).1
  go_wp2_with fail
  exact bodyPost_ret (v := .tuple #[.agg #[.int .i64 7, .string ⟨#[]⟩, .string ⟨#[]⟩, .int .i64 0, .int .u64 0, .int .u64 0, .slice A5 12 c5, .slice none 0 0], .slice A3 q c3, .bool true]) (by simp [results, Tryz.results17, go_sem, u0, u1, u2, u3, u4, u5, u6, u7, hlt9]) rfl ⟨⟨A5, c5, A3, c3, by rfl, hx9 A5 c5 _ (by (iterate 1 (refine SB.far ?_ HA5.out _)); exact HS5.out) HA5.out, hs9⟩, hb9⟩
set_option maxHeartbeats 16000000 in
theorem rd_7_no (A : Option Addr) (c : Nat) (l : List UInt8) (w : World) (hs : SB w A c l) (hl : l.length ≤ 5000) (h : l.length < 12) : RdNo 7 l A c w := by
  unfold RdNo
  have HX : Hid (∀ wx, Below w.heap.size w wx → Calls Tryz.prog 51 #[.slice A l.length c] wx fun e w' => ∃ A1 c1, e = .returned (.tuple #[(.agg #[.int .u8 0, .int .u8 0, .int .u8 0, .int .u8 0, .int .u8 0, .int .u8 0, .int .u8 0, .int .u8 0, .int .u8 0, .int .u8 0, .int .u8 0, .int .u8 0]), .slice A1 l.length c1, .bool false]) ∧ Sm A c l A1 c1 l ∧ Below wx.heap.size wx w') := Lib.hid fun wx hb => by
    refine (oid_no A c l.length wx h).mono ?_
    rintro e w' ⟨rfl, h2⟩
    exact ⟨A, c, rfl, fun wy h => h, h2⟩
  have HOWN := Lib.hid (fun A1 c1 wx (h : SB wx A1 c1 l) => ownF A1 c1 l wx h hl)
  have HS := Lib.hid hs
  obtain ⟨p, hp⟩ : ∃ p, p = l.length := ⟨_, rfl⟩
  have HOWT : Hid (∀ (B : Nat) (wx : World), wx.heap[B]? = some (.cells #[.int .u8 0, .int .u8 0, .int .u8 0, .int .u8 0, .int .u8 0, .int .u8 0, .int .u8 0, .int .u8 0, .int .u8 0, .int .u8 0, .int .u8 0, .int .u8 0] 94 (0, 0)) → Calls Tryz.prog 40 #[.slice (some ⟨B, 0, none⟩) 12 12] wx fun e w' => ∃ A1 c1, e = .returned (.slice A1 12 c1) ∧ SB w' A1 c1 [(0 : UInt8), (0 : UInt8), (0 : UInt8), (0 : UInt8), (0 : UInt8), (0 : UInt8), (0 : UInt8), (0 : UInt8), (0 : UInt8), (0 : UInt8), (0 : UInt8), (0 : UInt8)] ∧ (∀ a, A1 = some a → wx.heap.size ≤ a.block) ∧ Below wx.heap.size wx w') := Lib.hid fun B wx h => ownF (some ⟨B, 0, none⟩) 12 [(0 : UInt8), (0 : UInt8), (0 : UInt8), (0 : UInt8), (0 : UInt8), (0 : UInt8), (0 : UInt8), (0 : UInt8), (0 : UInt8), (0 : UInt8), (0 : UInt8), (0 : UInt8)] wx (sb_row (l := [(0 : UInt8), (0 : UInt8), (0 : UInt8), (0 : UInt8), (0 : UInt8), (0 : UInt8), (0 : UInt8), (0 : UInt8), (0 : UInt8), (0 : UInt8), (0 : UInt8), (0 : UInt8)]) h (by simp)) (by simp)
  rw [← hp] at HX HOWN ⊢
  clear hs hl hp h
  go_enter Tryz.func17, Tryz.ntmps17
  go_wp2_with fail
  refine (HX.out _ (balloc (balloc (Below.refl _ _) (Nat.le_refl _) _) (by simp) _)).mono ?_
  rintro e w1 ⟨A1, c1, rfl, hsm, hb⟩
  have hb2 : Below (w.heap.size + 1 + 1) ((w.alloc (.cells #[.int .i64 7, .string ⟨#[]⟩, .string ⟨#[]⟩, .int .i64 0, .int .u64 0, .int .u64 0, .slice none 0 0, .slice none 0 0] 27)).alloc (.cells #[.int .u8 0, .int .u8 0, .int .u8 0, .int .u8 0, .int .u8 0, .int .u8 0, .int .u8 0, .int .u8 0, .int .u8 0, .int .u8 0, .int .u8 0, .int .u8 0] 94)) w1 := by simpa using hb
  have hz1 : w.heap.size + 2 ≤ w1.heap.size := by have h := hb2.size; simpa using h
  have hblk1 : w1.heap[w.heap.size]? = some (.cells #[.int .i64 7, .string ⟨#[]⟩, .string ⟨#[]⟩, .int .i64 0, .int .u64 0, .int .u64 0, .slice none 0 0, .slice none 0 0] 27 (0, 0)) := by rw [hb2.block _ (by omega)]; exact ((balloc (Below.refl _ _) (Nat.le_refl _) _ : Below (w.alloc (.cells #[.int .i64 7, .string ⟨#[]⟩, .string ⟨#[]⟩, .int .i64 0, .int .u64 0, .int .u64 0, .slice none 0 0, .slice none 0 0] 27)).heap.size (w.alloc (.cells #[.int .i64 7, .string ⟨#[]⟩, .string ⟨#[]⟩, .int .i64 0, .int .u64 0, .int .u64 0, .slice none 0 0, .slice none 0 0] 27)) ((w.alloc (.cells #[.int .i64 7, .string ⟨#[]⟩, .string ⟨#[]⟩, .int .i64 0, .int .u64 0, .int .u64 0, .slice none 0 0, .slice none 0 0] 27)).alloc (.cells #[.int .u8 0, .int .u8 0, .int .u8 0, .int .u8 0, .int .u8 0, .int .u8 0, .int .u8 0, .int .u8 0, .int .u8 0, .int .u8 0, .int .u8 0, .int .u8 0] 94))).block w.heap.size (by simp)).trans (heap_alloc_new w _)
  have hbk2 : w1.heap[w.heap.size + 1]? = some (.cells #[.int .u8 0, .int .u8 0, .int .u8 0, .int .u8 0, .int .u8 0, .int .u8 0, .int .u8 0, .int .u8 0, .int .u8 0, .int .u8 0, .int .u8 0, .int .u8 0] 94 (0, 0)) := by rw [hb2.block _ (by omega)]; have h := heap_alloc_new (w.alloc (.cells #[.int .i64 7, .string ⟨#[]⟩, .string ⟨#[]⟩, .int .i64 0, .int .u64 0, .int .u64 0, .slice none 0 0, .slice none 0 0] 27)) (.cells #[.int .u8 0, .int .u8 0, .int .u8 0, .int .u8 0, .int .u8 0, .int .u8 0, .int .u8 0, .int .u8 0, .int .u8 0, .int .u8 0, .int .u8 0, .int .u8 0] 94); simpa using h
  have HB1 := Lib.hid ((balloc (balloc (Below.refl _ _) (Nat.le_refl _) _) (by simp) _ : Below w.heap.size w ((w.alloc (.cells #[.int .i64 7, .string ⟨#[]⟩, .string ⟨#[]⟩, .int .i64 0, .int .u64 0, .int .u64 0, .slice none 0 0, .slice none 0 0] 27)).alloc (.cells #[.int .u8 0, .int .u8 0, .int .u8 0, .int .u8 0, .int .u8 0, .int .u8 0, .int .u8 0, .int .u8 0, .int .u8 0, .int .u8 0, .int .u8 0, .int .u8 0] 94))).trans (hb2.mono (by omega)))
  have HSR := Lib.hid hsm
  have hlt1 : w.heap.size < w1.heap.size := by omega
  have hlt2' : w.heap.size + 1 < w1.heap.size := by omega
  clear hb hb2 hsm HX
  obtain ⟨q0, q1, q2, q3, q4, q5, q6, q7, f0, f1, f2, f3, f4, f5, f6, f7⟩ := cells8 hblk1
  obtain ⟨q2_0, q2_1, q2_2, q2_3, q2_4, q2_5, q2_6, q2_7, q2_8, q2_9, q2_10, q2_11, f2_0, f2_1, f2_2, f2_3, f2_4, f2_5, f2_6, f2_7, f2_8, f2_9, f2_10, f2_11⟩ := cells12 hbk2
  have hbk2b := hbk2
  have HB1b := HB1
  have hx9 := sets12 w1 (w.heap.size + 1) 94 (.int .u8 0) (.int .u8 0) (.int .u8 0) (.int .u8 0) (.int .u8 0) (.int .u8 0) (.int .u8 0) (.int .u8 0) (.int .u8 0) (.int .u8 0) (.int .u8 0) (.int .u8 0) (.int .u8 0) (.int .u8 0) (.int .u8 0) (.int .u8 0) (.int .u8 0) (.int .u8 0) (.int .u8 0) (.int .u8 0) (.int .u8 0) (.int .u8 0) (.int .u8 0) (.int .u8 0) hbk2b
  have hb12 : Below (w.heap.size + 1) w1 ((((((((((((w1.setCell ⟨w.heap.size + 1, 0, none⟩ (.int .u8 0)).setCell ⟨w.heap.size + 1, 1, none⟩ (.int .u8 0)).setCell ⟨w.heap.size + 1, 2, none⟩ (.int .u8 0)).setCell ⟨w.heap.size + 1, 3, none⟩ (.int .u8 0)).setCell ⟨w.heap.size + 1, 4, none⟩ (.int .u8 0)).setCell ⟨w.heap.size + 1, 5, none⟩ (.int .u8 0)).setCell ⟨w.heap.size + 1, 6, none⟩ (.int .u8 0)).setCell ⟨w.heap.size + 1, 7, none⟩ (.int .u8 0)).setCell ⟨w.heap.size + 1, 8, none⟩ (.int .u8 0)).setCell ⟨w.heap.size + 1, 9, none⟩ (.int .u8 0)).setCell ⟨w.heap.size + 1, 10, none⟩ (.int .u8 0)).setCell ⟨w.heap.size + 1, 11, none⟩ (.int .u8 0)) := by (iterate 12 (refine bsR _ ?_)); exact Below.refl _ _
  go_wp2_with fail
  refine (HOWT.out (w.heap.size + 1) _ hx9).mono ?_
  rintro e w5 ⟨A5, c5, rfl, hs5, hn5, hb5⟩
  have hblk5 : w5.heap[w.heap.size]? = some (.cells #[.int .i64 7, .string ⟨#[]⟩, .string ⟨#[]⟩, .int .i64 0, .int .u64 0, .int .u64 0, .slice none 0 0, .slice none 0 0] 27 (0, 0)) := (hb5.block w.heap.size (by simp; exact hlt1)).trans ((hb12.block w.heap.size (by omega)).trans hblk1)
  have HB5 := Lib.hid (bthen (HB1b.out.trans (hb12.mono (by omega))) hb5)
  have hA5 : ∀ a, A5 = some a → a.block ≠ w.heap.size := fun a ha => by have h := hn5 a ha; simp at h; omega
  have HA5 := Lib.hid hA5
  have HS5 := Lib.hid hs5
  have hlt5 : w.heap.size < w5.heap.size := (Array.getElem?_eq_some_iff.1 hblk5).1
  clear q0 f0 q1 f1 q2 f2 q3 f3 q4 f4 q5 f5 q6 f6 q7 f7 q2_0 f2_0 q2_1 f2_1 q2_2 f2_2 q2_3 f2_3 q2_4 f2_4 q2_5 f2_5 q2_6 f2_6 q2_7 f2_7 q2_8 f2_8 q2_9 f2_9 q2_10 f2_10 q2_11 f2_11 hb5 hs5 hn5 hA5 hx9 hb12 hbk2b hbk2 HB1b  hblk1 HOWT HB1 hz1 hlt1 hlt2'
  obtain ⟨q0, q1, q2, q3, q4, q5, q6, q7, f0, f1, f2, f3, f4, f5, f6, f7⟩ := cells8 hblk5
  go_wp2_with fail
  refine tail59 w _ 0 0 0 0 ⟨#[]⟩ ⟨#[]⟩ none 0 0 A1 c1 p false _ (fun _ _ _ _ _ h => h) ?h1 ?h2 (fun wx hb => HOWN.out _ _ wx (HSR.out _ (HS.out.keep hb))) ?_
  case h1 => (refine Eq.trans (heap_setCell_same _ _ _ _ _ _ (heap_setCell_same _ _ _ _ _ _ (heap_setCell_same _ _ _ _ _ _ (heap_setCell_same _ _ _ _ _ _ (heap_setCell_same _ _ _ _ _ _ (heap_setCell_same _ _ _ _ _ _ (heap_setCell_same _ _ _ _ _ _ (heap_setCell_same _ _ _ _ _ _ (heap_setCell_same _ _ _ _ _ _ hblk5))))))))) ?_; first | rfl | simp)
  case h2 => (iterate 9 (refine bsR _ ?_)); exact HB5.out
  intro A3 c3 w9 hblk9 hb9 hs9 hx9
  obtain ⟨u0, u1, u2, u3, u4, u5, u6, u7, -⟩ := cells8 hblk9
  have hlt9 : w.heap.size < w9.heap.size := (Array.getElem?_eq_some_iff.1 hblk9).1
  go_wp2_with fail
  exact bodyPost_ret (v := .tuple #[.agg #[.int .i64 0, .string ⟨#[]⟩, .string ⟨#[]⟩, .int .i64 0, .int .u64 0, .int .u64 0, .slice none 0 0, .slice none 0 0], .slice A3 p c3, .bool false]) (by simp [results, Tryz.results17, go_sem, u0, u1, u2, u3, u4, u5, u6, u7, hlt9]) rfl ⟨⟨A3, c3, rfl, hs9⟩, hb9⟩
end Rx
end Go.Proofs.YtbpopaegfhcdpaaGreatDoor.X


/- impl.Read of pointers. (gen_rdi2.py) -/
set_option linter.unusedVariables false
set_option linter.unusedSimpArgs false
set_option maxRecDepth 100000
namespace Go.Proofs.YtbpopaegfhcdpaaGreatDoor.X
open Go.RowKit Go.Proofs.YtbpopaegfhcdpaaGreatDoorW.PrintLast
namespace Ry
open Sp Al Av Aw Ck Lk Rr Ru Rx

set_option maxHeartbeats 16000000 in
theorem rd_12_ok (A : Option Addr) (c : Nat) (l : List UInt8) (w : World) (hs : SB w A c l) (hl : l.length ≤ 5000) (n : Nat) (hr : readLen l = ((n : Int) + 1, true)) (hle : n + 17 ≤ l.length) : RdOk 12 l ⟨((l.drop 4).take n).toArray⟩ ⟨#[]⟩ 0 0 0 ((l.drop (n + 5)).take 12) (l.drop (n + 17)) A c w := by
  unfold RdOk
  obtain ⟨rr, hrr⟩ : ∃ x, x = l.drop (n + 17) := ⟨_, rfl⟩
  have hrl : rr.length ≤ 5000 := by rw [hrr, List.length_drop]; omega
  obtain ⟨m, hmm⟩ : ∃ x, x = (l.drop (n + 5)).take 12 := ⟨_, rfl⟩
  have hm : m.length = 12 := by rw [hmm, List.length_take, List.length_drop]; omega
  rw [← hrr, ← hmm]
  obtain ⟨b0, b1, b2, b3, b4, b5, b6, b7, b8, b9, b10, b11, hmb⟩ := split12 hm
  have eAR : arrV m = .agg #[.int .u8 b0.toNat, .int .u8 b1.toNat, .int .u8 b2.toNat, .int .u8 b3.toNat, .int .u8 b4.toNat, .int .u8 b5.toNat, .int .u8 b6.toNat, .int .u8 b7.toNat, .int .u8 b8.toNat, .int .u8 b9.toNat, .int .u8 b10.toNat, .int .u8 b11.toNat] := by rw [hmb]; rfl
  have HX : Hid (∀ wx, Below w.heap.size w wx → Calls Tryz.prog 56 #[.slice A l.length c] wx fun e w' => ∃ A1 c1, e = .returned (.tuple #[.string ⟨((l.drop 4).take n).toArray⟩, (.agg #[.int .u8 b0.toNat, .int .u8 b1.toNat, .int .u8 b2.toNat, .int .u8 b3.toNat, .int .u8 b4.toNat, .int .u8 b5.toNat, .int .u8 b6.toNat, .int .u8 b7.toNat, .int .u8 b8.toNat, .int .u8 b9.toNat, .int .u8 b10.toNat, .int .u8 b11.toNat]), .slice A1 rr.length c1, .bool true]) ∧ Sm A c l A1 c1 rr ∧ Below wx.heap.size wx w') := Lib.hid fun wx hb => by
    have h8 := ptr_ok A c l n wx (hs.keep hb) hl hr hle
    rw [← hmm, eAR] at h8
    refine h8.mono ?_
    rintro e w' ⟨A1, c1, rfl, h1, h2⟩
    exact ⟨A1, c1, by rw [hrr, List.length_drop], by rw [hrr]; exact h1, h2⟩
  have HOWN := Lib.hid (fun A1 c1 wx (h : SB wx A1 c1 rr) => ownF A1 c1 rr wx h hrl)
  have HS := Lib.hid hs
  obtain ⟨p, hp⟩ : ∃ p, p = l.length := ⟨_, rfl⟩
  have HOWT : Hid (∀ (B : Nat) (wx : World), wx.heap[B]? = some (.cells #[.int .u8 b0.toNat, .int .u8 b1.toNat, .int .u8 b2.toNat, .int .u8 b3.toNat, .int .u8 b4.toNat, .int .u8 b5.toNat, .int .u8 b6.toNat, .int .u8 b7.toNat, .int .u8 b8.toNat, .int .u8 b9.toNat, .int .u8 b10.toNat, .int .u8 b11.toNat] 94 (0, 0)) → Calls Tryz.prog 40 #[.slice (some ⟨B, 0, none⟩) 12 12] wx fun e w' => ∃ A1 c1, e = .returned (.slice A1 12 c1) ∧ SB w' A1 c1 [b0, b1, b2, b3, b4, b5, b6, b7, b8, b9, b10, b11] ∧ (∀ a, A1 = some a → wx.heap.size ≤ a.block) ∧ Below wx.heap.size wx w') := Lib.hid fun B wx h => ownF (some ⟨B, 0, none⟩) 12 [b0, b1, b2, b3, b4, b5, b6, b7, b8, b9, b10, b11] wx (sb_row (l := [b0, b1, b2, b3, b4, b5, b6, b7, b8, b9, b10, b11]) h (by simp)) (by simp)
  obtain ⟨q, hq⟩ : ∃ p, p = rr.length := ⟨_, rfl⟩
  rw [hmb]
  obtain ⟨Z, hZ⟩ : ∃ z : ByteArray, z = ⟨((l.drop 4).take n).toArray⟩ := ⟨_, rfl⟩
  rw [← hZ] at HX ⊢
  rw [← hp, ← hq] at HX
  rw [← hq] at HOWN
  rw [← hp, ← hq]
  clear hs hl hrl hp hq hr hle hrr hmm hm hmb eAR hZ
  go_enter Tryz.func17, Tryz.ntmps17
  go_wp2_with fail
  refine (HX.out _ (balloc (balloc (Below.refl _ _) (Nat.le_refl _) _) (by simp) _)).mono ?_
  rintro e w1 ⟨A1, c1, rfl, hsm, hb⟩
  have hb2 : Below (w.heap.size + 1 + 1) ((w.alloc (.cells #[.int .i64 12, .string ⟨#[]⟩, .string ⟨#[]⟩, .int .i64 0, .int .u64 0, .int .u64 0, .slice none 0 0, .slice none 0 0] 27)).alloc (.cells #[.int .u8 0, .int .u8 0, .int .u8 0, .int .u8 0, .int .u8 0, .int .u8 0, .int .u8 0, .int .u8 0, .int .u8 0, .int .u8 0, .int .u8 0, .int .u8 0] 94)) w1 := by simpa using hb
  have hz1 : w.heap.size + 2 ≤ w1.heap.size := by have h := hb2.size; simpa using h
  have hblk1 : w1.heap[w.heap.size]? = some (.cells #[.int .i64 12, .string ⟨#[]⟩, .string ⟨#[]⟩, .int .i64 0, .int .u64 0, .int .u64 0, .slice none 0 0, .slice none 0 0] 27 (0, 0)) := by rw [hb2.block _ (by omega)]; exact ((balloc (Below.refl _ _) (Nat.le_refl _) _ : Below (w.alloc (.cells #[.int .i64 12, .string ⟨#[]⟩, .string ⟨#[]⟩, .int .i64 0, .int .u64 0, .int .u64 0, .slice none 0 0, .slice none 0 0] 27)).heap.size (w.alloc (.cells #[.int .i64 12, .string ⟨#[]⟩, .string ⟨#[]⟩, .int .i64 0, .int .u64 0, .int .u64 0, .slice none 0 0, .slice none 0 0] 27)) ((w.alloc (.cells #[.int .i64 12, .string ⟨#[]⟩, .string ⟨#[]⟩, .int .i64 0, .int .u64 0, .int .u64 0, .slice none 0 0, .slice none 0 0] 27)).alloc (.cells #[.int .u8 0, .int .u8 0, .int .u8 0, .int .u8 0, .int .u8 0, .int .u8 0, .int .u8 0, .int .u8 0, .int .u8 0, .int .u8 0, .int .u8 0, .int .u8 0] 94))).block w.heap.size (by simp)).trans (heap_alloc_new w _)
  have hbk2 : w1.heap[w.heap.size + 1]? = some (.cells #[.int .u8 0, .int .u8 0, .int .u8 0, .int .u8 0, .int .u8 0, .int .u8 0, .int .u8 0, .int .u8 0, .int .u8 0, .int .u8 0, .int .u8 0, .int .u8 0] 94 (0, 0)) := by rw [hb2.block _ (by omega)]; have h := heap_alloc_new (w.alloc (.cells #[.int .i64 12, .string ⟨#[]⟩, .string ⟨#[]⟩, .int .i64 0, .int .u64 0, .int .u64 0, .slice none 0 0, .slice none 0 0] 27)) (.cells #[.int .u8 0, .int .u8 0, .int .u8 0, .int .u8 0, .int .u8 0, .int .u8 0, .int .u8 0, .int .u8 0, .int .u8 0, .int .u8 0, .int .u8 0, .int .u8 0] 94); simpa using h
  have HB1 := Lib.hid ((balloc (balloc (Below.refl _ _) (Nat.le_refl _) _) (by simp) _ : Below w.heap.size w ((w.alloc (.cells #[.int .i64 12, .string ⟨#[]⟩, .string ⟨#[]⟩, .int .i64 0, .int .u64 0, .int .u64 0, .slice none 0 0, .slice none 0 0] 27)).alloc (.cells #[.int .u8 0, .int .u8 0, .int .u8 0, .int .u8 0, .int .u8 0, .int .u8 0, .int .u8 0, .int .u8 0, .int .u8 0, .int .u8 0, .int .u8 0, .int .u8 0] 94))).trans (hb2.mono (by omega)))
  have HSR := Lib.hid hsm
  have hlt1 : w.heap.size < w1.heap.size := by omega
  have hlt2' : w.heap.size + 1 < w1.heap.size := by omega
  clear hb hb2 hsm HX
  obtain ⟨q0, q1, q2, q3, q4, q5, q6, q7, f0, f1, f2, f3, f4, f5, f6, f7⟩ := cells8 hblk1
  obtain ⟨q2_0, q2_1, q2_2, q2_3, q2_4, q2_5, q2_6, q2_7, q2_8, q2_9, q2_10, q2_11, f2_0, f2_1, f2_2, f2_3, f2_4, f2_5, f2_6, f2_7, f2_8, f2_9, f2_10, f2_11⟩ := cells12 hbk2
  have hblk1b : (w1.setCell ⟨w.heap.size, 1, none⟩ (.string Z)).heap[w.heap.size]? = some (.cells #[.int .i64 12, .string Z, .string ⟨#[]⟩, .int .i64 0, .int .u64 0, .int .u64 0, .slice none 0 0, .slice none 0 0] 27 (0, 0)) := by simpa using heap_setCell_same w1 w.heap.size 1 _ _ (.string Z) hblk1
  have hbk2b : (w1.setCell ⟨w.heap.size, 1, none⟩ (.string Z)).heap[w.heap.size + 1]? = w1.heap[w.heap.size + 1]? := Below.heap_setCell w1 ⟨w.heap.size, 1, none⟩ (.string Z) (w.heap.size + 1) (by simp)
  rw [hbk2] at hbk2b
  have HB1b : Hid (Below w.heap.size w (w1.setCell ⟨w.heap.size, 1, none⟩ (.string Z))) := Lib.hid (bsR _ HB1.out)
  have hx9 := sets12 (w1.setCell ⟨w.heap.size, 1, none⟩ (.string Z)) (w.heap.size + 1) 94 (.int .u8 0) (.int .u8 0) (.int .u8 0) (.int .u8 0) (.int .u8 0) (.int .u8 0) (.int .u8 0) (.int .u8 0) (.int .u8 0) (.int .u8 0) (.int .u8 0) (.int .u8 0) (.int .u8 b0.toNat) (.int .u8 b1.toNat) (.int .u8 b2.toNat) (.int .u8 b3.toNat) (.int .u8 b4.toNat) (.int .u8 b5.toNat) (.int .u8 b6.toNat) (.int .u8 b7.toNat) (.int .u8 b8.toNat) (.int .u8 b9.toNat) (.int .u8 b10.toNat) (.int .u8 b11.toNat) hbk2b
  have hb12 : Below (w.heap.size + 1) (w1.setCell ⟨w.heap.size, 1, none⟩ (.string Z)) (((((((((((((w1.setCell ⟨w.heap.size, 1, none⟩ (.string Z)).setCell ⟨w.heap.size + 1, 0, none⟩ (.int .u8 b0.toNat)).setCell ⟨w.heap.size + 1, 1, none⟩ (.int .u8 b1.toNat)).setCell ⟨w.heap.size + 1, 2, none⟩ (.int .u8 b2.toNat)).setCell ⟨w.heap.size + 1, 3, none⟩ (.int .u8 b3.toNat)).setCell ⟨w.heap.size + 1, 4, none⟩ (.int .u8 b4.toNat)).setCell ⟨w.heap.size + 1, 5, none⟩ (.int .u8 b5.toNat)).setCell ⟨w.heap.size + 1, 6, none⟩ (.int .u8 b6.toNat)).setCell ⟨w.heap.size + 1, 7, none⟩ (.int .u8 b7.toNat)).setCell ⟨w.heap.size + 1, 8, none⟩ (.int .u8 b8.toNat)).setCell ⟨w.heap.size + 1, 9, none⟩ (.int .u8 b9.toNat)).setCell ⟨w.heap.size + 1, 10, none⟩ (.int .u8 b10.toNat)).setCell ⟨w.heap.size + 1, 11, none⟩ (.int .u8 b11.toNat)) := by (iterate 12 (refine bsR _ ?_)); exact Below.refl _ _
  go_wp2_with fail
  refine (HOWT.out (w.heap.size + 1) _ hx9).mono ?_
  rintro e w5 ⟨A5, c5, rfl, hs5, hn5, hb5⟩
  have hblk5 : w5.heap[w.heap.size]? = some (.cells #[.int .i64 12, .string Z, .string ⟨#[]⟩, .int .i64 0, .int .u64 0, .int .u64 0, .slice none 0 0, .slice none 0 0] 27 (0, 0)) := (hb5.block w.heap.size (by simp; exact hlt1)).trans ((hb12.block w.heap.size (by omega)).trans hblk1b)
  have HB5 := Lib.hid (bthen (HB1b.out.trans (hb12.mono (by omega))) hb5)
  have hA5 : ∀ a, A5 = some a → a.block ≠ w.heap.size := fun a ha => by have h := hn5 a ha; simp at h; omega
  have HA5 := Lib.hid hA5
  have HS5 := Lib.hid hs5
  have hlt5 : w.heap.size < w5.heap.size := (Array.getElem?_eq_some_iff.1 hblk5).1
  clear q0 f0 q1 f1 q2 f2 q3 f3 q4 f4 q5 f5 q6 f6 q7 f7 q2_0 f2_0 q2_1 f2_1 q2_2 f2_2 q2_3 f2_3 q2_4 f2_4 q2_5 f2_5 q2_6 f2_6 q2_7 f2_7 q2_8 f2_8 q2_9 f2_9 q2_10 f2_10 q2_11 f2_11 hb5 hs5 hn5 hA5 hx9 hb12 hbk2b hbk2 HB1b hblk1b hblk1 HOWT HB1 hz1 hlt1 hlt2'
  obtain ⟨q0, q1, q2, q3, q4, q5, q6, q7, f0, f1, f2, f3, f4, f5, f6, f7⟩ := cells8 hblk5
  go_wp2_with fail
  refine tail59 w _ 12 0 0 0 Z ⟨#[]⟩ A5 12 c5 A1 c1 q true _ (fun _ _ _ _ _ h => h) ?h1 ?h2 (fun wx hb => HOWN.out _ _ wx (HSR.out _ (HS.out.keep hb))) ?_
  case h1 => (refine Eq.trans (heap_setCell_same _ _ _ _ _ _ hblk5) ?_; first | rfl | simp)
  case h2 => (iterate 1 (refine bsR _ ?_)); exact HB5.out
  intro A3 c3 w9 hblk9 hb9 hs9 hx9
  obtain ⟨u0, u1, u2, u3, u4, u5, u6, u7, -⟩ := cells8 hblk9
  have hlt9 : w.heap.size < w9.heap.size := (Array.getElem?_eq_some_iff.1 hblk9).1
  go_wp2_with fail
  exact bodyPost_ret (v := .tuple #[.agg #[.int .i64 12, .string Z, .string ⟨#[]⟩, .int .i64 0, .int .u64 0, .int .u64 0, .slice A5 12 c5, .slice none 0 0], .slice A3 q c3, .bool true]) (by simp [results, Tryz.results17, go_sem, u0, u1, u2, u3, u4, u5, u6, u7, hlt9]) rfl ⟨⟨A5, c5, A3, c3, by rfl, hx9 A5 c5 _ (by (iterate 1 (refine SB.far ?_ HA5.out _)); exact HS5.out) HA5.out, hs9⟩, hb9⟩
set_option maxHeartbeats 16000000 in
theorem rd_12_no (A : Option Addr) (c : Nat) (l : List UInt8) (w : World) (hs : SB w A c l) (hl : l.length ≤ 5000) (h : ((readLen l).2 = false ∨ (l.length : Int) < (readLen l).1 + 4 ∨ (readLen l).1 = 0) ∨ ∃ n : Nat, readLen l = ((n : Int) + 1, true) ∧ n + 5 ≤ l.length ∧ l.length < n + 17) : RdNo 12 l A c w := by
  unfold RdNo
  have HX : Hid (∀ wx, Below w.heap.size w wx → Calls Tryz.prog 56 #[.slice A l.length c] wx fun e w' => ∃ A1 c1, e = .returned (.tuple #[.string ⟨#[]⟩, (.agg #[.int .u8 0, .int .u8 0, .int .u8 0, .int .u8 0, .int .u8 0, .int .u8 0, .int .u8 0, .int .u8 0, .int .u8 0, .int .u8 0, .int .u8 0, .int .u8 0]), .slice A1 l.length c1, .bool false]) ∧ Sm A c l A1 c1 l ∧ Below wx.heap.size wx w') := Lib.hid fun wx hb => by
    refine (ptr_no A c l wx (hs.keep hb) hl h).mono ?_
    rintro e w' ⟨rfl, h2⟩
    exact ⟨A, c, rfl, fun wy h => h, h2⟩
  have HOWN := Lib.hid (fun A1 c1 wx (h : SB wx A1 c1 l) => ownF A1 c1 l wx h hl)
  have HS := Lib.hid hs
  obtain ⟨p, hp⟩ : ∃ p, p = l.length := ⟨_, rfl⟩
  have HOWT : Hid (∀ (B : Nat) (wx : World), wx.heap[B]? = some (.cells #[.int .u8 0, .int .u8 0, .int .u8 0, .int .u8 0, .int .u8 0, .int .u8 0, .int .u8 0, .int .u8 0, .int .u8 0, .int .u8 0, .int .u8 0, .int .u8 0] 94 (0, 0)) → Calls Tryz.prog 40 #[.slice (some ⟨B, 0, none⟩) 12 12] wx fun e w' => ∃ A1 c1, e = .returned (.slice A1 12 c1) ∧ SB w' A1 c1 [(0 : UInt8), (0 : UInt8), (0 : UInt8), (0 : UInt8), (0 : UInt8), (0 : UInt8), (0 : UInt8), (0 : UInt8), (0 : UInt8), (0 : UInt8), (0 : UInt8), (0 : UInt8)] ∧ (∀ a, A1 = some a → wx.heap.size ≤ a.block) ∧ Below wx.heap.size wx w') := Lib.hid fun B wx h => ownF (some ⟨B, 0, none⟩) 12 [(0 : UInt8), (0 : UInt8), (0 : UInt8), (0 : UInt8), (0 : UInt8), (0 : UInt8), (0 : UInt8), (0 : UInt8), (0 : UInt8), (0 : UInt8), (0 : UInt8), (0 : UInt8)] wx (sb_row (l := [(0 : UInt8), (0 : UInt8), (0 : UInt8), (0 : UInt8), (0 : UInt8), (0 : UInt8), (0 : UInt8), (0 : UInt8), (0 : UInt8), (0 : UInt8), (0 : UInt8), (0 : UInt8)]) h (by simp)) (by simp)
  rw [← hp] at HX HOWN ⊢
  clear hs hl hp h
  go_enter Tryz.func17, Tryz.ntmps17
  go_wp2_with fail
  refine (HX.out _ (balloc (balloc (Below.refl _ _) (Nat.le_refl _) _) (by simp) _)).mono ?_
  rintro e w1 ⟨A1, c1, rfl, hsm, hb⟩
  have hb2 : Below (w.heap.size + 1 + 1) ((w.alloc (.cells #[.int .i64 12, .string ⟨#[]⟩, .string ⟨#[]⟩, .int .i64 0, .int .u64 0, .int .u64 0, .slice none 0 0, .slice none 0 0] 27)).alloc (.cells #[.int .u8 0, .int .u8 0, .int .u8 0, .int .u8 0, .int .u8 0, .int .u8 0, .int .u8 0, .int .u8 0, .int .u8 0, .int .u8 0, .int .u8 0, .int .u8 0] 94)) w1 := by simpa using hb
  have hz1 : w.heap.size + 2 ≤ w1.heap.size := by have h := hb2.size; simpa using h
  have hblk1 : w1.heap[w.heap.size]? = some (.cells #[.int .i64 12, .string ⟨#[]⟩, .string ⟨#[]⟩, .int .i64 0, .int .u64 0, .int .u64 0, .slice none 0 0, .slice none 0 0] 27 (0, 0)) := by rw [hb2.block _ (by omega)]; exact ((balloc (Below.refl _ _) (Nat.le_refl _) _ : Below (w.alloc (.cells #[.int .i64 12, .string ⟨#[]⟩, .string ⟨#[]⟩, .int .i64 0, .int .u64 0, .int .u64 0, .slice none 0 0, .slice none 0 0] 27)).heap.size (w.alloc (.cells #[.int .i64 12, .string ⟨#[]⟩, .string ⟨#[]⟩, .int .i64 0, .int .u64 0, .int .u64 0, .slice none 0 0, .slice none 0 0] 27)) ((w.alloc (.cells #[.int .i64 12, .string ⟨#[]⟩, .string ⟨#[]⟩, .int .i64 0, .int .u64 0, .int .u64 0, .slice none 0 0, .slice none 0 0] 27)).alloc (.cells #[.int .u8 0, .int .u8 0, .int .u8 0, .int .u8 0, .int .u8 0, .int .u8 0, .int .u8 0, .int .u8 0, .int .u8 0, .int .u8 0, .int .u8 0, .int .u8 0] 94))).block w.heap.size (by simp)).trans (heap_alloc_new w _)
  have hbk2 : w1.heap[w.heap.size + 1]? = some (.cells #[.int .u8 0, .int .u8 0, .int .u8 0, .int .u8 0, .int .u8 0, .int .u8 0, .int .u8 0, .int .u8 0, .int .u8 0, .int .u8 0, .int .u8 0, .int .u8 0] 94 (0, 0)) := by rw [hb2.block _ (by omega)]; have h := heap_alloc_new (w.alloc (.cells #[.int .i64 12, .string ⟨#[]⟩, .string ⟨#[]⟩, .int .i64 0, .int .u64 0, .int .u64 0, .slice none 0 0, .slice none 0 0] 27)) (.cells #[.int .u8 0, .int .u8 0, .int .u8 0, .int .u8 0, .int .u8 0, .int .u8 0, .int .u8 0, .int .u8 0, .int .u8 0, .int .u8 0, .int .u8 0, .int .u8 0] 94); simpa using h
  have HB1 := Lib.hid ((balloc (balloc (Below.refl _ _) (Nat.le_refl _) _) (by simp) _ : Below w.heap.size w ((w.alloc (.cells #[.int .i64 12, .string ⟨#[]⟩, .string ⟨#[]⟩, .int .i64 0, .int .u64 0, .int .u64 0, .slice none 0 0, .slice none 0 0] 27)).alloc (.cells #[.int .u8 0, .int .u8 0, .int .u8 0, .int .u8 0, .int .u8 0, .int .u8 0, .int .u8 0, .int .u8 0, .int .u8 0, .int .u8 0, .int .u8 0, .int .u8 0] 94))).trans (hb2.mono (by omega)))
  have HSR := Lib.hid hsm
  have hlt1 : w.heap.size < w1.heap.size := by omega
  have hlt2' : w.heap.size + 1 < w1.heap.size := by omega
  clear hb hb2 hsm HX
  obtain ⟨q0, q1, q2, q3, q4, q5, q6, q7, f0, f1, f2, f3, f4, f5, f6, f7⟩ := cells8 hblk1
  obtain ⟨q2_0, q2_1, q2_2, q2_3, q2_4, q2_5, q2_6, q2_7, q2_8, q2_9, q2_10, q2_11, f2_0, f2_1, f2_2, f2_3, f2_4, f2_5, f2_6, f2_7, f2_8, f2_9, f2_10, f2_11⟩ := cells12 hbk2
  have hblk1b : (w1.setCell ⟨w.heap.size, 1, none⟩ (.string ⟨#[]⟩)).heap[w.heap.size]? = some (.cells #[.int .i64 12, .string ⟨#[]⟩, .string ⟨#[]⟩, .int .i64 0, .int .u64 0, .int .u64 0, .slice none 0 0, .slice none 0 0] 27 (0, 0)) := by simpa using heap_setCell_same w1 w.heap.size 1 _ _ (.string ⟨#[]⟩) hblk1
  have hbk2b : (w1.setCell ⟨w.heap.size, 1, none⟩ (.string ⟨#[]⟩)).heap[w.heap.size + 1]? = w1.heap[w.heap.size + 1]? := Below.heap_setCell w1 ⟨w.heap.size, 1, none⟩ (.string ⟨#[]⟩) (w.heap.size + 1) (by simp)
  rw [hbk2] at hbk2b
  have HB1b : Hid (Below w.heap.size w (w1.setCell ⟨w.heap.size, 1, none⟩ (.string ⟨#[]⟩))) := Lib.hid (bsR _ HB1.out)
  have hx9 := sets12 (w1.setCell ⟨w.heap.size, 1, none⟩ (.string ⟨#[]⟩)) (w.heap.size + 1) 94 (.int .u8 0) (.int .u8 0) (.int .u8 0) (.int .u8 0) (.int .u8 0) (.int .u8 0) (.int .u8 0) (.int .u8 0) (.int .u8 0) (.int .u8 0) (.int .u8 0) (.int .u8 0) (.int .u8 0) (.int .u8 0) (.int .u8 0) (.int .u8 0) (.int .u8 0) (.int .u8 0) (.int .u8 0) (.int .u8 0) (.int .u8 0) (.int .u8 0) (.int .u8 0) (.int .u8 0) hbk2b
  have hb12 : Below (w.heap.size + 1) (w1.setCell ⟨w.heap.size, 1, none⟩ (.string ⟨#[]⟩)) (((((((((((((w1.setCell ⟨w.heap.size, 1, none⟩ (.string ⟨#[]⟩)).setCell ⟨w.heap.size + 1, 0, none⟩ (.int .u8 0)).setCell ⟨w.heap.size + 1, 1, none⟩ (.int .u8 0)).setCell ⟨w.heap.size + 1, 2, none⟩ (.int .u8 0)).setCell ⟨w.heap.size + 1, 3, none⟩ (.int .u8 0)).setCell ⟨w.heap.size + 1, 4, none⟩ (.int .u8 0)).setCell ⟨w.heap.size + 1, 5, none⟩ (.int .u8 0)).setCell ⟨w.heap.size + 1, 6, none⟩ (.int .u8 0)).setCell ⟨w.heap.size + 1, 7, none⟩ (.int .u8 0)).setCell ⟨w.heap.size + 1, 8, none⟩ (.int .u8 0)).setCell ⟨w.heap.size + 1, 9, none⟩ (.int .u8 0)).setCell ⟨w.heap.size + 1, 10, none⟩ (.int .u8 0)).setCell ⟨w.heap.size + 1, 11, none⟩ (.int .u8 0)) := by (iterate 12 (refine bsR _ ?_)); exact Below.refl _ _
  go_wp2_with fail
  refine (HOWT.out (w.heap.size + 1) _ hx9).mono ?_
  rintro e w5 ⟨A5, c5, rfl, hs5, hn5, hb5⟩
  have hblk5 : w5.heap[w.heap.size]? = some (.cells #[.int .i64 12, .string ⟨#[]⟩, .string ⟨#[]⟩, .int .i64 0, .int .u64 0, .int .u64 0, .slice none 0 0, .slice none 0 0] 27 (0, 0)) := (hb5.block w.heap.size (by simp; exact hlt1)).trans ((hb12.block w.heap.size (by omega)).trans hblk1b)
  have HB5 := Lib.hid (bthen (HB1b.out.trans (hb12.mono (by omega))) hb5)
  have hA5 : ∀ a, A5 = some a → a.block ≠ w.heap.size := fun a ha => by have h := hn5 a ha; simp at h; omega
  have HA5 := Lib.hid hA5
  have HS5 := Lib.hid hs5
  have hlt5 : w.heap.size < w5.heap.size := (Array.getElem?_eq_some_iff.1 hblk5).1
  clear q0 f0 q1 f1 q2 f2 q3 f3 q4 f4 q5 f5 q6 f6 q7 f7 q2_0 f2_0 q2_1 f2_1 q2_2 f2_2 q2_3 f2_3 q2_4 f2_4 q2_5 f2_5 q2_6 f2_6 q2_7 f2_7 q2_8 f2_8 q2_9 f2_9 q2_10 f2_10 q2_11 f2_11 hb5 hs5 hn5 hA5 hx9 hb12 hbk2b hbk2 HB1b hblk1b hblk1 HOWT HB1 hz1 hlt1 hlt2'
  obtain ⟨q0, q1, q2, q3, q4, q5, q6, q7, f0, f1, f2, f3, f4, f5, f6, f7⟩ := cells8 hblk5
  go_wp2_with fail
  refine tail59 w _ 0 0 0 0 ⟨#[]⟩ ⟨#[]⟩ none 0 0 A1 c1 p false _ (fun _ _ _ _ _ h => h) ?h1 ?h2 (fun wx hb => HOWN.out _ _ wx (HSR.out _ (HS.out.keep hb))) ?_
  case h1 => (refine Eq.trans (heap_setCell_same _ _ _ _ _ _ (heap_setCell_same _ _ _ _ _ _ (heap_setCell_same _ _ _ _ _ _ (heap_setCell_same _ _ _ _ _ _ (heap_setCell_same _ _ _ _ _ _ (heap_setCell_same _ _ _ _ _ _ (heap_setCell_same _ _ _ _ _ _ (heap_setCell_same _ _ _ _ _ _ (heap_setCell_same _ _ _ _ _ _ hblk5))))))))) ?_; first | rfl | simp)
  case h2 => (iterate 9 (refine bsR _ ?_)); exact HB5.out
  intro A3 c3 w9 hblk9 hb9 hs9 hx9
  obtain ⟨u0, u1, u2, u3, u4, u5, u6, u7, -⟩ := cells8 hblk9
  have hlt9 : w.heap.size < w9.heap.size := (Array.getElem?_eq_some_iff.1 hblk9).1
  go_wp2_with fail
  exact bodyPost_ret (v := .tuple #[.agg #[.int .i64 0, .string ⟨#[]⟩, .string ⟨#[]⟩, .int .i64 0, .int .u64 0, .int .u64 0, .slice none 0 0, .slice none 0 0], .slice A3 p c3, .bool false]) (by simp [results, Tryz.results17, go_sem, u0, u1, u2, u3, u4, u5, u6, u7, hlt9]) rfl ⟨⟨A3, c3, rfl, hs9⟩, hb9⟩
end Ry
end Go.Proofs.YtbpopaegfhcdpaaGreatDoor.X


/- impl.Read of what has no reader of its own. (gen_rdi2.py) -/
set_option linter.unusedVariables false
set_option linter.unusedSimpArgs false
set_option maxRecDepth 100000
namespace Go.Proofs.YtbpopaegfhcdpaaGreatDoor.X
open Go.RowKit Go.Proofs.YtbpopaegfhcdpaaGreatDoorW.PrintLast
namespace Rz
open Sp Al Av Aw Ck Lk Rr

set_option maxHeartbeats 8000000 in
theorem rd_6_ok (A : Option Addr) (c : Nat) (l : List UInt8) (w : World) (hs : SB w A c l) (hl : l.length ≤ 5000) : RdOk 6 l ⟨#[]⟩ ⟨#[]⟩ 0 0 0 [] (l.drop 0) A c w := by
  unfold RdOk
  obtain ⟨rr, hrr⟩ : ∃ x, x = l.drop 0 := ⟨_, rfl⟩
  have hrl : rr.length ≤ 5000 := by rw [hrr]; exact hl
  rw [← hrr]
  have HX : Hid (∀ wx, Below w.heap.size w wx → Calls Tryz.prog 64 #[.slice A l.length c, .int .u8 6] wx fun e w' => ∃ xv A1 c1, e = .returned (.tuple #[xv, .slice A1 rr.length c1, .bool true]) ∧ Sm A c l A1 c1 rr ∧ Below wx.heap.size wx w') := Lib.hid fun wx hb => by
    refine (readValueV_ok A c l 6 0 wx (hs.keep hb) (by simp [valLen, valBase]) (Nat.zero_le _)).mono ?_
    rintro e w' ⟨A1, c1, A2, c2, rfl, h1, h2⟩
    exact ⟨_, A2, c2, by rw [hrr, List.length_drop], fun wy h => by rw [hrr]; exact (h1 wy h).2, h2⟩
  have HOWN := Lib.hid (fun A1 c1 wx (h : SB wx A1 c1 rr) => ownF A1 c1 rr wx h hrl)
  have HS := Lib.hid hs
  obtain ⟨p, hp⟩ : ∃ p, p = l.length := ⟨_, rfl⟩
  obtain ⟨q, hq⟩ : ∃ p, p = rr.length := ⟨_, rfl⟩
  rw [← hp, ← hq] at HX
  rw [← hq] at HOWN
  rw [← hp, ← hq]
  clear hs hl hrl hp hq hrr
  go_enter Tryz.func17, Tryz.ntmps17
  go_wp2_with fail
  refine (HX.out _ (balloc (Below.refl _ _) (Nat.le_refl _) _)).mono ?_
  rintro e w1 ⟨xv, A1, c1, rfl, hsm, hb⟩
  have hbx : Below (w.heap.size + 1) (w.alloc (.cells #[.int .i64 6, .string ⟨#[]⟩, .string ⟨#[]⟩, .int .i64 0, .int .u64 0, .int .u64 0, .slice none 0 0, .slice none 0 0] 27)) w1 := by simpa using hb
  have HBX := Lib.hid hbx
  have HSR := Lib.hid hsm
  have hz1 := boxs hbx
  have HB1 := Lib.hid (boxb hbx)
  have hblk1 : w1.heap[w.heap.size]? = some (.cells #[.int .i64 6, .string ⟨#[]⟩, .string ⟨#[]⟩, .int .i64 0, .int .u64 0, .int .u64 0, .slice none 0 0, .slice none 0 0] 27 (0, 0)) := by rw [HBX.out.block w.heap.size (by omega)]; exact heap_alloc_new w _
  obtain ⟨q0, q1, q2, q3, q4, q5, q6, q7, f0, f1, f2, f3, f4, f5, f6, f7⟩ := cells8 hblk1
  have hlt1 : w.heap.size < w1.heap.size := by omega
  clear hb hbx hsm HX
  go_wp2_with fail
  refine tail59 w _ 6 0 0 0 ⟨#[]⟩ ⟨#[]⟩ none 0 0 A1 c1 q true _ (fun _ _ _ _ _ h => h) ?h1 ?h2 (fun wx hb => HOWN.out _ _ wx (HSR.out _ (HS.out.keep hb))) ?_
  case h1 => exact hblk1
  case h2 => (iterate 0 (refine bsR _ ?_)); exact HB1.out
  intro A3 c3 w9 hblk9 hb9 hs9 hx9
  obtain ⟨u0, u1, u2, u3, u4, u5, u6, u7, -⟩ := cells8 hblk9
  have hlt9 : w.heap.size < w9.heap.size := (Array.getElem?_eq_some_iff.1 hblk9).1
  go_wp2_with fail
  exact bodyPost_ret (v := .tuple #[.agg #[.int .i64 6, .string ⟨#[]⟩, .string ⟨#[]⟩, .int .i64 0, .int .u64 0, .int .u64 0, .slice none 0 0, .slice none 0 0], .slice A3 q c3, .bool true]) (by simp [results, Tryz.results17, go_sem, u0, u1, u2, u3, u4, u5, u6, u7, hlt9]) rfl ⟨⟨none, 0, A3, c3, rfl, SB.nil _, hs9⟩, hb9⟩
set_option maxHeartbeats 8000000 in
theorem rd_10_ok (A : Option Addr) (c : Nat) (l : List UInt8) (w : World) (hs : SB w A c l) (hl : l.length ≤ 5000) : RdOk 10 l ⟨#[]⟩ ⟨#[]⟩ 0 0 0 [] (l.drop 0) A c w := by
  unfold RdOk
  obtain ⟨rr, hrr⟩ : ∃ x, x = l.drop 0 := ⟨_, rfl⟩
  have hrl : rr.length ≤ 5000 := by rw [hrr]; exact hl
  rw [← hrr]
  have HX : Hid (∀ wx, Below w.heap.size w wx → Calls Tryz.prog 64 #[.slice A l.length c, .int .u8 10] wx fun e w' => ∃ xv A1 c1, e = .returned (.tuple #[xv, .slice A1 rr.length c1, .bool true]) ∧ Sm A c l A1 c1 rr ∧ Below wx.heap.size wx w') := Lib.hid fun wx hb => by
    refine (readValueV_ok A c l 10 0 wx (hs.keep hb) (by simp [valLen, valBase]) (Nat.zero_le _)).mono ?_
    rintro e w' ⟨A1, c1, A2, c2, rfl, h1, h2⟩
    exact ⟨_, A2, c2, by rw [hrr, List.length_drop], fun wy h => by rw [hrr]; exact (h1 wy h).2, h2⟩
  have HOWN := Lib.hid (fun A1 c1 wx (h : SB wx A1 c1 rr) => ownF A1 c1 rr wx h hrl)
  have HS := Lib.hid hs
  obtain ⟨p, hp⟩ : ∃ p, p = l.length := ⟨_, rfl⟩
  obtain ⟨q, hq⟩ : ∃ p, p = rr.length := ⟨_, rfl⟩
  rw [← hp, ← hq] at HX
  rw [← hq] at HOWN
  rw [← hp, ← hq]
  clear hs hl hrl hp hq hrr
  go_enter Tryz.func17, Tryz.ntmps17
  go_wp2_with fail
  refine (HX.out _ (balloc (Below.refl _ _) (Nat.le_refl _) _)).mono ?_
  rintro e w1 ⟨xv, A1, c1, rfl, hsm, hb⟩
  have hbx : Below (w.heap.size + 1) (w.alloc (.cells #[.int .i64 10, .string ⟨#[]⟩, .string ⟨#[]⟩, .int .i64 0, .int .u64 0, .int .u64 0, .slice none 0 0, .slice none 0 0] 27)) w1 := by simpa using hb
  have HBX := Lib.hid hbx
  have HSR := Lib.hid hsm
  have hz1 := boxs hbx
  have HB1 := Lib.hid (boxb hbx)
  have hblk1 : w1.heap[w.heap.size]? = some (.cells #[.int .i64 10, .string ⟨#[]⟩, .string ⟨#[]⟩, .int .i64 0, .int .u64 0, .int .u64 0, .slice none 0 0, .slice none 0 0] 27 (0, 0)) := by rw [HBX.out.block w.heap.size (by omega)]; exact heap_alloc_new w _
  obtain ⟨q0, q1, q2, q3, q4, q5, q6, q7, f0, f1, f2, f3, f4, f5, f6, f7⟩ := cells8 hblk1
  have hlt1 : w.heap.size < w1.heap.size := by omega
  clear hb hbx hsm HX
  go_wp2_with fail
  refine tail59 w _ 10 0 0 0 ⟨#[]⟩ ⟨#[]⟩ none 0 0 A1 c1 q true _ (fun _ _ _ _ _ h => h) ?h1 ?h2 (fun wx hb => HOWN.out _ _ wx (HSR.out _ (HS.out.keep hb))) ?_
  case h1 => exact hblk1
  case h2 => (iterate 0 (refine bsR _ ?_)); exact HB1.out
  intro A3 c3 w9 hblk9 hb9 hs9 hx9
  obtain ⟨u0, u1, u2, u3, u4, u5, u6, u7, -⟩ := cells8 hblk9
  have hlt9 : w.heap.size < w9.heap.size := (Array.getElem?_eq_some_iff.1 hblk9).1
  go_wp2_with fail
  exact bodyPost_ret (v := .tuple #[.agg #[.int .i64 10, .string ⟨#[]⟩, .string ⟨#[]⟩, .int .i64 0, .int .u64 0, .int .u64 0, .slice none 0 0, .slice none 0 0], .slice A3 q c3, .bool true]) (by simp [results, Tryz.results17, go_sem, u0, u1, u2, u3, u4, u5, u6, u7, hlt9]) rfl ⟨⟨none, 0, A3, c3, rfl, SB.nil _, hs9⟩, hb9⟩
set_option maxHeartbeats 8000000 in
theorem rd_127_ok (A : Option Addr) (c : Nat) (l : List UInt8) (w : World) (hs : SB w A c l) (hl : l.length ≤ 5000) : RdOk 127 l ⟨#[]⟩ ⟨#[]⟩ 0 0 0 [] (l.drop 0) A c w := by
  unfold RdOk
  obtain ⟨rr, hrr⟩ : ∃ x, x = l.drop 0 := ⟨_, rfl⟩
  have hrl : rr.length ≤ 5000 := by rw [hrr]; exact hl
  rw [← hrr]
  have HX : Hid (∀ wx, Below w.heap.size w wx → Calls Tryz.prog 64 #[.slice A l.length c, .int .u8 127] wx fun e w' => ∃ xv A1 c1, e = .returned (.tuple #[xv, .slice A1 rr.length c1, .bool true]) ∧ Sm A c l A1 c1 rr ∧ Below wx.heap.size wx w') := Lib.hid fun wx hb => by
    refine (readValueV_ok A c l 127 0 wx (hs.keep hb) (by simp [valLen, valBase]) (Nat.zero_le _)).mono ?_
    rintro e w' ⟨A1, c1, A2, c2, rfl, h1, h2⟩
    exact ⟨_, A2, c2, by rw [hrr, List.length_drop], fun wy h => by rw [hrr]; exact (h1 wy h).2, h2⟩
  have HOWN := Lib.hid (fun A1 c1 wx (h : SB wx A1 c1 rr) => ownF A1 c1 rr wx h hrl)
  have HS := Lib.hid hs
  obtain ⟨p, hp⟩ : ∃ p, p = l.length := ⟨_, rfl⟩
  obtain ⟨q, hq⟩ : ∃ p, p = rr.length := ⟨_, rfl⟩
  rw [← hp, ← hq] at HX
  rw [← hq] at HOWN
  rw [← hp, ← hq]
  clear hs hl hrl hp hq hrr
  go_enter Tryz.func17, Tryz.ntmps17
  go_wp2_with fail
  refine (HX.out _ (balloc (Below.refl _ _) (Nat.le_refl _) _)).mono ?_
  rintro e w1 ⟨xv, A1, c1, rfl, hsm, hb⟩
  have hbx : Below (w.heap.size + 1) (w.alloc (.cells #[.int .i64 127, .string ⟨#[]⟩, .string ⟨#[]⟩, .int .i64 0, .int .u64 0, .int .u64 0, .slice none 0 0, .slice none 0 0] 27)) w1 := by simpa using hb
  have HBX := Lib.hid hbx
  have HSR := Lib.hid hsm
  have hz1 := boxs hbx
  have HB1 := Lib.hid (boxb hbx)
  have hblk1 : w1.heap[w.heap.size]? = some (.cells #[.int .i64 127, .string ⟨#[]⟩, .string ⟨#[]⟩, .int .i64 0, .int .u64 0, .int .u64 0, .slice none 0 0, .slice none 0 0] 27 (0, 0)) := by rw [HBX.out.block w.heap.size (by omega)]; exact heap_alloc_new w _
  obtain ⟨q0, q1, q2, q3, q4, q5, q6, q7, f0, f1, f2, f3, f4, f5, f6, f7⟩ := cells8 hblk1
  have hlt1 : w.heap.size < w1.heap.size := by omega
  clear hb hbx hsm HX
  go_wp2_with fail
  refine tail59 w _ 127 0 0 0 ⟨#[]⟩ ⟨#[]⟩ none 0 0 A1 c1 q true _ (fun _ _ _ _ _ h => h) ?h1 ?h2 (fun wx hb => HOWN.out _ _ wx (HSR.out _ (HS.out.keep hb))) ?_
  case h1 => exact hblk1
  case h2 => (iterate 0 (refine bsR _ ?_)); exact HB1.out
  intro A3 c3 w9 hblk9 hb9 hs9 hx9
  obtain ⟨u0, u1, u2, u3, u4, u5, u6, u7, -⟩ := cells8 hblk9
  have hlt9 : w.heap.size < w9.heap.size := (Array.getElem?_eq_some_iff.1 hblk9).1
  go_wp2_with fail
  exact bodyPost_ret (v := .tuple #[.agg #[.int .i64 127, .string ⟨#[]⟩, .string ⟨#[]⟩, .int .i64 0, .int .u64 0, .int .u64 0, .slice none 0 0, .slice none 0 0], .slice A3 q c3, .bool true]) (by simp [results, Tryz.results17, go_sem, u0, u1, u2, u3, u4, u5, u6, u7, hlt9]) rfl ⟨⟨none, 0, A3, c3, rfl, SB.nil _, hs9⟩, hb9⟩
set_option maxHeartbeats 8000000 in
theorem rd_255_ok (A : Option Addr) (c : Nat) (l : List UInt8) (w : World) (hs : SB w A c l) (hl : l.length ≤ 5000) : RdOk 255 l ⟨#[]⟩ ⟨#[]⟩ 0 0 0 [] (l.drop 0) A c w := by
  unfold RdOk
  obtain ⟨rr, hrr⟩ : ∃ x, x = l.drop 0 := ⟨_, rfl⟩
  have hrl : rr.length ≤ 5000 := by rw [hrr]; exact hl
  rw [← hrr]
  have HX : Hid (∀ wx, Below w.heap.size w wx → Calls Tryz.prog 64 #[.slice A l.length c, .int .u8 255] wx fun e w' => ∃ xv A1 c1, e = .returned (.tuple #[xv, .slice A1 rr.length c1, .bool true]) ∧ Sm A c l A1 c1 rr ∧ Below wx.heap.size wx w') := Lib.hid fun wx hb => by
    refine (readValueV_ok A c l 255 0 wx (hs.keep hb) (by simp [valLen, valBase]) (Nat.zero_le _)).mono ?_
    rintro e w' ⟨A1, c1, A2, c2, rfl, h1, h2⟩
    exact ⟨_, A2, c2, by rw [hrr, List.length_drop], fun wy h => by rw [hrr]; exact (h1 wy h).2, h2⟩
  have HOWN := Lib.hid (fun A1 c1 wx (h : SB wx A1 c1 rr) => ownF A1 c1 rr wx h hrl)
  have HS := Lib.hid hs
  obtain ⟨p, hp⟩ : ∃ p, p = l.length := ⟨_, rfl⟩
  obtain ⟨q, hq⟩ : ∃ p, p = rr.length := ⟨_, rfl⟩
  rw [← hp, ← hq] at HX
  rw [← hq] at HOWN
  rw [← hp, ← hq]
  clear hs hl hrl hp hq hrr
  go_enter Tryz.func17, Tryz.ntmps17
  go_wp2_with fail
  refine (HX.out _ (balloc (Below.refl _ _) (Nat.le_refl _) _)).mono ?_
  rintro e w1 ⟨xv, A1, c1, rfl, hsm, hb⟩
  have hbx : Below (w.heap.size + 1) (w.alloc (.cells #[.int .i64 255, .string ⟨#[]⟩, .string ⟨#[]⟩, .int .i64 0, .int .u64 0, .int .u64 0, .slice none 0 0, .slice none 0 0] 27)) w1 := by simpa using hb
  have HBX := Lib.hid hbx
  have HSR := Lib.hid hsm
  have hz1 := boxs hbx
  have HB1 := Lib.hid (boxb hbx)
  have hblk1 : w1.heap[w.heap.size]? = some (.cells #[.int .i64 255, .string ⟨#[]⟩, .string ⟨#[]⟩, .int .i64 0, .int .u64 0, .int .u64 0, .slice none 0 0, .slice none 0 0] 27 (0, 0)) := by rw [HBX.out.block w.heap.size (by omega)]; exact heap_alloc_new w _
  obtain ⟨q0, q1, q2, q3, q4, q5, q6, q7, f0, f1, f2, f3, f4, f5, f6, f7⟩ := cells8 hblk1
  have hlt1 : w.heap.size < w1.heap.size := by omega
  clear hb hbx hsm HX
  go_wp2_with fail
  refine tail59 w _ 255 0 0 0 ⟨#[]⟩ ⟨#[]⟩ none 0 0 A1 c1 q true _ (fun _ _ _ _ _ h => h) ?h1 ?h2 (fun wx hb => HOWN.out _ _ wx (HSR.out _ (HS.out.keep hb))) ?_
  case h1 => exact hblk1
  case h2 => (iterate 0 (refine bsR _ ?_)); exact HB1.out
  intro A3 c3 w9 hblk9 hb9 hs9 hx9
  obtain ⟨u0, u1, u2, u3, u4, u5, u6, u7, -⟩ := cells8 hblk9
  have hlt9 : w.heap.size < w9.heap.size := (Array.getElem?_eq_some_iff.1 hblk9).1
  go_wp2_with fail
  exact bodyPost_ret (v := .tuple #[.agg #[.int .i64 255, .string ⟨#[]⟩, .string ⟨#[]⟩, .int .i64 0, .int .u64 0, .int .u64 0, .slice none 0 0, .slice none 0 0], .slice A3 q c3, .bool true]) (by simp [results, Tryz.results17, go_sem, u0, u1, u2, u3, u4, u5, u6, u7, hlt9]) rfl ⟨⟨none, 0, A3, c3, rfl, SB.nil _, hs9⟩, hb9⟩
set_option maxHeartbeats 8000000 in
theorem rd_K_no (A : Option Addr) (c : Nat) (l : List UInt8) (w : World) (hs : SB w A c l) (hl : l.length ≤ 5000) (K : Int) (K0 : 0 ≤ K) (K1 : K < 256) (k1 : (K == 1) = false) (k2 : (K == 2) = false) (k3 : (K == 3) = false) (k4 : (K == 4) = false) (k5 : (K == 5) = false) (k7 : (K == 7) = false) (k8 : (K == 8) = false) (k9 : (K == 9) = false) (k11 : (K == 11) = false) (k12 : (K == 12) = false) (k13 : (K == 13) = false) (k14 : (K == 14) = false) (k15 : (K == 15) = false) (k16 : (K == 16) = false) (k17 : (K == 17) = false) (k18 : (K == 18) = false) (k19 : (K == 19) = false) (h : valIs K l = false) : RdNo K l A c w := by
  unfold RdNo
  have HX : Hid (∀ wx, Below w.heap.size w wx → Calls Tryz.prog 64 #[.slice A l.length c, .int .u8 K] wx fun e w' => ∃ xv A1 c1, e = .returned (.tuple #[xv, .slice A1 l.length c1, .bool false]) ∧ Sm A c l A1 c1 l ∧ Below wx.heap.size wx w') := Lib.hid fun wx hb => by
    refine (readValueV_no A c l K wx (hs.keep hb) h).mono ?_
    rintro e w' ⟨rfl, h2⟩
    exact ⟨_, A, c, rfl, fun wy h => h, h2⟩
  have HOWN := Lib.hid (fun A1 c1 wx (h : SB wx A1 c1 l) => ownF A1 c1 l wx h hl)
  have HS := Lib.hid hs
  obtain ⟨p, hp⟩ : ∃ p, p = l.length := ⟨_, rfl⟩
  rw [← hp] at HX HOWN ⊢
  clear hs hl hp h
  have hKm : K % 256 = K := Int.emod_eq_of_lt K0 K1
  clear K0 K1
  go_enter Tryz.func17, Tryz.ntmps17
  go_wp2_with fail
  refine (HX.out _ (balloc (Below.refl _ _) (Nat.le_refl _) _)).mono ?_
  rintro e w1 ⟨xv, A1, c1, rfl, hsm, hb⟩
  have hbx : Below (w.heap.size + 1) (w.alloc (.cells #[.int .i64 K, .string ⟨#[]⟩, .string ⟨#[]⟩, .int .i64 0, .int .u64 0, .int .u64 0, .slice none 0 0, .slice none 0 0] 27)) w1 := by simpa using hb
  have HBX := Lib.hid hbx
  have HSR := Lib.hid hsm
  have hz1 := boxs hbx
  have HB1 := Lib.hid (boxb hbx)
  have hblk1 : w1.heap[w.heap.size]? = some (.cells #[.int .i64 K, .string ⟨#[]⟩, .string ⟨#[]⟩, .int .i64 0, .int .u64 0, .int .u64 0, .slice none 0 0, .slice none 0 0] 27 (0, 0)) := by rw [HBX.out.block w.heap.size (by omega)]; exact heap_alloc_new w _
  obtain ⟨q0, q1, q2, q3, q4, q5, q6, q7, f0, f1, f2, f3, f4, f5, f6, f7⟩ := cells8 hblk1
  have hlt1 : w.heap.size < w1.heap.size := by omega
  clear hb hbx hsm HX
  go_wp2_with fail
  refine tail59 w _ 0 0 0 0 ⟨#[]⟩ ⟨#[]⟩ none 0 0 A1 c1 p false _ (fun _ _ _ _ _ h => h) ?h1 ?h2 (fun wx hb => HOWN.out _ _ wx (HSR.out _ (HS.out.keep hb))) ?_
  case h1 => (refine Eq.trans (heap_setCell_same _ _ _ _ _ _ (heap_setCell_same _ _ _ _ _ _ (heap_setCell_same _ _ _ _ _ _ (heap_setCell_same _ _ _ _ _ _ (heap_setCell_same _ _ _ _ _ _ (heap_setCell_same _ _ _ _ _ _ (heap_setCell_same _ _ _ _ _ _ (heap_setCell_same _ _ _ _ _ _ hblk1)))))))) ?_; first | rfl | simp)
  case h2 => (iterate 8 (refine bsR _ ?_)); exact HB1.out
  intro A3 c3 w9 hblk9 hb9 hs9 hx9
  obtain ⟨u0, u1, u2, u3, u4, u5, u6, u7, -⟩ := cells8 hblk9
  have hlt9 : w.heap.size < w9.heap.size := (Array.getElem?_eq_some_iff.1 hblk9).1
  go_wp2_with fail
  exact bodyPost_ret (v := .tuple #[.agg #[.int .i64 0, .string ⟨#[]⟩, .string ⟨#[]⟩, .int .i64 0, .int .u64 0, .int .u64 0, .slice none 0 0, .slice none 0 0], .slice A3 p c3, .bool false]) (by simp [results, Tryz.results17, go_sem, u0, u1, u2, u3, u4, u5, u6, u7, hlt9]) rfl ⟨⟨A3, c3, rfl, hs9⟩, hb9⟩
end Rz
end Go.Proofs.YtbpopaegfhcdpaaGreatDoor.X


