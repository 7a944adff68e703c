/- Put together, without what nothing reaches: TkA, TkB, TkC. -/
import Derived.Test.YtbpopaegfhcdpaaGreatDoorMa
/- spec.DocTake by kind. (gen_tk.py) -/
set_option linter.unusedVariables false
set_option linter.unusedSimpArgs false
set_option maxRecDepth 100000
namespace Go.Proofs.YtbpopaegfhcdpaaGreatDoor.X
open Go.RowKit Go.Proofs.YtbpopaegfhcdpaaGreatDoorW.PrintLast Go.Proofs.YtbpopaegfhcdpaaGreatDoorW.PrintWords
open Go.Proofs.YtbpopaegfhcdpaaGreatDoor.PFnDocAnyLookup
namespace Tk
open Sp Al Av Aw Ck
def R16.T21 : Bool × List (List Nat × List Nat) := (true, [([], []), ([], []), ([1], [1]), ([0, 2], [0, 2]), ([3], [3]), ([], []), ([], []), ([6], [6]), ([], []), ([5, 7, 8], [5, 7, 8]), ([0, 1, 2, 3, 4], []), ([10, 4, 0, 1, 2, 3, 4], [4, 10]), ([0, 1, 2, 3, 4, 5, 6, 7, 8, 9, 10, 11], []), ([12, 9, 11, 0, 1, 2, 3, 4, 5, 6, 7, 8, 9, 10, 11], [9, 12])])
def R16.B21 : List Nat := [0, 0, 2, 7, 15, 0, 0, 64, 0, 480, 31, 1055, 4095, 8191]
theorem R16.tab21 : rtab .any (opsOf Tryz.f16 21) = R16.T21 := by kernel_rfl
theorem R16.bits21 : waitsOk R16.T21.2 R16.B21 = true := by kernel_rfl
theorem cells8 {W : World} {B : Nat} {T : TypeId} {c0 c1 c2 c3 c4 c5 c6 c7 : Value} (h : W.heap[B]? = some (.cells #[c0, c1, c2, c3, c4, c5, c6, c7] T (0, 0))) : W.cell? ⟨B, 0, none⟩ = some c0 ∧ W.cell? ⟨B, 1, none⟩ = some c1 ∧ W.cell? ⟨B, 2, none⟩ = some c2 ∧ W.cell? ⟨B, 3, none⟩ = some c3 ∧ W.cell? ⟨B, 4, none⟩ = some c4 ∧ W.cell? ⟨B, 5, none⟩ = some c5 ∧ W.cell? ⟨B, 6, none⟩ = some c6 ∧ W.cell? ⟨B, 7, none⟩ = some c7 ∧ W.frozen? ⟨B, 0, none⟩ = false ∧ W.frozen? ⟨B, 1, none⟩ = false ∧ W.frozen? ⟨B, 2, none⟩ = false ∧ W.frozen? ⟨B, 3, none⟩ = false ∧ W.frozen? ⟨B, 4, none⟩ = false ∧ W.frozen? ⟨B, 5, none⟩ = false ∧ W.frozen? ⟨B, 6, none⟩ = false ∧ W.frozen? ⟨B, 7, none⟩ = false := by
  refine ⟨?_, ?_, ?_, ?_, ?_, ?_, ?_, ?_, ?_, ?_, ?_, ?_, ?_, ?_, ?_, ?_⟩ <;> first | (simp only [World.cell?, h]; rfl) | (simp only [World.frozen?, h]; rfl)
theorem twobox {w w2 : World} {a b : Obj} (h : Below (w.heap.size + 1 + 1) ((w.alloc a).alloc b) w2) : w2.heap[w.heap.size]? = some a ∧ w2.heap[w.heap.size + 1]? = some b ∧ w.heap.size < w2.heap.size ∧ w.heap.size + 1 < w2.heap.size ∧ Below w.heap.size w w2 := by
  have hz := h.size
  have hz2 : w.heap.size + 1 + 1 ≤ w2.heap.size := by simpa using hz
  refine ⟨?_, ?_, by omega, by omega, (balloc (balloc (Below.refl _ _) (Nat.le_refl _) _) (by simp) _ : Below w.heap.size w ((w.alloc a).alloc b)).trans (h.mono (by omega))⟩
  · rw [h.block _ (by omega)]
    exact ((balloc (Below.refl _ _) (Nat.le_refl _) _ : Below (w.alloc a).heap.size (w.alloc a) ((w.alloc a).alloc b)).block w.heap.size (by simp)).trans (heap_alloc_new w _)
  · rw [h.block _ (by omega)]
    have h2 := heap_alloc_new (w.alloc a) b
    simpa using h2
theorem bsS {B b o : Nat} {w w1 : World} (v : Value) (hb : B ≤ b) (h : Below B w w1) : Below B w (w1.setCell ⟨b, o, none⟩ v) := h.setCell hb v
/-- Later bytes in every world. -/
def Sm (A : Option Addr) (c : Nat) (l : List UInt8) (A1 : Option Addr) (c1 : Nat) (b : List UInt8) : Prop := ∀ wx, SB wx A c l → SB wx A1 c1 b
def TkOk (K : Int) (l : List UInt8) (text more : ByteArray) (n bits high : Int) (b : List UInt8) (cnt : Nat) (A : Option Addr) (c : Nat) (w : World) : Prop :=
  Calls Tryz.prog 16 #[.int .i64 K, .slice A l.length c] w fun e w' => (∃ A1 c1, e = .returned (.tuple #[.agg #[.int .i64 K, .string text, .string more, .int .i64 n, .int .u64 bits, .int .u64 high, .slice A1 b.length c1, .slice none 0 0], .int .i64 (cnt : Int), .bool true]) ∧ SB w' A1 c1 b) ∧ Below w.heap.size w w'
def TkNo (K : Int) (l : List UInt8) (A : Option Addr) (c : Nat) (w : World) : Prop :=
  Calls Tryz.prog 16 #[.int .i64 K, .slice A l.length c] w fun e w' => e = .returned (.tuple #[.agg #[.int .i64 0, .string ⟨#[]⟩, .string ⟨#[]⟩, .int .i64 0, .int .u64 0, .int .u64 0, .slice none 0 0, .slice none 0 0], .int .i64 0, .bool false]) ∧ Below w.heap.size w w'
set_option maxHeartbeats 4000000 in
theorem tk_2 (A : Option Addr) (c : Nat) (l : List UInt8) (w : World) (hs : SB w A c l) (hl : l.length ≤ 5000) (n : Nat) (hr : numOf l = ((n : Int) + 1, true)) (hle : n + 5 ≤ l.length) : TkOk 2 l ⟨((l.drop 4).take n).toArray⟩ ⟨#[]⟩ 0 0 0 [] (n + 5) A c w := by
  unfold TkOk
  have hLE : spec_DocLen.f 5 2 (ints l) = some (((n + 5 : Nat) : Int), true) := by
    rw [len_text 2 l (by simp), hr, show ((n + 5 : Nat) : Int) = (n : Int) + 1 + 4 from by omega, decide_eq_true (by omega : (1 : Int) ≤ (n : Int) + 1), decide_eq_true (by omega : (n : Int) + 1 + 4 ≤ (l.length : Int))]
    rfl
  have HLEN := Lib.hid (fun wx (hb : Below w.heap.size w wx) => lenC 5 2 A c l (((n + 5 : Nat) : Int)) (true) wx (hs.keep hb) hLE)
  have HNUM := Lib.hid (fun wx (hb : Below w.heap.size w wx) => docNumber A c l wx (hs.keep hb))
  rw [hr] at HNUM
  obtain ⟨A5, x5, s5⟩ := SB.cut (P := Tryz.prog) Tryz.underlying22 rfl rfl .i64 .i64 A c l 4 (n + 4) (by omega) (by omega) hs.le
  obtain ⟨Z, hZ⟩ : ∃ z : ByteArray, z = ⟨((l.drop 4).take n).toArray⟩ := ⟨_, rfl⟩
  have HCV : Hid (∀ W, Below w.heap.size w W → (convert 22 9 (.slice A5 n (c - 4))).run Tryz.prog W = .ok (.string Z) W) := Lib.hid fun W h => by
    have h2 := str_of (s5 W (hs.keep h))
    rw [List.drop_take, show n + 4 - 4 = n from by omega] at h2
    rw [List.length_take, List.length_drop, Nat.min_eq_left (by omega)] at h2
    rw [hZ]; exact h2
  rw [← hZ]
  obtain ⟨p, hp⟩ : ∃ p, p = l.length := ⟨_, rfl⟩
  obtain ⟨M, hM⟩ : ∃ M, M = n + 5 := ⟨_, rfl⟩
  obtain ⟨Q, hQ⟩ : ∃ M, M = n + 4 := ⟨_, rfl⟩
  obtain ⟨N, hN⟩ : ∃ N : Int, N = (n : Int) + 1 := ⟨_, rfl⟩
  have hLE2 := hLE
  rw [← hM] at HLEN
  rw [← hp] at HLEN HNUM x5 hle
  rw [← hN] at HNUM
  rw [← hQ, show Q - 4 = n from by omega] at x5
  rw [← hp, ← hM]
  have e5 : ∀ W : World, (Instr.slice 22 (.slice A p c) (some (.int .i64 4)) (some (.int .i64 (Q : Int))) none).run Tryz.prog W = .ok (.slice A5 n (c - 4)) W := x5
  have i1 : wrap64 ((M : Int) - 1) = (Q : Int) := by unfold wrap64; omega
  clear hs hl hr hle hLE hLE2 x5 s5 hZ hp hM hQ hN
  go_enter Tryz.func16, Tryz.ntmps16
  go_wp2_with fail
  refine (HLEN.out _ (balloc (balloc (Below.refl _ _) (Nat.le_refl _) _) (by simp) _)).mono ?_
  rintro e w1 ⟨rfl, hb1⟩
  have hb1' : Below (w.heap.size + 1 + 1) ((w.alloc (.cells #[.int .i64 0, .string ⟨#[]⟩, .string ⟨#[]⟩, .int .i64 0, .int .u64 0, .int .u64 0, .slice none 0 0, .slice none 0 0] 27)).alloc (.cells #[.int .i64 2, .string ⟨#[]⟩, .string ⟨#[]⟩, .int .i64 0, .int .u64 0, .int .u64 0, .slice none 0 0, .slice none 0 0] 27)) w1 := by simpa using hb1
  have HB1 := Lib.hid hb1'
  clear hb1 hb1' HLEN
  go_wp2_with fail
  refine (HNUM.out w1 (twobox HB1.out).2.2.2.2).mono ?_
  rintro e w2 ⟨rfl, hb2⟩
  have hb2' : Below (w.heap.size + 1 + 1) ((w.alloc (.cells #[.int .i64 0, .string ⟨#[]⟩, .string ⟨#[]⟩, .int .i64 0, .int .u64 0, .int .u64 0, .slice none 0 0, .slice none 0 0] 27)).alloc (.cells #[.int .i64 2, .string ⟨#[]⟩, .string ⟨#[]⟩, .int .i64 0, .int .u64 0, .int .u64 0, .slice none 0 0, .slice none 0 0] 27)) w2 := HB1.out.trans (hb2.mono (by have h := HB1.out.size; simpa using h))
  clear hb2 HB1 HNUM
  obtain ⟨haw2, hbw2, hlA, hlB, hBw2⟩ := twobox (a := (.cells #[.int .i64 0, .string ⟨#[]⟩, .string ⟨#[]⟩, .int .i64 0, .int .u64 0, .int .u64 0, .slice none 0 0, .slice none 0 0] 27 (0, 0))) (b := (.cells #[.int .i64 2, .string ⟨#[]⟩, .string ⟨#[]⟩, .int .i64 0, .int .u64 0, .int .u64 0, .slice none 0 0, .slice none 0 0] 27 (0, 0))) hb2'
  obtain ⟨x0, x1, x2, x3, x4, x5, x6, x7, xf0, xf1, xf2, xf3, xf4, xf5, xf6, xf7⟩ := cells8 haw2
  obtain ⟨y0, y1, y2, y3, y4, y5, y6, y7, yf0, yf1, yf2, yf3, yf4, yf5, yf6, yf7⟩ := cells8 hbw2
  have HBw2 := Lib.hid hBw2
  clear haw2 hbw2 hBw2
  have hcv := HCV.out w2 HBw2.out
  clear hb2' HCV
  go_wp2_with fail
  all_goals exact bodyPost_ret (v := .tuple #[.agg #[.int .i64 2, .string Z, .string ⟨#[]⟩, .int .i64 0, .int .u64 0, .int .u64 0, .slice none 0 0, .slice none 0 0], .int .i64 M, .bool true]) (by simp [results, Tryz.results16, go_sem, x0, x1, x2, x3, x4, x5, x6, x7,y0, y1, y2, y3, y4, y5, y6, y7, hlA, hlB]) rfl ⟨⟨none, 0, rfl, SB.nil _⟩, (by (iterate 9 (refine bsS _ (by omega) ?_)); exact HBw2.out)⟩
set_option maxHeartbeats 4000000 in
theorem tk_13 (A : Option Addr) (c : Nat) (l : List UInt8) (w : World) (hs : SB w A c l) (hl : l.length ≤ 5000) (n : Nat) (hr : numOf l = ((n : Int) + 1, true)) (hle : n + 5 ≤ l.length) : TkOk 13 l ⟨((l.drop 4).take n).toArray⟩ ⟨#[]⟩ 0 0 0 [] (n + 5) A c w := by
  unfold TkOk
  have hLE : spec_DocLen.f 5 13 (ints l) = some (((n + 5 : Nat) : Int), true) := by
    rw [len_text 13 l (by simp), hr, show ((n + 5 : Nat) : Int) = (n : Int) + 1 + 4 from by omega, decide_eq_true (by omega : (1 : Int) ≤ (n : Int) + 1), decide_eq_true (by omega : (n : Int) + 1 + 4 ≤ (l.length : Int))]
    rfl
  have HLEN := Lib.hid (fun wx (hb : Below w.heap.size w wx) => lenC 5 13 A c l (((n + 5 : Nat) : Int)) (true) wx (hs.keep hb) hLE)
  have HNUM := Lib.hid (fun wx (hb : Below w.heap.size w wx) => docNumber A c l wx (hs.keep hb))
  rw [hr] at HNUM
  obtain ⟨A5, x5, s5⟩ := SB.cut (P := Tryz.prog) Tryz.underlying22 rfl rfl .i64 .i64 A c l 4 (n + 4) (by omega) (by omega) hs.le
  obtain ⟨Z, hZ⟩ : ∃ z : ByteArray, z = ⟨((l.drop 4).take n).toArray⟩ := ⟨_, rfl⟩
  have HCV : Hid (∀ W, Below w.heap.size w W → (convert 22 9 (.slice A5 n (c - 4))).run Tryz.prog W = .ok (.string Z) W) := Lib.hid fun W h => by
    have h2 := str_of (s5 W (hs.keep h))
    rw [List.drop_take, show n + 4 - 4 = n from by omega] at h2
    rw [List.length_take, List.length_drop, Nat.min_eq_left (by omega)] at h2
    rw [hZ]; exact h2
  rw [← hZ]
  obtain ⟨p, hp⟩ : ∃ p, p = l.length := ⟨_, rfl⟩
  obtain ⟨M, hM⟩ : ∃ M, M = n + 5 := ⟨_, rfl⟩
  obtain ⟨Q, hQ⟩ : ∃ M, M = n + 4 := ⟨_, rfl⟩
  obtain ⟨N, hN⟩ : ∃ N : Int, N = (n : Int) + 1 := ⟨_, rfl⟩
  have hLE2 := hLE
  rw [← hM] at HLEN
  rw [← hp] at HLEN HNUM x5 hle
  rw [← hN] at HNUM
  rw [← hQ, show Q - 4 = n from by omega] at x5
  rw [← hp, ← hM]
  have e5 : ∀ W : World, (Instr.slice 22 (.slice A p c) (some (.int .i64 4)) (some (.int .i64 (Q : Int))) none).run Tryz.prog W = .ok (.slice A5 n (c - 4)) W := x5
  have i1 : wrap64 ((M : Int) - 1) = (Q : Int) := by unfold wrap64; omega
  clear hs hl hr hle hLE hLE2 x5 s5 hZ hp hM hQ hN
  go_enter Tryz.func16, Tryz.ntmps16
  go_wp2_with fail
  refine (HLEN.out _ (balloc (balloc (Below.refl _ _) (Nat.le_refl _) _) (by simp) _)).mono ?_
  rintro e w1 ⟨rfl, hb1⟩
  have hb1' : Below (w.heap.size + 1 + 1) ((w.alloc (.cells #[.int .i64 0, .string ⟨#[]⟩, .string ⟨#[]⟩, .int .i64 0, .int .u64 0, .int .u64 0, .slice none 0 0, .slice none 0 0] 27)).alloc (.cells #[.int .i64 13, .string ⟨#[]⟩, .string ⟨#[]⟩, .int .i64 0, .int .u64 0, .int .u64 0, .slice none 0 0, .slice none 0 0] 27)) w1 := by simpa using hb1
  have HB1 := Lib.hid hb1'
  clear hb1 hb1' HLEN
  go_wp2_with fail
  refine (HNUM.out w1 (twobox HB1.out).2.2.2.2).mono ?_
  rintro e w2 ⟨rfl, hb2⟩
  have hb2' : Below (w.heap.size + 1 + 1) ((w.alloc (.cells #[.int .i64 0, .string ⟨#[]⟩, .string ⟨#[]⟩, .int .i64 0, .int .u64 0, .int .u64 0, .slice none 0 0, .slice none 0 0] 27)).alloc (.cells #[.int .i64 13, .string ⟨#[]⟩, .string ⟨#[]⟩, .int .i64 0, .int .u64 0, .int .u64 0, .slice none 0 0, .slice none 0 0] 27)) w2 := HB1.out.trans (hb2.mono (by have h := HB1.out.size; simpa using h))
  clear hb2 HB1 HNUM
  obtain ⟨haw2, hbw2, hlA, hlB, hBw2⟩ := twobox (a := (.cells #[.int .i64 0, .string ⟨#[]⟩, .string ⟨#[]⟩, .int .i64 0, .int .u64 0, .int .u64 0, .slice none 0 0, .slice none 0 0] 27 (0, 0))) (b := (.cells #[.int .i64 13, .string ⟨#[]⟩, .string ⟨#[]⟩, .int .i64 0, .int .u64 0, .int .u64 0, .slice none 0 0, .slice none 0 0] 27 (0, 0))) hb2'
  obtain ⟨x0, x1, x2, x3, x4, x5, x6, x7, xf0, xf1, xf2, xf3, xf4, xf5, xf6, xf7⟩ := cells8 haw2
  obtain ⟨y0, y1, y2, y3, y4, y5, y6, y7, yf0, yf1, yf2, yf3, yf4, yf5, yf6, yf7⟩ := cells8 hbw2
  have HBw2 := Lib.hid hBw2
  clear haw2 hbw2 hBw2
  have hcv := HCV.out w2 HBw2.out
  clear hb2' HCV
  go_wp2_with fail
  all_goals exact bodyPost_ret (v := .tuple #[.agg #[.int .i64 13, .string Z, .string ⟨#[]⟩, .int .i64 0, .int .u64 0, .int .u64 0, .slice none 0 0, .slice none 0 0], .int .i64 M, .bool true]) (by simp [results, Tryz.results16, go_sem, x0, x1, x2, x3, x4, x5, x6, x7,y0, y1, y2, y3, y4, y5, y6, y7, hlA, hlB]) rfl ⟨⟨none, 0, rfl, SB.nil _⟩, (by (iterate 9 (refine bsS _ (by omega) ?_)); exact HBw2.out)⟩
set_option maxHeartbeats 4000000 in
theorem tk_14 (A : Option Addr) (c : Nat) (l : List UInt8) (w : World) (hs : SB w A c l) (hl : l.length ≤ 5000) (n : Nat) (hr : numOf l = ((n : Int) + 1, true)) (hle : n + 5 ≤ l.length) : TkOk 14 l ⟨((l.drop 4).take n).toArray⟩ ⟨#[]⟩ 0 0 0 [] (n + 5) A c w := by
  unfold TkOk
  have hLE : spec_DocLen.f 5 14 (ints l) = some (((n + 5 : Nat) : Int), true) := by
    rw [len_text 14 l (by simp), hr, show ((n + 5 : Nat) : Int) = (n : Int) + 1 + 4 from by omega, decide_eq_true (by omega : (1 : Int) ≤ (n : Int) + 1), decide_eq_true (by omega : (n : Int) + 1 + 4 ≤ (l.length : Int))]
    rfl
  have HLEN := Lib.hid (fun wx (hb : Below w.heap.size w wx) => lenC 5 14 A c l (((n + 5 : Nat) : Int)) (true) wx (hs.keep hb) hLE)
  have HNUM := Lib.hid (fun wx (hb : Below w.heap.size w wx) => docNumber A c l wx (hs.keep hb))
  rw [hr] at HNUM
  obtain ⟨A5, x5, s5⟩ := SB.cut (P := Tryz.prog) Tryz.underlying22 rfl rfl .i64 .i64 A c l 4 (n + 4) (by omega) (by omega) hs.le
  obtain ⟨Z, hZ⟩ : ∃ z : ByteArray, z = ⟨((l.drop 4).take n).toArray⟩ := ⟨_, rfl⟩
  have HCV : Hid (∀ W, Below w.heap.size w W → (convert 22 9 (.slice A5 n (c - 4))).run Tryz.prog W = .ok (.string Z) W) := Lib.hid fun W h => by
    have h2 := str_of (s5 W (hs.keep h))
    rw [List.drop_take, show n + 4 - 4 = n from by omega] at h2
    rw [List.length_take, List.length_drop, Nat.min_eq_left (by omega)] at h2
    rw [hZ]; exact h2
  rw [← hZ]
  obtain ⟨p, hp⟩ : ∃ p, p = l.length := ⟨_, rfl⟩
  obtain ⟨M, hM⟩ : ∃ M, M = n + 5 := ⟨_, rfl⟩
  obtain ⟨Q, hQ⟩ : ∃ M, M = n + 4 := ⟨_, rfl⟩
  obtain ⟨N, hN⟩ : ∃ N : Int, N = (n : Int) + 1 := ⟨_, rfl⟩
  have hLE2 := hLE
  rw [← hM] at HLEN
  rw [← hp] at HLEN HNUM x5 hle
  rw [← hN] at HNUM
  rw [← hQ, show Q - 4 = n from by omega] at x5
  rw [← hp, ← hM]
  have e5 : ∀ W : World, (Instr.slice 22 (.slice A p c) (some (.int .i64 4)) (some (.int .i64 (Q : Int))) none).run Tryz.prog W = .ok (.slice A5 n (c - 4)) W := x5
  have i1 : wrap64 ((M : Int) - 1) = (Q : Int) := by unfold wrap64; omega
  clear hs hl hr hle hLE hLE2 x5 s5 hZ hp hM hQ hN
  go_enter Tryz.func16, Tryz.ntmps16
  go_wp2_with fail
  refine (HLEN.out _ (balloc (balloc (Below.refl _ _) (Nat.le_refl _) _) (by simp) _)).mono ?_
  rintro e w1 ⟨rfl, hb1⟩
  have hb1' : Below (w.heap.size + 1 + 1) ((w.alloc (.cells #[.int .i64 0, .string ⟨#[]⟩, .string ⟨#[]⟩, .int .i64 0, .int .u64 0, .int .u64 0, .slice none 0 0, .slice none 0 0] 27)).alloc (.cells #[.int .i64 14, .string ⟨#[]⟩, .string ⟨#[]⟩, .int .i64 0, .int .u64 0, .int .u64 0, .slice none 0 0, .slice none 0 0] 27)) w1 := by simpa using hb1
  have HB1 := Lib.hid hb1'
  clear hb1 hb1' HLEN
  go_wp2_with fail
  refine (HNUM.out w1 (twobox HB1.out).2.2.2.2).mono ?_
  rintro e w2 ⟨rfl, hb2⟩
  have hb2' : Below (w.heap.size + 1 + 1) ((w.alloc (.cells #[.int .i64 0, .string ⟨#[]⟩, .string ⟨#[]⟩, .int .i64 0, .int .u64 0, .int .u64 0, .slice none 0 0, .slice none 0 0] 27)).alloc (.cells #[.int .i64 14, .string ⟨#[]⟩, .string ⟨#[]⟩, .int .i64 0, .int .u64 0, .int .u64 0, .slice none 0 0, .slice none 0 0] 27)) w2 := HB1.out.trans (hb2.mono (by have h := HB1.out.size; simpa using h))
  clear hb2 HB1 HNUM
  obtain ⟨haw2, hbw2, hlA, hlB, hBw2⟩ := twobox (a := (.cells #[.int .i64 0, .string ⟨#[]⟩, .string ⟨#[]⟩, .int .i64 0, .int .u64 0, .int .u64 0, .slice none 0 0, .slice none 0 0] 27 (0, 0))) (b := (.cells #[.int .i64 14, .string ⟨#[]⟩, .string ⟨#[]⟩, .int .i64 0, .int .u64 0, .int .u64 0, .slice none 0 0, .slice none 0 0] 27 (0, 0))) hb2'
  obtain ⟨x0, x1, x2, x3, x4, x5, x6, x7, xf0, xf1, xf2, xf3, xf4, xf5, xf6, xf7⟩ := cells8 haw2
  obtain ⟨y0, y1, y2, y3, y4, y5, y6, y7, yf0, yf1, yf2, yf3, yf4, yf5, yf6, yf7⟩ := cells8 hbw2
  have HBw2 := Lib.hid hBw2
  clear haw2 hbw2 hBw2
  have hcv := HCV.out w2 HBw2.out
  clear hb2' HCV
  go_wp2_with fail
  all_goals exact bodyPost_ret (v := .tuple #[.agg #[.int .i64 14, .string Z, .string ⟨#[]⟩, .int .i64 0, .int .u64 0, .int .u64 0, .slice none 0 0, .slice none 0 0], .int .i64 M, .bool true]) (by simp [results, Tryz.results16, go_sem, x0, x1, x2, x3, x4, x5, x6, x7,y0, y1, y2, y3, y4, y5, y6, y7, hlA, hlB]) rfl ⟨⟨none, 0, rfl, SB.nil _⟩, (by (iterate 9 (refine bsS _ (by omega) ?_)); exact HBw2.out)⟩
set_option maxHeartbeats 4000000 in
theorem tk_8 (A : Option Addr) (c : Nat) (l : List UInt8) (w : World) (hs : SB w A c l) (hl : l.length ≤ 5000) (b0 : UInt8) (r : List UInt8) (hlr : l = b0 :: r) : TkOk 8 l ⟨#[]⟩ ⟨#[]⟩ (if decide (b0 = 1) = true then 1 else 0) 0 0 [] 1 A c w := by
  unfold TkOk
  have hLE : spec_DocLen.f 5 8 (ints l) = some (((1 : Nat) : Int), true) := by
    rw [len_8, decide_eq_true (by rw [hlr]; simp)]
  have HLEN := Lib.hid (fun wx (hb : Below w.heap.size w wx) => lenC 5 8 A c l (((1 : Nat) : Int)) (true) wx (hs.keep hb) hLE)
  have HNUM := Lib.hid (fun wx (hb : Below w.heap.size w wx) => docNumber A c l wx (hs.keep hb))
  have hs0 := hs
  rw [hlr] at hs0
  obtain ⟨g, off, rfl, hc⟩ := hs0.cells (by simp)
  have c0 : w.cell? ⟨g, off, none⟩ = some (.int .u8 b0.toNat) := by have h := hc 0 (by simp); simpa using h
  obtain ⟨p, hp⟩ : ∃ p, p = l.length := ⟨_, rfl⟩
  have hp0 : 0 < p := by rw [hp, hlr]; simp
  obtain ⟨z, hz⟩ : ∃ z : Int, z = (b0.toNat : Int) := ⟨_, rfl⟩
  obtain ⟨t, ht⟩ : ∃ t, t = decide (b0 = 1) := ⟨_, rfl⟩
  have hzt : (z == 1) = t := by
    rw [ht, hz]
    by_cases h : b0 = 1
    · subst h; rfl
    · rw [decide_eq_false h, beq_eq_false_iff_ne]
      intro he
      exact h (UInt8.toNat_inj.1 (show b0.toNat = (1 : UInt8).toNat from by show b0.toNat = 1; omega))
  rw [← hz] at c0
  rw [← ht]
  obtain ⟨N, hN⟩ : ∃ N : Int, N = (numOf l).1 := ⟨_, rfl⟩
  obtain ⟨nb, hnb⟩ : ∃ N, N = (numOf l).2 := ⟨_, rfl⟩
  rw [← hN, ← hnb] at HNUM
  rw [← hp] at HLEN HNUM
  rw [← hp]
  have C0 := Lib.hid c0
  clear hs hl hlr hLE hp hz ht hN hnb hs0 hc c0
  have h1c : ((1 : Nat) : Int) = 1 := rfl
  rw [h1c] at HLEN ⊢
  go_enter Tryz.func16, Tryz.ntmps16
  go_wp2_with fail
  refine (HLEN.out _ (balloc (balloc (Below.refl _ _) (Nat.le_refl _) _) (by simp) _)).mono ?_
  rintro e w1 ⟨rfl, hb1⟩
  have hb1' : Below (w.heap.size + 1 + 1) ((w.alloc (.cells #[.int .i64 0, .string ⟨#[]⟩, .string ⟨#[]⟩, .int .i64 0, .int .u64 0, .int .u64 0, .slice none 0 0, .slice none 0 0] 27)).alloc (.cells #[.int .i64 8, .string ⟨#[]⟩, .string ⟨#[]⟩, .int .i64 0, .int .u64 0, .int .u64 0, .slice none 0 0, .slice none 0 0] 27)) w1 := by simpa using hb1
  have HB1 := Lib.hid hb1'
  clear hb1 hb1' HLEN
  go_wp2_with fail
  refine (HNUM.out w1 (twobox HB1.out).2.2.2.2).mono ?_
  rintro e w2 ⟨rfl, hb2⟩
  have hb2' : Below (w.heap.size + 1 + 1) ((w.alloc (.cells #[.int .i64 0, .string ⟨#[]⟩, .string ⟨#[]⟩, .int .i64 0, .int .u64 0, .int .u64 0, .slice none 0 0, .slice none 0 0] 27)).alloc (.cells #[.int .i64 8, .string ⟨#[]⟩, .string ⟨#[]⟩, .int .i64 0, .int .u64 0, .int .u64 0, .slice none 0 0, .slice none 0 0] 27)) w2 := HB1.out.trans (hb2.mono (by have h := HB1.out.size; simpa using h))
  clear hb2 HB1 HNUM
  obtain ⟨haw2, hbw2, hlA, hlB, hBw2⟩ := twobox (a := (.cells #[.int .i64 0, .string ⟨#[]⟩, .string ⟨#[]⟩, .int .i64 0, .int .u64 0, .int .u64 0, .slice none 0 0, .slice none 0 0] 27 (0, 0))) (b := (.cells #[.int .i64 8, .string ⟨#[]⟩, .string ⟨#[]⟩, .int .i64 0, .int .u64 0, .int .u64 0, .slice none 0 0, .slice none 0 0] 27 (0, 0))) hb2'
  obtain ⟨x0, x1, x2, x3, x4, x5, x6, x7, xf0, xf1, xf2, xf3, xf4, xf5, xf6, xf7⟩ := cells8 haw2
  obtain ⟨y0, y1, y2, y3, y4, y5, y6, y7, yf0, yf1, yf2, yf3, yf4, yf5, yf6, yf7⟩ := cells8 hbw2
  have HBw2 := Lib.hid hBw2
  clear haw2 hbw2 hBw2
  have c2 := (HBw2.out.cell (World.block_lt_of_cell? _ _ C0.out)).trans C0.out
  clear hb2' C0 h1c
  cases nb <;> cases t
  · go_wp2_with fail
    all_goals exact bodyPost_ret (v := .tuple #[.agg #[.int .i64 8, .string ⟨#[]⟩, .string ⟨#[]⟩, .int .i64 0, .int .u64 0, .int .u64 0, .slice none 0 0, .slice none 0 0], .int .i64 1, .bool true]) (by simp [results, Tryz.results16, go_sem, x0, x1, x2, x3, x4, x5, x6, x7,y0, y1, y2, y3, y4, y5, y6, y7, hlA, hlB]) rfl ⟨⟨none, 0, rfl, SB.nil _⟩, (by (iterate 8 (refine bsS _ (by omega) ?_)); exact HBw2.out)⟩
  · go_wp2_with fail
    all_goals exact bodyPost_ret (v := .tuple #[.agg #[.int .i64 8, .string ⟨#[]⟩, .string ⟨#[]⟩, .int .i64 1, .int .u64 0, .int .u64 0, .slice none 0 0, .slice none 0 0], .int .i64 1, .bool true]) (by simp [results, Tryz.results16, go_sem, x0, x1, x2, x3, x4, x5, x6, x7,y0, y1, y2, y3, y4, y5, y6, y7, hlA, hlB]) rfl ⟨⟨none, 0, rfl, SB.nil _⟩, (by (iterate 9 (refine bsS _ (by omega) ?_)); exact HBw2.out)⟩
  · go_wp2_with fail
    all_goals exact bodyPost_ret (v := .tuple #[.agg #[.int .i64 8, .string ⟨#[]⟩, .string ⟨#[]⟩, .int .i64 0, .int .u64 0, .int .u64 0, .slice none 0 0, .slice none 0 0], .int .i64 1, .bool true]) (by simp [results, Tryz.results16, go_sem, x0, x1, x2, x3, x4, x5, x6, x7,y0, y1, y2, y3, y4, y5, y6, y7, hlA, hlB]) rfl ⟨⟨none, 0, rfl, SB.nil _⟩, (by (iterate 8 (refine bsS _ (by omega) ?_)); exact HBw2.out)⟩
  · go_wp2_with fail
    all_goals exact bodyPost_ret (v := .tuple #[.agg #[.int .i64 8, .string ⟨#[]⟩, .string ⟨#[]⟩, .int .i64 1, .int .u64 0, .int .u64 0, .slice none 0 0, .slice none 0 0], .int .i64 1, .bool true]) (by simp [results, Tryz.results16, go_sem, x0, x1, x2, x3, x4, x5, x6, x7,y0, y1, y2, y3, y4, y5, y6, y7, hlA, hlB]) rfl ⟨⟨none, 0, rfl, SB.nil _⟩, (by (iterate 9 (refine bsS _ (by omega) ?_)); exact HBw2.out)⟩
set_option maxHeartbeats 4000000 in
theorem tk_3 (A : Option Addr) (c : Nat) (l : List UInt8) (w : World) (hs : SB w A c l) (hl : l.length ≤ 5000) (n : Nat) (hr : numOf l = ((n : Int), true)) (h4 : 4 ≤ n) (hle : n ≤ l.length) : TkOk 3 l ⟨#[]⟩ ⟨#[]⟩ 0 0 0 (l.take n) n A c w := by
  unfold TkOk
  obtain ⟨y, hy⟩ : ∃ y, y = decide (5 ≤ (n : Int)) := ⟨_, rfl⟩
  have hLE : spec_DocLen.f 5 3 (ints l) = some ((n : Int), y) := by
    rw [len_doc 3 l (by simp), hr, decide_eq_true (by omega : (n : Int) ≤ (l.length : Int)), hy]
    simp
  have HLEN := Lib.hid (fun wx (hb : Below w.heap.size w wx) => lenC 5 3 A c l ((n : Int)) (y) wx (hs.keep hb) hLE)
  have HNUM := Lib.hid (fun wx (hb : Below w.heap.size w wx) => docNumber A c l wx (hs.keep hb))
  rw [hr] at HNUM
  obtain ⟨A5, x5', s5⟩ := SB.to_ (P := Tryz.prog) Tryz.underlying22 rfl rfl .i64 A c l n hle hs.le
  have HS5 : Hid (∀ W, Below w.heap.size w W → SB W A5 c (l.take n)) := Lib.hid fun W h => s5 W (hs.keep h)
  obtain ⟨z, hz⟩ : ∃ z, z = ((n : Int) == 4) := ⟨_, rfl⟩
  have hzy : z = !y := by
    rw [hz, hy]
    by_cases h : n = 4
    · subst h; rfl
    · rw [decide_eq_true (by omega : (5 : Int) ≤ (n : Int)), beq_eq_false_iff_ne.2 (by omega)]
      rfl
  have hz4 : z = true → n = 4 := by intro h; rw [hz] at h; have := eq_of_beq h; omega
  have htl : (l.take n).length = n := by rw [List.length_take, Nat.min_eq_left hle]
  rw [htl]
  obtain ⟨c5, hc5⟩ : ∃ x, x = c := ⟨_, rfl⟩
  obtain ⟨bb, hbb⟩ : ∃ x, x = l.take n := ⟨_, rfl⟩
  rw [← hbb] at HS5 ⊢
  obtain ⟨p, hp⟩ : ∃ p, p = l.length := ⟨_, rfl⟩
  rw [← hp] at HLEN HNUM x5'
  rw [← hp]
  clear hs hl hr hLE hle s5 hp hy htl hbb h4
  cases y with
  | true =>
    have hz' : ((n : Int) == 4) = false := by rw [← hz, hzy]; rfl
    clear hz hzy hz4
    go_enter Tryz.func16, Tryz.ntmps16
    go_wp2_with fail
    refine (HLEN.out _ (balloc (balloc (Below.refl _ _) (Nat.le_refl _) _) (by simp) _)).mono ?_
    rintro e w1 ⟨rfl, hb1⟩
    have hb1' : Below (w.heap.size + 1 + 1) ((w.alloc (.cells #[.int .i64 0, .string ⟨#[]⟩, .string ⟨#[]⟩, .int .i64 0, .int .u64 0, .int .u64 0, .slice none 0 0, .slice none 0 0] 27)).alloc (.cells #[.int .i64 3, .string ⟨#[]⟩, .string ⟨#[]⟩, .int .i64 0, .int .u64 0, .int .u64 0, .slice none 0 0, .slice none 0 0] 27)) w1 := by simpa using hb1
    have HB1 := Lib.hid hb1'
    clear hb1 hb1' HLEN
    go_wp2_with fail
    refine (HNUM.out w1 (twobox HB1.out).2.2.2.2).mono ?_
    rintro e w2 ⟨rfl, hb2⟩
    have hb2' : Below (w.heap.size + 1 + 1) ((w.alloc (.cells #[.int .i64 0, .string ⟨#[]⟩, .string ⟨#[]⟩, .int .i64 0, .int .u64 0, .int .u64 0, .slice none 0 0, .slice none 0 0] 27)).alloc (.cells #[.int .i64 3, .string ⟨#[]⟩, .string ⟨#[]⟩, .int .i64 0, .int .u64 0, .int .u64 0, .slice none 0 0, .slice none 0 0] 27)) w2 := HB1.out.trans (hb2.mono (by have h := HB1.out.size; simpa using h))
    clear hb2 HB1 HNUM
    obtain ⟨haw2, hbw2, hlA, hlB, hBw2⟩ := twobox (a := (.cells #[.int .i64 0, .string ⟨#[]⟩, .string ⟨#[]⟩, .int .i64 0, .int .u64 0, .int .u64 0, .slice none 0 0, .slice none 0 0] 27 (0, 0))) (b := (.cells #[.int .i64 3, .string ⟨#[]⟩, .string ⟨#[]⟩, .int .i64 0, .int .u64 0, .int .u64 0, .slice none 0 0, .slice none 0 0] 27 (0, 0))) hb2'
    obtain ⟨x0, x1, x2, x3, x4, x5, x6, x7, xf0, xf1, xf2, xf3, xf4, xf5, xf6, xf7⟩ := cells8 haw2
    obtain ⟨y0, y1, y2, y3, y4, y5, y6, y7, yf0, yf1, yf2, yf3, yf4, yf5, yf6, yf7⟩ := cells8 hbw2
    have HBw2 := Lib.hid hBw2
    clear haw2 hbw2 hBw2
    clear hb2'
    go_wp2_with fail
    all_goals exact bodyPost_ret (v := .tuple #[.agg #[.int .i64 3, .string ⟨#[]⟩, .string ⟨#[]⟩, .int .i64 0, .int .u64 0, .int .u64 0, .slice A5 n c, .slice none 0 0], .int .i64 n, .bool true]) (by simp [results, Tryz.results16, go_sem, x0, x1, x2, x3, x4, x5, x6, x7,y0, y1, y2, y3, y4, y5, y6, y7, hlA, hlB]) rfl ⟨⟨A5, c, rfl, HS5.out _ (by (iterate 9 (refine bsS _ (by omega) ?_)); exact HBw2.out)⟩, (by (iterate 9 (refine bsS _ (by omega) ?_)); exact HBw2.out)⟩
  | false =>
    have hn4 : n = 4 := hz4 (by rw [hzy]; rfl)
    clear hz hzy hz4
    subst hn4
    have h44 : (((4 : Nat) : Int) == 4) = true := rfl
    have h4c : ((4 : Nat) : Int) = 4 := rfl
    rw [h4c] at HLEN HNUM x5' ⊢
    clear h44 h4c
    go_enter Tryz.func16, Tryz.ntmps16
    go_wp2_with fail
    refine (HLEN.out _ (balloc (balloc (Below.refl _ _) (Nat.le_refl _) _) (by simp) _)).mono ?_
    rintro e w1 ⟨rfl, hb1⟩
    have hb1' : Below (w.heap.size + 1 + 1) ((w.alloc (.cells #[.int .i64 0, .string ⟨#[]⟩, .string ⟨#[]⟩, .int .i64 0, .int .u64 0, .int .u64 0, .slice none 0 0, .slice none 0 0] 27)).alloc (.cells #[.int .i64 3, .string ⟨#[]⟩, .string ⟨#[]⟩, .int .i64 0, .int .u64 0, .int .u64 0, .slice none 0 0, .slice none 0 0] 27)) w1 := by simpa using hb1
    have HB1 := Lib.hid hb1'
    clear hb1 hb1' HLEN
    go_wp2_with fail
    refine (HNUM.out w1 (twobox HB1.out).2.2.2.2).mono ?_
    rintro e w2 ⟨rfl, hb2⟩
    have hb2' : Below (w.heap.size + 1 + 1) ((w.alloc (.cells #[.int .i64 0, .string ⟨#[]⟩, .string ⟨#[]⟩, .int .i64 0, .int .u64 0, .int .u64 0, .slice none 0 0, .slice none 0 0] 27)).alloc (.cells #[.int .i64 3, .string ⟨#[]⟩, .string ⟨#[]⟩, .int .i64 0, .int .u64 0, .int .u64 0, .slice none 0 0, .slice none 0 0] 27)) w2 := HB1.out.trans (hb2.mono (by have h := HB1.out.size; simpa using h))
    clear hb2 HB1 HNUM
    obtain ⟨haw2, hbw2, hlA, hlB, hBw2⟩ := twobox (a := (.cells #[.int .i64 0, .string ⟨#[]⟩, .string ⟨#[]⟩, .int .i64 0, .int .u64 0, .int .u64 0, .slice none 0 0, .slice none 0 0] 27 (0, 0))) (b := (.cells #[.int .i64 3, .string ⟨#[]⟩, .string ⟨#[]⟩, .int .i64 0, .int .u64 0, .int .u64 0, .slice none 0 0, .slice none 0 0] 27 (0, 0))) hb2'
    obtain ⟨x0, x1, x2, x3, x4, x5, x6, x7, xf0, xf1, xf2, xf3, xf4, xf5, xf6, xf7⟩ := cells8 haw2
    obtain ⟨y0, y1, y2, y3, y4, y5, y6, y7, yf0, yf1, yf2, yf3, yf4, yf5, yf6, yf7⟩ := cells8 hbw2
    have HBw2 := Lib.hid hBw2
    clear haw2 hbw2 hBw2
    clear hb2'
    go_wp2_with fail
    all_goals exact bodyPost_ret (v := .tuple #[.agg #[.int .i64 3, .string ⟨#[]⟩, .string ⟨#[]⟩, .int .i64 0, .int .u64 0, .int .u64 0, .slice A5 4 c, .slice none 0 0], .int .i64 4, .bool true]) (by simp [results, Tryz.results16, go_sem, x0, x1, x2, x3, x4, x5, x6, x7,y0, y1, y2, y3, y4, y5, y6, y7, hlA, hlB]) rfl ⟨⟨A5, c, rfl, HS5.out _ (by (iterate 9 (refine bsS _ (by omega) ?_)); exact HBw2.out)⟩, (by (iterate 9 (refine bsS _ (by omega) ?_)); exact HBw2.out)⟩
set_option maxHeartbeats 4000000 in
theorem tk_4 (A : Option Addr) (c : Nat) (l : List UInt8) (w : World) (hs : SB w A c l) (hl : l.length ≤ 5000) (n : Nat) (hr : numOf l = ((n : Int), true)) (h4 : 4 ≤ n) (hle : n ≤ l.length) : TkOk 4 l ⟨#[]⟩ ⟨#[]⟩ 0 0 0 (l.take n) n A c w := by
  unfold TkOk
  obtain ⟨y, hy⟩ : ∃ y, y = decide (5 ≤ (n : Int)) := ⟨_, rfl⟩
  have hLE : spec_DocLen.f 5 4 (ints l) = some ((n : Int), y) := by
    rw [len_doc 4 l (by simp), hr, decide_eq_true (by omega : (n : Int) ≤ (l.length : Int)), hy]
    simp
  have HLEN := Lib.hid (fun wx (hb : Below w.heap.size w wx) => lenC 5 4 A c l ((n : Int)) (y) wx (hs.keep hb) hLE)
  have HNUM := Lib.hid (fun wx (hb : Below w.heap.size w wx) => docNumber A c l wx (hs.keep hb))
  rw [hr] at HNUM
  obtain ⟨A5, x5', s5⟩ := SB.to_ (P := Tryz.prog) Tryz.underlying22 rfl rfl .i64 A c l n hle hs.le
  have HS5 : Hid (∀ W, Below w.heap.size w W → SB W A5 c (l.take n)) := Lib.hid fun W h => s5 W (hs.keep h)
  obtain ⟨z, hz⟩ : ∃ z, z = ((n : Int) == 4) := ⟨_, rfl⟩
  have hzy : z = !y := by
    rw [hz, hy]
    by_cases h : n = 4
    · subst h; rfl
    · rw [decide_eq_true (by omega : (5 : Int) ≤ (n : Int)), beq_eq_false_iff_ne.2 (by omega)]
      rfl
  have hz4 : z = true → n = 4 := by intro h; rw [hz] at h; have := eq_of_beq h; omega
  have htl : (l.take n).length = n := by rw [List.length_take, Nat.min_eq_left hle]
  rw [htl]
  obtain ⟨c5, hc5⟩ : ∃ x, x = c := ⟨_, rfl⟩
  obtain ⟨bb, hbb⟩ : ∃ x, x = l.take n := ⟨_, rfl⟩
  rw [← hbb] at HS5 ⊢
  obtain ⟨p, hp⟩ : ∃ p, p = l.length := ⟨_, rfl⟩
  rw [← hp] at HLEN HNUM x5'
  rw [← hp]
  clear hs hl hr hLE hle s5 hp hy htl hbb h4
  cases y with
  | true =>
    have hz' : ((n : Int) == 4) = false := by rw [← hz, hzy]; rfl
    clear hz hzy hz4
    go_enter Tryz.func16, Tryz.ntmps16
    go_wp2_with fail
    refine (HLEN.out _ (balloc (balloc (Below.refl _ _) (Nat.le_refl _) _) (by simp) _)).mono ?_
    rintro e w1 ⟨rfl, hb1⟩
    have hb1' : Below (w.heap.size + 1 + 1) ((w.alloc (.cells #[.int .i64 0, .string ⟨#[]⟩, .string ⟨#[]⟩, .int .i64 0, .int .u64 0, .int .u64 0, .slice none 0 0, .slice none 0 0] 27)).alloc (.cells #[.int .i64 4, .string ⟨#[]⟩, .string ⟨#[]⟩, .int .i64 0, .int .u64 0, .int .u64 0, .slice none 0 0, .slice none 0 0] 27)) w1 := by simpa using hb1
    have HB1 := Lib.hid hb1'
    clear hb1 hb1' HLEN
    go_wp2_with fail
    refine (HNUM.out w1 (twobox HB1.out).2.2.2.2).mono ?_
    rintro e w2 ⟨rfl, hb2⟩
    have hb2' : Below (w.heap.size + 1 + 1) ((w.alloc (.cells #[.int .i64 0, .string ⟨#[]⟩, .string ⟨#[]⟩, .int .i64 0, .int .u64 0, .int .u64 0, .slice none 0 0, .slice none 0 0] 27)).alloc (.cells #[.int .i64 4, .string ⟨#[]⟩, .string ⟨#[]⟩, .int .i64 0, .int .u64 0, .int .u64 0, .slice none 0 0, .slice none 0 0] 27)) w2 := HB1.out.trans (hb2.mono (by have h := HB1.out.size; simpa using h))
    clear hb2 HB1 HNUM
    obtain ⟨haw2, hbw2, hlA, hlB, hBw2⟩ := twobox (a := (.cells #[.int .i64 0, .string ⟨#[]⟩, .string ⟨#[]⟩, .int .i64 0, .int .u64 0, .int .u64 0, .slice none 0 0, .slice none 0 0] 27 (0, 0))) (b := (.cells #[.int .i64 4, .string ⟨#[]⟩, .string ⟨#[]⟩, .int .i64 0, .int .u64 0, .int .u64 0, .slice none 0 0, .slice none 0 0] 27 (0, 0))) hb2'
    obtain ⟨x0, x1, x2, x3, x4, x5, x6, x7, xf0, xf1, xf2, xf3, xf4, xf5, xf6, xf7⟩ := cells8 haw2
    obtain ⟨y0, y1, y2, y3, y4, y5, y6, y7, yf0, yf1, yf2, yf3, yf4, yf5, yf6, yf7⟩ := cells8 hbw2
    have HBw2 := Lib.hid hBw2
    clear haw2 hbw2 hBw2
    clear hb2'
    go_wp2_with fail
    all_goals exact bodyPost_ret (v := .tuple #[.agg #[.int .i64 4, .string ⟨#[]⟩, .string ⟨#[]⟩, .int .i64 0, .int .u64 0, .int .u64 0, .slice A5 n c, .slice none 0 0], .int .i64 n, .bool true]) (by simp [results, Tryz.results16, go_sem, x0, x1, x2, x3, x4, x5, x6, x7,y0, y1, y2, y3, y4, y5, y6, y7, hlA, hlB]) rfl ⟨⟨A5, c, rfl, HS5.out _ (by (iterate 9 (refine bsS _ (by omega) ?_)); exact HBw2.out)⟩, (by (iterate 9 (refine bsS _ (by omega) ?_)); exact HBw2.out)⟩
  | false =>
    have hn4 : n = 4 := hz4 (by rw [hzy]; rfl)
    clear hz hzy hz4
    subst hn4
    have h44 : (((4 : Nat) : Int) == 4) = true := rfl
    have h4c : ((4 : Nat) : Int) = 4 := rfl
    rw [h4c] at HLEN HNUM x5' ⊢
    clear h44 h4c
    go_enter Tryz.func16, Tryz.ntmps16
    go_wp2_with fail
    refine (HLEN.out _ (balloc (balloc (Below.refl _ _) (Nat.le_refl _) _) (by simp) _)).mono ?_
    rintro e w1 ⟨rfl, hb1⟩
    have hb1' : Below (w.heap.size + 1 + 1) ((w.alloc (.cells #[.int .i64 0, .string ⟨#[]⟩, .string ⟨#[]⟩, .int .i64 0, .int .u64 0, .int .u64 0, .slice none 0 0, .slice none 0 0] 27)).alloc (.cells #[.int .i64 4, .string ⟨#[]⟩, .string ⟨#[]⟩, .int .i64 0, .int .u64 0, .int .u64 0, .slice none 0 0, .slice none 0 0] 27)) w1 := by simpa using hb1
    have HB1 := Lib.hid hb1'
    clear hb1 hb1' HLEN
    go_wp2_with fail
    refine (HNUM.out w1 (twobox HB1.out).2.2.2.2).mono ?_
    rintro e w2 ⟨rfl, hb2⟩
    have hb2' : Below (w.heap.size + 1 + 1) ((w.alloc (.cells #[.int .i64 0, .string ⟨#[]⟩, .string ⟨#[]⟩, .int .i64 0, .int .u64 0, .int .u64 0, .slice none 0 0, .slice none 0 0] 27)).alloc (.cells #[.int .i64 4, .string ⟨#[]⟩, .string ⟨#[]⟩, .int .i64 0, .int .u64 0, .int .u64 0, .slice none 0 0, .slice none 0 0] 27)) w2 := HB1.out.trans (hb2.mono (by have h := HB1.out.size; simpa using h))
    clear hb2 HB1 HNUM
    obtain ⟨haw2, hbw2, hlA, hlB, hBw2⟩ := twobox (a := (.cells #[.int .i64 0, .string ⟨#[]⟩, .string ⟨#[]⟩, .int .i64 0, .int .u64 0, .int .u64 0, .slice none 0 0, .slice none 0 0] 27 (0, 0))) (b := (.cells #[.int .i64 4, .string ⟨#[]⟩, .string ⟨#[]⟩, .int .i64 0, .int .u64 0, .int .u64 0, .slice none 0 0, .slice none 0 0] 27 (0, 0))) hb2'
    obtain ⟨x0, x1, x2, x3, x4, x5, x6, x7, xf0, xf1, xf2, xf3, xf4, xf5, xf6, xf7⟩ := cells8 haw2
    obtain ⟨y0, y1, y2, y3, y4, y5, y6, y7, yf0, yf1, yf2, yf3, yf4, yf5, yf6, yf7⟩ := cells8 hbw2
    have HBw2 := Lib.hid hBw2
    clear haw2 hbw2 hBw2
    clear hb2'
    go_wp2_with fail
    all_goals exact bodyPost_ret (v := .tuple #[.agg #[.int .i64 4, .string ⟨#[]⟩, .string ⟨#[]⟩, .int .i64 0, .int .u64 0, .int .u64 0, .slice A5 4 c, .slice none 0 0], .int .i64 4, .bool true]) (by simp [results, Tryz.results16, go_sem, x0, x1, x2, x3, x4, x5, x6, x7,y0, y1, y2, y3, y4, y5, y6, y7, hlA, hlB]) rfl ⟨⟨A5, c, rfl, HS5.out _ (by (iterate 9 (refine bsS _ (by omega) ?_)); exact HBw2.out)⟩, (by (iterate 9 (refine bsS _ (by omega) ?_)); exact HBw2.out)⟩
set_option maxHeartbeats 4000000 in
theorem tk_12t (A : Option Addr) (c : Nat) (l : List UInt8) (w : World) (hs : SB w A c l) (hl : l.length ≤ 5000) (n : Nat) (hz4 : (((n : Int) + 1) == 4) = true) (hr : numOf l = ((n : Int) + 1, true)) (hle : n + 17 ≤ l.length) : TkOk 12 l ⟨((l.drop 4).take n).toArray⟩ ⟨#[]⟩ 0 0 0 ((l.drop (n + 5)).take 12) (n + 17) A c w := by
  unfold TkOk
  have hLE : spec_DocLen.f 5 12 (ints l) = some (((n + 17 : Nat) : Int), true) := by
    rw [len_ptr l, hr, show ((n + 17 : Nat) : Int) = (n : Int) + 1 + 16 from by omega, decide_eq_true (by omega : (1 : Int) ≤ (n : Int) + 1), decide_eq_true (by omega : (n : Int) + 1 + 16 ≤ (l.length : Int))]
    rfl
  have HLEN := Lib.hid (fun wx (hb : Below w.heap.size w wx) => lenC 5 12 A c l (((n + 17 : Nat) : Int)) (true) wx (hs.keep hb) hLE)
  have HNUM := Lib.hid (fun wx (hb : Below w.heap.size w wx) => docNumber A c l wx (hs.keep hb))
  rw [hr] at HNUM
  obtain ⟨A5, x5', s5⟩ := SB.cut (P := Tryz.prog) Tryz.underlying22 rfl rfl .i64 .i64 A c l 4 (n + 4) (by omega) (by omega) hs.le
  obtain ⟨A6, x6', s6⟩ := SB.cut (P := Tryz.prog) Tryz.underlying22 rfl rfl .i64 .i64 A c l (n + 5) (n + 17) (by omega) (by omega) hs.le
  obtain ⟨Z, hZ⟩ : ∃ z : ByteArray, z = ⟨((l.drop 4).take n).toArray⟩ := ⟨_, rfl⟩
  have HCV : Hid (∀ W, Below w.heap.size w W → (convert 22 9 (.slice A5 n (c - 4))).run Tryz.prog W = .ok (.string Z) W) := Lib.hid fun W h => by
    have h2 := str_of (s5 W (hs.keep h))
    rw [List.drop_take, show n + 4 - 4 = n from by omega] at h2
    rw [List.length_take, List.length_drop, Nat.min_eq_left (by omega)] at h2
    rw [hZ]; exact h2
  have HS6 : Hid (∀ W, Below w.heap.size w W → SB W A6 (c - (n + 5)) ((l.drop (n + 5)).take 12)) := Lib.hid fun W h => by
    have h2 := s6 W (hs.keep h)
    rw [List.drop_take, show n + 17 - (n + 5) = 12 from by omega] at h2
    exact h2
  have htl : ((l.drop (n + 5)).take 12).length = 12 := by rw [List.length_take, List.length_drop]; omega
  rw [htl, ← hZ]
  obtain ⟨bb, hbb⟩ : ∃ x, x = (l.drop (n + 5)).take 12 := ⟨_, rfl⟩
  rw [← hbb] at HS6 ⊢
  obtain ⟨p, hp⟩ : ∃ p, p = l.length := ⟨_, rfl⟩
  obtain ⟨M, hM⟩ : ∃ M, M = n + 17 := ⟨_, rfl⟩
  obtain ⟨Q, hQ⟩ : ∃ M, M = n + 4 := ⟨_, rfl⟩
  obtain ⟨R, hR⟩ : ∃ M, M = n + 5 := ⟨_, rfl⟩
  obtain ⟨N, hN⟩ : ∃ N : Int, N = (n : Int) + 1 := ⟨_, rfl⟩
  rw [← hM] at HLEN x6'
  rw [← hR] at x6' HS6
  rw [show M - R = 12 from by omega] at x6'
  rw [← hp] at HLEN HNUM x5' x6' hle
  rw [← hN] at HNUM hz4
  rw [← hQ, show Q - 4 = n from by omega] at x5'
  rw [← hp, ← hM]
  have e5 : ∀ W : World, (Instr.slice 22 (.slice A p c) (some (.int .i64 4)) (some (.int .i64 (Q : Int))) none).run Tryz.prog W = .ok (.slice A5 n (c - 4)) W := x5'
  have i1 : wrap64 ((M : Int) - 13) = (Q : Int) := by unfold wrap64; omega
  have i2 : wrap64 ((M : Int) - 12) = (R : Int) := by unfold wrap64; omega
  clear hs hl hr hle hLE x5' s5 s6 hZ hp hM hQ hN hR hbb htl
  go_enter Tryz.func16, Tryz.ntmps16
  go_wp2_with fail
  refine (HLEN.out _ (balloc (balloc (Below.refl _ _) (Nat.le_refl _) _) (by simp) _)).mono ?_
  rintro e w1 ⟨rfl, hb1⟩
  have hb1' : Below (w.heap.size + 1 + 1) ((w.alloc (.cells #[.int .i64 0, .string ⟨#[]⟩, .string ⟨#[]⟩, .int .i64 0, .int .u64 0, .int .u64 0, .slice none 0 0, .slice none 0 0] 27)).alloc (.cells #[.int .i64 12, .string ⟨#[]⟩, .string ⟨#[]⟩, .int .i64 0, .int .u64 0, .int .u64 0, .slice none 0 0, .slice none 0 0] 27)) w1 := by simpa using hb1
  have HB1 := Lib.hid hb1'
  clear hb1 hb1' HLEN
  go_wp2_with fail
  refine (HNUM.out w1 (twobox HB1.out).2.2.2.2).mono ?_
  rintro e w2 ⟨rfl, hb2⟩
  have hb2' : Below (w.heap.size + 1 + 1) ((w.alloc (.cells #[.int .i64 0, .string ⟨#[]⟩, .string ⟨#[]⟩, .int .i64 0, .int .u64 0, .int .u64 0, .slice none 0 0, .slice none 0 0] 27)).alloc (.cells #[.int .i64 12, .string ⟨#[]⟩, .string ⟨#[]⟩, .int .i64 0, .int .u64 0, .int .u64 0, .slice none 0 0, .slice none 0 0] 27)) w2 := HB1.out.trans (hb2.mono (by have h := HB1.out.size; simpa using h))
  clear hb2 HB1 HNUM
  obtain ⟨haw2, hbw2, hlA, hlB, hBw2⟩ := twobox (a := (.cells #[.int .i64 0, .string ⟨#[]⟩, .string ⟨#[]⟩, .int .i64 0, .int .u64 0, .int .u64 0, .slice none 0 0, .slice none 0 0] 27 (0, 0))) (b := (.cells #[.int .i64 12, .string ⟨#[]⟩, .string ⟨#[]⟩, .int .i64 0, .int .u64 0, .int .u64 0, .slice none 0 0, .slice none 0 0] 27 (0, 0))) hb2'
  obtain ⟨x0, x1, x2, x3, x4, x5, x6, x7, xf0, xf1, xf2, xf3, xf4, xf5, xf6, xf7⟩ := cells8 haw2
  obtain ⟨y0, y1, y2, y3, y4, y5, y6, y7, yf0, yf1, yf2, yf3, yf4, yf5, yf6, yf7⟩ := cells8 hbw2
  have HBw2 := Lib.hid hBw2
  clear haw2 hbw2 hBw2
  clear hb2'
  go_wp2_with fail
  refine start_ (n := 14) (S := fun w' => (convert 22 9 (.slice A5 n (c - 4))).run Tryz.prog w' = .ok (.string Z) w') (ds := [11, 13]) #[false, false, false, false, false, false, false, false, false, false, false, false, false, false] (by kernel_rfl) rfl rfl ((HCV.out _ (bdrew HBw2.out))) (fun hHeld => ?_)
  refine with_tabW R16.tab21 R16.bits21 (fun HT_ HW_ => ?_)
  refine pure_ (i := 0) (N := some 78) (v := ?_) (a' := ?_) #[true, false, false, false, false, false, false, false, false, false, false, false, false, false] rfl rfl (any_of HT_.out (by kernel_rfl)) (fun _ _ _ h => h) (Or.inl ⟨by rfl, ?_⟩) ?_ ?_
  rotate_left
  · intro w'
    go_simp
    with_reducible rfl
  rotate_left
  · simp only [Act.put, List.setIfInBounds_toArray, List.set_cons_zero, List.set_cons_succ, i64_w, i32_w]
    rfl
  refine pure_ (i := 1) (N := some 79) (v := ?_) (a' := ?_) #[true, true, false, false, false, false, false, false, false, false, false, false, false, false] rfl rfl (any_of HT_.out (by kernel_rfl)) (fun _ _ _ h => h) (Or.inl ⟨by rfl, ?_⟩) ?_ ?_
  rotate_left
  · intro w'
    go_simp
    with_reducible rfl
  rotate_left
  · simp only [Act.put, List.setIfInBounds_toArray, List.set_cons_zero, List.set_cons_succ, i64_w, i32_w]
    rfl
  refine pure_ (i := 2) (N := some 80) (v := ?_) (a' := ?_) #[true, true, true, false, false, false, false, false, false, false, false, false, false, false] rfl rfl (any_of HT_.out (by kernel_rfl)) (fun _ _ _ h => h) (Or.inl ⟨by rfl, ?_⟩) ?_ ?_
  rotate_left
  · intro w'
    go_simp
    with_reducible rfl
  rotate_left
  · simp only [Act.put, List.setIfInBounds_toArray, List.set_cons_zero, List.set_cons_succ, i64_w, i32_w]
    rfl
  refine pure_ (i := 3) (N := some 81) (v := ?_) (a' := ?_) #[true, true, true, true, false, false, false, false, false, false, false, false, false, false] rfl rfl (any_of HT_.out (by kernel_rfl)) (fun _ _ _ h => h) (Or.inl ⟨by rfl, ?_⟩) ?_ ?_
  rotate_left
  · intro w'
    go_simp
    with_reducible rfl
  rotate_left
  · simp only [Act.put, List.setIfInBounds_toArray, List.set_cons_zero, List.set_cons_succ, i64_w, i32_w]
    rfl
  refine pure_ (i := 5) (N := some 83) (v := ?_) (a' := ?_) #[true, true, true, true, false, true, false, false, false, false, false, false, false, false] rfl rfl (any_of HT_.out (by kernel_rfl)) (fun _ _ _ h => h) (Or.inl ⟨by rfl, ?_⟩) ?_ ?_
  rotate_left
  · intro w'
    go_simp
    with_reducible rfl
  rotate_left
  · simp only [Act.put, List.setIfInBounds_toArray, List.set_cons_zero, List.set_cons_succ, i64_w, i32_w]
    rfl
  refine pure_ (i := 6) (N := some 84) (v := ?_) (a' := ?_) #[true, true, true, true, false, true, true, false, false, false, false, false, false, false] rfl rfl (any_of HT_.out (by kernel_rfl)) (fun _ _ _ h => h) (Or.inl ⟨by rfl, ?_⟩) ?_ ?_
  rotate_left
  · intro w'
    go_simp
    with_reducible rfl
  rotate_left
  · simp only [Act.put, List.setIfInBounds_toArray, List.set_cons_zero, List.set_cons_succ, i64_w, i32_w]
    rfl
  refine pure_ (i := 7) (N := some 85) (v := ?_) (a' := ?_) #[true, true, true, true, false, true, true, true, false, false, false, false, false, false] rfl rfl (any_of HT_.out (by kernel_rfl)) (fun _ _ _ h => h) (Or.inl ⟨by rfl, ?_⟩) ?_ ?_
  rotate_left
  · intro w'
    go_simp
    with_reducible rfl
  rotate_left
  · simp only [Act.put, List.setIfInBounds_toArray, List.set_cons_zero, List.set_cons_succ, i64_w, i32_w]
    rfl
  refine pure_ (i := 8) (N := some 86) (v := ?_) (a' := ?_) #[true, true, true, true, false, true, true, true, true, false, false, false, false, false] rfl rfl (any_of HT_.out (by kernel_rfl)) (fun _ _ _ h => h) (Or.inl ⟨by rfl, ?_⟩) ?_ ?_
  rotate_left
  · intro w'
    go_simp
    with_reducible rfl
  rotate_left
  · simp only [Act.put, List.setIfInBounds_toArray, List.set_cons_zero, List.set_cons_succ, i64_w, i32_w]
    rfl
  refine pure_ (i := 9) (N := some 87) (v := ?_) (a' := ?_) #[true, true, true, true, false, true, true, true, true, true, false, false, false, false] rfl rfl (any_of HT_.out (by kernel_rfl)) (fun _ _ _ h => h) (Or.inl ⟨by rfl, ?_⟩) ?_ ?_
  rotate_left
  · intro w'
    go_simp
    with_reducible rfl
  rotate_left
  · simp only [Act.put, List.setIfInBounds_toArray, List.set_cons_zero, List.set_cons_succ, i64_w, i32_w]
    rfl
  refine take_ (i := 4) (N := some 82) (v := ?_) (a' := ?_) #[true, true, true, true, true, true, true, true, true, true, false, false, false, false] rfl rfl (take_ofW HT_.out HW_.out (by kernel_rfl)) (fun _ _ _ h => h) (Or.inl ⟨by rfl, ?_⟩) hHeld ?_ ?_
  rotate_left
  · intro w' s0
    go_simp
    with_reducible rfl
  rotate_left
  · simp only [Act.put, List.setIfInBounds_toArray, List.set_cons_zero, List.set_cons_succ, i64_w, i32_w]
    rfl
  refine pure_ (i := 10) (N := some 88) (v := ?_) (a' := ?_) #[true, true, true, true, true, true, true, true, true, true, true, false, false, false] rfl rfl (any_of HT_.out (by kernel_rfl)) (fun _ _ _ h => h) (Or.inl ⟨by rfl, ?_⟩) ?_ ?_
  rotate_left
  · intro w'
    go_simp
    with_reducible rfl
  rotate_left
  · simp only [Act.put, List.setIfInBounds_toArray, List.set_cons_zero, List.set_cons_succ, i64_w, i32_w]
    rfl
  refine last_ (i := 11) (N := none) #[true, true, true, true, true, true, true, true, true, true, true, true, false, false] rfl rfl (one_of HT_.out (by kernel_rfl)) (by decide) (fun K hK => ?_)
  refine skip_ (w1 := ?_) (by rfl) rfl ?_ ?_
  rotate_left
  · go_simp
    rfl
  refine hK.out _ _ ?_
  clear hK K
  refine pure_ (i := 12) (N := some 89) (v := ?_) (a' := ?_) #[true, true, true, true, true, true, true, true, true, true, true, true, true, false] rfl rfl (any_of HT_.out (by kernel_rfl)) (fun _ _ _ h => h) (Or.inl ⟨by rfl, ?_⟩) ?_ ?_
  rotate_left
  · intro w'
    go_simp
    with_reducible rfl
  rotate_left
  · simp only [Act.put, List.setIfInBounds_toArray, List.set_cons_zero, List.set_cons_succ, i64_w, i32_w]
    rfl
  refine last_ (i := 13) (N := none) #[true, true, true, true, true, true, true, true, true, true, true, true, true, true] rfl rfl (one_of HT_.out (by kernel_rfl)) (by decide) (fun K hK => ?_)
  refine skip_ (w1 := ?_) (by rfl) rfl ?_ ?_
  rotate_left
  · go_simp
    rfl
  refine hK.out _ _ ?_
  clear hK K
  refine done_ (done_of HT_.out (by kernel_rfl)) ?_
  go_wp2_with fail
  all_goals exact bodyPost_ret (v := .tuple #[.agg #[.int .i64 12, .string Z, .string ⟨#[]⟩, .int .i64 0, .int .u64 0, .int .u64 0, .slice A6 12 (c - R), .slice none 0 0], .int .i64 M, .bool true]) (by simp [results, Tryz.results16, go_sem, x0, x1, x2, x3, x4, x5, x6, x7,y0, y1, y2, y3, y4, y5, y6, y7, hlA, hlB]) rfl ⟨⟨A6, _, rfl, HS6.out _ (by refine bdrew ?_; (iterate 10 (refine bsS _ (by omega) ?_)); exact HBw2.out)⟩, (by refine bdrew ?_; (iterate 10 (refine bsS _ (by omega) ?_)); exact HBw2.out)⟩
set_option maxHeartbeats 4000000 in
theorem tk_12f (A : Option Addr) (c : Nat) (l : List UInt8) (w : World) (hs : SB w A c l) (hl : l.length ≤ 5000) (n : Nat) (hz4 : (((n : Int) + 1) == 4) = false) (hr : numOf l = ((n : Int) + 1, true)) (hle : n + 17 ≤ l.length) : TkOk 12 l ⟨((l.drop 4).take n).toArray⟩ ⟨#[]⟩ 0 0 0 ((l.drop (n + 5)).take 12) (n + 17) A c w := by
  unfold TkOk
  have hLE : spec_DocLen.f 5 12 (ints l) = some (((n + 17 : Nat) : Int), true) := by
    rw [len_ptr l, hr, show ((n + 17 : Nat) : Int) = (n : Int) + 1 + 16 from by omega, decide_eq_true (by omega : (1 : Int) ≤ (n : Int) + 1), decide_eq_true (by omega : (n : Int) + 1 + 16 ≤ (l.length : Int))]
    rfl
  have HLEN := Lib.hid (fun wx (hb : Below w.heap.size w wx) => lenC 5 12 A c l (((n + 17 : Nat) : Int)) (true) wx (hs.keep hb) hLE)
  have HNUM := Lib.hid (fun wx (hb : Below w.heap.size w wx) => docNumber A c l wx (hs.keep hb))
  rw [hr] at HNUM
  obtain ⟨A5, x5', s5⟩ := SB.cut (P := Tryz.prog) Tryz.underlying22 rfl rfl .i64 .i64 A c l 4 (n + 4) (by omega) (by omega) hs.le
  obtain ⟨A6, x6', s6⟩ := SB.cut (P := Tryz.prog) Tryz.underlying22 rfl rfl .i64 .i64 A c l (n + 5) (n + 17) (by omega) (by omega) hs.le
  obtain ⟨Z, hZ⟩ : ∃ z : ByteArray, z = ⟨((l.drop 4).take n).toArray⟩ := ⟨_, rfl⟩
  have HCV : Hid (∀ W, Below w.heap.size w W → (convert 22 9 (.slice A5 n (c - 4))).run Tryz.prog W = .ok (.string Z) W) := Lib.hid fun W h => by
    have h2 := str_of (s5 W (hs.keep h))
    rw [List.drop_take, show n + 4 - 4 = n from by omega] at h2
    rw [List.length_take, List.length_drop, Nat.min_eq_left (by omega)] at h2
    rw [hZ]; exact h2
  have HS6 : Hid (∀ W, Below w.heap.size w W → SB W A6 (c - (n + 5)) ((l.drop (n + 5)).take 12)) := Lib.hid fun W h => by
    have h2 := s6 W (hs.keep h)
    rw [List.drop_take, show n + 17 - (n + 5) = 12 from by omega] at h2
    exact h2
  have htl : ((l.drop (n + 5)).take 12).length = 12 := by rw [List.length_take, List.length_drop]; omega
  rw [htl, ← hZ]
  obtain ⟨bb, hbb⟩ : ∃ x, x = (l.drop (n + 5)).take 12 := ⟨_, rfl⟩
  rw [← hbb] at HS6 ⊢
  obtain ⟨p, hp⟩ : ∃ p, p = l.length := ⟨_, rfl⟩
  obtain ⟨M, hM⟩ : ∃ M, M = n + 17 := ⟨_, rfl⟩
  obtain ⟨Q, hQ⟩ : ∃ M, M = n + 4 := ⟨_, rfl⟩
  obtain ⟨R, hR⟩ : ∃ M, M = n + 5 := ⟨_, rfl⟩
  obtain ⟨N, hN⟩ : ∃ N : Int, N = (n : Int) + 1 := ⟨_, rfl⟩
  rw [← hM] at HLEN x6'
  rw [← hR] at x6' HS6
  rw [show M - R = 12 from by omega] at x6'
  rw [← hp] at HLEN HNUM x5' x6' hle
  rw [← hN] at HNUM hz4
  rw [← hQ, show Q - 4 = n from by omega] at x5'
  rw [← hp, ← hM]
  have e5 : ∀ W : World, (Instr.slice 22 (.slice A p c) (some (.int .i64 4)) (some (.int .i64 (Q : Int))) none).run Tryz.prog W = .ok (.slice A5 n (c - 4)) W := x5'
  have i1 : wrap64 ((M : Int) - 13) = (Q : Int) := by unfold wrap64; omega
  have i2 : wrap64 ((M : Int) - 12) = (R : Int) := by unfold wrap64; omega
  clear hs hl hr hle hLE x5' s5 s6 hZ hp hM hQ hN hR hbb htl
  go_enter Tryz.func16, Tryz.ntmps16
  go_wp2_with fail
  refine (HLEN.out _ (balloc (balloc (Below.refl _ _) (Nat.le_refl _) _) (by simp) _)).mono ?_
  rintro e w1 ⟨rfl, hb1⟩
  have hb1' : Below (w.heap.size + 1 + 1) ((w.alloc (.cells #[.int .i64 0, .string ⟨#[]⟩, .string ⟨#[]⟩, .int .i64 0, .int .u64 0, .int .u64 0, .slice none 0 0, .slice none 0 0] 27)).alloc (.cells #[.int .i64 12, .string ⟨#[]⟩, .string ⟨#[]⟩, .int .i64 0, .int .u64 0, .int .u64 0, .slice none 0 0, .slice none 0 0] 27)) w1 := by simpa using hb1
  have HB1 := Lib.hid hb1'
  clear hb1 hb1' HLEN
  go_wp2_with fail
  refine (HNUM.out w1 (twobox HB1.out).2.2.2.2).mono ?_
  rintro e w2 ⟨rfl, hb2⟩
  have hb2' : Below (w.heap.size + 1 + 1) ((w.alloc (.cells #[.int .i64 0, .string ⟨#[]⟩, .string ⟨#[]⟩, .int .i64 0, .int .u64 0, .int .u64 0, .slice none 0 0, .slice none 0 0] 27)).alloc (.cells #[.int .i64 12, .string ⟨#[]⟩, .string ⟨#[]⟩, .int .i64 0, .int .u64 0, .int .u64 0, .slice none 0 0, .slice none 0 0] 27)) w2 := HB1.out.trans (hb2.mono (by have h := HB1.out.size; simpa using h))
  clear hb2 HB1 HNUM
  obtain ⟨haw2, hbw2, hlA, hlB, hBw2⟩ := twobox (a := (.cells #[.int .i64 0, .string ⟨#[]⟩, .string ⟨#[]⟩, .int .i64 0, .int .u64 0, .int .u64 0, .slice none 0 0, .slice none 0 0] 27 (0, 0))) (b := (.cells #[.int .i64 12, .string ⟨#[]⟩, .string ⟨#[]⟩, .int .i64 0, .int .u64 0, .int .u64 0, .slice none 0 0, .slice none 0 0] 27 (0, 0))) hb2'
  obtain ⟨x0, x1, x2, x3, x4, x5, x6, x7, xf0, xf1, xf2, xf3, xf4, xf5, xf6, xf7⟩ := cells8 haw2
  obtain ⟨y0, y1, y2, y3, y4, y5, y6, y7, yf0, yf1, yf2, yf3, yf4, yf5, yf6, yf7⟩ := cells8 hbw2
  have HBw2 := Lib.hid hBw2
  clear haw2 hbw2 hBw2
  clear hb2'
  go_wp2_with fail
  refine start_ (n := 14) (S := fun w' => (convert 22 9 (.slice A5 n (c - 4))).run Tryz.prog w' = .ok (.string Z) w') (ds := [11, 13]) #[false, false, false, false, false, false, false, false, false, false, false, false, false, false] (by kernel_rfl) rfl rfl ((HCV.out _ (bdrew HBw2.out))) (fun hHeld => ?_)
  refine with_tabW R16.tab21 R16.bits21 (fun HT_ HW_ => ?_)
  refine pure_ (i := 0) (N := some 78) (v := ?_) (a' := ?_) #[true, false, false, false, false, false, false, false, false, false, false, false, false, false] rfl rfl (any_of HT_.out (by kernel_rfl)) (fun _ _ _ h => h) (Or.inl ⟨by rfl, ?_⟩) ?_ ?_
  rotate_left
  · intro w'
    go_simp
    with_reducible rfl
  rotate_left
  · simp only [Act.put, List.setIfInBounds_toArray, List.set_cons_zero, List.set_cons_succ, i64_w, i32_w]
    rfl
  refine pure_ (i := 1) (N := some 79) (v := ?_) (a' := ?_) #[true, true, false, false, false, false, false, false, false, false, false, false, false, false] rfl rfl (any_of HT_.out (by kernel_rfl)) (fun _ _ _ h => h) (Or.inl ⟨by rfl, ?_⟩) ?_ ?_
  rotate_left
  · intro w'
    go_simp
    with_reducible rfl
  rotate_left
  · simp only [Act.put, List.setIfInBounds_toArray, List.set_cons_zero, List.set_cons_succ, i64_w, i32_w]
    rfl
  refine pure_ (i := 2) (N := some 80) (v := ?_) (a' := ?_) #[true, true, true, false, false, false, false, false, false, false, false, false, false, false] rfl rfl (any_of HT_.out (by kernel_rfl)) (fun _ _ _ h => h) (Or.inl ⟨by rfl, ?_⟩) ?_ ?_
  rotate_left
  · intro w'
    go_simp
    with_reducible rfl
  rotate_left
  · simp only [Act.put, List.setIfInBounds_toArray, List.set_cons_zero, List.set_cons_succ, i64_w, i32_w]
    rfl
  refine pure_ (i := 3) (N := some 81) (v := ?_) (a' := ?_) #[true, true, true, true, false, false, false, false, false, false, false, false, false, false] rfl rfl (any_of HT_.out (by kernel_rfl)) (fun _ _ _ h => h) (Or.inl ⟨by rfl, ?_⟩) ?_ ?_
  rotate_left
  · intro w'
    go_simp
    with_reducible rfl
  rotate_left
  · simp only [Act.put, List.setIfInBounds_toArray, List.set_cons_zero, List.set_cons_succ, i64_w, i32_w]
    rfl
  refine pure_ (i := 5) (N := some 83) (v := ?_) (a' := ?_) #[true, true, true, true, false, true, false, false, false, false, false, false, false, false] rfl rfl (any_of HT_.out (by kernel_rfl)) (fun _ _ _ h => h) (Or.inl ⟨by rfl, ?_⟩) ?_ ?_
  rotate_left
  · intro w'
    go_simp
    with_reducible rfl
  rotate_left
  · simp only [Act.put, List.setIfInBounds_toArray, List.set_cons_zero, List.set_cons_succ, i64_w, i32_w]
    rfl
  refine pure_ (i := 6) (N := some 84) (v := ?_) (a' := ?_) #[true, true, true, true, false, true, true, false, false, false, false, false, false, false] rfl rfl (any_of HT_.out (by kernel_rfl)) (fun _ _ _ h => h) (Or.inl ⟨by rfl, ?_⟩) ?_ ?_
  rotate_left
  · intro w'
    go_simp
    with_reducible rfl
  rotate_left
  · simp only [Act.put, List.setIfInBounds_toArray, List.set_cons_zero, List.set_cons_succ, i64_w, i32_w]
    rfl
  refine pure_ (i := 7) (N := some 85) (v := ?_) (a' := ?_) #[true, true, true, true, false, true, true, true, false, false, false, false, false, false] rfl rfl (any_of HT_.out (by kernel_rfl)) (fun _ _ _ h => h) (Or.inl ⟨by rfl, ?_⟩) ?_ ?_
  rotate_left
  · intro w'
    go_simp
    with_reducible rfl
  rotate_left
  · simp only [Act.put, List.setIfInBounds_toArray, List.set_cons_zero, List.set_cons_succ, i64_w, i32_w]
    rfl
  refine pure_ (i := 8) (N := some 86) (v := ?_) (a' := ?_) #[true, true, true, true, false, true, true, true, true, false, false, false, false, false] rfl rfl (any_of HT_.out (by kernel_rfl)) (fun _ _ _ h => h) (Or.inl ⟨by rfl, ?_⟩) ?_ ?_
  rotate_left
  · intro w'
    go_simp
    with_reducible rfl
  rotate_left
  · simp only [Act.put, List.setIfInBounds_toArray, List.set_cons_zero, List.set_cons_succ, i64_w, i32_w]
    rfl
  refine pure_ (i := 9) (N := some 87) (v := ?_) (a' := ?_) #[true, true, true, true, false, true, true, true, true, true, false, false, false, false] rfl rfl (any_of HT_.out (by kernel_rfl)) (fun _ _ _ h => h) (Or.inl ⟨by rfl, ?_⟩) ?_ ?_
  rotate_left
  · intro w'
    go_simp
    with_reducible rfl
  rotate_left
  · simp only [Act.put, List.setIfInBounds_toArray, List.set_cons_zero, List.set_cons_succ, i64_w, i32_w]
    rfl
  refine take_ (i := 4) (N := some 82) (v := ?_) (a' := ?_) #[true, true, true, true, true, true, true, true, true, true, false, false, false, false] rfl rfl (take_ofW HT_.out HW_.out (by kernel_rfl)) (fun _ _ _ h => h) (Or.inl ⟨by rfl, ?_⟩) hHeld ?_ ?_
  rotate_left
  · intro w' s0
    go_simp
    with_reducible rfl
  rotate_left
  · simp only [Act.put, List.setIfInBounds_toArray, List.set_cons_zero, List.set_cons_succ, i64_w, i32_w]
    rfl
  refine pure_ (i := 10) (N := some 88) (v := ?_) (a' := ?_) #[true, true, true, true, true, true, true, true, true, true, true, false, false, false] rfl rfl (any_of HT_.out (by kernel_rfl)) (fun _ _ _ h => h) (Or.inl ⟨by rfl, ?_⟩) ?_ ?_
  rotate_left
  · intro w'
    go_simp
    with_reducible rfl
  rotate_left
  · simp only [Act.put, List.setIfInBounds_toArray, List.set_cons_zero, List.set_cons_succ, i64_w, i32_w]
    rfl
  refine last_ (i := 11) (N := none) #[true, true, true, true, true, true, true, true, true, true, true, true, false, false] rfl rfl (one_of HT_.out (by kernel_rfl)) (by decide) (fun K hK => ?_)
  refine skip_ (w1 := ?_) (by rfl) rfl ?_ ?_
  rotate_left
  · go_simp
    rfl
  refine hK.out _ _ ?_
  clear hK K
  refine pure_ (i := 12) (N := some 89) (v := ?_) (a' := ?_) #[true, true, true, true, true, true, true, true, true, true, true, true, true, false] rfl rfl (any_of HT_.out (by kernel_rfl)) (fun _ _ _ h => h) (Or.inl ⟨by rfl, ?_⟩) ?_ ?_
  rotate_left
  · intro w'
    go_simp
    with_reducible rfl
  rotate_left
  · simp only [Act.put, List.setIfInBounds_toArray, List.set_cons_zero, List.set_cons_succ, i64_w, i32_w]
    rfl
  refine last_ (i := 13) (N := none) #[true, true, true, true, true, true, true, true, true, true, true, true, true, true] rfl rfl (one_of HT_.out (by kernel_rfl)) (by decide) (fun K hK => ?_)
  refine skip_ (w1 := ?_) (by rfl) rfl ?_ ?_
  rotate_left
  · go_simp
    rfl
  refine hK.out _ _ ?_
  clear hK K
  refine done_ (done_of HT_.out (by kernel_rfl)) ?_
  go_wp2_with fail
  all_goals exact bodyPost_ret (v := .tuple #[.agg #[.int .i64 12, .string Z, .string ⟨#[]⟩, .int .i64 0, .int .u64 0, .int .u64 0, .slice A6 12 (c - R), .slice none 0 0], .int .i64 M, .bool true]) (by simp [results, Tryz.results16, go_sem, x0, x1, x2, x3, x4, x5, x6, x7,y0, y1, y2, y3, y4, y5, y6, y7, hlA, hlB]) rfl ⟨⟨A6, _, rfl, HS6.out _ (by refine bdrew ?_; (iterate 10 (refine bsS _ (by omega) ?_)); exact HBw2.out)⟩, (by refine bdrew ?_; (iterate 10 (refine bsS _ (by omega) ?_)); exact HBw2.out)⟩
theorem tk_12 (A : Option Addr) (c : Nat) (l : List UInt8) (w : World) (hs : SB w A c l) (hl : l.length ≤ 5000) (n : Nat) (hr : numOf l = ((n : Int) + 1, true)) (hle : n + 17 ≤ l.length) : TkOk 12 l ⟨((l.drop 4).take n).toArray⟩ ⟨#[]⟩ 0 0 0 ((l.drop (n + 5)).take 12) (n + 17) A c w := by
  cases h : (((n : Int) + 1) == 4) with
  | true => exact tk_12t A c l w hs hl n h hr hle
  | false => exact tk_12f A c l w hs hl n h hr hle
end Tk
end Go.Proofs.YtbpopaegfhcdpaaGreatDoor.X


/- spec.DocTake of code with scope, and where there is no value. (gen_tk.py) -/
set_option linter.unusedVariables false
set_option linter.unusedSimpArgs false
set_option maxRecDepth 100000
namespace Go.Proofs.YtbpopaegfhcdpaaGreatDoor.X
open Go.RowKit Go.Proofs.YtbpopaegfhcdpaaGreatDoorW.PrintLast Go.Proofs.YtbpopaegfhcdpaaGreatDoorW.PrintWords
open Go.Proofs.YtbpopaegfhcdpaaGreatDoor.PFnDocAnyLookup
namespace Tk
open Sp Al Av Aw Ck
def R16.T29 : Bool × List (List Nat × List Nat) := (true, [([], []), ([], []), ([1], [1]), ([2], [2]), ([0, 3], [0, 3]), ([4], [4]), ([], []), ([], []), ([7], [7]), ([], []), ([6, 8, 9], [6, 8, 9]), ([0, 1, 2, 3, 4, 5], []), ([11, 5, 0, 1, 2, 3, 4, 5], [5, 11]), ([0, 1, 2, 3, 4, 5, 6, 7, 8, 9, 10, 11, 12], []), ([13, 10, 12, 0, 1, 2, 3, 4, 5, 6, 7, 8, 9, 10, 11, 12], [10, 13])])
def R16.B29 : List Nat := [0, 0, 2, 6, 15, 31, 0, 0, 128, 0, 960, 63, 2111, 8191, 16383]
theorem R16.tab29 : rtab .any (opsOf Tryz.f16 29) = R16.T29 := by kernel_rfl
theorem R16.bits29 : waitsOk R16.T29.2 R16.B29 = true := by kernel_rfl
theorem kk_sum (kk R : Nat) (KK : Int) (h1 : R = kk + 9) (h2 : KK = ((kk + 5 : Nat) : Int)) (h : kk ≤ 5000) : wrap64 (4 + KK) = (R : Int) := by subst h1 h2; unfold wrap64; omega
theorem kk_sub (kk R Q : Nat) (h1 : R = kk + 9) (h2 : Q = kk + 8) (h : kk ≤ 5000) : wrap64 ((R : Int) - 1) = (Q : Int) := by subst h1 h2; unfold wrap64; omega
theorem kk_all (kk R m NN : Nat) (h1 : R = kk + 9) (h2 : kk + 9 + m = NN) (h : NN ≤ 5000) : wrap64 ((R : Int) + (m : Int)) = (NN : Int) := by subst h1 h2; unfold wrap64; omega
set_option maxHeartbeats 4000000 in
theorem tk_15a (A : Option Addr) (c : Nat) (l : List UInt8) (w : World) (hs : SB w A c l) (hl : l.length ≤ 5000) (NN : Nat) (hr : numOf l = ((NN : Int), true)) (h5 : 5 ≤ NN) (hN : NN ≤ l.length) (l1 : List UInt8) (e1 : l1 = (l.take NN).drop 4) (k : Int) (hk : spec_DocLen.f 5 2 (ints l1) = some (k, false)) : TkNo 15 l A c w := by
  unfold TkNo
  have hLE : spec_DocLen.f 5 15 (ints l) = some ((NN : Int), true) := by
    rw [len_doc 15 l (by simp), hr, decide_eq_true (by omega : (5 : Int) ≤ (NN : Int)), decide_eq_true (by omega : (NN : Int) ≤ (l.length : Int))]
    rfl
  have HLEN := Lib.hid (fun wx (hb : Below w.heap.size w wx) => lenC 5 15 A c l ((NN : Int)) (true) wx (hs.keep hb) hLE)
  have HNUM := Lib.hid (fun wx (hb : Below w.heap.size w wx) => docNumber A c l wx (hs.keep hb))
  rw [hr] at HNUM
  have hkb2 : NN ≤ 5000 := Nat.le_trans hN hl
  obtain ⟨A1, x1', s1⟩ := SB.cut (P := Tryz.prog) Tryz.underlying22 rfl rfl .i64 .i64 A c l 4 NN (by omega) hN hs.le
  have hl1 : l1.length = NN - 4 := by rw [e1, List.length_drop, List.length_take, Nat.min_eq_left hN]
  have HTX := Lib.hid (fun wx (hb : Below w.heap.size w wx) => lenC 5 2 A1 (c - 4) l1 _ _ wx (by rw [e1]; exact s1 wx (hs.keep hb)) hk)
  rw [hl1] at HTX
  have hz4 : ((NN : Int) == 4) = false := beq_eq_false_iff_ne.2 (by omega)
  obtain ⟨p, hp⟩ : ∃ p, p = l.length := ⟨_, rfl⟩
  rw [← hp] at HLEN HNUM x1'
  rw [← hp]
  obtain ⟨q1, hq1⟩ : ∃ q, q = NN - 4 := ⟨_, rfl⟩
  rw [← hq1] at x1' HTX
  have e1' : ∀ W : World, (Instr.slice 22 (.slice A p c) (some (.int .i64 4)) (some (.int .i64 (NN : Int))) none).run Tryz.prog W = .ok (.slice A1 q1 (c - 4)) W := x1'
  clear hkb2 hs hl hr h5 hN e1 hLE x1' s1 hl1 hk hp hq1
  go_enter Tryz.func16, Tryz.ntmps16
  go_wp2_with fail
  refine (HLEN.out _ (balloc (balloc (Below.refl _ _) (Nat.le_refl _) _) (by simp) _)).mono ?_
  rintro e w1 ⟨rfl, hb1⟩
  have hb1' : Below (w.heap.size + 1 + 1) ((w.alloc (.cells #[.int .i64 0, .string ⟨#[]⟩, .string ⟨#[]⟩, .int .i64 0, .int .u64 0, .int .u64 0, .slice none 0 0, .slice none 0 0] 27)).alloc (.cells #[.int .i64 15, .string ⟨#[]⟩, .string ⟨#[]⟩, .int .i64 0, .int .u64 0, .int .u64 0, .slice none 0 0, .slice none 0 0] 27)) w1 := by simpa using hb1
  have HB1 := Lib.hid hb1'
  clear hb1 hb1' HLEN
  go_wp2_with fail
  refine (HNUM.out w1 (twobox HB1.out).2.2.2.2).mono ?_
  rintro e w2 ⟨rfl, hb2⟩
  have hb2' : Below (w.heap.size + 1 + 1) ((w.alloc (.cells #[.int .i64 0, .string ⟨#[]⟩, .string ⟨#[]⟩, .int .i64 0, .int .u64 0, .int .u64 0, .slice none 0 0, .slice none 0 0] 27)).alloc (.cells #[.int .i64 15, .string ⟨#[]⟩, .string ⟨#[]⟩, .int .i64 0, .int .u64 0, .int .u64 0, .slice none 0 0, .slice none 0 0] 27)) w2 := HB1.out.trans (hb2.mono (by have h := HB1.out.size; simpa using h))
  clear hb2 HB1 HNUM
  obtain ⟨haw2, hbw2, hlA, hlB, hBw2⟩ := twobox (a := (.cells #[.int .i64 0, .string ⟨#[]⟩, .string ⟨#[]⟩, .int .i64 0, .int .u64 0, .int .u64 0, .slice none 0 0, .slice none 0 0] 27 (0, 0))) (b := (.cells #[.int .i64 15, .string ⟨#[]⟩, .string ⟨#[]⟩, .int .i64 0, .int .u64 0, .int .u64 0, .slice none 0 0, .slice none 0 0] 27 (0, 0))) hb2'
  obtain ⟨x0, x1, x2, x3, x4, x5, x6, x7, xf0, xf1, xf2, xf3, xf4, xf5, xf6, xf7⟩ := cells8 haw2
  obtain ⟨y0, y1, y2, y3, y4, y5, y6, y7, yf0, yf1, yf2, yf3, yf4, yf5, yf6, yf7⟩ := cells8 hbw2
  have HBw2 := Lib.hid hBw2
  clear haw2 hbw2 hBw2
  go_wp2_with fail
  refine (HTX.out w2 HBw2.out).mono ?_
  rintro e w3 ⟨rfl, hb3⟩
  have hb3' : Below (w.heap.size + 1 + 1) ((w.alloc (.cells #[.int .i64 0, .string ⟨#[]⟩, .string ⟨#[]⟩, .int .i64 0, .int .u64 0, .int .u64 0, .slice none 0 0, .slice none 0 0] 27)).alloc (.cells #[.int .i64 15, .string ⟨#[]⟩, .string ⟨#[]⟩, .int .i64 0, .int .u64 0, .int .u64 0, .slice none 0 0, .slice none 0 0] 27)) w3 := hb2'.trans (hb3.mono (by have h := hb2'.size; simpa using h))
  clear hb3 HTX hb2' HBw2 hlA hlB x0 xf0 y0 yf0 x1 xf1 y1 yf1 x2 xf2 y2 yf2 x3 xf3 y3 yf3 x4 xf4 y4 yf4 x5 xf5 y5 yf5 x6 xf6 y6 yf6 x7 xf7 y7 yf7
  obtain ⟨haw3, hbw3, hlA, hlB, hBw3⟩ := twobox (a := (.cells #[.int .i64 0, .string ⟨#[]⟩, .string ⟨#[]⟩, .int .i64 0, .int .u64 0, .int .u64 0, .slice none 0 0, .slice none 0 0] 27 (0, 0))) (b := (.cells #[.int .i64 15, .string ⟨#[]⟩, .string ⟨#[]⟩, .int .i64 0, .int .u64 0, .int .u64 0, .slice none 0 0, .slice none 0 0] 27 (0, 0))) hb3'
  obtain ⟨x0, x1, x2, x3, x4, x5, x6, x7, xf0, xf1, xf2, xf3, xf4, xf5, xf6, xf7⟩ := cells8 haw3
  obtain ⟨y0, y1, y2, y3, y4, y5, y6, y7, yf0, yf1, yf2, yf3, yf4, yf5, yf6, yf7⟩ := cells8 hbw3
  have HBw3 := Lib.hid hBw3
  clear haw3 hbw3 hBw3
  clear hb3'
  go_wp2_with fail
  all_goals exact bodyPost_ret (v := .tuple #[.agg #[.int .i64 0, .string ⟨#[]⟩, .string ⟨#[]⟩, .int .i64 0, .int .u64 0, .int .u64 0, .slice none 0 0, .slice none 0 0], .int .i64 0, .bool false]) (by simp [results, Tryz.results16, go_sem, x0, x1, x2, x3, x4, x5, x6, x7, hlA, hlB]) rfl ⟨rfl, (by (iterate 8 (refine bsS _ (by omega) ?_)); exact HBw3.out)⟩
set_option maxHeartbeats 4000000 in
theorem tk_15b (A : Option Addr) (c : Nat) (l : List UInt8) (w : World) (hs : SB w A c l) (hl : l.length ≤ 5000) (NN : Nat) (hr : numOf l = ((NN : Int), true)) (h5 : 5 ≤ NN) (hN : NN ≤ l.length) (l1 : List UInt8) (e1 : l1 = (l.take NN).drop 4) (kk : Nat) (hk : spec_DocLen.f 5 2 (ints l1) = some (((kk + 5 : Nat) : Int), true)) (hkk : kk + 9 ≤ NN) (l2 : List UInt8) (e2 : l2 = (l.take NN).drop (kk + 9)) (m : Int) (tm : Bool) (hm : spec_DocLen.f 5 3 (ints l2) = some (m, tm)) (hno : (!tm || decide (wrap64 (((kk + 9 : Nat) : Int) + m) ≠ (NN : Int))) = true) : TkNo 15 l A c w := by
  unfold TkNo
  have hLE : spec_DocLen.f 5 15 (ints l) = some ((NN : Int), true) := by
    rw [len_doc 15 l (by simp), hr, decide_eq_true (by omega : (5 : Int) ≤ (NN : Int)), decide_eq_true (by omega : (NN : Int) ≤ (l.length : Int))]
    rfl
  have HLEN := Lib.hid (fun wx (hb : Below w.heap.size w wx) => lenC 5 15 A c l ((NN : Int)) (true) wx (hs.keep hb) hLE)
  have HNUM := Lib.hid (fun wx (hb : Below w.heap.size w wx) => docNumber A c l wx (hs.keep hb))
  rw [hr] at HNUM
  have hkb2 : NN ≤ 5000 := Nat.le_trans hN hl
  obtain ⟨A1, x1', s1⟩ := SB.cut (P := Tryz.prog) Tryz.underlying22 rfl rfl .i64 .i64 A c l 4 NN (by omega) hN hs.le
  have hl1 : l1.length = NN - 4 := by rw [e1, List.length_drop, List.length_take, Nat.min_eq_left hN]
  have HTX := Lib.hid (fun wx (hb : Below w.heap.size w wx) => lenC 5 2 A1 (c - 4) l1 _ _ wx (by rw [e1]; exact s1 wx (hs.keep hb)) hk)
  rw [hl1] at HTX
  have hz4 : ((NN : Int) == 4) = false := beq_eq_false_iff_ne.2 (by omega)
  have hkb : kk ≤ 5000 := Nat.le_trans (Nat.le_trans (Nat.le_add_right kk 9) hkk) hkb2
  obtain ⟨A2, x2', s2⟩ := SB.cut (P := Tryz.prog) Tryz.underlying22 rfl rfl .i64 .i64 A c l (kk + 9) NN hkk hN hs.le
  have hl2 : l2.length = NN - (kk + 9) := by rw [e2, List.length_drop, List.length_take, Nat.min_eq_left hN]
  have HDX := Lib.hid (fun wx (hb : Below w.heap.size w wx) => lenC 5 3 A2 (c - (kk + 9)) l2 _ _ wx (by rw [e2]; exact s2 wx (hs.keep hb)) hm)
  rw [hl2] at HDX
  obtain ⟨p, hp⟩ : ∃ p, p = l.length := ⟨_, rfl⟩
  rw [← hp] at HLEN HNUM x1'
  rw [← hp]
  obtain ⟨q1, hq1⟩ : ∃ q, q = NN - 4 := ⟨_, rfl⟩
  rw [← hq1] at x1' HTX
  have e1' : ∀ W : World, (Instr.slice 22 (.slice A p c) (some (.int .i64 4)) (some (.int .i64 (NN : Int))) none).run Tryz.prog W = .ok (.slice A1 q1 (c - 4)) W := x1'
  obtain ⟨R, hR⟩ : ∃ q, q = kk + 9 := ⟨_, rfl⟩
  rw [← hp, ← hR] at x2'
  rw [← hR] at HDX
  obtain ⟨q2, hq2⟩ : ∃ q, q = NN - R := ⟨_, rfl⟩
  rw [← hq2] at x2' HDX
  obtain ⟨KK, hKK⟩ : ∃ q : Int, q = ((kk + 5 : Nat) : Int) := ⟨_, rfl⟩
  rw [← hKK] at HTX
  have e2' : ∀ W : World, (Instr.slice 22 (.slice A p c) (some (.int .i64 (R : Int))) (some (.int .i64 (NN : Int))) none).run Tryz.prog W = .ok (.slice A2 q2 (c - R)) W := x2'
  have i1 : wrap64 (4 + KK) = (R : Int) := kk_sum kk R KK hR hKK hkb
  have hsum : (wrap64 ((R : Int) + m) == (NN : Int)) = true → tm = false := by
    intro h
    have h2 := eq_of_beq h
    rw [hR] at h2
    cases tm with
    | false => rfl
    | true => rw [h2] at hno; simp at hno
  obtain ⟨sz, hsz⟩ : ∃ z, z = (wrap64 ((R : Int) + m) == (NN : Int)) := ⟨_, rfl⟩
  rw [← hsz] at hsum
  have hsz' := hsz.symm
  clear hkb2 hs hl hr h5 hN e1 hLE x1' s1 hl1 hk hp hq1 hkk e2 hm hno x2' s2 hl2 hR hq2 hKK hsz
  cases tm <;> cases sz <;> first | (exfalso; have := hsum rfl; cases this; done) | clear hsum
  all_goals
    go_enter Tryz.func16, Tryz.ntmps16
    go_wp2_with fail
    refine (HLEN.out _ (balloc (balloc (Below.refl _ _) (Nat.le_refl _) _) (by simp) _)).mono ?_
    rintro e w1 ⟨rfl, hb1⟩
    have hb1' : Below (w.heap.size + 1 + 1) ((w.alloc (.cells #[.int .i64 0, .string ⟨#[]⟩, .string ⟨#[]⟩, .int .i64 0, .int .u64 0, .int .u64 0, .slice none 0 0, .slice none 0 0] 27)).alloc (.cells #[.int .i64 15, .string ⟨#[]⟩, .string ⟨#[]⟩, .int .i64 0, .int .u64 0, .int .u64 0, .slice none 0 0, .slice none 0 0] 27)) w1 := by simpa using hb1
    have HB1 := Lib.hid hb1'
    clear hb1 hb1' HLEN
    go_wp2_with fail
    refine (HNUM.out w1 (twobox HB1.out).2.2.2.2).mono ?_
    rintro e w2 ⟨rfl, hb2⟩
    have hb2' : Below (w.heap.size + 1 + 1) ((w.alloc (.cells #[.int .i64 0, .string ⟨#[]⟩, .string ⟨#[]⟩, .int .i64 0, .int .u64 0, .int .u64 0, .slice none 0 0, .slice none 0 0] 27)).alloc (.cells #[.int .i64 15, .string ⟨#[]⟩, .string ⟨#[]⟩, .int .i64 0, .int .u64 0, .int .u64 0, .slice none 0 0, .slice none 0 0] 27)) w2 := HB1.out.trans (hb2.mono (by have h := HB1.out.size; simpa using h))
    clear hb2 HB1 HNUM
    obtain ⟨haw2, hbw2, hlA, hlB, hBw2⟩ := twobox (a := (.cells #[.int .i64 0, .string ⟨#[]⟩, .string ⟨#[]⟩, .int .i64 0, .int .u64 0, .int .u64 0, .slice none 0 0, .slice none 0 0] 27 (0, 0))) (b := (.cells #[.int .i64 15, .string ⟨#[]⟩, .string ⟨#[]⟩, .int .i64 0, .int .u64 0, .int .u64 0, .slice none 0 0, .slice none 0 0] 27 (0, 0))) hb2'
    obtain ⟨x0, x1, x2, x3, x4, x5, x6, x7, xf0, xf1, xf2, xf3, xf4, xf5, xf6, xf7⟩ := cells8 haw2
    obtain ⟨y0, y1, y2, y3, y4, y5, y6, y7, yf0, yf1, yf2, yf3, yf4, yf5, yf6, yf7⟩ := cells8 hbw2
    have HBw2 := Lib.hid hBw2
    clear haw2 hbw2 hBw2
    go_wp2_with fail
    refine (HTX.out w2 HBw2.out).mono ?_
    rintro e w3 ⟨rfl, hb3⟩
    have hb3' : Below (w.heap.size + 1 + 1) ((w.alloc (.cells #[.int .i64 0, .string ⟨#[]⟩, .string ⟨#[]⟩, .int .i64 0, .int .u64 0, .int .u64 0, .slice none 0 0, .slice none 0 0] 27)).alloc (.cells #[.int .i64 15, .string ⟨#[]⟩, .string ⟨#[]⟩, .int .i64 0, .int .u64 0, .int .u64 0, .slice none 0 0, .slice none 0 0] 27)) w3 := hb2'.trans (hb3.mono (by have h := hb2'.size; simpa using h))
    clear hb3 HTX hb2' HBw2 hlA hlB x0 xf0 y0 yf0 x1 xf1 y1 yf1 x2 xf2 y2 yf2 x3 xf3 y3 yf3 x4 xf4 y4 yf4 x5 xf5 y5 yf5 x6 xf6 y6 yf6 x7 xf7 y7 yf7
    obtain ⟨haw3, hbw3, hlA, hlB, hBw3⟩ := twobox (a := (.cells #[.int .i64 0, .string ⟨#[]⟩, .string ⟨#[]⟩, .int .i64 0, .int .u64 0, .int .u64 0, .slice none 0 0, .slice none 0 0] 27 (0, 0))) (b := (.cells #[.int .i64 15, .string ⟨#[]⟩, .string ⟨#[]⟩, .int .i64 0, .int .u64 0, .int .u64 0, .slice none 0 0, .slice none 0 0] 27 (0, 0))) hb3'
    obtain ⟨x0, x1, x2, x3, x4, x5, x6, x7, xf0, xf1, xf2, xf3, xf4, xf5, xf6, xf7⟩ := cells8 haw3
    obtain ⟨y0, y1, y2, y3, y4, y5, y6, y7, yf0, yf1, yf2, yf3, yf4, yf5, yf6, yf7⟩ := cells8 hbw3
    have HBw3 := Lib.hid hBw3
    clear haw3 hbw3 hBw3
    go_wp2_with fail
    refine (HDX.out w3 HBw3.out).mono ?_
    rintro e w4 ⟨rfl, hb4⟩
    have hb4' : Below (w.heap.size + 1 + 1) ((w.alloc (.cells #[.int .i64 0, .string ⟨#[]⟩, .string ⟨#[]⟩, .int .i64 0, .int .u64 0, .int .u64 0, .slice none 0 0, .slice none 0 0] 27)).alloc (.cells #[.int .i64 15, .string ⟨#[]⟩, .string ⟨#[]⟩, .int .i64 0, .int .u64 0, .int .u64 0, .slice none 0 0, .slice none 0 0] 27)) w4 := hb3'.trans (hb4.mono (by have h := hb3'.size; simpa using h))
    clear hb4 HDX hb3' HBw3 hlA hlB x0 xf0 y0 yf0 x1 xf1 y1 yf1 x2 xf2 y2 yf2 x3 xf3 y3 yf3 x4 xf4 y4 yf4 x5 xf5 y5 yf5 x6 xf6 y6 yf6 x7 xf7 y7 yf7
    obtain ⟨haw4, hbw4, hlA, hlB, hBw4⟩ := twobox (a := (.cells #[.int .i64 0, .string ⟨#[]⟩, .string ⟨#[]⟩, .int .i64 0, .int .u64 0, .int .u64 0, .slice none 0 0, .slice none 0 0] 27 (0, 0))) (b := (.cells #[.int .i64 15, .string ⟨#[]⟩, .string ⟨#[]⟩, .int .i64 0, .int .u64 0, .int .u64 0, .slice none 0 0, .slice none 0 0] 27 (0, 0))) hb4'
    obtain ⟨x0, x1, x2, x3, x4, x5, x6, x7, xf0, xf1, xf2, xf3, xf4, xf5, xf6, xf7⟩ := cells8 haw4
    obtain ⟨y0, y1, y2, y3, y4, y5, y6, y7, yf0, yf1, yf2, yf3, yf4, yf5, yf6, yf7⟩ := cells8 hbw4
    have HBw4 := Lib.hid hBw4
    clear haw4 hbw4 hBw4
    clear hb4'
    go_wp2_with fail
    all_goals exact bodyPost_ret (v := .tuple #[.agg #[.int .i64 0, .string ⟨#[]⟩, .string ⟨#[]⟩, .int .i64 0, .int .u64 0, .int .u64 0, .slice none 0 0, .slice none 0 0], .int .i64 0, .bool false]) (by simp [results, Tryz.results16, go_sem, x0, x1, x2, x3, x4, x5, x6, x7, hlA, hlB]) rfl ⟨rfl, (by (iterate 8 (refine bsS _ (by omega) ?_)); exact HBw4.out)⟩
set_option maxHeartbeats 8000000 in
theorem tk_15 (A : Option Addr) (c : Nat) (l : List UInt8) (w : World) (hs : SB w A c l) (hl : l.length ≤ 5000) (NN : Nat) (hr : numOf l = ((NN : Int), true)) (h5 : 5 ≤ NN) (hN : NN ≤ l.length) (l1 : List UInt8) (e1 : l1 = (l.take NN).drop 4) (kk : Nat) (hk : spec_DocLen.f 5 2 (ints l1) = some (((kk + 5 : Nat) : Int), true)) (hkk : kk + 9 ≤ NN) (l2 : List UInt8) (e2 : l2 = (l.take NN).drop (kk + 9)) (m : Nat) (hm : spec_DocLen.f 5 3 (ints l2) = some ((m : Int), true)) (hsum : kk + 9 + m = NN) : TkOk 15 l ⟨((l.drop 8).take kk).toArray⟩ ⟨#[]⟩ 0 0 0 ((l.take NN).drop (kk + 9)) NN A c w := by
  unfold TkOk
  have hLE : spec_DocLen.f 5 15 (ints l) = some ((NN : Int), true) := by
    rw [len_doc 15 l (by simp), hr, decide_eq_true (by omega : (5 : Int) ≤ (NN : Int)), decide_eq_true (by omega : (NN : Int) ≤ (l.length : Int))]
    rfl
  have HLEN := Lib.hid (fun wx (hb : Below w.heap.size w wx) => lenC 5 15 A c l ((NN : Int)) (true) wx (hs.keep hb) hLE)
  have HNUM := Lib.hid (fun wx (hb : Below w.heap.size w wx) => docNumber A c l wx (hs.keep hb))
  rw [hr] at HNUM
  have hkb2 : NN ≤ 5000 := Nat.le_trans hN hl
  obtain ⟨A1, x1', s1⟩ := SB.cut (P := Tryz.prog) Tryz.underlying22 rfl rfl .i64 .i64 A c l 4 NN (by omega) hN hs.le
  have hl1 : l1.length = NN - 4 := by rw [e1, List.length_drop, List.length_take, Nat.min_eq_left hN]
  have HTX := Lib.hid (fun wx (hb : Below w.heap.size w wx) => lenC 5 2 A1 (c - 4) l1 _ _ wx (by rw [e1]; exact s1 wx (hs.keep hb)) hk)
  rw [hl1] at HTX
  have hz4 : ((NN : Int) == 4) = false := beq_eq_false_iff_ne.2 (by omega)
  have hkb : kk ≤ 5000 := Nat.le_trans (Nat.le_trans (Nat.le_add_right kk 9) hkk) hkb2
  obtain ⟨A2, x2', s2⟩ := SB.cut (P := Tryz.prog) Tryz.underlying22 rfl rfl .i64 .i64 A c l (kk + 9) NN hkk hN hs.le
  have hl2 : l2.length = NN - (kk + 9) := by rw [e2, List.length_drop, List.length_take, Nat.min_eq_left hN]
  have HDX := Lib.hid (fun wx (hb : Below w.heap.size w wx) => lenC 5 3 A2 (c - (kk + 9)) l2 _ _ wx (by rw [e2]; exact s2 wx (hs.keep hb)) hm)
  rw [hl2] at HDX
  obtain ⟨A3, x3', s3⟩ := SB.cut (P := Tryz.prog) Tryz.underlying22 rfl rfl .i64 .i64 A c l 8 (kk + 8) (by omega) (by omega) hs.le
  obtain ⟨Z, hZ⟩ : ∃ z : ByteArray, z = ⟨((l.drop 8).take kk).toArray⟩ := ⟨_, rfl⟩
  have HCV : Hid (∀ W, Below w.heap.size w W → (convert 22 9 (.slice A3 kk (c - 8))).run Tryz.prog W = .ok (.string Z) W) := Lib.hid fun W h => by
    have h2 := str_of (s3 W (hs.keep h))
    rw [List.drop_take, show kk + 8 - 8 = kk from by omega] at h2
    rw [List.length_take, List.length_drop, Nat.min_eq_left (by omega)] at h2
    rw [hZ]; exact h2
  have HS6 : Hid (∀ W, Below w.heap.size w W → SB W A2 (c - (kk + 9)) ((l.take NN).drop (kk + 9))) := Lib.hid fun W h => s2 W (hs.keep h)
  have htl : ((l.take NN).drop (kk + 9)).length = NN - (kk + 9) := by rw [← e2]; exact hl2
  rw [htl, ← hZ]
  obtain ⟨bb, hbb⟩ : ∃ x, x = (l.take NN).drop (kk + 9) := ⟨_, rfl⟩
  rw [← hbb] at HS6 ⊢
  obtain ⟨p, hp⟩ : ∃ p, p = l.length := ⟨_, rfl⟩
  rw [← hp] at HLEN HNUM x1'
  rw [← hp]
  obtain ⟨q1, hq1⟩ : ∃ q, q = NN - 4 := ⟨_, rfl⟩
  rw [← hq1] at x1' HTX
  have e1' : ∀ W : World, (Instr.slice 22 (.slice A p c) (some (.int .i64 4)) (some (.int .i64 (NN : Int))) none).run Tryz.prog W = .ok (.slice A1 q1 (c - 4)) W := x1'
  obtain ⟨R, hR⟩ : ∃ q, q = kk + 9 := ⟨_, rfl⟩
  rw [← hp, ← hR] at x2'
  rw [← hR] at HDX
  obtain ⟨q2, hq2⟩ : ∃ q, q = NN - R := ⟨_, rfl⟩
  rw [← hq2] at x2' HDX
  obtain ⟨KK, hKK⟩ : ∃ q : Int, q = ((kk + 5 : Nat) : Int) := ⟨_, rfl⟩
  rw [← hKK] at HTX
  rw [← hR] at HS6
  rw [← hR, ← hq2]
  obtain ⟨Q, hQ⟩ : ∃ q, q = kk + 8 := ⟨_, rfl⟩
  rw [← hp, ← hQ, show Q - 8 = kk from by omega] at x3'
  have e2' : ∀ W : World, (Instr.slice 22 (.slice A p c) (some (.int .i64 (R : Int))) (some (.int .i64 (NN : Int))) none).run Tryz.prog W = .ok (.slice A2 q2 (c - R)) W := x2'
  have e3' : ∀ W : World, (Instr.slice 22 (.slice A p c) (some (.int .i64 8)) (some (.int .i64 (Q : Int))) none).run Tryz.prog W = .ok (.slice A3 kk (c - 8)) W := x3'
  have i2 : wrap64 ((R : Int) - 1) = (Q : Int) := kk_sub kk R Q hR hQ hkb
  have i3 : wrap64 ((R : Int) + (m : Int)) = (NN : Int) := kk_all kk R m NN hR hsum hkb2
  have i1 : wrap64 (4 + KK) = (R : Int) := kk_sum kk R KK hR hKK hkb
  clear hkb2 hs hl hr h5 hN e1 hLE x1' s1 hl1 hk hp hq1 hkk e2 hm x2' s2 hl2 hR hq2 hKK hsum x3' s3 hZ htl hbb hQ
  go_enter Tryz.func16, Tryz.ntmps16
  go_wp2_with fail
  refine (HLEN.out _ (balloc (balloc (Below.refl _ _) (Nat.le_refl _) _) (by simp) _)).mono ?_
  rintro e w1 ⟨rfl, hb1⟩
  have hb1' : Below (w.heap.size + 1 + 1) ((w.alloc (.cells #[.int .i64 0, .string ⟨#[]⟩, .string ⟨#[]⟩, .int .i64 0, .int .u64 0, .int .u64 0, .slice none 0 0, .slice none 0 0] 27)).alloc (.cells #[.int .i64 15, .string ⟨#[]⟩, .string ⟨#[]⟩, .int .i64 0, .int .u64 0, .int .u64 0, .slice none 0 0, .slice none 0 0] 27)) w1 := by simpa using hb1
  have HB1 := Lib.hid hb1'
  clear hb1 hb1' HLEN
  go_wp2_with fail
  refine (HNUM.out w1 (twobox HB1.out).2.2.2.2).mono ?_
  rintro e w2 ⟨rfl, hb2⟩
  have hb2' : Below (w.heap.size + 1 + 1) ((w.alloc (.cells #[.int .i64 0, .string ⟨#[]⟩, .string ⟨#[]⟩, .int .i64 0, .int .u64 0, .int .u64 0, .slice none 0 0, .slice none 0 0] 27)).alloc (.cells #[.int .i64 15, .string ⟨#[]⟩, .string ⟨#[]⟩, .int .i64 0, .int .u64 0, .int .u64 0, .slice none 0 0, .slice none 0 0] 27)) w2 := HB1.out.trans (hb2.mono (by have h := HB1.out.size; simpa using h))
  clear hb2 HB1 HNUM
  obtain ⟨haw2, hbw2, hlA, hlB, hBw2⟩ := twobox (a := (.cells #[.int .i64 0, .string ⟨#[]⟩, .string ⟨#[]⟩, .int .i64 0, .int .u64 0, .int .u64 0, .slice none 0 0, .slice none 0 0] 27 (0, 0))) (b := (.cells #[.int .i64 15, .string ⟨#[]⟩, .string ⟨#[]⟩, .int .i64 0, .int .u64 0, .int .u64 0, .slice none 0 0, .slice none 0 0] 27 (0, 0))) hb2'
  obtain ⟨x0, x1, x2, x3, x4, x5, x6, x7, xf0, xf1, xf2, xf3, xf4, xf5, xf6, xf7⟩ := cells8 haw2
  obtain ⟨y0, y1, y2, y3, y4, y5, y6, y7, yf0, yf1, yf2, yf3, yf4, yf5, yf6, yf7⟩ := cells8 hbw2
  have HBw2 := Lib.hid hBw2
  clear haw2 hbw2 hBw2
  go_wp2_with fail
  refine (HTX.out w2 HBw2.out).mono ?_
  rintro e w3 ⟨rfl, hb3⟩
  have hb3' : Below (w.heap.size + 1 + 1) ((w.alloc (.cells #[.int .i64 0, .string ⟨#[]⟩, .string ⟨#[]⟩, .int .i64 0, .int .u64 0, .int .u64 0, .slice none 0 0, .slice none 0 0] 27)).alloc (.cells #[.int .i64 15, .string ⟨#[]⟩, .string ⟨#[]⟩, .int .i64 0, .int .u64 0, .int .u64 0, .slice none 0 0, .slice none 0 0] 27)) w3 := hb2'.trans (hb3.mono (by have h := hb2'.size; simpa using h))
  clear hb3 HTX hb2' HBw2 hlA hlB x0 xf0 y0 yf0 x1 xf1 y1 yf1 x2 xf2 y2 yf2 x3 xf3 y3 yf3 x4 xf4 y4 yf4 x5 xf5 y5 yf5 x6 xf6 y6 yf6 x7 xf7 y7 yf7
  obtain ⟨haw3, hbw3, hlA, hlB, hBw3⟩ := twobox (a := (.cells #[.int .i64 0, .string ⟨#[]⟩, .string ⟨#[]⟩, .int .i64 0, .int .u64 0, .int .u64 0, .slice none 0 0, .slice none 0 0] 27 (0, 0))) (b := (.cells #[.int .i64 15, .string ⟨#[]⟩, .string ⟨#[]⟩, .int .i64 0, .int .u64 0, .int .u64 0, .slice none 0 0, .slice none 0 0] 27 (0, 0))) hb3'
  obtain ⟨x0, x1, x2, x3, x4, x5, x6, x7, xf0, xf1, xf2, xf3, xf4, xf5, xf6, xf7⟩ := cells8 haw3
  obtain ⟨y0, y1, y2, y3, y4, y5, y6, y7, yf0, yf1, yf2, yf3, yf4, yf5, yf6, yf7⟩ := cells8 hbw3
  have HBw3 := Lib.hid hBw3
  clear haw3 hbw3 hBw3
  go_wp2_with fail
  refine (HDX.out w3 HBw3.out).mono ?_
  rintro e w4 ⟨rfl, hb4⟩
  have hb4' : Below (w.heap.size + 1 + 1) ((w.alloc (.cells #[.int .i64 0, .string ⟨#[]⟩, .string ⟨#[]⟩, .int .i64 0, .int .u64 0, .int .u64 0, .slice none 0 0, .slice none 0 0] 27)).alloc (.cells #[.int .i64 15, .string ⟨#[]⟩, .string ⟨#[]⟩, .int .i64 0, .int .u64 0, .int .u64 0, .slice none 0 0, .slice none 0 0] 27)) w4 := hb3'.trans (hb4.mono (by have h := hb3'.size; simpa using h))
  clear hb4 HDX hb3' HBw3 hlA hlB x0 xf0 y0 yf0 x1 xf1 y1 yf1 x2 xf2 y2 yf2 x3 xf3 y3 yf3 x4 xf4 y4 yf4 x5 xf5 y5 yf5 x6 xf6 y6 yf6 x7 xf7 y7 yf7
  obtain ⟨haw4, hbw4, hlA, hlB, hBw4⟩ := twobox (a := (.cells #[.int .i64 0, .string ⟨#[]⟩, .string ⟨#[]⟩, .int .i64 0, .int .u64 0, .int .u64 0, .slice none 0 0, .slice none 0 0] 27 (0, 0))) (b := (.cells #[.int .i64 15, .string ⟨#[]⟩, .string ⟨#[]⟩, .int .i64 0, .int .u64 0, .int .u64 0, .slice none 0 0, .slice none 0 0] 27 (0, 0))) hb4'
  obtain ⟨x0, x1, x2, x3, x4, x5, x6, x7, xf0, xf1, xf2, xf3, xf4, xf5, xf6, xf7⟩ := cells8 haw4
  obtain ⟨y0, y1, y2, y3, y4, y5, y6, y7, yf0, yf1, yf2, yf3, yf4, yf5, yf6, yf7⟩ := cells8 hbw4
  have HBw4 := Lib.hid hBw4
  clear haw4 hbw4 hBw4
  clear hb4'
  go_wp2_with fail
  refine start_ (n := 15) (S := fun w' => (convert 22 9 (.slice A3 kk (c - 8))).run Tryz.prog w' = .ok (.string Z) w') (ds := [12, 14]) #[false, false, false, false, false, false, false, false, false, false, false, false, false, false, false] (by kernel_rfl) rfl rfl ((HCV.out _ (bdrew HBw4.out))) (fun hHeld => ?_)
  refine with_tabW R16.tab29 R16.bits29 (fun HT_ HW_ => ?_)
  refine pure_ (i := 0) (N := some 122) (v := ?_) (a' := ?_) #[true, false, false, false, false, false, false, false, false, false, false, false, false, false, false] rfl rfl (any_of HT_.out (by kernel_rfl)) (fun _ _ _ h => h) (Or.inl ⟨by rfl, ?_⟩) ?_ ?_
  rotate_left
  · intro w'
    go_simp
    with_reducible rfl
  rotate_left
  · simp only [Act.put, List.setIfInBounds_toArray, List.set_cons_zero, List.set_cons_succ, i64_w, i32_w]
    rfl
  refine pure_ (i := 1) (N := some 123) (v := ?_) (a' := ?_) #[true, true, false, false, false, false, false, false, false, false, false, false, false, false, false] rfl rfl (any_of HT_.out (by kernel_rfl)) (fun _ _ _ h => h) (Or.inl ⟨by rfl, ?_⟩) ?_ ?_
  rotate_left
  · intro w'
    go_simp
    with_reducible rfl
  rotate_left
  · simp only [Act.put, List.setIfInBounds_toArray, List.set_cons_zero, List.set_cons_succ, i64_w, i32_w]
    rfl
  refine pure_ (i := 2) (N := some 124) (v := ?_) (a' := ?_) #[true, true, true, false, false, false, false, false, false, false, false, false, false, false, false] rfl rfl (any_of HT_.out (by kernel_rfl)) (fun _ _ _ h => h) (Or.inl ⟨by rfl, ?_⟩) ?_ ?_
  rotate_left
  · intro w'
    go_simp
    with_reducible rfl
  rotate_left
  · simp only [Act.put, List.setIfInBounds_toArray, List.set_cons_zero, List.set_cons_succ, i64_w, i32_w]
    rfl
  refine pure_ (i := 3) (N := some 125) (v := ?_) (a' := ?_) #[true, true, true, true, false, false, false, false, false, false, false, false, false, false, false] rfl rfl (any_of HT_.out (by kernel_rfl)) (fun _ _ _ h => h) (Or.inl ⟨by rfl, ?_⟩) ?_ ?_
  rotate_left
  · intro w'
    go_simp
    with_reducible rfl
  rotate_left
  · simp only [Act.put, List.setIfInBounds_toArray, List.set_cons_zero, List.set_cons_succ, i64_w, i32_w]
    rfl
  refine pure_ (i := 4) (N := some 126) (v := ?_) (a' := ?_) #[true, true, true, true, true, false, false, false, false, false, false, false, false, false, false] rfl rfl (any_of HT_.out (by kernel_rfl)) (fun _ _ _ h => h) (Or.inl ⟨by rfl, ?_⟩) ?_ ?_
  rotate_left
  · intro w'
    go_simp
    with_reducible rfl
  rotate_left
  · simp only [Act.put, List.setIfInBounds_toArray, List.set_cons_zero, List.set_cons_succ, i64_w, i32_w]
    rfl
  refine pure_ (i := 6) (N := some 128) (v := ?_) (a' := ?_) #[true, true, true, true, true, false, true, false, false, false, false, false, false, false, false] rfl rfl (any_of HT_.out (by kernel_rfl)) (fun _ _ _ h => h) (Or.inl ⟨by rfl, ?_⟩) ?_ ?_
  rotate_left
  · intro w'
    go_simp
    with_reducible rfl
  rotate_left
  · simp only [Act.put, List.setIfInBounds_toArray, List.set_cons_zero, List.set_cons_succ, i64_w, i32_w]
    rfl
  refine pure_ (i := 7) (N := some 129) (v := ?_) (a' := ?_) #[true, true, true, true, true, false, true, true, false, false, false, false, false, false, false] rfl rfl (any_of HT_.out (by kernel_rfl)) (fun _ _ _ h => h) (Or.inl ⟨by rfl, ?_⟩) ?_ ?_
  rotate_left
  · intro w'
    go_simp
    with_reducible rfl
  rotate_left
  · simp only [Act.put, List.setIfInBounds_toArray, List.set_cons_zero, List.set_cons_succ, i64_w, i32_w]
    rfl
  refine pure_ (i := 8) (N := some 130) (v := ?_) (a' := ?_) #[true, true, true, true, true, false, true, true, true, false, false, false, false, false, false] rfl rfl (any_of HT_.out (by kernel_rfl)) (fun _ _ _ h => h) (Or.inl ⟨by rfl, ?_⟩) ?_ ?_
  rotate_left
  · intro w'
    go_simp
    with_reducible rfl
  rotate_left
  · simp only [Act.put, List.setIfInBounds_toArray, List.set_cons_zero, List.set_cons_succ, i64_w, i32_w]
    rfl
  refine pure_ (i := 9) (N := some 131) (v := ?_) (a' := ?_) #[true, true, true, true, true, false, true, true, true, true, false, false, false, false, false] rfl rfl (any_of HT_.out (by kernel_rfl)) (fun _ _ _ h => h) (Or.inl ⟨by rfl, ?_⟩) ?_ ?_
  rotate_left
  · intro w'
    go_simp
    with_reducible rfl
  rotate_left
  · simp only [Act.put, List.setIfInBounds_toArray, List.set_cons_zero, List.set_cons_succ, i64_w, i32_w]
    rfl
  refine pure_ (i := 10) (N := some 132) (v := ?_) (a' := ?_) #[true, true, true, true, true, false, true, true, true, true, true, false, false, false, false] rfl rfl (any_of HT_.out (by kernel_rfl)) (fun _ _ _ h => h) (Or.inl ⟨by rfl, ?_⟩) ?_ ?_
  rotate_left
  · intro w'
    go_simp
    with_reducible rfl
  rotate_left
  · simp only [Act.put, List.setIfInBounds_toArray, List.set_cons_zero, List.set_cons_succ, i64_w, i32_w]
    rfl
  refine take_ (i := 5) (N := some 127) (v := ?_) (a' := ?_) #[true, true, true, true, true, true, true, true, true, true, true, false, false, false, false] rfl rfl (take_ofW HT_.out HW_.out (by kernel_rfl)) (fun _ _ _ h => h) (Or.inl ⟨by rfl, ?_⟩) hHeld ?_ ?_
  rotate_left
  · intro w' s0
    go_simp
    with_reducible rfl
  rotate_left
  · simp only [Act.put, List.setIfInBounds_toArray, List.set_cons_zero, List.set_cons_succ, i64_w, i32_w]
    rfl
  refine pure_ (i := 11) (N := some 133) (v := ?_) (a' := ?_) #[true, true, true, true, true, true, true, true, true, true, true, true, false, false, false] rfl rfl (any_of HT_.out (by kernel_rfl)) (fun _ _ _ h => h) (Or.inl ⟨by rfl, ?_⟩) ?_ ?_
  rotate_left
  · intro w'
    go_simp
    with_reducible rfl
  rotate_left
  · simp only [Act.put, List.setIfInBounds_toArray, List.set_cons_zero, List.set_cons_succ, i64_w, i32_w]
    rfl
  refine last_ (i := 12) (N := none) #[true, true, true, true, true, true, true, true, true, true, true, true, true, false, false] rfl rfl (one_of HT_.out (by kernel_rfl)) (by decide) (fun K hK => ?_)
  refine skip_ (w1 := ?_) (by rfl) rfl ?_ ?_
  rotate_left
  · go_simp
    rfl
  refine hK.out _ _ ?_
  clear hK K
  refine pure_ (i := 13) (N := some 134) (v := ?_) (a' := ?_) #[true, true, true, true, true, true, true, true, true, true, true, true, true, true, false] rfl rfl (any_of HT_.out (by kernel_rfl)) (fun _ _ _ h => h) (Or.inl ⟨by rfl, ?_⟩) ?_ ?_
  rotate_left
  · intro w'
    go_simp
    with_reducible rfl
  rotate_left
  · simp only [Act.put, List.setIfInBounds_toArray, List.set_cons_zero, List.set_cons_succ, i64_w, i32_w]
    rfl
  refine last_ (i := 14) (N := none) #[true, true, true, true, true, true, true, true, true, true, true, true, true, true, true] rfl rfl (one_of HT_.out (by kernel_rfl)) (by decide) (fun K hK => ?_)
  refine skip_ (w1 := ?_) (by rfl) rfl ?_ ?_
  rotate_left
  · go_simp
    rfl
  refine hK.out _ _ ?_
  clear hK K
  refine done_ (done_of HT_.out (by kernel_rfl)) ?_
  go_wp2_with fail
  all_goals exact bodyPost_ret (v := .tuple #[.agg #[.int .i64 15, .string Z, .string ⟨#[]⟩, .int .i64 0, .int .u64 0, .int .u64 0, .slice A2 q2 (c - R), .slice none 0 0], .int .i64 NN, .bool true]) (by simp [results, Tryz.results16, go_sem, x0, x1, x2, x3, x4, x5, x6, x7,y0, y1, y2, y3, y4, y5, y6, y7, hlA, hlB]) rfl ⟨⟨A2, _, rfl, HS6.out _ (by refine bdrew ?_; (iterate 10 (refine bsS _ (by omega) ?_)); exact HBw4.out)⟩, (by refine bdrew ?_; (iterate 10 (refine bsS _ (by omega) ?_)); exact HBw4.out)⟩
set_option maxHeartbeats 4000000 in
theorem tk_no (fu : Nat) (K : Int) (A : Option Addr) (c : Nat) (l : List UInt8) (w : World) (hs : SB w A c l) (hl : l.length ≤ 5000) (M : Int) (hLE : spec_DocLen.f fu K (ints l) = some (M, false)) (z3 z4 zz nb : Bool) (N : Int) (hnm : numOf l = (N, nb)) (e3 : (K == 3) = z3) (e4 : (K == 4) = z4) (ez : (N == 4) = zz) (hx : (nb && zz && (z3 || z4)) = false) : TkNo K l A c w := by
  unfold TkNo
  have HLEN := Lib.hid (fun wx (hb : Below w.heap.size w wx) => lenC fu K A c l (M) (false) wx (hs.keep hb) hLE)
  have HNUM := Lib.hid (fun wx (hb : Below w.heap.size w wx) => docNumber A c l wx (hs.keep hb))
  rw [hnm] at HNUM
  obtain ⟨p, hp⟩ : ∃ p, p = l.length := ⟨_, rfl⟩
  rw [← hp] at HLEN HNUM
  rw [← hp]
  clear hs hl hLE hnm hp
  cases nb <;> cases zz <;> cases z3 <;> cases z4 <;> first | (exfalso; revert hx; decide) | clear hx
  all_goals
    go_enter Tryz.func16, Tryz.ntmps16
    go_wp2_with fail
    refine (HLEN.out _ (balloc (balloc (Below.refl _ _) (Nat.le_refl _) _) (by simp) _)).mono ?_
    rintro e w1 ⟨rfl, hb1⟩
    have hb1' : Below (w.heap.size + 1 + 1) ((w.alloc (.cells #[.int .i64 0, .string ⟨#[]⟩, .string ⟨#[]⟩, .int .i64 0, .int .u64 0, .int .u64 0, .slice none 0 0, .slice none 0 0] 27)).alloc (.cells #[.int .i64 K, .string ⟨#[]⟩, .string ⟨#[]⟩, .int .i64 0, .int .u64 0, .int .u64 0, .slice none 0 0, .slice none 0 0] 27)) w1 := by simpa using hb1
    have HB1 := Lib.hid hb1'
    clear hb1 hb1' HLEN
    go_wp2_with fail
    refine (HNUM.out w1 (twobox HB1.out).2.2.2.2).mono ?_
    rintro e w2 ⟨rfl, hb2⟩
    have hb2' : Below (w.heap.size + 1 + 1) ((w.alloc (.cells #[.int .i64 0, .string ⟨#[]⟩, .string ⟨#[]⟩, .int .i64 0, .int .u64 0, .int .u64 0, .slice none 0 0, .slice none 0 0] 27)).alloc (.cells #[.int .i64 K, .string ⟨#[]⟩, .string ⟨#[]⟩, .int .i64 0, .int .u64 0, .int .u64 0, .slice none 0 0, .slice none 0 0] 27)) w2 := HB1.out.trans (hb2.mono (by have h := HB1.out.size; simpa using h))
    clear hb2 HB1 HNUM
    obtain ⟨haw2, hbw2, hlA, hlB, hBw2⟩ := twobox (a := (.cells #[.int .i64 0, .string ⟨#[]⟩, .string ⟨#[]⟩, .int .i64 0, .int .u64 0, .int .u64 0, .slice none 0 0, .slice none 0 0] 27 (0, 0))) (b := (.cells #[.int .i64 K, .string ⟨#[]⟩, .string ⟨#[]⟩, .int .i64 0, .int .u64 0, .int .u64 0, .slice none 0 0, .slice none 0 0] 27 (0, 0))) hb2'
    obtain ⟨x0, x1, x2, x3, x4, x5, x6, x7, xf0, xf1, xf2, xf3, xf4, xf5, xf6, xf7⟩ := cells8 haw2
    obtain ⟨y0, y1, y2, y3, y4, y5, y6, y7, yf0, yf1, yf2, yf3, yf4, yf5, yf6, yf7⟩ := cells8 hbw2
    have HBw2 := Lib.hid hBw2
    clear haw2 hbw2 hBw2
    clear hb2'
    go_wp2_with fail
    all_goals exact bodyPost_ret (v := .tuple #[.agg #[.int .i64 0, .string ⟨#[]⟩, .string ⟨#[]⟩, .int .i64 0, .int .u64 0, .int .u64 0, .slice none 0 0, .slice none 0 0], .int .i64 0, .bool false]) (by simp [results, Tryz.results16, go_sem, x0, x1, x2, x3, x4, x5, x6, x7, hlA, hlB]) rfl ⟨rfl, (by (iterate 8 (refine bsS _ (by omega) ?_)); exact HBw2.out)⟩
end Tk
end Go.Proofs.YtbpopaegfhcdpaaGreatDoor.X


/- spec.docParse by kind. (gen_tk.py) -/
set_option linter.unusedVariables false
set_option linter.unusedSimpArgs false
set_option maxRecDepth 100000
namespace Go.Proofs.YtbpopaegfhcdpaaGreatDoor.X
open Go.RowKit Go.Proofs.YtbpopaegfhcdpaaGreatDoorW.PrintLast Go.Proofs.YtbpopaegfhcdpaaGreatDoorW.PrintWords
open Go.Proofs.YtbpopaegfhcdpaaGreatDoor.PFnDocAnyLookup
namespace Tk
open Sp Al Av Aw Ck

def PkOk (K : Int) (l : List UInt8) (text more : ByteArray) (n bits high : Int) (b : List UInt8) (cnt : Nat) (A : Option Addr) (c : Nat) (w : World) : Prop :=
  Calls Tryz.prog 110 #[.int .i64 K, .slice A l.length c, .int .i64 200] w fun e w' => (∃ A1 c1, e = .returned (.tuple #[.agg #[.int .i64 K, .string text, .string more, .int .i64 n, .int .u64 bits, .int .u64 high, .slice A1 b.length c1, .slice none 0 0], .int .i64 (cnt : Int), .bool true]) ∧ SB w' A1 c1 b) ∧ Below w.heap.size w w'
def PkNo (K : Int) (l : List UInt8) (A : Option Addr) (c : Nat) (w : World) : Prop :=
  Calls Tryz.prog 110 #[.int .i64 K, .slice A l.length c, .int .i64 200] w fun e w' => e = .returned (.tuple #[.agg #[.int .i64 0, .string ⟨#[]⟩, .string ⟨#[]⟩, .int .i64 0, .int .u64 0, .int .u64 0, .slice none 0 0, .slice none 0 0], .int .i64 0, .bool false]) ∧ Below w.heap.size w w'
set_option maxHeartbeats 4000000 in
theorem pk_6 (A : Option Addr) (c : Nat) (l : List UInt8) (w : World) (hs : SB w A c l) (hl : l.length ≤ 5000) : PkOk 6 l ⟨#[]⟩ ⟨#[]⟩ 0 0 0 [] 0 A c w := by
  unfold PkOk
  have hLE : spec_DocLen.f 5 6 (ints l) = some (((0 : Nat) : Int), true) := by
    rw [len_6, decide_eq_true (Nat.zero_le _)]
  have HLEN := Lib.hid (fun wx (hb : Below w.heap.size w wx) => lenC 5 6 A c l (((0 : Nat) : Int)) true wx (hs.keep hb) hLE)
  obtain ⟨p, hp⟩ : ∃ p, p = l.length := ⟨_, rfl⟩
  rw [← hp] at HLEN
  rw [← hp]
  clear hs hl hLE hp
  have h00 : ((0 : Nat) : Int) = 0 := rfl
  rw [h00] at HLEN ⊢
  clear h00
  go_enter Tryz.func110, Tryz.ntmps110
  go_wp2_with fail
  refine (HLEN.out _ (balloc (balloc (Below.refl _ _) (Nat.le_refl _) _) (by simp) _)).mono ?_
  rintro e w1 ⟨rfl, hb1⟩
  have hb1' : Below (w.heap.size + 1 + 1) ((w.alloc (.cells #[.int .i64 0, .string ⟨#[]⟩, .string ⟨#[]⟩, .int .i64 0, .int .u64 0, .int .u64 0, .slice none 0 0, .slice none 0 0] 27)).alloc (.cells #[.int .i64 6, .string ⟨#[]⟩, .string ⟨#[]⟩, .int .i64 0, .int .u64 0, .int .u64 0, .slice none 0 0, .slice none 0 0] 27)) w1 := by simpa using hb1
  clear hb1 HLEN
  obtain ⟨haw1, hbw1, hlA, hlB, hBw1⟩ := twobox (a := (.cells #[.int .i64 0, .string ⟨#[]⟩, .string ⟨#[]⟩, .int .i64 0, .int .u64 0, .int .u64 0, .slice none 0 0, .slice none 0 0] 27 (0, 0))) (b := (.cells #[.int .i64 6, .string ⟨#[]⟩, .string ⟨#[]⟩, .int .i64 0, .int .u64 0, .int .u64 0, .slice none 0 0, .slice none 0 0] 27 (0, 0))) hb1'
  obtain ⟨x0, x1, x2, x3, x4, x5, x6, x7, xf0, xf1, xf2, xf3, xf4, xf5, xf6, xf7⟩ := cells8 haw1
  obtain ⟨y0, y1, y2, y3, y4, y5, y6, y7, yf0, yf1, yf2, yf3, yf4, yf5, yf6, yf7⟩ := cells8 hbw1
  have HBw1 := Lib.hid hBw1
  clear haw1 hbw1 hBw1
  clear hb1'
  go_wp2_with fail
  all_goals exact bodyPost_ret (v := .tuple #[.agg #[.int .i64 6, .string ⟨#[]⟩, .string ⟨#[]⟩, .int .i64 0, .int .u64 0, .int .u64 0, .slice none 0 0, .slice none 0 0], .int .i64 0, .bool true]) (by simp [results, Tryz.results110, go_sem, x0, x1, x2, x3, x4, x5, x6, x7,y0, y1, y2, y3, y4, y5, y6, y7, hlA, hlB]) rfl ⟨⟨none, 0, rfl, SB.nil _⟩, (by (iterate 8 (refine bsS _ (by omega) ?_)); exact HBw1.out)⟩
set_option maxHeartbeats 4000000 in
theorem pk_10 (A : Option Addr) (c : Nat) (l : List UInt8) (w : World) (hs : SB w A c l) (hl : l.length ≤ 5000) : PkOk 10 l ⟨#[]⟩ ⟨#[]⟩ 0 0 0 [] 0 A c w := by
  unfold PkOk
  have hLE : spec_DocLen.f 5 10 (ints l) = some (((0 : Nat) : Int), true) := by
    rw [len_10, decide_eq_true (Nat.zero_le _)]
  have HLEN := Lib.hid (fun wx (hb : Below w.heap.size w wx) => lenC 5 10 A c l (((0 : Nat) : Int)) true wx (hs.keep hb) hLE)
  obtain ⟨p, hp⟩ : ∃ p, p = l.length := ⟨_, rfl⟩
  rw [← hp] at HLEN
  rw [← hp]
  clear hs hl hLE hp
  have h00 : ((0 : Nat) : Int) = 0 := rfl
  rw [h00] at HLEN ⊢
  clear h00
  go_enter Tryz.func110, Tryz.ntmps110
  go_wp2_with fail
  refine (HLEN.out _ (balloc (balloc (Below.refl _ _) (Nat.le_refl _) _) (by simp) _)).mono ?_
  rintro e w1 ⟨rfl, hb1⟩
  have hb1' : Below (w.heap.size + 1 + 1) ((w.alloc (.cells #[.int .i64 0, .string ⟨#[]⟩, .string ⟨#[]⟩, .int .i64 0, .int .u64 0, .int .u64 0, .slice none 0 0, .slice none 0 0] 27)).alloc (.cells #[.int .i64 10, .string ⟨#[]⟩, .string ⟨#[]⟩, .int .i64 0, .int .u64 0, .int .u64 0, .slice none 0 0, .slice none 0 0] 27)) w1 := by simpa using hb1
  clear hb1 HLEN
  obtain ⟨haw1, hbw1, hlA, hlB, hBw1⟩ := twobox (a := (.cells #[.int .i64 0, .string ⟨#[]⟩, .string ⟨#[]⟩, .int .i64 0, .int .u64 0, .int .u64 0, .slice none 0 0, .slice none 0 0] 27 (0, 0))) (b := (.cells #[.int .i64 10, .string ⟨#[]⟩, .string ⟨#[]⟩, .int .i64 0, .int .u64 0, .int .u64 0, .slice none 0 0, .slice none 0 0] 27 (0, 0))) hb1'
  obtain ⟨x0, x1, x2, x3, x4, x5, x6, x7, xf0, xf1, xf2, xf3, xf4, xf5, xf6, xf7⟩ := cells8 haw1
  obtain ⟨y0, y1, y2, y3, y4, y5, y6, y7, yf0, yf1, yf2, yf3, yf4, yf5, yf6, yf7⟩ := cells8 hbw1
  have HBw1 := Lib.hid hBw1
  clear haw1 hbw1 hBw1
  clear hb1'
  go_wp2_with fail
  all_goals exact bodyPost_ret (v := .tuple #[.agg #[.int .i64 10, .string ⟨#[]⟩, .string ⟨#[]⟩, .int .i64 0, .int .u64 0, .int .u64 0, .slice none 0 0, .slice none 0 0], .int .i64 0, .bool true]) (by simp [results, Tryz.results110, go_sem, x0, x1, x2, x3, x4, x5, x6, x7,y0, y1, y2, y3, y4, y5, y6, y7, hlA, hlB]) rfl ⟨⟨none, 0, rfl, SB.nil _⟩, (by (iterate 8 (refine bsS _ (by omega) ?_)); exact HBw1.out)⟩
set_option maxHeartbeats 4000000 in
theorem pk_255 (A : Option Addr) (c : Nat) (l : List UInt8) (w : World) (hs : SB w A c l) (hl : l.length ≤ 5000) : PkOk 255 l ⟨#[]⟩ ⟨#[]⟩ 0 0 0 [] 0 A c w := by
  unfold PkOk
  have hLE : spec_DocLen.f 5 255 (ints l) = some (((0 : Nat) : Int), true) := by
    rw [len_255, decide_eq_true (Nat.zero_le _)]
  have HLEN := Lib.hid (fun wx (hb : Below w.heap.size w wx) => lenC 5 255 A c l (((0 : Nat) : Int)) true wx (hs.keep hb) hLE)
  obtain ⟨p, hp⟩ : ∃ p, p = l.length := ⟨_, rfl⟩
  rw [← hp] at HLEN
  rw [← hp]
  clear hs hl hLE hp
  have h00 : ((0 : Nat) : Int) = 0 := rfl
  rw [h00] at HLEN ⊢
  clear h00
  go_enter Tryz.func110, Tryz.ntmps110
  go_wp2_with fail
  refine (HLEN.out _ (balloc (balloc (Below.refl _ _) (Nat.le_refl _) _) (by simp) _)).mono ?_
  rintro e w1 ⟨rfl, hb1⟩
  have hb1' : Below (w.heap.size + 1 + 1) ((w.alloc (.cells #[.int .i64 0, .string ⟨#[]⟩, .string ⟨#[]⟩, .int .i64 0, .int .u64 0, .int .u64 0, .slice none 0 0, .slice none 0 0] 27)).alloc (.cells #[.int .i64 255, .string ⟨#[]⟩, .string ⟨#[]⟩, .int .i64 0, .int .u64 0, .int .u64 0, .slice none 0 0, .slice none 0 0] 27)) w1 := by simpa using hb1
  clear hb1 HLEN
  obtain ⟨haw1, hbw1, hlA, hlB, hBw1⟩ := twobox (a := (.cells #[.int .i64 0, .string ⟨#[]⟩, .string ⟨#[]⟩, .int .i64 0, .int .u64 0, .int .u64 0, .slice none 0 0, .slice none 0 0] 27 (0, 0))) (b := (.cells #[.int .i64 255, .string ⟨#[]⟩, .string ⟨#[]⟩, .int .i64 0, .int .u64 0, .int .u64 0, .slice none 0 0, .slice none 0 0] 27 (0, 0))) hb1'
  obtain ⟨x0, x1, x2, x3, x4, x5, x6, x7, xf0, xf1, xf2, xf3, xf4, xf5, xf6, xf7⟩ := cells8 haw1
  obtain ⟨y0, y1, y2, y3, y4, y5, y6, y7, yf0, yf1, yf2, yf3, yf4, yf5, yf6, yf7⟩ := cells8 hbw1
  have HBw1 := Lib.hid hBw1
  clear haw1 hbw1 hBw1
  clear hb1'
  go_wp2_with fail
  all_goals exact bodyPost_ret (v := .tuple #[.agg #[.int .i64 255, .string ⟨#[]⟩, .string ⟨#[]⟩, .int .i64 0, .int .u64 0, .int .u64 0, .slice none 0 0, .slice none 0 0], .int .i64 0, .bool true]) (by simp [results, Tryz.results110, go_sem, x0, x1, x2, x3, x4, x5, x6, x7,y0, y1, y2, y3, y4, y5, y6, y7, hlA, hlB]) rfl ⟨⟨none, 0, rfl, SB.nil _⟩, (by (iterate 8 (refine bsS _ (by omega) ?_)); exact HBw1.out)⟩
set_option maxHeartbeats 4000000 in
theorem pk_127 (A : Option Addr) (c : Nat) (l : List UInt8) (w : World) (hs : SB w A c l) (hl : l.length ≤ 5000) : PkOk 127 l ⟨#[]⟩ ⟨#[]⟩ 0 0 0 [] 0 A c w := by
  unfold PkOk
  have hLE : spec_DocLen.f 5 127 (ints l) = some (((0 : Nat) : Int), true) := by
    rw [len_127, decide_eq_true (Nat.zero_le _)]
  have HLEN := Lib.hid (fun wx (hb : Below w.heap.size w wx) => lenC 5 127 A c l (((0 : Nat) : Int)) true wx (hs.keep hb) hLE)
  obtain ⟨p, hp⟩ : ∃ p, p = l.length := ⟨_, rfl⟩
  rw [← hp] at HLEN
  rw [← hp]
  clear hs hl hLE hp
  have h00 : ((0 : Nat) : Int) = 0 := rfl
  rw [h00] at HLEN ⊢
  clear h00
  go_enter Tryz.func110, Tryz.ntmps110
  go_wp2_with fail
  refine (HLEN.out _ (balloc (balloc (Below.refl _ _) (Nat.le_refl _) _) (by simp) _)).mono ?_
  rintro e w1 ⟨rfl, hb1⟩
  have hb1' : Below (w.heap.size + 1 + 1) ((w.alloc (.cells #[.int .i64 0, .string ⟨#[]⟩, .string ⟨#[]⟩, .int .i64 0, .int .u64 0, .int .u64 0, .slice none 0 0, .slice none 0 0] 27)).alloc (.cells #[.int .i64 127, .string ⟨#[]⟩, .string ⟨#[]⟩, .int .i64 0, .int .u64 0, .int .u64 0, .slice none 0 0, .slice none 0 0] 27)) w1 := by simpa using hb1
  clear hb1 HLEN
  obtain ⟨haw1, hbw1, hlA, hlB, hBw1⟩ := twobox (a := (.cells #[.int .i64 0, .string ⟨#[]⟩, .string ⟨#[]⟩, .int .i64 0, .int .u64 0, .int .u64 0, .slice none 0 0, .slice none 0 0] 27 (0, 0))) (b := (.cells #[.int .i64 127, .string ⟨#[]⟩, .string ⟨#[]⟩, .int .i64 0, .int .u64 0, .int .u64 0, .slice none 0 0, .slice none 0 0] 27 (0, 0))) hb1'
  obtain ⟨x0, x1, x2, x3, x4, x5, x6, x7, xf0, xf1, xf2, xf3, xf4, xf5, xf6, xf7⟩ := cells8 haw1
  obtain ⟨y0, y1, y2, y3, y4, y5, y6, y7, yf0, yf1, yf2, yf3, yf4, yf5, yf6, yf7⟩ := cells8 hbw1
  have HBw1 := Lib.hid hBw1
  clear haw1 hbw1 hBw1
  clear hb1'
  go_wp2_with fail
  all_goals exact bodyPost_ret (v := .tuple #[.agg #[.int .i64 127, .string ⟨#[]⟩, .string ⟨#[]⟩, .int .i64 0, .int .u64 0, .int .u64 0, .slice none 0 0, .slice none 0 0], .int .i64 0, .bool true]) (by simp [results, Tryz.results110, go_sem, x0, x1, x2, x3, x4, x5, x6, x7,y0, y1, y2, y3, y4, y5, y6, y7, hlA, hlB]) rfl ⟨⟨none, 0, rfl, SB.nil _⟩, (by (iterate 8 (refine bsS _ (by omega) ?_)); exact HBw1.out)⟩
set_option maxHeartbeats 4000000 in
theorem pk_1 (A : Option Addr) (c : Nat) (l : List UInt8) (w : World) (hs : SB w A c l) (hl : l.length ≤ 5000) (b0 b1 b2 b3 b4 b5 b6 b7 : UInt8) (r : List UInt8) (hlr : l = b0 :: b1 :: b2 :: b3 :: b4 :: b5 :: b6 :: b7 :: r) : PkOk 1 l ⟨#[]⟩ ⟨#[]⟩ 0 (Lib.leNat [b0, b1, b2, b3, b4, b5, b6, b7]) 0 [] 8 A c w := by
  unfold PkOk
  have hLE : spec_DocLen.f 5 1 (ints l) = some (((8 : Nat) : Int), true) := by
    rw [len_1, decide_eq_true (by rw [hlr]; simp)]
  have HLEN := Lib.hid (fun wx (hb : Below w.heap.size w wx) => lenC 5 1 A c l (((8 : Nat) : Int)) true wx (hs.keep hb) hLE)
  have HLG := Lib.hid (fun wx (hb : Below w.heap.size w wx) => docLong A c b0 b1 b2 b3 b4 b5 b6 b7 r wx (by rw [← hlr]; exact hs.keep hb))
  rw [← hlr] at HLG
  obtain ⟨p, hp⟩ : ∃ p, p = l.length := ⟨_, rfl⟩
  rw [← hp] at HLEN HLG
  rw [← hp]
  obtain ⟨NV, hNV⟩ : ∃ n : Nat, n = Lib.leNat [b0, b1, b2, b3, b4, b5, b6, b7] := ⟨_, rfl⟩
  rw [← hNV] at HLG ⊢
  clear hs hl hLE hp hlr hNV
  have h00 : ((8 : Nat) : Int) = 8 := rfl
  rw [h00] at HLEN ⊢
  clear h00
  go_enter Tryz.func110, Tryz.ntmps110
  go_wp2_with fail
  refine (HLEN.out _ (balloc (balloc (Below.refl _ _) (Nat.le_refl _) _) (by simp) _)).mono ?_
  rintro e w1 ⟨rfl, hb1⟩
  have hb1' : Below (w.heap.size + 1 + 1) ((w.alloc (.cells #[.int .i64 0, .string ⟨#[]⟩, .string ⟨#[]⟩, .int .i64 0, .int .u64 0, .int .u64 0, .slice none 0 0, .slice none 0 0] 27)).alloc (.cells #[.int .i64 1, .string ⟨#[]⟩, .string ⟨#[]⟩, .int .i64 0, .int .u64 0, .int .u64 0, .slice none 0 0, .slice none 0 0] 27)) w1 := by simpa using hb1
  clear hb1 HLEN
  obtain ⟨haw1, hbw1, hlA, hlB, hBw1⟩ := twobox (a := (.cells #[.int .i64 0, .string ⟨#[]⟩, .string ⟨#[]⟩, .int .i64 0, .int .u64 0, .int .u64 0, .slice none 0 0, .slice none 0 0] 27 (0, 0))) (b := (.cells #[.int .i64 1, .string ⟨#[]⟩, .string ⟨#[]⟩, .int .i64 0, .int .u64 0, .int .u64 0, .slice none 0 0, .slice none 0 0] 27 (0, 0))) hb1'
  obtain ⟨x0, x1, x2, x3, x4, x5, x6, x7, xf0, xf1, xf2, xf3, xf4, xf5, xf6, xf7⟩ := cells8 haw1
  obtain ⟨y0, y1, y2, y3, y4, y5, y6, y7, yf0, yf1, yf2, yf3, yf4, yf5, yf6, yf7⟩ := cells8 hbw1
  have HBw1 := Lib.hid hBw1
  clear haw1 hbw1 hBw1
  go_wp2_with fail
  refine (HLG.out w1 HBw1.out).mono ?_
  rintro e w2 ⟨rfl, hbw2⟩
  have hb2' : Below (w.heap.size + 1 + 1) ((w.alloc (.cells #[.int .i64 0, .string ⟨#[]⟩, .string ⟨#[]⟩, .int .i64 0, .int .u64 0, .int .u64 0, .slice none 0 0, .slice none 0 0] 27)).alloc (.cells #[.int .i64 1, .string ⟨#[]⟩, .string ⟨#[]⟩, .int .i64 0, .int .u64 0, .int .u64 0, .slice none 0 0, .slice none 0 0] 27)) w2 := hb1'.trans (hbw2.mono (by have h := hb1'.size; simpa using h))
  clear hbw2 HLG hb1' x0 xf0 y0 yf0 x1 xf1 y1 yf1 x2 xf2 y2 yf2 x3 xf3 y3 yf3 x4 xf4 y4 yf4 x5 xf5 y5 yf5 x6 xf6 y6 yf6 x7 xf7 y7 yf7 hlA hlB HBw1
  obtain ⟨haw2, hbw2, hlA, hlB, hBw2⟩ := twobox (a := (.cells #[.int .i64 0, .string ⟨#[]⟩, .string ⟨#[]⟩, .int .i64 0, .int .u64 0, .int .u64 0, .slice none 0 0, .slice none 0 0] 27 (0, 0))) (b := (.cells #[.int .i64 1, .string ⟨#[]⟩, .string ⟨#[]⟩, .int .i64 0, .int .u64 0, .int .u64 0, .slice none 0 0, .slice none 0 0] 27 (0, 0))) hb2'
  obtain ⟨x0, x1, x2, x3, x4, x5, x6, x7, xf0, xf1, xf2, xf3, xf4, xf5, xf6, xf7⟩ := cells8 haw2
  obtain ⟨y0, y1, y2, y3, y4, y5, y6, y7, yf0, yf1, yf2, yf3, yf4, yf5, yf6, yf7⟩ := cells8 hbw2
  have HBw2 := Lib.hid hBw2
  clear haw2 hbw2 hBw2
  clear hb2'
  go_wp2_with fail
  all_goals exact bodyPost_ret (v := .tuple #[.agg #[.int .i64 1, .string ⟨#[]⟩, .string ⟨#[]⟩, .int .i64 0, .int .u64 NV, .int .u64 0, .slice none 0 0, .slice none 0 0], .int .i64 8, .bool true]) (by simp [results, Tryz.results110, go_sem, x0, x1, x2, x3, x4, x5, x6, x7,y0, y1, y2, y3, y4, y5, y6, y7, hlA, hlB]) rfl ⟨⟨none, 0, rfl, SB.nil _⟩, (by (iterate 9 (refine bsS _ (by omega) ?_)); exact HBw2.out)⟩
set_option maxHeartbeats 4000000 in
theorem pk_17 (A : Option Addr) (c : Nat) (l : List UInt8) (w : World) (hs : SB w A c l) (hl : l.length ≤ 5000) (b0 b1 b2 b3 b4 b5 b6 b7 : UInt8) (r : List UInt8) (hlr : l = b0 :: b1 :: b2 :: b3 :: b4 :: b5 :: b6 :: b7 :: r) : PkOk 17 l ⟨#[]⟩ ⟨#[]⟩ 0 (Lib.leNat [b0, b1, b2, b3, b4, b5, b6, b7]) 0 [] 8 A c w := by
  unfold PkOk
  have hLE : spec_DocLen.f 5 17 (ints l) = some (((8 : Nat) : Int), true) := by
    rw [len_17, decide_eq_true (by rw [hlr]; simp)]
  have HLEN := Lib.hid (fun wx (hb : Below w.heap.size w wx) => lenC 5 17 A c l (((8 : Nat) : Int)) true wx (hs.keep hb) hLE)
  have HLG := Lib.hid (fun wx (hb : Below w.heap.size w wx) => docLong A c b0 b1 b2 b3 b4 b5 b6 b7 r wx (by rw [← hlr]; exact hs.keep hb))
  rw [← hlr] at HLG
  obtain ⟨p, hp⟩ : ∃ p, p = l.length := ⟨_, rfl⟩
  rw [← hp] at HLEN HLG
  rw [← hp]
  obtain ⟨NV, hNV⟩ : ∃ n : Nat, n = Lib.leNat [b0, b1, b2, b3, b4, b5, b6, b7] := ⟨_, rfl⟩
  rw [← hNV] at HLG ⊢
  clear hs hl hLE hp hlr hNV
  have h00 : ((8 : Nat) : Int) = 8 := rfl
  rw [h00] at HLEN ⊢
  clear h00
  go_enter Tryz.func110, Tryz.ntmps110
  go_wp2_with fail
  refine (HLEN.out _ (balloc (balloc (Below.refl _ _) (Nat.le_refl _) _) (by simp) _)).mono ?_
  rintro e w1 ⟨rfl, hb1⟩
  have hb1' : Below (w.heap.size + 1 + 1) ((w.alloc (.cells #[.int .i64 0, .string ⟨#[]⟩, .string ⟨#[]⟩, .int .i64 0, .int .u64 0, .int .u64 0, .slice none 0 0, .slice none 0 0] 27)).alloc (.cells #[.int .i64 17, .string ⟨#[]⟩, .string ⟨#[]⟩, .int .i64 0, .int .u64 0, .int .u64 0, .slice none 0 0, .slice none 0 0] 27)) w1 := by simpa using hb1
  clear hb1 HLEN
  obtain ⟨haw1, hbw1, hlA, hlB, hBw1⟩ := twobox (a := (.cells #[.int .i64 0, .string ⟨#[]⟩, .string ⟨#[]⟩, .int .i64 0, .int .u64 0, .int .u64 0, .slice none 0 0, .slice none 0 0] 27 (0, 0))) (b := (.cells #[.int .i64 17, .string ⟨#[]⟩, .string ⟨#[]⟩, .int .i64 0, .int .u64 0, .int .u64 0, .slice none 0 0, .slice none 0 0] 27 (0, 0))) hb1'
  obtain ⟨x0, x1, x2, x3, x4, x5, x6, x7, xf0, xf1, xf2, xf3, xf4, xf5, xf6, xf7⟩ := cells8 haw1
  obtain ⟨y0, y1, y2, y3, y4, y5, y6, y7, yf0, yf1, yf2, yf3, yf4, yf5, yf6, yf7⟩ := cells8 hbw1
  have HBw1 := Lib.hid hBw1
  clear haw1 hbw1 hBw1
  go_wp2_with fail
  refine (HLG.out w1 HBw1.out).mono ?_
  rintro e w2 ⟨rfl, hbw2⟩
  have hb2' : Below (w.heap.size + 1 + 1) ((w.alloc (.cells #[.int .i64 0, .string ⟨#[]⟩, .string ⟨#[]⟩, .int .i64 0, .int .u64 0, .int .u64 0, .slice none 0 0, .slice none 0 0] 27)).alloc (.cells #[.int .i64 17, .string ⟨#[]⟩, .string ⟨#[]⟩, .int .i64 0, .int .u64 0, .int .u64 0, .slice none 0 0, .slice none 0 0] 27)) w2 := hb1'.trans (hbw2.mono (by have h := hb1'.size; simpa using h))
  clear hbw2 HLG hb1' x0 xf0 y0 yf0 x1 xf1 y1 yf1 x2 xf2 y2 yf2 x3 xf3 y3 yf3 x4 xf4 y4 yf4 x5 xf5 y5 yf5 x6 xf6 y6 yf6 x7 xf7 y7 yf7 hlA hlB HBw1
  obtain ⟨haw2, hbw2, hlA, hlB, hBw2⟩ := twobox (a := (.cells #[.int .i64 0, .string ⟨#[]⟩, .string ⟨#[]⟩, .int .i64 0, .int .u64 0, .int .u64 0, .slice none 0 0, .slice none 0 0] 27 (0, 0))) (b := (.cells #[.int .i64 17, .string ⟨#[]⟩, .string ⟨#[]⟩, .int .i64 0, .int .u64 0, .int .u64 0, .slice none 0 0, .slice none 0 0] 27 (0, 0))) hb2'
  obtain ⟨x0, x1, x2, x3, x4, x5, x6, x7, xf0, xf1, xf2, xf3, xf4, xf5, xf6, xf7⟩ := cells8 haw2
  obtain ⟨y0, y1, y2, y3, y4, y5, y6, y7, yf0, yf1, yf2, yf3, yf4, yf5, yf6, yf7⟩ := cells8 hbw2
  have HBw2 := Lib.hid hBw2
  clear haw2 hbw2 hBw2
  clear hb2'
  go_wp2_with fail
  all_goals exact bodyPost_ret (v := .tuple #[.agg #[.int .i64 17, .string ⟨#[]⟩, .string ⟨#[]⟩, .int .i64 0, .int .u64 NV, .int .u64 0, .slice none 0 0, .slice none 0 0], .int .i64 8, .bool true]) (by simp [results, Tryz.results110, go_sem, x0, x1, x2, x3, x4, x5, x6, x7,y0, y1, y2, y3, y4, y5, y6, y7, hlA, hlB]) rfl ⟨⟨none, 0, rfl, SB.nil _⟩, (by (iterate 9 (refine bsS _ (by omega) ?_)); exact HBw2.out)⟩
set_option maxHeartbeats 4000000 in
theorem pk_9 (A : Option Addr) (c : Nat) (l : List UInt8) (w : World) (hs : SB w A c l) (hl : l.length ≤ 5000) (b0 b1 b2 b3 b4 b5 b6 b7 : UInt8) (r : List UInt8) (hlr : l = b0 :: b1 :: b2 :: b3 :: b4 :: b5 :: b6 :: b7 :: r) : PkOk 9 l ⟨#[]⟩ ⟨#[]⟩ (wrap64 (Lib.leNat [b0, b1, b2, b3, b4, b5, b6, b7])) 0 0 [] 8 A c w := by
  unfold PkOk
  have hLE : spec_DocLen.f 5 9 (ints l) = some (((8 : Nat) : Int), true) := by
    rw [len_9, decide_eq_true (by rw [hlr]; simp)]
  have HLEN := Lib.hid (fun wx (hb : Below w.heap.size w wx) => lenC 5 9 A c l (((8 : Nat) : Int)) true wx (hs.keep hb) hLE)
  have HLG := Lib.hid (fun wx (hb : Below w.heap.size w wx) => docLong A c b0 b1 b2 b3 b4 b5 b6 b7 r wx (by rw [← hlr]; exact hs.keep hb))
  rw [← hlr] at HLG
  obtain ⟨p, hp⟩ : ∃ p, p = l.length := ⟨_, rfl⟩
  rw [← hp] at HLEN HLG
  rw [← hp]
  obtain ⟨NV, hNV⟩ : ∃ n : Nat, n = Lib.leNat [b0, b1, b2, b3, b4, b5, b6, b7] := ⟨_, rfl⟩
  rw [← hNV] at HLG ⊢
  obtain ⟨WV, hWV⟩ : ∃ n : Int, n = wrap64 (NV : Int) := ⟨_, rfl⟩
  rw [← hWV]
  have i1 : wrap64 (NV : Int) = WV := hWV.symm
  clear hWV
  clear hs hl hLE hp hlr hNV
  have h00 : ((8 : Nat) : Int) = 8 := rfl
  rw [h00] at HLEN ⊢
  clear h00
  go_enter Tryz.func110, Tryz.ntmps110
  go_wp2_with fail
  refine (HLEN.out _ (balloc (balloc (Below.refl _ _) (Nat.le_refl _) _) (by simp) _)).mono ?_
  rintro e w1 ⟨rfl, hb1⟩
  have hb1' : Below (w.heap.size + 1 + 1) ((w.alloc (.cells #[.int .i64 0, .string ⟨#[]⟩, .string ⟨#[]⟩, .int .i64 0, .int .u64 0, .int .u64 0, .slice none 0 0, .slice none 0 0] 27)).alloc (.cells #[.int .i64 9, .string ⟨#[]⟩, .string ⟨#[]⟩, .int .i64 0, .int .u64 0, .int .u64 0, .slice none 0 0, .slice none 0 0] 27)) w1 := by simpa using hb1
  clear hb1 HLEN
  obtain ⟨haw1, hbw1, hlA, hlB, hBw1⟩ := twobox (a := (.cells #[.int .i64 0, .string ⟨#[]⟩, .string ⟨#[]⟩, .int .i64 0, .int .u64 0, .int .u64 0, .slice none 0 0, .slice none 0 0] 27 (0, 0))) (b := (.cells #[.int .i64 9, .string ⟨#[]⟩, .string ⟨#[]⟩, .int .i64 0, .int .u64 0, .int .u64 0, .slice none 0 0, .slice none 0 0] 27 (0, 0))) hb1'
  obtain ⟨x0, x1, x2, x3, x4, x5, x6, x7, xf0, xf1, xf2, xf3, xf4, xf5, xf6, xf7⟩ := cells8 haw1
  obtain ⟨y0, y1, y2, y3, y4, y5, y6, y7, yf0, yf1, yf2, yf3, yf4, yf5, yf6, yf7⟩ := cells8 hbw1
  have HBw1 := Lib.hid hBw1
  clear haw1 hbw1 hBw1
  go_wp2_with fail
  refine (HLG.out w1 HBw1.out).mono ?_
  rintro e w2 ⟨rfl, hbw2⟩
  have hb2' : Below (w.heap.size + 1 + 1) ((w.alloc (.cells #[.int .i64 0, .string ⟨#[]⟩, .string ⟨#[]⟩, .int .i64 0, .int .u64 0, .int .u64 0, .slice none 0 0, .slice none 0 0] 27)).alloc (.cells #[.int .i64 9, .string ⟨#[]⟩, .string ⟨#[]⟩, .int .i64 0, .int .u64 0, .int .u64 0, .slice none 0 0, .slice none 0 0] 27)) w2 := hb1'.trans (hbw2.mono (by have h := hb1'.size; simpa using h))
  clear hbw2 HLG hb1' x0 xf0 y0 yf0 x1 xf1 y1 yf1 x2 xf2 y2 yf2 x3 xf3 y3 yf3 x4 xf4 y4 yf4 x5 xf5 y5 yf5 x6 xf6 y6 yf6 x7 xf7 y7 yf7 hlA hlB HBw1
  obtain ⟨haw2, hbw2, hlA, hlB, hBw2⟩ := twobox (a := (.cells #[.int .i64 0, .string ⟨#[]⟩, .string ⟨#[]⟩, .int .i64 0, .int .u64 0, .int .u64 0, .slice none 0 0, .slice none 0 0] 27 (0, 0))) (b := (.cells #[.int .i64 9, .string ⟨#[]⟩, .string ⟨#[]⟩, .int .i64 0, .int .u64 0, .int .u64 0, .slice none 0 0, .slice none 0 0] 27 (0, 0))) hb2'
  obtain ⟨x0, x1, x2, x3, x4, x5, x6, x7, xf0, xf1, xf2, xf3, xf4, xf5, xf6, xf7⟩ := cells8 haw2
  obtain ⟨y0, y1, y2, y3, y4, y5, y6, y7, yf0, yf1, yf2, yf3, yf4, yf5, yf6, yf7⟩ := cells8 hbw2
  have HBw2 := Lib.hid hBw2
  clear haw2 hbw2 hBw2
  clear hb2'
  go_wp2_with fail
  all_goals exact bodyPost_ret (v := .tuple #[.agg #[.int .i64 9, .string ⟨#[]⟩, .string ⟨#[]⟩, .int .i64 WV, .int .u64 0, .int .u64 0, .slice none 0 0, .slice none 0 0], .int .i64 8, .bool true]) (by simp [results, Tryz.results110, go_sem, x0, x1, x2, x3, x4, x5, x6, x7,y0, y1, y2, y3, y4, y5, y6, y7, hlA, hlB]) rfl ⟨⟨none, 0, rfl, SB.nil _⟩, (by (iterate 9 (refine bsS _ (by omega) ?_)); exact HBw2.out)⟩
set_option maxHeartbeats 4000000 in
theorem pk_18 (A : Option Addr) (c : Nat) (l : List UInt8) (w : World) (hs : SB w A c l) (hl : l.length ≤ 5000) (b0 b1 b2 b3 b4 b5 b6 b7 : UInt8) (r : List UInt8) (hlr : l = b0 :: b1 :: b2 :: b3 :: b4 :: b5 :: b6 :: b7 :: r) : PkOk 18 l ⟨#[]⟩ ⟨#[]⟩ (wrap64 (Lib.leNat [b0, b1, b2, b3, b4, b5, b6, b7])) 0 0 [] 8 A c w := by
  unfold PkOk
  have hLE : spec_DocLen.f 5 18 (ints l) = some (((8 : Nat) : Int), true) := by
    rw [len_18, decide_eq_true (by rw [hlr]; simp)]
  have HLEN := Lib.hid (fun wx (hb : Below w.heap.size w wx) => lenC 5 18 A c l (((8 : Nat) : Int)) true wx (hs.keep hb) hLE)
  have HLG := Lib.hid (fun wx (hb : Below w.heap.size w wx) => docLong A c b0 b1 b2 b3 b4 b5 b6 b7 r wx (by rw [← hlr]; exact hs.keep hb))
  rw [← hlr] at HLG
  obtain ⟨p, hp⟩ : ∃ p, p = l.length := ⟨_, rfl⟩
  rw [← hp] at HLEN HLG
  rw [← hp]
  obtain ⟨NV, hNV⟩ : ∃ n : Nat, n = Lib.leNat [b0, b1, b2, b3, b4, b5, b6, b7] := ⟨_, rfl⟩
  rw [← hNV] at HLG ⊢
  obtain ⟨WV, hWV⟩ : ∃ n : Int, n = wrap64 (NV : Int) := ⟨_, rfl⟩
  rw [← hWV]
  have i1 : wrap64 (NV : Int) = WV := hWV.symm
  clear hWV
  clear hs hl hLE hp hlr hNV
  have h00 : ((8 : Nat) : Int) = 8 := rfl
  rw [h00] at HLEN ⊢
  clear h00
  go_enter Tryz.func110, Tryz.ntmps110
  go_wp2_with fail
  refine (HLEN.out _ (balloc (balloc (Below.refl _ _) (Nat.le_refl _) _) (by simp) _)).mono ?_
  rintro e w1 ⟨rfl, hb1⟩
  have hb1' : Below (w.heap.size + 1 + 1) ((w.alloc (.cells #[.int .i64 0, .string ⟨#[]⟩, .string ⟨#[]⟩, .int .i64 0, .int .u64 0, .int .u64 0, .slice none 0 0, .slice none 0 0] 27)).alloc (.cells #[.int .i64 18, .string ⟨#[]⟩, .string ⟨#[]⟩, .int .i64 0, .int .u64 0, .int .u64 0, .slice none 0 0, .slice none 0 0] 27)) w1 := by simpa using hb1
  clear hb1 HLEN
  obtain ⟨haw1, hbw1, hlA, hlB, hBw1⟩ := twobox (a := (.cells #[.int .i64 0, .string ⟨#[]⟩, .string ⟨#[]⟩, .int .i64 0, .int .u64 0, .int .u64 0, .slice none 0 0, .slice none 0 0] 27 (0, 0))) (b := (.cells #[.int .i64 18, .string ⟨#[]⟩, .string ⟨#[]⟩, .int .i64 0, .int .u64 0, .int .u64 0, .slice none 0 0, .slice none 0 0] 27 (0, 0))) hb1'
  obtain ⟨x0, x1, x2, x3, x4, x5, x6, x7, xf0, xf1, xf2, xf3, xf4, xf5, xf6, xf7⟩ := cells8 haw1
  obtain ⟨y0, y1, y2, y3, y4, y5, y6, y7, yf0, yf1, yf2, yf3, yf4, yf5, yf6, yf7⟩ := cells8 hbw1
  have HBw1 := Lib.hid hBw1
  clear haw1 hbw1 hBw1
  go_wp2_with fail
  refine (HLG.out w1 HBw1.out).mono ?_
  rintro e w2 ⟨rfl, hbw2⟩
  have hb2' : Below (w.heap.size + 1 + 1) ((w.alloc (.cells #[.int .i64 0, .string ⟨#[]⟩, .string ⟨#[]⟩, .int .i64 0, .int .u64 0, .int .u64 0, .slice none 0 0, .slice none 0 0] 27)).alloc (.cells #[.int .i64 18, .string ⟨#[]⟩, .string ⟨#[]⟩, .int .i64 0, .int .u64 0, .int .u64 0, .slice none 0 0, .slice none 0 0] 27)) w2 := hb1'.trans (hbw2.mono (by have h := hb1'.size; simpa using h))
  clear hbw2 HLG hb1' x0 xf0 y0 yf0 x1 xf1 y1 yf1 x2 xf2 y2 yf2 x3 xf3 y3 yf3 x4 xf4 y4 yf4 x5 xf5 y5 yf5 x6 xf6 y6 yf6 x7 xf7 y7 yf7 hlA hlB HBw1
  obtain ⟨haw2, hbw2, hlA, hlB, hBw2⟩ := twobox (a := (.cells #[.int .i64 0, .string ⟨#[]⟩, .string ⟨#[]⟩, .int .i64 0, .int .u64 0, .int .u64 0, .slice none 0 0, .slice none 0 0] 27 (0, 0))) (b := (.cells #[.int .i64 18, .string ⟨#[]⟩, .string ⟨#[]⟩, .int .i64 0, .int .u64 0, .int .u64 0, .slice none 0 0, .slice none 0 0] 27 (0, 0))) hb2'
  obtain ⟨x0, x1, x2, x3, x4, x5, x6, x7, xf0, xf1, xf2, xf3, xf4, xf5, xf6, xf7⟩ := cells8 haw2
  obtain ⟨y0, y1, y2, y3, y4, y5, y6, y7, yf0, yf1, yf2, yf3, yf4, yf5, yf6, yf7⟩ := cells8 hbw2
  have HBw2 := Lib.hid hBw2
  clear haw2 hbw2 hBw2
  clear hb2'
  go_wp2_with fail
  all_goals exact bodyPost_ret (v := .tuple #[.agg #[.int .i64 18, .string ⟨#[]⟩, .string ⟨#[]⟩, .int .i64 WV, .int .u64 0, .int .u64 0, .slice none 0 0, .slice none 0 0], .int .i64 8, .bool true]) (by simp [results, Tryz.results110, go_sem, x0, x1, x2, x3, x4, x5, x6, x7,y0, y1, y2, y3, y4, y5, y6, y7, hlA, hlB]) rfl ⟨⟨none, 0, rfl, SB.nil _⟩, (by (iterate 9 (refine bsS _ (by omega) ?_)); exact HBw2.out)⟩
set_option maxHeartbeats 4000000 in
theorem pk_16 (A : Option Addr) (c : Nat) (l : List UInt8) (w : World) (hs : SB w A c l) (hl : l.length ≤ 5000) (b0 b1 b2 b3 : UInt8) (r : List UInt8) (hlr : l = b0 :: b1 :: b2 :: b3 :: r) : PkOk 16 l ⟨#[]⟩ ⟨#[]⟩ (wrap32 (leI [b0, b1, b2, b3])) 0 0 [] 4 A c w := by
  unfold PkOk
  have hLE : spec_DocLen.f 5 16 (ints l) = some (((4 : Nat) : Int), true) := by
    rw [len_16, decide_eq_true (by rw [hlr]; simp)]
  have HLEN := Lib.hid (fun wx (hb : Below w.heap.size w wx) => lenC 5 16 A c l (((4 : Nat) : Int)) true wx (hs.keep hb) hLE)
  have HLG := Lib.hid (fun wx (hb : Below w.heap.size w wx) => docNumber A c l wx (hs.keep hb))
  have hnm : numOf l = (wrap32 (leI [b0, b1, b2, b3]), true) := by rw [hlr]; rfl
  rw [hnm] at HLG
  obtain ⟨p, hp⟩ : ∃ p, p = l.length := ⟨_, rfl⟩
  rw [← hp] at HLEN HLG
  rw [← hp]
  obtain ⟨NV, hNV⟩ : ∃ n : Int, n = wrap32 (leI [b0, b1, b2, b3]) := ⟨_, rfl⟩
  rw [← hNV] at HLG ⊢
  have i1 : wrap64 NV = NV := by rw [hNV]; exact w64_32 _
  clear hs hl hLE hp hlr hNV hnm
  have h00 : ((4 : Nat) : Int) = 4 := rfl
  rw [h00] at HLEN ⊢
  clear h00
  go_enter Tryz.func110, Tryz.ntmps110
  go_wp2_with fail
  refine (HLEN.out _ (balloc (balloc (Below.refl _ _) (Nat.le_refl _) _) (by simp) _)).mono ?_
  rintro e w1 ⟨rfl, hb1⟩
  have hb1' : Below (w.heap.size + 1 + 1) ((w.alloc (.cells #[.int .i64 0, .string ⟨#[]⟩, .string ⟨#[]⟩, .int .i64 0, .int .u64 0, .int .u64 0, .slice none 0 0, .slice none 0 0] 27)).alloc (.cells #[.int .i64 16, .string ⟨#[]⟩, .string ⟨#[]⟩, .int .i64 0, .int .u64 0, .int .u64 0, .slice none 0 0, .slice none 0 0] 27)) w1 := by simpa using hb1
  clear hb1 HLEN
  obtain ⟨haw1, hbw1, hlA, hlB, hBw1⟩ := twobox (a := (.cells #[.int .i64 0, .string ⟨#[]⟩, .string ⟨#[]⟩, .int .i64 0, .int .u64 0, .int .u64 0, .slice none 0 0, .slice none 0 0] 27 (0, 0))) (b := (.cells #[.int .i64 16, .string ⟨#[]⟩, .string ⟨#[]⟩, .int .i64 0, .int .u64 0, .int .u64 0, .slice none 0 0, .slice none 0 0] 27 (0, 0))) hb1'
  obtain ⟨x0, x1, x2, x3, x4, x5, x6, x7, xf0, xf1, xf2, xf3, xf4, xf5, xf6, xf7⟩ := cells8 haw1
  obtain ⟨y0, y1, y2, y3, y4, y5, y6, y7, yf0, yf1, yf2, yf3, yf4, yf5, yf6, yf7⟩ := cells8 hbw1
  have HBw1 := Lib.hid hBw1
  clear haw1 hbw1 hBw1
  go_wp2_with fail
  refine (HLG.out w1 HBw1.out).mono ?_
  rintro e w2 ⟨rfl, hbw2⟩
  have hb2' : Below (w.heap.size + 1 + 1) ((w.alloc (.cells #[.int .i64 0, .string ⟨#[]⟩, .string ⟨#[]⟩, .int .i64 0, .int .u64 0, .int .u64 0, .slice none 0 0, .slice none 0 0] 27)).alloc (.cells #[.int .i64 16, .string ⟨#[]⟩, .string ⟨#[]⟩, .int .i64 0, .int .u64 0, .int .u64 0, .slice none 0 0, .slice none 0 0] 27)) w2 := hb1'.trans (hbw2.mono (by have h := hb1'.size; simpa using h))
  clear hbw2 HLG hb1' x0 xf0 y0 yf0 x1 xf1 y1 yf1 x2 xf2 y2 yf2 x3 xf3 y3 yf3 x4 xf4 y4 yf4 x5 xf5 y5 yf5 x6 xf6 y6 yf6 x7 xf7 y7 yf7 hlA hlB HBw1
  obtain ⟨haw2, hbw2, hlA, hlB, hBw2⟩ := twobox (a := (.cells #[.int .i64 0, .string ⟨#[]⟩, .string ⟨#[]⟩, .int .i64 0, .int .u64 0, .int .u64 0, .slice none 0 0, .slice none 0 0] 27 (0, 0))) (b := (.cells #[.int .i64 16, .string ⟨#[]⟩, .string ⟨#[]⟩, .int .i64 0, .int .u64 0, .int .u64 0, .slice none 0 0, .slice none 0 0] 27 (0, 0))) hb2'
  obtain ⟨x0, x1, x2, x3, x4, x5, x6, x7, xf0, xf1, xf2, xf3, xf4, xf5, xf6, xf7⟩ := cells8 haw2
  obtain ⟨y0, y1, y2, y3, y4, y5, y6, y7, yf0, yf1, yf2, yf3, yf4, yf5, yf6, yf7⟩ := cells8 hbw2
  have HBw2 := Lib.hid hBw2
  clear haw2 hbw2 hBw2
  clear hb2'
  go_wp2_with fail
  all_goals exact bodyPost_ret (v := .tuple #[.agg #[.int .i64 16, .string ⟨#[]⟩, .string ⟨#[]⟩, .int .i64 NV, .int .u64 0, .int .u64 0, .slice none 0 0, .slice none 0 0], .int .i64 4, .bool true]) (by simp [results, Tryz.results110, go_sem, x0, x1, x2, x3, x4, x5, x6, x7,y0, y1, y2, y3, y4, y5, y6, y7, hlA, hlB]) rfl ⟨⟨none, 0, rfl, SB.nil _⟩, (by (iterate 9 (refine bsS _ (by omega) ?_)); exact HBw2.out)⟩
set_option maxHeartbeats 4000000 in
theorem pk_11 (A : Option Addr) (c : Nat) (l : List UInt8) (w : World) (hs : SB w A c l) (hl : l.length ≤ 5000) (p1 p2 r : List UInt8) (h1 : plainB p1 = true) (h2 : plainB p2 = true) (hlr : l = p1 ++ 0 :: (p2 ++ 0 :: r)) : PkOk 11 l ⟨p1.toArray⟩ ⟨p2.toArray⟩ 0 0 0 [] (p1.length + p2.length + 2) A c w := by
  unfold PkOk
  have hn1 : nmOf l = ((p1.length : Int) + 1, true) := by
    unfold nmOf
    rw [hlr, show Lib.indexByte (p1 ++ 0 :: (p2 ++ 0 :: r)) 0 = p1.length from index_plain p1 _ h1, if_neg (by omega)]
  have hd : l.drop (p1.length + 1) = p2 ++ 0 :: r := by rw [hlr, List.drop_append, List.drop_of_length_le (by omega), show p1.length + 1 - p1.length = 1 from by omega]; simp
  have hn2 : nmOf (p2 ++ 0 :: r) = ((p2.length : Int) + 1, true) := by
    unfold nmOf
    rw [show Lib.indexByte (p2 ++ 0 :: r) 0 = p2.length from index_plain p2 _ h2, if_neg (by omega)]
  have hll : l.length = p1.length + 1 + (p2 ++ 0 :: r).length := by rw [hlr]; simp; omega
  obtain ⟨fu, hLE⟩ := len_11 l hl
  rw [hn1, show ((p1.length : Int) + 1).toNat = p1.length + 1 from by omega, hd, hn2] at hLE
  have hLE' : spec_DocLen.f (fu + 5) 11 (ints l) = some (((p1.length + p2.length + 2 : Nat) : Int), true) := by
    rw [hLE, show ((p1.length + p2.length + 2 : Nat) : Int) = (p1.length : Int) + 1 + ((p2.length : Int) + 1) from by omega]
    rfl
  have HLEN := Lib.hid (fun wx (hb : Below w.heap.size w wx) => lenC (fu + 5) 11 A c l (((p1.length + p2.length + 2 : Nat) : Int)) true wx (hs.keep hb) hLE')
  have HN1 := Lib.hid (fun wx (hb : Below w.heap.size w wx) => docNameS A c p1 (p2 ++ 0 :: r) wx (by rw [← hlr]; exact hs.keep hb) h1 (by rw [← hlr]; omega))
  rw [← hlr] at HN1
  obtain ⟨A5, x5', s5⟩ := SB.from_ (P := Tryz.prog) Tryz.underlying22 rfl rfl .i64 A c l (p1.length + 1) (by omega) hs.le
  rw [show l.length - (p1.length + 1) = (p2 ++ 0 :: r).length from by omega] at x5'
  have HN2 := Lib.hid (fun wx (hb : Below w.heap.size w wx) => docNameS A5 (c - (p1.length + 1)) p2 r wx (by rw [← hd]; exact s5 wx (hs.keep hb)) h2 (by omega))
  obtain ⟨q, hq⟩ : ∃ q, q = (p2 ++ 0 :: r).length := ⟨_, rfl⟩
  rw [← hq] at x5' HN2
  obtain ⟨p, hp⟩ : ∃ p, p = l.length := ⟨_, rfl⟩
  rw [← hp] at HLEN HN1 x5'
  rw [← hp]
  obtain ⟨s1, hz1⟩ : ∃ z : ByteArray, z = ⟨p1.toArray⟩ := ⟨_, rfl⟩
  obtain ⟨s2, hz2⟩ : ∃ z : ByteArray, z = ⟨p2.toArray⟩ := ⟨_, rfl⟩
  rw [← hz1] at HN1 ⊢
  rw [← hz2] at HN2 ⊢
  obtain ⟨M, hM⟩ : ∃ q, q = p1.length + p2.length + 2 := ⟨_, rfl⟩
  obtain ⟨R, hR⟩ : ∃ q, q = p1.length + 1 := ⟨_, rfl⟩
  rw [← hM] at HLEN ⊢
  rw [← hR] at x5' HN2
  rw [show (p1.length : Int) + 1 = (R : Int) from by omega] at HN1
  obtain ⟨NN, hNN⟩ : ∃ q : Int, q = (p2.length : Int) + 1 := ⟨_, rfl⟩
  rw [← hNN] at HN2
  clear hs hl hLE hLE' hp hlr h1 h2 hn1 hn2 hd hll s5 hq hz1 hz2 hM hR hNN
  go_enter Tryz.func110, Tryz.ntmps110
  go_wp2_with fail
  refine (HLEN.out _ (balloc (balloc (Below.refl _ _) (Nat.le_refl _) _) (by simp) _)).mono ?_
  rintro e w1 ⟨rfl, hb1⟩
  have hb1' : Below (w.heap.size + 1 + 1) ((w.alloc (.cells #[.int .i64 0, .string ⟨#[]⟩, .string ⟨#[]⟩, .int .i64 0, .int .u64 0, .int .u64 0, .slice none 0 0, .slice none 0 0] 27)).alloc (.cells #[.int .i64 11, .string ⟨#[]⟩, .string ⟨#[]⟩, .int .i64 0, .int .u64 0, .int .u64 0, .slice none 0 0, .slice none 0 0] 27)) w1 := by simpa using hb1
  clear hb1 HLEN
  obtain ⟨haw1, hbw1, hlA, hlB, hBw1⟩ := twobox (a := (.cells #[.int .i64 0, .string ⟨#[]⟩, .string ⟨#[]⟩, .int .i64 0, .int .u64 0, .int .u64 0, .slice none 0 0, .slice none 0 0] 27 (0, 0))) (b := (.cells #[.int .i64 11, .string ⟨#[]⟩, .string ⟨#[]⟩, .int .i64 0, .int .u64 0, .int .u64 0, .slice none 0 0, .slice none 0 0] 27 (0, 0))) hb1'
  obtain ⟨x0, x1, x2, x3, x4, x5, x6, x7, xf0, xf1, xf2, xf3, xf4, xf5, xf6, xf7⟩ := cells8 haw1
  obtain ⟨y0, y1, y2, y3, y4, y5, y6, y7, yf0, yf1, yf2, yf3, yf4, yf5, yf6, yf7⟩ := cells8 hbw1
  have HBw1 := Lib.hid hBw1
  clear haw1 hbw1 hBw1
  go_wp2_with fail
  refine (HN1.out w1 HBw1.out).mono ?_
  rintro e w2 ⟨rfl, hbw2⟩
  have hb2' : Below (w.heap.size + 1 + 1) ((w.alloc (.cells #[.int .i64 0, .string ⟨#[]⟩, .string ⟨#[]⟩, .int .i64 0, .int .u64 0, .int .u64 0, .slice none 0 0, .slice none 0 0] 27)).alloc (.cells #[.int .i64 11, .string ⟨#[]⟩, .string ⟨#[]⟩, .int .i64 0, .int .u64 0, .int .u64 0, .slice none 0 0, .slice none 0 0] 27)) w2 := hb1'.trans (hbw2.mono (by have h := hb1'.size; simpa using h))
  clear hbw2 HN1 hb1' x0 xf0 y0 yf0 x1 xf1 y1 yf1 x2 xf2 y2 yf2 x3 xf3 y3 yf3 x4 xf4 y4 yf4 x5 xf5 y5 yf5 x6 xf6 y6 yf6 x7 xf7 y7 yf7 hlA hlB HBw1
  obtain ⟨haw2, hbw2, hlA, hlB, hBw2⟩ := twobox (a := (.cells #[.int .i64 0, .string ⟨#[]⟩, .string ⟨#[]⟩, .int .i64 0, .int .u64 0, .int .u64 0, .slice none 0 0, .slice none 0 0] 27 (0, 0))) (b := (.cells #[.int .i64 11, .string ⟨#[]⟩, .string ⟨#[]⟩, .int .i64 0, .int .u64 0, .int .u64 0, .slice none 0 0, .slice none 0 0] 27 (0, 0))) hb2'
  obtain ⟨x0, x1, x2, x3, x4, x5, x6, x7, xf0, xf1, xf2, xf3, xf4, xf5, xf6, xf7⟩ := cells8 haw2
  obtain ⟨y0, y1, y2, y3, y4, y5, y6, y7, yf0, yf1, yf2, yf3, yf4, yf5, yf6, yf7⟩ := cells8 hbw2
  have HBw2 := Lib.hid hBw2
  clear haw2 hbw2 hBw2
  go_wp2_with fail
  refine (HN2.out _ (bsS _ (by omega) HBw2.out)).mono ?_
  rintro e w3 ⟨rfl, hb3⟩
  obtain ⟨haS, hbS, hlA', hlB', hBS⟩ := twobox (a := (.cells #[.int .i64 0, .string ⟨#[]⟩, .string ⟨#[]⟩, .int .i64 0, .int .u64 0, .int .u64 0, .slice none 0 0, .slice none 0 0] 27 (0, 0))) (b := (.cells #[.int .i64 11, .string ⟨#[]⟩, .string ⟨#[]⟩, .int .i64 0, .int .u64 0, .int .u64 0, .slice none 0 0, .slice none 0 0] 27 (0, 0))) hb2'
  have haT := (Below.heap_setCell w2 ⟨w.heap.size + 1, 1, none⟩ (.string s1) w.heap.size (by simp)).trans haS
  have hbT : (w2.setCell ⟨w.heap.size + 1, 1, none⟩ (.string s1)).heap[w.heap.size + 1]? = some (.cells #[.int .i64 11, .string s1, .string ⟨#[]⟩, .int .i64 0, .int .u64 0, .int .u64 0, .slice none 0 0, .slice none 0 0] 27 (0, 0)) := by simpa using heap_setCell_same w2 (w.heap.size + 1) 1 _ _ (.string s1) hbS
  have haN := (hb3.block w.heap.size (by simp; omega)).trans haT
  have hbN := (hb3.block (w.heap.size + 1) (by simp; omega)).trans hbT
  have hlA2 : w.heap.size < w3.heap.size := (Array.getElem?_eq_some_iff.1 haN).1
  have hlB2 : w.heap.size + 1 < w3.heap.size := (Array.getElem?_eq_some_iff.1 hbN).1
  have HB3 := Lib.hid (bthen (bsS (.string s1) (by omega) hBS : Below w.heap.size w (w2.setCell ⟨w.heap.size + 1, 1, none⟩ (.string s1))) hb3)
  clear hb3 HN2 hb2' hlA' hlB' haS hbS hBS haT hbT x0 xf0 y0 yf0 x1 xf1 y1 yf1 x2 xf2 y2 yf2 x3 xf3 y3 yf3 x4 xf4 y4 yf4 x5 xf5 y5 yf5 x6 xf6 y6 yf6 x7 xf7 y7 yf7 hlA hlB HBw2
  obtain ⟨x0, x1, x2, x3, x4, x5, x6, x7, xf0, xf1, xf2, xf3, xf4, xf5, xf6, xf7⟩ := cells8 haN
  obtain ⟨y0, y1, y2, y3, y4, y5, y6, y7, yf0, yf1, yf2, yf3, yf4, yf5, yf6, yf7⟩ := cells8 hbN
  clear haN hbN
  have hlA := hlA2
  have hlB := hlB2
  go_wp2_with fail
  all_goals exact bodyPost_ret (v := .tuple #[.agg #[.int .i64 11, .string s1, .string s2, .int .i64 0, .int .u64 0, .int .u64 0, .slice none 0 0, .slice none 0 0], .int .i64 M, .bool true]) (by simp [results, Tryz.results110, go_sem, x0, x1, x2, x3, x4, x5, x6, x7,y0, y1, y2, y3, y4, y5, y6, y7, hlA, hlB]) rfl ⟨⟨none, 0, rfl, SB.nil _⟩, (by (iterate 9 (refine bsS _ (by omega) ?_)); exact HB3.out)⟩
end Tk
end Go.Proofs.YtbpopaegfhcdpaaGreatDoor.X


