/- The law FnDocEqual. -/
import Derived.Test.YtfhbnlbdmfjhlaaGreatDoorEq
import Derived.Test.YtfhbnlbdmfjhlaaGreatDoorEqV
import Derived.Test.YtfhbnlbdmfjhlaaGreatDoorEqS
import Derived.Test.YtfhbnlbdmfjhlaaGreatDoorAw
import Derived.Test.YtfhbnlbdmfjhlaaGreatDoorWLast
import Derived.Test.YtfhbnlbdmfjhlaaGreatDoorWTab
import Derived.Outline
set_option linter.unusedVariables false
set_option linter.unusedSimpArgs false
set_option maxRecDepth 100000
namespace Go.Proofs.YtfhbnlbdmfjhlaaGreatDoor.X
open Go.RowKit Go.Proofs.YtfhbnlbdmfjhlaaGreatDoorW.PrintLast
namespace Eq2
open Sp Aw
def R3.T8 : Bool × List (List Nat × List Nat) := (true, [([], []), ([0], [0]), ([1], [1]), ([1, 2], [1, 2]), ([3, 1], [3]), ([4], [4]), ([5, 4], [4, 5]), ([4], [4]), ([7, 4], [4, 7]), ([6, 8, 4], [4, 6, 8]), ([4, 9], [4, 9]), ([10, 4], [10]), ([11], [11]), ([12, 11], [11, 12]), ([11], [11]), ([13, 14, 11], [11, 13, 14]), ([15, 11], [11, 15]), ([11], [11]), ([17, 11], [11, 17]), ([11], [11]), ([18, 19, 11], [11, 18, 19]), ([20, 11], [11, 20]), ([16, 21, 11], [11, 16, 21]), ([11, 22], [11, 22]), ([23, 11, 0, 1, 2, 3, 4, 5, 6, 7, 8, 9, 10, 11, 12, 13, 14, 15, 16, 17, 18, 19, 20, 21, 22, 23], [23])])
def R3.B8 : List Nat := [0, 1, 3, 7, 15, 31, 63, 31, 159, 511, 1023, 2047, 4095, 8191, 4095, 32767, 65535, 4095, 135167, 4095, 921599, 1970175, 4194303, 8388607, 16777215]
theorem R3.tab8 : rtab .any (opsOf Tryz.f3 8) = R3.T8 := by kernel_rfl
theorem R3.bits8 : waitsOk R3.T8.2 R3.B8 = true := by kernel_rfl

theorem twoF (A B : Option Addr) (c d : Nat) (l m : List UInt8) (k k' : Int) (w wx : World) (hs : SB w A c l) (T : Two w wx k k' A B l.length c m.length d) :
    Calls Tryz.prog 5 #[.agg #[.int .i64 k, .slice A l.length c]] wx fun e w' => e = .returned (.bool (decide (l.length ≤ 2147483647))) ∧ Hid (Two w w' k k' A B l.length c m.length d) :=
  (fits3 A c l k wx (hs.keep T.below)).mono fun e w' ⟨a, b⟩ => ⟨a, Lib.hid (T.keep b)⟩
theorem twoF' (A B : Option Addr) (c d : Nat) (l m : List UInt8) (k k' : Int) (w wx : World) (ht : SB w B d m) (T : Two w wx k k' A B l.length c m.length d) :
    Calls Tryz.prog 5 #[.agg #[.int .i64 k', .slice B m.length d]] wx fun e w' => e = .returned (.bool (decide (m.length ≤ 2147483647))) ∧ Hid (Two w w' k k' A B l.length c m.length d) :=
  (fits3 B d m k' wx (ht.keep T.below)).mono fun e w' ⟨a, b⟩ => ⟨a, Lib.hid (T.keep b)⟩
theorem twoB (A B : Option Addr) (n c q d : Nat) (j k k' : Int) (w wx : World) (T : Two w wx k k' A B n c q d) :
    Calls Tryz.prog 6 #[.int .i64 j] wx fun e w' => e = .returned (.bool (decide (0 ≤ j ∧ j ≤ 255))) ∧ Hid (Two w w' k k' A B n c q d) :=
  (byteK j wx).mono fun e w' ⟨a, b⟩ => ⟨a, Lib.hid (T.keep b)⟩
theorem twoM (A B : Option Addr) (c d : Nat) (l m : List UInt8) (k k' : Int) (w wx : World) (hs : SB w A c l) (T : Two w wx k k' A B l.length c m.length d) :
    Calls Tryz.prog 7 #[.slice A l.length c] wx fun e w' => e = .returned (.bool (decide (l.length ≤ 5000))) ∧ Hid (Two w w' k k' A B l.length c m.length d) :=
  (modest A c l wx (hs.keep T.below)).mono fun e w' ⟨a, b⟩ => ⟨a, Lib.hid (T.keep b)⟩
theorem twoM' (A B : Option Addr) (c d : Nat) (l m : List UInt8) (k k' : Int) (w wx : World) (ht : SB w B d m) (T : Two w wx k k' A B l.length c m.length d) :
    Calls Tryz.prog 7 #[.slice B m.length d] wx fun e w' => e = .returned (.bool (decide (m.length ≤ 5000))) ∧ Hid (Two w w' k k' A B l.length c m.length d) :=
  (modest B d m wx (ht.keep T.below)).mono fun e w' ⟨a, b⟩ => ⟨a, Lib.hid (T.keep b)⟩
theorem twoS (A B : Option Addr) (c d : Nat) (l m : List UInt8) (k k' : Int) (w wx : World) (hs : SB w A c l) (hl : l.length ≤ 5000) (T : Two w wx k k' A B l.length c m.length d) :
    Calls Tryz.prog 8 #[.int .i64 k, .slice A l.length c] wx fun e w' => ∃ n, e = .returned (.tuple #[.int .i64 n, .bool (valIs k l)]) ∧ (valIs k l = true → n = (valLen k l).1) ∧ Hid (Two w w' k k' A B l.length c m.length d) :=
  (docSpan A c l k wx (hs.keep T.below) hl).mono fun e w' ⟨n, b, a1, a2, a3, a4⟩ => ⟨n, by rw [a1, a2], a3, Lib.hid (T.keep a4)⟩
theorem twoS' (A B : Option Addr) (c d : Nat) (l m : List UInt8) (k k' : Int) (w wx : World) (ht : SB w B d m) (hl : m.length ≤ 5000) (T : Two w wx k k' A B l.length c m.length d) :
    Calls Tryz.prog 8 #[.int .i64 k', .slice B m.length d] wx fun e w' => ∃ n, e = .returned (.tuple #[.int .i64 n, .bool (valIs k' m)]) ∧ (valIs k' m = true → n = (valLen k' m).1) ∧ Hid (Two w w' k k' A B l.length c m.length d) :=
  (docSpan B d m k' wx (ht.keep T.below) hl).mono fun e w' ⟨n, b, a1, a2, a3, a4⟩ => ⟨n, by rw [a1, a2], a3, Lib.hid (T.keep a4)⟩
theorem twoAw (A B : Option Addr) (n c q d : Nat) (k k' : Int) (w wx : World) (T : Two w wx k k' A B n c q d) :
    Calls Tryz.prog 9 #[] wx fun e w' => e = .returned (.bool true) ∧ Hid (Two w w' k k' A B n c q d) :=
  (docAwake wx).mono fun e w' ⟨a, b⟩ => ⟨a, Lib.hid (T.keep b)⟩
theorem twoE (A B : Option Addr) (c d : Nat) (l m : List UInt8) (k k' : Int) (w wx : World) (hs : SB w A c l) (ht : SB w B d m) (h0 : 0 ≤ k ∧ k ≤ 255) (h2 : 0 ≤ k' ∧ k' ≤ 255) (T : Two w wx k k' A B l.length c m.length d) :
    Calls Tryz.prog 10 #[.agg #[.int .i64 k, .slice A l.length c], .agg #[.int .i64 k', .slice B m.length d]] wx fun e w' => e = .returned (.bool (decide (k = k') && decide (l = m))) ∧ Hid (Two w w' k k' A B l.length c m.length d) :=
  (implEqual A B c d l m k k' wx (hs.keep T.below) (ht.keep T.below) h0.1 h0.2 h2.1 h2.2).mono fun e w' ⟨a, b⟩ => ⟨a, Lib.hid (T.keep b)⟩
theorem twoE' (A B : Option Addr) (c d : Nat) (l m : List UInt8) (k k' : Int) (w wx : World) (hs : SB w A c l) (h0 : 0 ≤ k ∧ k ≤ 255) (T : Two w wx k k' A B l.length c m.length d) :
    Calls Tryz.prog 10 #[.agg #[.int .i64 k, .slice A l.length c], .agg #[.int .i64 k, .slice A l.length c]] wx fun e w' => e = .returned (.bool true) ∧ Hid (Two w w' k k' A B l.length c m.length d) :=
  (implEqual A A c c l l k k wx (hs.keep T.below) (hs.keep T.below) h0.1 h0.2 h0.1 h0.2).mono fun e w' ⟨a, b⟩ => ⟨by rw [a]; simp, Lib.hid (T.keep b)⟩
theorem twoV (A B : Option Addr) (c d : Nat) (l m : List UInt8) (k k' : Int) (w wx : World) (hs : SB w A c l) (ht : SB w B d m) (h0 : 0 ≤ k ∧ k ≤ 255) (h2 : 0 ≤ k' ∧ k' ≤ 255) (T : Two w wx k k' A B l.length c m.length d) :
    Calls Tryz.prog 11 #[.int .i64 k, .int .i64 k', .slice A l.length c, .slice B m.length d] wx fun e w' => e = .returned (.bool (alike k k' l m)) ∧ Hid (Two w w' k k' A B l.length c m.length d) :=
  (implEqualValue A B c d l m k k' wx (hs.keep T.below) (ht.keep T.below) h0.1 h0.2 h2.1 h2.2).mono fun e w' ⟨a, b⟩ => ⟨a, Lib.hid (T.keep b)⟩
theorem str_size' (l : List UInt8) : True := trivial

theorem str_eq (l m : List UInt8) : ((⟨l.toArray⟩ : ByteArray).toList == (⟨m.toArray⟩ : ByteArray).toList) = decide (l = m) := by
  rw [Bool.eq_iff_iff]
  simp

set_option maxHeartbeats 4000000 in
theorem eq_early (A B : Option Addr) (c d : Nat) (l m : List UInt8) (k k' : Int) (w : World) (hs : SB w A c l) (ht : SB w B d m) (h : ¬ ((l.length ≤ 2147483647) ∧ (m.length ≤ 2147483647) ∧ (0 ≤ k ∧ k ≤ 255) ∧ (0 ≤ k' ∧ k' ≤ 255) ∧ (l.length ≤ 5000) ∧ (m.length ≤ 5000))) :
    Calls Tryz.prog 3 #[.agg #[.int .i64 k, .slice A l.length c], .agg #[.int .i64 k', .slice B m.length d]] w fun e w' => e = .returned (.bool true) ∧ Below w.heap.size w w' := by
  have H1 := Lib.hid (fun wx (T : Two w wx k k' A B l.length c m.length d) => twoF A B c d l m k k' w wx hs T)
  have H2 := Lib.hid (fun wx (T : Two w wx k k' A B l.length c m.length d) => twoF' A B c d l m k k' w wx ht T)
  have H3 := Lib.hid (fun wx (T : Two w wx k k' A B l.length c m.length d) => twoB A B l.length c m.length d k k k' w wx T)
  have H4 := Lib.hid (fun wx (T : Two w wx k k' A B l.length c m.length d) => twoB A B l.length c m.length d k' k k' w wx T)
  have H5 := Lib.hid (fun wx (T : Two w wx k k' A B l.length c m.length d) => twoM A B c d l m k k' w wx hs T)
  have H6 := Lib.hid (fun wx (T : Two w wx k k' A B l.length c m.length d) => twoM' A B c d l m k k' w wx ht T)
  have T0 := Lib.hid (Two.start w k k' A B l.length c m.length d)
  obtain ⟨g1, hg1⟩ : ∃ g, g = decide (l.length ≤ 2147483647) := ⟨_, rfl⟩
  rw [← hg1] at H1
  obtain ⟨g2, hg2⟩ : ∃ g, g = decide (m.length ≤ 2147483647) := ⟨_, rfl⟩
  rw [← hg2] at H2
  obtain ⟨g3, hg3⟩ : ∃ g, g = decide (0 ≤ k ∧ k ≤ 255) := ⟨_, rfl⟩
  rw [← hg3] at H3
  obtain ⟨g4, hg4⟩ : ∃ g, g = decide (0 ≤ k' ∧ k' ≤ 255) := ⟨_, rfl⟩
  rw [← hg4] at H4
  obtain ⟨g5, hg5⟩ : ∃ g, g = decide (l.length ≤ 5000) := ⟨_, rfl⟩
  rw [← hg5] at H5
  obtain ⟨g6, hg6⟩ : ∃ g, g = decide (m.length ≤ 5000) := ⟨_, rfl⟩
  rw [← hg6] at H6
  have HG : Hid (¬ (g1 = true ∧ g2 = true ∧ g3 = true ∧ g4 = true ∧ g5 = true ∧ g6 = true)) := Lib.hid (fun hx => h (by simpa [hg1, hg2, hg3, hg4, hg5, hg6] using hx))
  obtain ⟨p, hp⟩ : ∃ p, p = l.length := ⟨_, rfl⟩
  obtain ⟨q, hq⟩ : ∃ q, q = m.length := ⟨_, rfl⟩
  rw [← hp, ← hq] at H1 H2 H3 H4 H5 H6 T0
  rw [← hp, ← hq]
  clear hs ht h hg1 hg2 hg3 hg4 hg5 hg6 hp hq
  go_enter Tryz.func3, Tryz.ntmps3
  go_wp2_with fail
  refine (H1.out _ (T0.out)).mono ?_
  rintro e w1 ⟨rfl, T1⟩
  obtain ⟨x0, x1, x2, x3⟩ := T1.out.cells
  have hz := T1.out.lt
  cases g1 with
  | false =>
    go_wp2_with fail
    go_ret
    exact ⟨rfl, T1.out.below⟩
  | true =>
  go_wp2_with fail
  refine (H2.out _ (T1.out)).mono ?_
  rintro e w2 ⟨rfl, T2⟩
  clear x0 x1 x2 x3 hz
  obtain ⟨x0, x1, x2, x3⟩ := T2.out.cells
  have hz := T2.out.lt
  cases g2 with
  | false =>
    go_wp2_with fail
    go_ret
    exact ⟨rfl, T2.out.below⟩
  | true =>
  go_wp2_with fail
  refine (H3.out _ (T2.out)).mono ?_
  rintro e w3 ⟨rfl, T3⟩
  clear x0 x1 x2 x3 hz
  obtain ⟨x0, x1, x2, x3⟩ := T3.out.cells
  have hz := T3.out.lt
  cases g3 with
  | false =>
    go_wp2_with fail
    go_ret
    exact ⟨rfl, T3.out.below⟩
  | true =>
  go_wp2_with fail
  refine (H4.out _ (T3.out)).mono ?_
  rintro e w4 ⟨rfl, T4⟩
  clear x0 x1 x2 x3 hz
  obtain ⟨x0, x1, x2, x3⟩ := T4.out.cells
  have hz := T4.out.lt
  cases g4 with
  | false =>
    go_wp2_with fail
    go_ret
    exact ⟨rfl, T4.out.below⟩
  | true =>
  go_wp2_with fail
  refine (H5.out _ (T4.out)).mono ?_
  rintro e w5 ⟨rfl, T5⟩
  clear x0 x1 x2 x3 hz
  obtain ⟨x0, x1, x2, x3⟩ := T5.out.cells
  have hz := T5.out.lt
  cases g5 with
  | false =>
    go_wp2_with fail
    go_ret
    exact ⟨rfl, T5.out.below⟩
  | true =>
  go_wp2_with fail
  refine (H6.out _ (T5.out)).mono ?_
  rintro e w6 ⟨rfl, T6⟩
  clear x0 x1 x2 x3 hz
  obtain ⟨x0, x1, x2, x3⟩ := T6.out.cells
  have hz := T6.out.lt
  cases g6 with
  | false =>
    go_wp2_with fail
    go_ret
    exact ⟨rfl, T6.out.below⟩
  | true =>
  exact (HG.out (by simp)).elim

set_option maxHeartbeats 4000000 in
theorem eq_111 (A B : Option Addr) (c d : Nat) (l m : List UInt8) (k k' : Int) (w : World) (hs : SB w A c l) (ht : SB w B d m) (h : (l.length ≤ 2147483647) ∧ (m.length ≤ 2147483647) ∧ (0 ≤ k ∧ k ≤ 255) ∧ (0 ≤ k' ∧ k' ≤ 255) ∧ (l.length ≤ 5000) ∧ (m.length ≤ 5000)) (hk : k = k') (hva : valIs k l = true) (hvb : valIs k' m = true) :
    Calls Tryz.prog 3 #[.agg #[.int .i64 k, .slice A l.length c], .agg #[.int .i64 k', .slice B m.length d]] w fun e w' => e = .returned (.bool true) ∧ Below w.heap.size w w' := by
  obtain ⟨t1, t2, t3, t4, t5, t6⟩ := h
  have H1 := Lib.hid (fun wx (T : Two w wx k k' A B l.length c m.length d) => twoF A B c d l m k k' w wx hs T)
  have H2 := Lib.hid (fun wx (T : Two w wx k k' A B l.length c m.length d) => twoF' A B c d l m k k' w wx ht T)
  have H3 := Lib.hid (fun wx (T : Two w wx k k' A B l.length c m.length d) => twoB A B l.length c m.length d k k k' w wx T)
  have H4 := Lib.hid (fun wx (T : Two w wx k k' A B l.length c m.length d) => twoB A B l.length c m.length d k' k k' w wx T)
  have H5 := Lib.hid (fun wx (T : Two w wx k k' A B l.length c m.length d) => twoM A B c d l m k k' w wx hs T)
  have H6 := Lib.hid (fun wx (T : Two w wx k k' A B l.length c m.length d) => twoM' A B c d l m k k' w wx ht T)
  rw [decide_eq_true t1] at H1
  rw [decide_eq_true t2] at H2
  rw [decide_eq_true t3] at H3
  rw [decide_eq_true t4] at H4
  rw [decide_eq_true t5] at H5
  rw [decide_eq_true t6] at H6
  have H7 := Lib.hid (fun wx (T : Two w wx k k' A B l.length c m.length d) => twoS A B c d l m k k' w wx hs t5 T)
  have H8 := Lib.hid (fun wx (T : Two w wx k k' A B l.length c m.length d) => twoS' A B c d l m k k' w wx ht t6 T)
  have H9 := Lib.hid (fun wx (T : Two w wx k k' A B l.length c m.length d) => twoAw A B l.length c m.length d k k' w wx T)
  have H10 := Lib.hid (fun wx (T : Two w wx k k' A B l.length c m.length d) => twoE A B c d l m k k' w wx hs ht t3 t4 T)
  have H11 := Lib.hid (fun wx (T : Two w wx k k' A B l.length c m.length d) => twoV A B c d l m k k' w wx hs ht t3 t4 T)
  have H12 := Lib.hid (fun wx (T : Two w wx k k' A B l.length c m.length d) => twoE' A B c d l m k k' w wx hs t3 T)
  rw [hva] at H7
  rw [hvb] at H8
  obtain ⟨n, hn, hn2⟩ := valLen_of_is hva
  obtain ⟨n', hn', hn2'⟩ := valLen_of_is hvb
  obtain ⟨za, hza⟩ : ∃ z, z = decide (l.take n = m.take n') := ⟨_, rfl⟩
  have hal : alike k k' l m = za := by unfold alike; rw [decide_eq_true hk, hva, hvb, hn, hn', hza]; simp
  rw [hal] at H11
  obtain ⟨zs, hzs⟩ : ∃ z, z = decide (l = m) := ⟨_, rfl⟩
  rw [← hzs, decide_eq_true hk, Bool.true_and] at H10
  have ek : (k == k') = true := by simpa using hk
  obtain ⟨S1, hS1⟩ : ∃ s : ByteArray, s = ⟨l.toArray⟩ := ⟨_, rfl⟩
  obtain ⟨S2, hS2⟩ : ∃ s : ByteArray, s = ⟨m.toArray⟩ := ⟨_, rfl⟩
  have es : (S1.toList == S2.toList) = zs := by rw [hS1, hS2, hzs]; exact str_eq l m
  have HC1 : Hid (∀ wx, Two w wx k k' A B l.length c m.length d → (convert 22 9 (.slice A l.length c)).run Tryz.prog wx = .ok (.string S1) wx) := Lib.hid fun wx T => by rw [hS1]; exact str_of (hs.keep T.below)
  have HC2 : Hid (∀ wx, Two w wx k k' A B l.length c m.length d → (convert 22 9 (.slice B m.length d)).run Tryz.prog wx = .ok (.string S2) wx) := Lib.hid fun wx T => by rw [hS2]; exact str_of (ht.keep T.below)
  have HN : Hid (∀ x, x = (valLen k l).1 → x = (n : Int)) := Lib.hid fun x hx => by rw [hx, hn]
  have HN' : Hid (∀ x, x = (valLen k' m).1 → x = (n' : Int)) := Lib.hid fun x hx => by rw [hx, hn']
  obtain ⟨A1, e4, s4⟩ := SB.to_ (P := Tryz.prog) Tryz.underlying22 rfl rfl .i64 A c l n hn2 hs.le
  obtain ⟨B1, e5, s5⟩ := SB.to_ (P := Tryz.prog) Tryz.underlying22 rfl rfl .i64 B d m n' hn2' ht.le
  obtain ⟨S3, hS3⟩ : ∃ s : ByteArray, s = ⟨(l.take n).toArray⟩ := ⟨_, rfl⟩
  obtain ⟨S4, hS4⟩ : ∃ s : ByteArray, s = ⟨(m.take n').toArray⟩ := ⟨_, rfl⟩
  have es2 : (S3.toList == S4.toList) = za := by rw [hS3, hS4, hza]; exact str_eq _ _
  have HC3 : Hid (∀ wx, Two w wx k k' A B l.length c m.length d → (convert 22 9 (.slice A1 n c)).run Tryz.prog wx = .ok (.string S3) wx) := Lib.hid fun wx T => by have h := str_of (s4 wx (hs.keep T.below)); rw [List.length_take, Nat.min_eq_left hn2] at h; rw [hS3]; exact h
  have HC4 : Hid (∀ wx, Two w wx k k' A B l.length c m.length d → (convert 22 9 (.slice B1 n' d)).run Tryz.prog wx = .ok (.string S4) wx) := Lib.hid fun wx T => by have h := str_of (s5 wx (ht.keep T.below)); rw [List.length_take, Nat.min_eq_left hn2'] at h; rw [hS4]; exact h
  have T0 := Lib.hid (Two.start w k k' A B l.length c m.length d)
  obtain ⟨p, hp⟩ : ∃ p, p = l.length := ⟨_, rfl⟩
  obtain ⟨q, hq⟩ : ∃ q, q = m.length := ⟨_, rfl⟩
  rw [← hp, ← hq] at H1 H2 H3 H4 H5 H6 H7 H8 H9 H10 H11 H12 T0
  rw [← hp, ← hq] at HC1 HC2
  rw [← hp, ← hq] at HC3 HC4
  rw [← hp] at e4
  rw [← hq] at e5
  rw [← hp, ← hq]
  clear hs ht t1 t2 t3 t4 t5 t6 hk hva hvb hal hp hq hzs hS1 hS2 hn hn2 hn' hn2' hza s4 s5 hS3 hS4
  go_enter Tryz.func3, Tryz.ntmps3
  go_wp2_with fail
  refine (H1.out _ (T0.out)).mono ?_
  rintro e w1 ⟨rfl, T1⟩
  obtain ⟨x0, x1, x2, x3⟩ := T1.out.cells
  have hz := T1.out.lt
  clear H1 T0
  go_wp2_with fail
  refine (H2.out _ (T1.out)).mono ?_
  rintro e w2 ⟨rfl, T2⟩
  clear x0 x1 x2 x3 hz
  obtain ⟨x0, x1, x2, x3⟩ := T2.out.cells
  have hz := T2.out.lt
  clear H2 T1
  go_wp2_with fail
  refine (H3.out _ (T2.out)).mono ?_
  rintro e w3 ⟨rfl, T3⟩
  clear x0 x1 x2 x3 hz
  obtain ⟨x0, x1, x2, x3⟩ := T3.out.cells
  have hz := T3.out.lt
  clear H3 T2
  go_wp2_with fail
  refine (H4.out _ (T3.out)).mono ?_
  rintro e w4 ⟨rfl, T4⟩
  clear x0 x1 x2 x3 hz
  obtain ⟨x0, x1, x2, x3⟩ := T4.out.cells
  have hz := T4.out.lt
  clear H4 T3
  go_wp2_with fail
  refine (H5.out _ (T4.out)).mono ?_
  rintro e w5 ⟨rfl, T5⟩
  clear x0 x1 x2 x3 hz
  obtain ⟨x0, x1, x2, x3⟩ := T5.out.cells
  have hz := T5.out.lt
  clear H5 T4
  go_wp2_with fail
  refine (H6.out _ (T5.out)).mono ?_
  rintro e w6 ⟨rfl, T6⟩
  clear x0 x1 x2 x3 hz
  obtain ⟨x0, x1, x2, x3⟩ := T6.out.cells
  have hz := T6.out.lt
  clear H6 T5
  have hc1 := HC1.out _ T6.out
  have hc2 := HC2.out _ T6.out
  go_wp2_with fail
  refine (H7.out _ (T6.out)).mono ?_
  rintro e w7 ⟨r7, rfl, hr7, T7⟩
  clear x0 x1 x2 x3 hz
  obtain ⟨x0, x1, x2, x3⟩ := T7.out.cells
  have hz := T7.out.lt
  clear hc1 hc2
  clear H7 T6
  obtain rfl := HN.out _ (hr7 (by first | trivial | rfl))
  clear hr7
  go_wp2_with fail
  refine (H8.out _ (T7.out)).mono ?_
  rintro e w8 ⟨r8, rfl, hr8, T8⟩
  clear x0 x1 x2 x3 hz
  obtain ⟨x0, x1, x2, x3⟩ := T8.out.cells
  have hz := T8.out.lt
  clear H8 T7
  obtain rfl := HN'.out _ (hr8 (by first | trivial | rfl))
  clear hr8
  go_wp2_with fail
  refine start_ (n := 25) (S := fun w' => w'.cell? ⟨w.heap.size, 0, none⟩ = some (.int .i64 k) ∧ w'.cell? ⟨w.heap.size, 1, none⟩ = some (.slice A p c) ∧ w'.cell? ⟨w.heap.size + 1, 0, none⟩ = some (.int .i64 k') ∧ w'.cell? ⟨w.heap.size + 1, 1, none⟩ = some (.slice B q d) ∧ (convert 22 9 (.slice A1 n c)).run Tryz.prog w' = .ok (.string S3) w' ∧ (convert 22 9 (.slice B1 n' d)).run Tryz.prog w' = .ok (.string S4) w') (ds := []) #[false, false, false, false, false, false, false, false, false, false, false, false, false, false, false, false, false, false, false, false, false, false, false, false, false] (by kernel_rfl) rfl rfl ⟨(by exact x0), (by exact x1), (by exact x2), (by exact x3), (by exact HC3.out _ T8.out.drew), (by exact HC4.out _ T8.out.drew)⟩ (fun hHeld => ?_)
  refine with_tabW R3.tab8 R3.bits8 (fun HT_ HW_ => ?_)
  refine pure_ (i := 0) (N := some 71) (v := ?_) (a' := ?_) #[true, false, false, false, false, false, false, false, false, false, false, false, false, false, false, false, false, false, false, false, false, false, false, false, false] rfl rfl (any_of HT_.out (by kernel_rfl)) (fun _ _ _ h => h) (Or.inl ⟨by rfl, ?_⟩) ?_ ?_
  rotate_left
  · intro w'
    go_simp
    with_reducible rfl
  rotate_left
  · simp only [Act.put, List.setIfInBounds_toArray, List.set_cons_zero, List.set_cons_succ, i64_w, i32_w]
    rfl
  refine pure_ (i := 1) (N := some 72) (v := ?_) (a' := ?_) #[true, true, false, false, false, false, false, false, false, false, false, false, false, false, false, false, false, false, false, false, false, false, false, false, false] rfl rfl (any_of HT_.out (by kernel_rfl)) (fun _ _ _ h => h) (Or.inl ⟨by rfl, ?_⟩) ?_ ?_
  rotate_left
  · intro w'
    go_simp
    with_reducible rfl
  rotate_left
  · simp only [Act.put, List.setIfInBounds_toArray, List.set_cons_zero, List.set_cons_succ, i64_w, i32_w]
    rfl
  refine pure_ (i := 2) (N := some 73) (v := ?_) (a' := ?_) #[true, true, true, false, false, false, false, false, false, false, false, false, false, false, false, false, false, false, false, false, false, false, false, false, false] rfl rfl (any_of HT_.out (by kernel_rfl)) (fun _ _ _ h => h) (Or.inl ⟨by rfl, ?_⟩) ?_ ?_
  rotate_left
  · intro w'
    go_simp
    with_reducible rfl
  rotate_left
  · simp only [Act.put, List.setIfInBounds_toArray, List.set_cons_zero, List.set_cons_succ, i64_w, i32_w]
    rfl
  refine pure_ (i := 3) (N := some 74) (v := ?_) (a' := ?_) #[true, true, true, true, false, false, false, false, false, false, false, false, false, false, false, false, false, false, false, false, false, false, false, false, false] rfl rfl (any_of HT_.out (by kernel_rfl)) (fun _ _ _ h => h) (Or.inl ⟨by rfl, ?_⟩) ?_ ?_
  rotate_left
  · intro w'
    go_simp
    with_reducible rfl
  rotate_left
  · simp only [Act.put, List.setIfInBounds_toArray, List.set_cons_zero, List.set_cons_succ, i64_w, i32_w]
    rfl
  refine pure_ (i := 4) (N := some 75) (v := ?_) (a' := ?_) #[true, true, true, true, true, false, false, false, false, false, false, false, false, false, false, false, false, false, false, false, false, false, false, false, false] rfl rfl (any_of HT_.out (by kernel_rfl)) (fun _ _ _ h => h) (Or.inl ⟨by rfl, ?_⟩) ?_ ?_
  rotate_left
  · intro w'
    go_simp
    with_reducible rfl
  rotate_left
  · simp only [Act.put, List.setIfInBounds_toArray, List.set_cons_zero, List.set_cons_succ, i64_w, i32_w]
    rfl
  refine pure_ (i := 5) (N := some 76) (v := ?_) (a' := ?_) #[true, true, true, true, true, true, false, false, false, false, false, false, false, false, false, false, false, false, false, false, false, false, false, false, false] rfl rfl (any_of HT_.out (by kernel_rfl)) (fun _ _ _ h => h) (Or.inl ⟨by rfl, ?_⟩) ?_ ?_
  rotate_left
  · intro w'
    go_simp
    with_reducible rfl
  rotate_left
  · simp only [Act.put, List.setIfInBounds_toArray, List.set_cons_zero, List.set_cons_succ, i64_w, i32_w]
    rfl
  refine pure_ (i := 7) (N := some 78) (v := ?_) (a' := ?_) #[true, true, true, true, true, true, false, true, false, false, false, false, false, false, false, false, false, false, false, false, false, false, false, false, false] rfl rfl (any_of HT_.out (by kernel_rfl)) (fun _ _ _ h => h) (Or.inl ⟨by rfl, ?_⟩) ?_ ?_
  rotate_left
  · intro w'
    go_simp
    with_reducible rfl
  rotate_left
  · simp only [Act.put, List.setIfInBounds_toArray, List.set_cons_zero, List.set_cons_succ, i64_w, i32_w]
    rfl
  refine take_ (i := 6) (N := some 77) (v := ?_) (a' := ?_) #[true, true, true, true, true, true, true, true, false, false, false, false, false, false, false, false, false, false, false, false, false, false, false, false, false] rfl rfl (take_ofW HT_.out HW_.out (by kernel_rfl)) (fun _ _ _ h => h) (Or.inl ⟨by rfl, ?_⟩) hHeld ?_ ?_
  rotate_left
  · rintro w' ⟨s0, s1, s2, s3, s4, s5⟩
    go_simp
    with_reducible rfl
  rotate_left
  · simp only [Act.put, List.setIfInBounds_toArray, List.set_cons_zero, List.set_cons_succ, i64_w, i32_w]
    rfl
  refine take_ (i := 8) (N := some 79) (v := ?_) (a' := ?_) #[true, true, true, true, true, true, true, true, true, false, false, false, false, false, false, false, false, false, false, false, false, false, false, false, false] rfl rfl (take_ofW HT_.out HW_.out (by kernel_rfl)) (fun _ _ _ h => h) (Or.inl ⟨by rfl, ?_⟩) hHeld ?_ ?_
  rotate_left
  · rintro w' ⟨s0, s1, s2, s3, s4, s5⟩
    go_simp
    with_reducible rfl
  rotate_left
  · simp only [Act.put, List.setIfInBounds_toArray, List.set_cons_zero, List.set_cons_succ, i64_w, i32_w]
    rfl
  refine pure_ (i := 9) (N := some 80) (v := ?_) (a' := ?_) #[true, true, true, true, true, true, true, true, true, true, false, false, false, false, false, false, false, false, false, false, false, false, false, false, false] rfl rfl (any_of HT_.out (by kernel_rfl)) (fun _ _ _ h => h) (Or.inl ⟨by rfl, ?_⟩) ?_ ?_
  rotate_left
  · intro w'
    go_simp
    with_reducible rfl
  rotate_left
  · simp only [Act.put, List.setIfInBounds_toArray, List.set_cons_zero, List.set_cons_succ, i64_w, i32_w]
    rfl
  refine pure_ (i := 10) (N := some 81) (v := ?_) (a' := ?_) #[true, true, true, true, true, true, true, true, true, true, true, false, false, false, false, false, false, false, false, false, false, false, false, false, false] rfl rfl (any_of HT_.out (by kernel_rfl)) (fun _ _ _ h => h) (Or.inl ⟨by rfl, ?_⟩) ?_ ?_
  rotate_left
  · intro w'
    go_simp
    with_reducible rfl
  rotate_left
  · simp only [Act.put, List.setIfInBounds_toArray, List.set_cons_zero, List.set_cons_succ, i64_w, i32_w]
    rfl
  refine pure_ (i := 11) (N := some 82) (v := ?_) (a' := ?_) #[true, true, true, true, true, true, true, true, true, true, true, true, false, false, false, false, false, false, false, false, false, false, false, false, false] rfl rfl (any_of HT_.out (by kernel_rfl)) (fun _ _ _ h => h) (Or.inl ⟨by rfl, ?_⟩) ?_ ?_
  rotate_left
  · intro w'
    go_simp
    with_reducible rfl
  rotate_left
  · simp only [Act.put, List.setIfInBounds_toArray, List.set_cons_zero, List.set_cons_succ, i64_w, i32_w]
    rfl
  refine pure_ (i := 12) (N := some 83) (v := ?_) (a' := ?_) #[true, true, true, true, true, true, true, true, true, true, true, true, true, false, false, false, false, false, false, false, false, false, false, false, false] rfl rfl (any_of HT_.out (by kernel_rfl)) (fun _ _ _ h => h) (Or.inl ⟨by rfl, ?_⟩) ?_ ?_
  rotate_left
  · intro w'
    go_simp
    with_reducible rfl
  rotate_left
  · simp only [Act.put, List.setIfInBounds_toArray, List.set_cons_zero, List.set_cons_succ, i64_w, i32_w]
    rfl
  refine pure_ (i := 14) (N := some 85) (v := ?_) (a' := ?_) #[true, true, true, true, true, true, true, true, true, true, true, true, true, false, true, false, false, false, false, false, false, false, false, false, false] rfl rfl (any_of HT_.out (by kernel_rfl)) (fun _ _ _ h => h) (Or.inl ⟨by rfl, ?_⟩) ?_ ?_
  rotate_left
  · intro w'
    go_simp
    with_reducible rfl
  rotate_left
  · simp only [Act.put, List.setIfInBounds_toArray, List.set_cons_zero, List.set_cons_succ, i64_w, i32_w]
    rfl
  refine pure_ (i := 17) (N := some 88) (v := ?_) (a' := ?_) #[true, true, true, true, true, true, true, true, true, true, true, true, true, false, true, false, false, true, false, false, false, false, false, false, false] rfl rfl (any_of HT_.out (by kernel_rfl)) (fun _ _ _ h => h) (Or.inl ⟨by rfl, ?_⟩) ?_ ?_
  rotate_left
  · intro w'
    go_simp
    with_reducible rfl
  rotate_left
  · simp only [Act.put, List.setIfInBounds_toArray, List.set_cons_zero, List.set_cons_succ, i64_w, i32_w]
    rfl
  refine pure_ (i := 19) (N := some 90) (v := ?_) (a' := ?_) #[true, true, true, true, true, true, true, true, true, true, true, true, true, false, true, false, false, true, false, true, false, false, false, false, false] rfl rfl (any_of HT_.out (by kernel_rfl)) (fun _ _ _ h => h) (Or.inl ⟨by rfl, ?_⟩) ?_ ?_
  rotate_left
  · intro w'
    go_simp
    with_reducible rfl
  rotate_left
  · simp only [Act.put, List.setIfInBounds_toArray, List.set_cons_zero, List.set_cons_succ, i64_w, i32_w]
    rfl
  refine take_ (i := 13) (N := some 84) (v := ?_) (a' := ?_) #[true, true, true, true, true, true, true, true, true, true, true, true, true, true, true, false, false, true, false, true, false, false, false, false, false] rfl rfl (take_ofW HT_.out HW_.out (by kernel_rfl)) (fun _ _ _ h => h) (Or.inl ⟨by rfl, ?_⟩) hHeld ?_ ?_
  rotate_left
  · rintro w' ⟨s0, s1, s2, s3, s4, s5⟩
    go_simp
    with_reducible rfl
  rotate_left
  · simp only [Act.put, List.setIfInBounds_toArray, List.set_cons_zero, List.set_cons_succ, i64_w, i32_w]
    rfl
  refine pure_ (i := 15) (N := some 86) (v := ?_) (a' := ?_) #[true, true, true, true, true, true, true, true, true, true, true, true, true, true, true, true, false, true, false, true, false, false, false, false, false] rfl rfl (any_of HT_.out (by kernel_rfl)) (fun _ _ _ h => h) (Or.inl ⟨by rfl, ?_⟩) ?_ ?_
  rotate_left
  · intro w'
    go_simp
    with_reducible rfl
  rotate_left
  · simp only [Act.put, List.setIfInBounds_toArray, List.set_cons_zero, List.set_cons_succ, i64_w, i32_w]
    rfl
  refine take_ (i := 16) (N := some 87) (v := ?_) (a' := ?_) #[true, true, true, true, true, true, true, true, true, true, true, true, true, true, true, true, true, true, false, true, false, false, false, false, false] rfl rfl (take_ofW HT_.out HW_.out (by kernel_rfl)) (fun _ _ _ h => h) (Or.inl ⟨by rfl, ?_⟩) hHeld ?_ ?_
  rotate_left
  · rintro w' ⟨s0, s1, s2, s3, s4, s5⟩
    go_simp
    with_reducible rfl
  rotate_left
  · simp only [Act.put, List.setIfInBounds_toArray, List.set_cons_zero, List.set_cons_succ, i64_w, i32_w]
    rfl
  refine take_ (i := 18) (N := some 89) (v := ?_) (a' := ?_) #[true, true, true, true, true, true, true, true, true, true, true, true, true, true, true, true, true, true, true, true, false, false, false, false, false] rfl rfl (take_ofW HT_.out HW_.out (by kernel_rfl)) (fun _ _ _ h => h) (Or.inl ⟨by rfl, ?_⟩) hHeld ?_ ?_
  rotate_left
  · rintro w' ⟨s0, s1, s2, s3, s4, s5⟩
    go_simp
    with_reducible rfl
  rotate_left
  · simp only [Act.put, List.setIfInBounds_toArray, List.set_cons_zero, List.set_cons_succ, i64_w, i32_w]
    rfl
  refine pure_ (i := 20) (N := some 91) (v := ?_) (a' := ?_) #[true, true, true, true, true, true, true, true, true, true, true, true, true, true, true, true, true, true, true, true, true, false, false, false, false] rfl rfl (any_of HT_.out (by kernel_rfl)) (fun _ _ _ h => h) (Or.inl ⟨by rfl, ?_⟩) ?_ ?_
  rotate_left
  · intro w'
    go_simp
    with_reducible rfl
  rotate_left
  · simp only [Act.put, List.setIfInBounds_toArray, List.set_cons_zero, List.set_cons_succ, i64_w, i32_w]
    rfl
  refine take_ (i := 21) (N := some 92) (v := ?_) (a' := ?_) #[true, true, true, true, true, true, true, true, true, true, true, true, true, true, true, true, true, true, true, true, true, true, false, false, false] rfl rfl (take_ofW HT_.out HW_.out (by kernel_rfl)) (fun _ _ _ h => h) (Or.inl ⟨by rfl, ?_⟩) hHeld ?_ ?_
  rotate_left
  · rintro w' ⟨s0, s1, s2, s3, s4, s5⟩
    go_simp
    with_reducible rfl
  rotate_left
  · simp only [Act.put, List.setIfInBounds_toArray, List.set_cons_zero, List.set_cons_succ, i64_w, i32_w]
    rfl
  refine pure_ (i := 22) (N := some 93) (v := ?_) (a' := ?_) #[true, true, true, true, true, true, true, true, true, true, true, true, true, true, true, true, true, true, true, true, true, true, true, false, false] rfl rfl (any_of HT_.out (by kernel_rfl)) (fun _ _ _ h => h) (Or.inl ⟨by rfl, ?_⟩) ?_ ?_
  rotate_left
  · intro w'
    go_simp
    with_reducible rfl
  rotate_left
  · simp only [Act.put, List.setIfInBounds_toArray, List.set_cons_zero, List.set_cons_succ, i64_w, i32_w]
    rfl
  refine pure_ (i := 23) (N := some 94) (v := ?_) (a' := ?_) #[true, true, true, true, true, true, true, true, true, true, true, true, true, true, true, true, true, true, true, true, true, true, true, true, false] rfl rfl (any_of HT_.out (by kernel_rfl)) (fun _ _ _ h => h) (Or.inl ⟨by rfl, ?_⟩) ?_ ?_
  rotate_left
  · intro w'
    go_simp
    with_reducible rfl
  rotate_left
  · simp only [Act.put, List.setIfInBounds_toArray, List.set_cons_zero, List.set_cons_succ, i64_w, i32_w]
    rfl
  refine pure_ (i := 24) (N := some 10) (v := ?_) (a' := ?_) #[true, true, true, true, true, true, true, true, true, true, true, true, true, true, true, true, true, true, true, true, true, true, true, true, true] rfl rfl (any_of HT_.out (by kernel_rfl)) (fun _ _ _ h => h) (Or.inl ⟨by rfl, ?_⟩) ?_ ?_
  rotate_left
  · intro w'
    go_simp
    with_reducible rfl
  rotate_left
  · simp only [Act.put, List.setIfInBounds_toArray, List.set_cons_zero, List.set_cons_succ, i64_w, i32_w]
    rfl
  refine done_ (done_of HT_.out (by kernel_rfl)) ?_
  clear x0 x1 x2 x3 hz
  have T8' := Lib.hid T8.out.drew
  obtain ⟨x0, x1, x2, x3⟩ := T8'.out.cells
  have hz := T8'.out.lt
  clear T8
  go_wp2_with fail
  refine (H9.out _ (by first | exact T8'.out | exact T8'.out.drew)).mono ?_
  rintro e w9 ⟨rfl, T9⟩
  clear x0 x1 x2 x3 hz
  obtain ⟨x0, x1, x2, x3⟩ := T9.out.cells
  have hz := T9.out.lt
  clear H9 T8'
  go_wp2_with fail
  refine (H10.out _ (T9.out)).mono ?_
  rintro e w10 ⟨rfl, T10⟩
  clear x0 x1 x2 x3 hz
  obtain ⟨x0, x1, x2, x3⟩ := T10.out.cells
  have hz := T10.out.lt
  clear H10 T9
  go_wp2_with fail
  refine (H11.out _ (T10.out)).mono ?_
  rintro e w11 ⟨rfl, T11⟩
  clear x0 x1 x2 x3 hz
  obtain ⟨x0, x1, x2, x3⟩ := T11.out.cells
  have hz := T11.out.lt
  clear H11 T10
  go_wp2_with fail
  refine (H12.out _ (T11.out)).mono ?_
  rintro e w12 ⟨rfl, T12⟩
  clear x0 x1 x2 x3 hz
  obtain ⟨x0, x1, x2, x3⟩ := T12.out.cells
  have hz := T12.out.lt
  clear H12 T11
  go_wp2_with fail
  go_ret
  exact ⟨by first | rfl | simp, T12.out.below⟩

set_option maxHeartbeats 4000000 in
theorem eq_110 (A B : Option Addr) (c d : Nat) (l m : List UInt8) (k k' : Int) (w : World) (hs : SB w A c l) (ht : SB w B d m) (h : (l.length ≤ 2147483647) ∧ (m.length ≤ 2147483647) ∧ (0 ≤ k ∧ k ≤ 255) ∧ (0 ≤ k' ∧ k' ≤ 255) ∧ (l.length ≤ 5000) ∧ (m.length ≤ 5000)) (hk : k = k') (hva : valIs k l = true) (hvb : valIs k' m = false) :
    Calls Tryz.prog 3 #[.agg #[.int .i64 k, .slice A l.length c], .agg #[.int .i64 k', .slice B m.length d]] w fun e w' => e = .returned (.bool true) ∧ Below w.heap.size w w' := by
  obtain ⟨t1, t2, t3, t4, t5, t6⟩ := h
  have H1 := Lib.hid (fun wx (T : Two w wx k k' A B l.length c m.length d) => twoF A B c d l m k k' w wx hs T)
  have H2 := Lib.hid (fun wx (T : Two w wx k k' A B l.length c m.length d) => twoF' A B c d l m k k' w wx ht T)
  have H3 := Lib.hid (fun wx (T : Two w wx k k' A B l.length c m.length d) => twoB A B l.length c m.length d k k k' w wx T)
  have H4 := Lib.hid (fun wx (T : Two w wx k k' A B l.length c m.length d) => twoB A B l.length c m.length d k' k k' w wx T)
  have H5 := Lib.hid (fun wx (T : Two w wx k k' A B l.length c m.length d) => twoM A B c d l m k k' w wx hs T)
  have H6 := Lib.hid (fun wx (T : Two w wx k k' A B l.length c m.length d) => twoM' A B c d l m k k' w wx ht T)
  rw [decide_eq_true t1] at H1
  rw [decide_eq_true t2] at H2
  rw [decide_eq_true t3] at H3
  rw [decide_eq_true t4] at H4
  rw [decide_eq_true t5] at H5
  rw [decide_eq_true t6] at H6
  have H7 := Lib.hid (fun wx (T : Two w wx k k' A B l.length c m.length d) => twoS A B c d l m k k' w wx hs t5 T)
  have H8 := Lib.hid (fun wx (T : Two w wx k k' A B l.length c m.length d) => twoS' A B c d l m k k' w wx ht t6 T)
  have H9 := Lib.hid (fun wx (T : Two w wx k k' A B l.length c m.length d) => twoAw A B l.length c m.length d k k' w wx T)
  have H10 := Lib.hid (fun wx (T : Two w wx k k' A B l.length c m.length d) => twoE A B c d l m k k' w wx hs ht t3 t4 T)
  have H11 := Lib.hid (fun wx (T : Two w wx k k' A B l.length c m.length d) => twoV A B c d l m k k' w wx hs ht t3 t4 T)
  have H12 := Lib.hid (fun wx (T : Two w wx k k' A B l.length c m.length d) => twoE' A B c d l m k k' w wx hs t3 T)
  rw [hva] at H7
  rw [hvb] at H8
  have hal : alike k k' l m = false := by unfold alike; rw [hvb]; simp
  rw [hal] at H11
  obtain ⟨zs, hzs⟩ : ∃ z, z = decide (l = m) := ⟨_, rfl⟩
  rw [← hzs, decide_eq_true hk, Bool.true_and] at H10
  have ek : (k == k') = true := by simpa using hk
  obtain ⟨S1, hS1⟩ : ∃ s : ByteArray, s = ⟨l.toArray⟩ := ⟨_, rfl⟩
  obtain ⟨S2, hS2⟩ : ∃ s : ByteArray, s = ⟨m.toArray⟩ := ⟨_, rfl⟩
  have es : (S1.toList == S2.toList) = zs := by rw [hS1, hS2, hzs]; exact str_eq l m
  have HC1 : Hid (∀ wx, Two w wx k k' A B l.length c m.length d → (convert 22 9 (.slice A l.length c)).run Tryz.prog wx = .ok (.string S1) wx) := Lib.hid fun wx T => by rw [hS1]; exact str_of (hs.keep T.below)
  have HC2 : Hid (∀ wx, Two w wx k k' A B l.length c m.length d → (convert 22 9 (.slice B m.length d)).run Tryz.prog wx = .ok (.string S2) wx) := Lib.hid fun wx T => by rw [hS2]; exact str_of (ht.keep T.below)
  have T0 := Lib.hid (Two.start w k k' A B l.length c m.length d)
  obtain ⟨p, hp⟩ : ∃ p, p = l.length := ⟨_, rfl⟩
  obtain ⟨q, hq⟩ : ∃ q, q = m.length := ⟨_, rfl⟩
  rw [← hp, ← hq] at H1 H2 H3 H4 H5 H6 H7 H8 H9 H10 H11 H12 T0
  rw [← hp, ← hq] at HC1 HC2
  rw [← hp, ← hq]
  clear hs ht t1 t2 t3 t4 t5 t6 hk hva hvb hal hp hq hzs hS1 hS2
  go_enter Tryz.func3, Tryz.ntmps3
  go_wp2_with fail
  refine (H1.out _ (T0.out)).mono ?_
  rintro e w1 ⟨rfl, T1⟩
  obtain ⟨x0, x1, x2, x3⟩ := T1.out.cells
  have hz := T1.out.lt
  clear H1 T0
  go_wp2_with fail
  refine (H2.out _ (T1.out)).mono ?_
  rintro e w2 ⟨rfl, T2⟩
  clear x0 x1 x2 x3 hz
  obtain ⟨x0, x1, x2, x3⟩ := T2.out.cells
  have hz := T2.out.lt
  clear H2 T1
  go_wp2_with fail
  refine (H3.out _ (T2.out)).mono ?_
  rintro e w3 ⟨rfl, T3⟩
  clear x0 x1 x2 x3 hz
  obtain ⟨x0, x1, x2, x3⟩ := T3.out.cells
  have hz := T3.out.lt
  clear H3 T2
  go_wp2_with fail
  refine (H4.out _ (T3.out)).mono ?_
  rintro e w4 ⟨rfl, T4⟩
  clear x0 x1 x2 x3 hz
  obtain ⟨x0, x1, x2, x3⟩ := T4.out.cells
  have hz := T4.out.lt
  clear H4 T3
  go_wp2_with fail
  refine (H5.out _ (T4.out)).mono ?_
  rintro e w5 ⟨rfl, T5⟩
  clear x0 x1 x2 x3 hz
  obtain ⟨x0, x1, x2, x3⟩ := T5.out.cells
  have hz := T5.out.lt
  clear H5 T4
  go_wp2_with fail
  refine (H6.out _ (T5.out)).mono ?_
  rintro e w6 ⟨rfl, T6⟩
  clear x0 x1 x2 x3 hz
  obtain ⟨x0, x1, x2, x3⟩ := T6.out.cells
  have hz := T6.out.lt
  clear H6 T5
  have hc1 := HC1.out _ T6.out
  have hc2 := HC2.out _ T6.out
  go_wp2_with fail
  refine (H7.out _ (T6.out)).mono ?_
  rintro e w7 ⟨r7, rfl, hr7, T7⟩
  clear x0 x1 x2 x3 hz
  obtain ⟨x0, x1, x2, x3⟩ := T7.out.cells
  have hz := T7.out.lt
  clear hc1 hc2
  clear H7 T6
  clear hr7
  go_wp2_with fail
  refine (H8.out _ (T7.out)).mono ?_
  rintro e w8 ⟨r8, rfl, hr8, T8⟩
  clear x0 x1 x2 x3 hz
  obtain ⟨x0, x1, x2, x3⟩ := T8.out.cells
  have hz := T8.out.lt
  clear H8 T7
  clear hr8
  go_wp2_with fail
  refine start_ (n := 25) (S := fun w' => w'.cell? ⟨w.heap.size, 0, none⟩ = some (.int .i64 k) ∧ w'.cell? ⟨w.heap.size, 1, none⟩ = some (.slice A p c) ∧ w'.cell? ⟨w.heap.size + 1, 0, none⟩ = some (.int .i64 k') ∧ w'.cell? ⟨w.heap.size + 1, 1, none⟩ = some (.slice B q d)) (ds := []) #[false, false, false, false, false, false, false, false, false, false, false, false, false, false, false, false, false, false, false, false, false, false, false, false, false] (by kernel_rfl) rfl rfl ⟨(by exact x0), (by exact x1), (by exact x2), (by exact x3)⟩ (fun hHeld => ?_)
  refine with_tabW R3.tab8 R3.bits8 (fun HT_ HW_ => ?_)
  refine pure_ (i := 0) (N := some 71) (v := ?_) (a' := ?_) #[true, false, false, false, false, false, false, false, false, false, false, false, false, false, false, false, false, false, false, false, false, false, false, false, false] rfl rfl (any_of HT_.out (by kernel_rfl)) (fun _ _ _ h => h) (Or.inl ⟨by rfl, ?_⟩) ?_ ?_
  rotate_left
  · intro w'
    go_simp
    with_reducible rfl
  rotate_left
  · simp only [Act.put, List.setIfInBounds_toArray, List.set_cons_zero, List.set_cons_succ, i64_w, i32_w]
    rfl
  refine pure_ (i := 1) (N := some 72) (v := ?_) (a' := ?_) #[true, true, false, false, false, false, false, false, false, false, false, false, false, false, false, false, false, false, false, false, false, false, false, false, false] rfl rfl (any_of HT_.out (by kernel_rfl)) (fun _ _ _ h => h) (Or.inl ⟨by rfl, ?_⟩) ?_ ?_
  rotate_left
  · intro w'
    go_simp
    with_reducible rfl
  rotate_left
  · simp only [Act.put, List.setIfInBounds_toArray, List.set_cons_zero, List.set_cons_succ, i64_w, i32_w]
    rfl
  refine pure_ (i := 2) (N := some 73) (v := ?_) (a' := ?_) #[true, true, true, false, false, false, false, false, false, false, false, false, false, false, false, false, false, false, false, false, false, false, false, false, false] rfl rfl (any_of HT_.out (by kernel_rfl)) (fun _ _ _ h => h) (Or.inl ⟨by rfl, ?_⟩) ?_ ?_
  rotate_left
  · intro w'
    go_simp
    with_reducible rfl
  rotate_left
  · simp only [Act.put, List.setIfInBounds_toArray, List.set_cons_zero, List.set_cons_succ, i64_w, i32_w]
    rfl
  refine pure_ (i := 3) (N := some 74) (v := ?_) (a' := ?_) #[true, true, true, true, false, false, false, false, false, false, false, false, false, false, false, false, false, false, false, false, false, false, false, false, false] rfl rfl (any_of HT_.out (by kernel_rfl)) (fun _ _ _ h => h) (Or.inl ⟨by rfl, ?_⟩) ?_ ?_
  rotate_left
  · intro w'
    go_simp
    with_reducible rfl
  rotate_left
  · simp only [Act.put, List.setIfInBounds_toArray, List.set_cons_zero, List.set_cons_succ, i64_w, i32_w]
    rfl
  refine pure_ (i := 4) (N := some 75) (v := ?_) (a' := ?_) #[true, true, true, true, true, false, false, false, false, false, false, false, false, false, false, false, false, false, false, false, false, false, false, false, false] rfl rfl (any_of HT_.out (by kernel_rfl)) (fun _ _ _ h => h) (Or.inl ⟨by rfl, ?_⟩) ?_ ?_
  rotate_left
  · intro w'
    go_simp
    with_reducible rfl
  rotate_left
  · simp only [Act.put, List.setIfInBounds_toArray, List.set_cons_zero, List.set_cons_succ, i64_w, i32_w]
    rfl
  refine pure_ (i := 5) (N := some 76) (v := undef) (a' := ?_) #[true, true, true, true, true, true, false, false, false, false, false, false, false, false, false, false, false, false, false, false, false, false, false, false, false] rfl rfl (any_of HT_.out (by kernel_rfl)) (fun _ _ _ h => h) (Or.inr ⟨by rfl, rfl⟩) ?_ ?_
  rotate_left
  · simp only [Act.put, List.setIfInBounds_toArray, List.set_cons_zero, List.set_cons_succ, i64_w, i32_w]
    rfl
  refine pure_ (i := 6) (N := some 77) (v := undef) (a' := ?_) #[true, true, true, true, true, true, true, false, false, false, false, false, false, false, false, false, false, false, false, false, false, false, false, false, false] rfl rfl (any_of HT_.out (by kernel_rfl)) (fun _ _ _ h => h) (Or.inr ⟨by rfl, rfl⟩) ?_ ?_
  rotate_left
  · simp only [Act.put, List.setIfInBounds_toArray, List.set_cons_zero, List.set_cons_succ, i64_w, i32_w]
    rfl
  refine pure_ (i := 7) (N := some 78) (v := undef) (a' := ?_) #[true, true, true, true, true, true, true, true, false, false, false, false, false, false, false, false, false, false, false, false, false, false, false, false, false] rfl rfl (any_of HT_.out (by kernel_rfl)) (fun _ _ _ h => h) (Or.inr ⟨by rfl, rfl⟩) ?_ ?_
  rotate_left
  · simp only [Act.put, List.setIfInBounds_toArray, List.set_cons_zero, List.set_cons_succ, i64_w, i32_w]
    rfl
  refine pure_ (i := 8) (N := some 79) (v := undef) (a' := ?_) #[true, true, true, true, true, true, true, true, true, false, false, false, false, false, false, false, false, false, false, false, false, false, false, false, false] rfl rfl (any_of HT_.out (by kernel_rfl)) (fun _ _ _ h => h) (Or.inr ⟨by rfl, rfl⟩) ?_ ?_
  rotate_left
  · simp only [Act.put, List.setIfInBounds_toArray, List.set_cons_zero, List.set_cons_succ, i64_w, i32_w]
    rfl
  refine pure_ (i := 9) (N := some 80) (v := undef) (a' := ?_) #[true, true, true, true, true, true, true, true, true, true, false, false, false, false, false, false, false, false, false, false, false, false, false, false, false] rfl rfl (any_of HT_.out (by kernel_rfl)) (fun _ _ _ h => h) (Or.inr ⟨by rfl, rfl⟩) ?_ ?_
  rotate_left
  · simp only [Act.put, List.setIfInBounds_toArray, List.set_cons_zero, List.set_cons_succ, i64_w, i32_w]
    rfl
  refine pure_ (i := 10) (N := some 81) (v := ?_) (a' := ?_) #[true, true, true, true, true, true, true, true, true, true, true, false, false, false, false, false, false, false, false, false, false, false, false, false, false] rfl rfl (any_of HT_.out (by kernel_rfl)) (fun _ _ _ h => h) (Or.inl ⟨by rfl, ?_⟩) ?_ ?_
  rotate_left
  · intro w'
    go_simp
    with_reducible rfl
  rotate_left
  · simp only [Act.put, List.setIfInBounds_toArray, List.set_cons_zero, List.set_cons_succ, i64_w, i32_w]
    rfl
  refine pure_ (i := 11) (N := some 82) (v := ?_) (a' := ?_) #[true, true, true, true, true, true, true, true, true, true, true, true, false, false, false, false, false, false, false, false, false, false, false, false, false] rfl rfl (any_of HT_.out (by kernel_rfl)) (fun _ _ _ h => h) (Or.inl ⟨by rfl, ?_⟩) ?_ ?_
  rotate_left
  · intro w'
    go_simp
    with_reducible rfl
  rotate_left
  · simp only [Act.put, List.setIfInBounds_toArray, List.set_cons_zero, List.set_cons_succ, i64_w, i32_w]
    rfl
  refine pure_ (i := 12) (N := some 83) (v := undef) (a' := ?_) #[true, true, true, true, true, true, true, true, true, true, true, true, true, false, false, false, false, false, false, false, false, false, false, false, false] rfl rfl (any_of HT_.out (by kernel_rfl)) (fun _ _ _ h => h) (Or.inr ⟨by rfl, rfl⟩) ?_ ?_
  rotate_left
  · simp only [Act.put, List.setIfInBounds_toArray, List.set_cons_zero, List.set_cons_succ, i64_w, i32_w]
    rfl
  refine pure_ (i := 13) (N := some 84) (v := undef) (a' := ?_) #[true, true, true, true, true, true, true, true, true, true, true, true, true, true, false, false, false, false, false, false, false, false, false, false, false] rfl rfl (any_of HT_.out (by kernel_rfl)) (fun _ _ _ h => h) (Or.inr ⟨by rfl, rfl⟩) ?_ ?_
  rotate_left
  · simp only [Act.put, List.setIfInBounds_toArray, List.set_cons_zero, List.set_cons_succ, i64_w, i32_w]
    rfl
  refine pure_ (i := 14) (N := some 85) (v := undef) (a' := ?_) #[true, true, true, true, true, true, true, true, true, true, true, true, true, true, true, false, false, false, false, false, false, false, false, false, false] rfl rfl (any_of HT_.out (by kernel_rfl)) (fun _ _ _ h => h) (Or.inr ⟨by rfl, rfl⟩) ?_ ?_
  rotate_left
  · simp only [Act.put, List.setIfInBounds_toArray, List.set_cons_zero, List.set_cons_succ, i64_w, i32_w]
    rfl
  refine pure_ (i := 15) (N := some 86) (v := undef) (a' := ?_) #[true, true, true, true, true, true, true, true, true, true, true, true, true, true, true, true, false, false, false, false, false, false, false, false, false] rfl rfl (any_of HT_.out (by kernel_rfl)) (fun _ _ _ h => h) (Or.inr ⟨by rfl, rfl⟩) ?_ ?_
  rotate_left
  · simp only [Act.put, List.setIfInBounds_toArray, List.set_cons_zero, List.set_cons_succ, i64_w, i32_w]
    rfl
  refine pure_ (i := 16) (N := some 87) (v := undef) (a' := ?_) #[true, true, true, true, true, true, true, true, true, true, true, true, true, true, true, true, true, false, false, false, false, false, false, false, false] rfl rfl (any_of HT_.out (by kernel_rfl)) (fun _ _ _ h => h) (Or.inr ⟨by rfl, rfl⟩) ?_ ?_
  rotate_left
  · simp only [Act.put, List.setIfInBounds_toArray, List.set_cons_zero, List.set_cons_succ, i64_w, i32_w]
    rfl
  refine pure_ (i := 17) (N := some 88) (v := undef) (a' := ?_) #[true, true, true, true, true, true, true, true, true, true, true, true, true, true, true, true, true, true, false, false, false, false, false, false, false] rfl rfl (any_of HT_.out (by kernel_rfl)) (fun _ _ _ h => h) (Or.inr ⟨by rfl, rfl⟩) ?_ ?_
  rotate_left
  · simp only [Act.put, List.setIfInBounds_toArray, List.set_cons_zero, List.set_cons_succ, i64_w, i32_w]
    rfl
  refine pure_ (i := 18) (N := some 89) (v := undef) (a' := ?_) #[true, true, true, true, true, true, true, true, true, true, true, true, true, true, true, true, true, true, true, false, false, false, false, false, false] rfl rfl (any_of HT_.out (by kernel_rfl)) (fun _ _ _ h => h) (Or.inr ⟨by rfl, rfl⟩) ?_ ?_
  rotate_left
  · simp only [Act.put, List.setIfInBounds_toArray, List.set_cons_zero, List.set_cons_succ, i64_w, i32_w]
    rfl
  refine pure_ (i := 19) (N := some 90) (v := undef) (a' := ?_) #[true, true, true, true, true, true, true, true, true, true, true, true, true, true, true, true, true, true, true, true, false, false, false, false, false] rfl rfl (any_of HT_.out (by kernel_rfl)) (fun _ _ _ h => h) (Or.inr ⟨by rfl, rfl⟩) ?_ ?_
  rotate_left
  · simp only [Act.put, List.setIfInBounds_toArray, List.set_cons_zero, List.set_cons_succ, i64_w, i32_w]
    rfl
  refine pure_ (i := 20) (N := some 91) (v := undef) (a' := ?_) #[true, true, true, true, true, true, true, true, true, true, true, true, true, true, true, true, true, true, true, true, true, false, false, false, false] rfl rfl (any_of HT_.out (by kernel_rfl)) (fun _ _ _ h => h) (Or.inr ⟨by rfl, rfl⟩) ?_ ?_
  rotate_left
  · simp only [Act.put, List.setIfInBounds_toArray, List.set_cons_zero, List.set_cons_succ, i64_w, i32_w]
    rfl
  refine pure_ (i := 21) (N := some 92) (v := undef) (a' := ?_) #[true, true, true, true, true, true, true, true, true, true, true, true, true, true, true, true, true, true, true, true, true, true, false, false, false] rfl rfl (any_of HT_.out (by kernel_rfl)) (fun _ _ _ h => h) (Or.inr ⟨by rfl, rfl⟩) ?_ ?_
  rotate_left
  · simp only [Act.put, List.setIfInBounds_toArray, List.set_cons_zero, List.set_cons_succ, i64_w, i32_w]
    rfl
  refine pure_ (i := 22) (N := some 93) (v := undef) (a' := ?_) #[true, true, true, true, true, true, true, true, true, true, true, true, true, true, true, true, true, true, true, true, true, true, true, false, false] rfl rfl (any_of HT_.out (by kernel_rfl)) (fun _ _ _ h => h) (Or.inr ⟨by rfl, rfl⟩) ?_ ?_
  rotate_left
  · simp only [Act.put, List.setIfInBounds_toArray, List.set_cons_zero, List.set_cons_succ, i64_w, i32_w]
    rfl
  refine pure_ (i := 23) (N := some 94) (v := ?_) (a' := ?_) #[true, true, true, true, true, true, true, true, true, true, true, true, true, true, true, true, true, true, true, true, true, true, true, true, false] rfl rfl (any_of HT_.out (by kernel_rfl)) (fun _ _ _ h => h) (Or.inl ⟨by rfl, ?_⟩) ?_ ?_
  rotate_left
  · intro w'
    go_simp
    with_reducible rfl
  rotate_left
  · simp only [Act.put, List.setIfInBounds_toArray, List.set_cons_zero, List.set_cons_succ, i64_w, i32_w]
    rfl
  refine pure_ (i := 24) (N := some 10) (v := ?_) (a' := ?_) #[true, true, true, true, true, true, true, true, true, true, true, true, true, true, true, true, true, true, true, true, true, true, true, true, true] rfl rfl (any_of HT_.out (by kernel_rfl)) (fun _ _ _ h => h) (Or.inl ⟨by rfl, ?_⟩) ?_ ?_
  rotate_left
  · intro w'
    go_simp
    with_reducible rfl
  rotate_left
  · simp only [Act.put, List.setIfInBounds_toArray, List.set_cons_zero, List.set_cons_succ, i64_w, i32_w]
    rfl
  refine done_ (done_of HT_.out (by kernel_rfl)) ?_
  clear x0 x1 x2 x3 hz
  have T8' := Lib.hid T8.out.drew
  obtain ⟨x0, x1, x2, x3⟩ := T8'.out.cells
  have hz := T8'.out.lt
  clear T8
  go_wp2_with fail
  refine (H9.out _ (by first | exact T8'.out | exact T8'.out.drew)).mono ?_
  rintro e w9 ⟨rfl, T9⟩
  clear x0 x1 x2 x3 hz
  obtain ⟨x0, x1, x2, x3⟩ := T9.out.cells
  have hz := T9.out.lt
  clear H9 T8'
  go_wp2_with fail
  refine (H10.out _ (T9.out)).mono ?_
  rintro e w10 ⟨rfl, T10⟩
  clear x0 x1 x2 x3 hz
  obtain ⟨x0, x1, x2, x3⟩ := T10.out.cells
  have hz := T10.out.lt
  clear H10 T9
  go_wp2_with fail
  refine (H11.out _ (T10.out)).mono ?_
  rintro e w11 ⟨rfl, T11⟩
  clear x0 x1 x2 x3 hz
  obtain ⟨x0, x1, x2, x3⟩ := T11.out.cells
  have hz := T11.out.lt
  clear H11 T10
  go_wp2_with fail
  refine (H12.out _ (T11.out)).mono ?_
  rintro e w12 ⟨rfl, T12⟩
  clear x0 x1 x2 x3 hz
  obtain ⟨x0, x1, x2, x3⟩ := T12.out.cells
  have hz := T12.out.lt
  clear H12 T11
  go_wp2_with fail
  go_ret
  exact ⟨by first | rfl | simp, T12.out.below⟩

set_option maxHeartbeats 4000000 in
theorem eq_101 (A B : Option Addr) (c d : Nat) (l m : List UInt8) (k k' : Int) (w : World) (hs : SB w A c l) (ht : SB w B d m) (h : (l.length ≤ 2147483647) ∧ (m.length ≤ 2147483647) ∧ (0 ≤ k ∧ k ≤ 255) ∧ (0 ≤ k' ∧ k' ≤ 255) ∧ (l.length ≤ 5000) ∧ (m.length ≤ 5000)) (hk : k = k') (hva : valIs k l = false) (hvb : valIs k' m = true) :
    Calls Tryz.prog 3 #[.agg #[.int .i64 k, .slice A l.length c], .agg #[.int .i64 k', .slice B m.length d]] w fun e w' => e = .returned (.bool true) ∧ Below w.heap.size w w' := by
  obtain ⟨t1, t2, t3, t4, t5, t6⟩ := h
  have H1 := Lib.hid (fun wx (T : Two w wx k k' A B l.length c m.length d) => twoF A B c d l m k k' w wx hs T)
  have H2 := Lib.hid (fun wx (T : Two w wx k k' A B l.length c m.length d) => twoF' A B c d l m k k' w wx ht T)
  have H3 := Lib.hid (fun wx (T : Two w wx k k' A B l.length c m.length d) => twoB A B l.length c m.length d k k k' w wx T)
  have H4 := Lib.hid (fun wx (T : Two w wx k k' A B l.length c m.length d) => twoB A B l.length c m.length d k' k k' w wx T)
  have H5 := Lib.hid (fun wx (T : Two w wx k k' A B l.length c m.length d) => twoM A B c d l m k k' w wx hs T)
  have H6 := Lib.hid (fun wx (T : Two w wx k k' A B l.length c m.length d) => twoM' A B c d l m k k' w wx ht T)
  rw [decide_eq_true t1] at H1
  rw [decide_eq_true t2] at H2
  rw [decide_eq_true t3] at H3
  rw [decide_eq_true t4] at H4
  rw [decide_eq_true t5] at H5
  rw [decide_eq_true t6] at H6
  have H7 := Lib.hid (fun wx (T : Two w wx k k' A B l.length c m.length d) => twoS A B c d l m k k' w wx hs t5 T)
  have H8 := Lib.hid (fun wx (T : Two w wx k k' A B l.length c m.length d) => twoS' A B c d l m k k' w wx ht t6 T)
  have H9 := Lib.hid (fun wx (T : Two w wx k k' A B l.length c m.length d) => twoAw A B l.length c m.length d k k' w wx T)
  have H10 := Lib.hid (fun wx (T : Two w wx k k' A B l.length c m.length d) => twoE A B c d l m k k' w wx hs ht t3 t4 T)
  have H11 := Lib.hid (fun wx (T : Two w wx k k' A B l.length c m.length d) => twoV A B c d l m k k' w wx hs ht t3 t4 T)
  have H12 := Lib.hid (fun wx (T : Two w wx k k' A B l.length c m.length d) => twoE' A B c d l m k k' w wx hs t3 T)
  rw [hva] at H7
  rw [hvb] at H8
  have hal : alike k k' l m = false := by unfold alike; rw [hva]; simp
  rw [hal] at H11
  obtain ⟨zs, hzs⟩ : ∃ z, z = decide (l = m) := ⟨_, rfl⟩
  rw [← hzs, decide_eq_true hk, Bool.true_and] at H10
  have ek : (k == k') = true := by simpa using hk
  obtain ⟨S1, hS1⟩ : ∃ s : ByteArray, s = ⟨l.toArray⟩ := ⟨_, rfl⟩
  obtain ⟨S2, hS2⟩ : ∃ s : ByteArray, s = ⟨m.toArray⟩ := ⟨_, rfl⟩
  have es : (S1.toList == S2.toList) = zs := by rw [hS1, hS2, hzs]; exact str_eq l m
  have HC1 : Hid (∀ wx, Two w wx k k' A B l.length c m.length d → (convert 22 9 (.slice A l.length c)).run Tryz.prog wx = .ok (.string S1) wx) := Lib.hid fun wx T => by rw [hS1]; exact str_of (hs.keep T.below)
  have HC2 : Hid (∀ wx, Two w wx k k' A B l.length c m.length d → (convert 22 9 (.slice B m.length d)).run Tryz.prog wx = .ok (.string S2) wx) := Lib.hid fun wx T => by rw [hS2]; exact str_of (ht.keep T.below)
  have T0 := Lib.hid (Two.start w k k' A B l.length c m.length d)
  obtain ⟨p, hp⟩ : ∃ p, p = l.length := ⟨_, rfl⟩
  obtain ⟨q, hq⟩ : ∃ q, q = m.length := ⟨_, rfl⟩
  rw [← hp, ← hq] at H1 H2 H3 H4 H5 H6 H7 H8 H9 H10 H11 H12 T0
  rw [← hp, ← hq] at HC1 HC2
  rw [← hp, ← hq]
  clear hs ht t1 t2 t3 t4 t5 t6 hk hva hvb hal hp hq hzs hS1 hS2
  go_enter Tryz.func3, Tryz.ntmps3
  go_wp2_with fail
  refine (H1.out _ (T0.out)).mono ?_
  rintro e w1 ⟨rfl, T1⟩
  obtain ⟨x0, x1, x2, x3⟩ := T1.out.cells
  have hz := T1.out.lt
  clear H1 T0
  go_wp2_with fail
  refine (H2.out _ (T1.out)).mono ?_
  rintro e w2 ⟨rfl, T2⟩
  clear x0 x1 x2 x3 hz
  obtain ⟨x0, x1, x2, x3⟩ := T2.out.cells
  have hz := T2.out.lt
  clear H2 T1
  go_wp2_with fail
  refine (H3.out _ (T2.out)).mono ?_
  rintro e w3 ⟨rfl, T3⟩
  clear x0 x1 x2 x3 hz
  obtain ⟨x0, x1, x2, x3⟩ := T3.out.cells
  have hz := T3.out.lt
  clear H3 T2
  go_wp2_with fail
  refine (H4.out _ (T3.out)).mono ?_
  rintro e w4 ⟨rfl, T4⟩
  clear x0 x1 x2 x3 hz
  obtain ⟨x0, x1, x2, x3⟩ := T4.out.cells
  have hz := T4.out.lt
  clear H4 T3
  go_wp2_with fail
  refine (H5.out _ (T4.out)).mono ?_
  rintro e w5 ⟨rfl, T5⟩
  clear x0 x1 x2 x3 hz
  obtain ⟨x0, x1, x2, x3⟩ := T5.out.cells
  have hz := T5.out.lt
  clear H5 T4
  go_wp2_with fail
  refine (H6.out _ (T5.out)).mono ?_
  rintro e w6 ⟨rfl, T6⟩
  clear x0 x1 x2 x3 hz
  obtain ⟨x0, x1, x2, x3⟩ := T6.out.cells
  have hz := T6.out.lt
  clear H6 T5
  have hc1 := HC1.out _ T6.out
  have hc2 := HC2.out _ T6.out
  go_wp2_with fail
  refine (H7.out _ (T6.out)).mono ?_
  rintro e w7 ⟨r7, rfl, hr7, T7⟩
  clear x0 x1 x2 x3 hz
  obtain ⟨x0, x1, x2, x3⟩ := T7.out.cells
  have hz := T7.out.lt
  clear hc1 hc2
  clear H7 T6
  clear hr7
  go_wp2_with fail
  refine (H8.out _ (T7.out)).mono ?_
  rintro e w8 ⟨r8, rfl, hr8, T8⟩
  clear x0 x1 x2 x3 hz
  obtain ⟨x0, x1, x2, x3⟩ := T8.out.cells
  have hz := T8.out.lt
  clear H8 T7
  clear hr8
  go_wp2_with fail
  refine start_ (n := 25) (S := fun w' => w'.cell? ⟨w.heap.size, 0, none⟩ = some (.int .i64 k) ∧ w'.cell? ⟨w.heap.size, 1, none⟩ = some (.slice A p c) ∧ w'.cell? ⟨w.heap.size + 1, 0, none⟩ = some (.int .i64 k') ∧ w'.cell? ⟨w.heap.size + 1, 1, none⟩ = some (.slice B q d)) (ds := []) #[false, false, false, false, false, false, false, false, false, false, false, false, false, false, false, false, false, false, false, false, false, false, false, false, false] (by kernel_rfl) rfl rfl ⟨(by exact x0), (by exact x1), (by exact x2), (by exact x3)⟩ (fun hHeld => ?_)
  refine with_tabW R3.tab8 R3.bits8 (fun HT_ HW_ => ?_)
  refine pure_ (i := 0) (N := some 71) (v := ?_) (a' := ?_) #[true, false, false, false, false, false, false, false, false, false, false, false, false, false, false, false, false, false, false, false, false, false, false, false, false] rfl rfl (any_of HT_.out (by kernel_rfl)) (fun _ _ _ h => h) (Or.inl ⟨by rfl, ?_⟩) ?_ ?_
  rotate_left
  · intro w'
    go_simp
    with_reducible rfl
  rotate_left
  · simp only [Act.put, List.setIfInBounds_toArray, List.set_cons_zero, List.set_cons_succ, i64_w, i32_w]
    rfl
  refine pure_ (i := 1) (N := some 72) (v := ?_) (a' := ?_) #[true, true, false, false, false, false, false, false, false, false, false, false, false, false, false, false, false, false, false, false, false, false, false, false, false] rfl rfl (any_of HT_.out (by kernel_rfl)) (fun _ _ _ h => h) (Or.inl ⟨by rfl, ?_⟩) ?_ ?_
  rotate_left
  · intro w'
    go_simp
    with_reducible rfl
  rotate_left
  · simp only [Act.put, List.setIfInBounds_toArray, List.set_cons_zero, List.set_cons_succ, i64_w, i32_w]
    rfl
  refine pure_ (i := 2) (N := some 73) (v := undef) (a' := ?_) #[true, true, true, false, false, false, false, false, false, false, false, false, false, false, false, false, false, false, false, false, false, false, false, false, false] rfl rfl (any_of HT_.out (by kernel_rfl)) (fun _ _ _ h => h) (Or.inr ⟨by rfl, rfl⟩) ?_ ?_
  rotate_left
  · simp only [Act.put, List.setIfInBounds_toArray, List.set_cons_zero, List.set_cons_succ, i64_w, i32_w]
    rfl
  refine pure_ (i := 3) (N := some 74) (v := ?_) (a' := ?_) #[true, true, true, true, false, false, false, false, false, false, false, false, false, false, false, false, false, false, false, false, false, false, false, false, false] rfl rfl (any_of HT_.out (by kernel_rfl)) (fun _ _ _ h => h) (Or.inl ⟨by rfl, ?_⟩) ?_ ?_
  rotate_left
  · intro w'
    go_simp
    with_reducible rfl
  rotate_left
  · simp only [Act.put, List.setIfInBounds_toArray, List.set_cons_zero, List.set_cons_succ, i64_w, i32_w]
    rfl
  refine pure_ (i := 4) (N := some 75) (v := ?_) (a' := ?_) #[true, true, true, true, true, false, false, false, false, false, false, false, false, false, false, false, false, false, false, false, false, false, false, false, false] rfl rfl (any_of HT_.out (by kernel_rfl)) (fun _ _ _ h => h) (Or.inl ⟨by rfl, ?_⟩) ?_ ?_
  rotate_left
  · intro w'
    go_simp
    with_reducible rfl
  rotate_left
  · simp only [Act.put, List.setIfInBounds_toArray, List.set_cons_zero, List.set_cons_succ, i64_w, i32_w]
    rfl
  refine pure_ (i := 5) (N := some 76) (v := undef) (a' := ?_) #[true, true, true, true, true, true, false, false, false, false, false, false, false, false, false, false, false, false, false, false, false, false, false, false, false] rfl rfl (any_of HT_.out (by kernel_rfl)) (fun _ _ _ h => h) (Or.inr ⟨by rfl, rfl⟩) ?_ ?_
  rotate_left
  · simp only [Act.put, List.setIfInBounds_toArray, List.set_cons_zero, List.set_cons_succ, i64_w, i32_w]
    rfl
  refine pure_ (i := 6) (N := some 77) (v := undef) (a' := ?_) #[true, true, true, true, true, true, true, false, false, false, false, false, false, false, false, false, false, false, false, false, false, false, false, false, false] rfl rfl (any_of HT_.out (by kernel_rfl)) (fun _ _ _ h => h) (Or.inr ⟨by rfl, rfl⟩) ?_ ?_
  rotate_left
  · simp only [Act.put, List.setIfInBounds_toArray, List.set_cons_zero, List.set_cons_succ, i64_w, i32_w]
    rfl
  refine pure_ (i := 7) (N := some 78) (v := undef) (a' := ?_) #[true, true, true, true, true, true, true, true, false, false, false, false, false, false, false, false, false, false, false, false, false, false, false, false, false] rfl rfl (any_of HT_.out (by kernel_rfl)) (fun _ _ _ h => h) (Or.inr ⟨by rfl, rfl⟩) ?_ ?_
  rotate_left
  · simp only [Act.put, List.setIfInBounds_toArray, List.set_cons_zero, List.set_cons_succ, i64_w, i32_w]
    rfl
  refine pure_ (i := 8) (N := some 79) (v := undef) (a' := ?_) #[true, true, true, true, true, true, true, true, true, false, false, false, false, false, false, false, false, false, false, false, false, false, false, false, false] rfl rfl (any_of HT_.out (by kernel_rfl)) (fun _ _ _ h => h) (Or.inr ⟨by rfl, rfl⟩) ?_ ?_
  rotate_left
  · simp only [Act.put, List.setIfInBounds_toArray, List.set_cons_zero, List.set_cons_succ, i64_w, i32_w]
    rfl
  refine pure_ (i := 9) (N := some 80) (v := undef) (a' := ?_) #[true, true, true, true, true, true, true, true, true, true, false, false, false, false, false, false, false, false, false, false, false, false, false, false, false] rfl rfl (any_of HT_.out (by kernel_rfl)) (fun _ _ _ h => h) (Or.inr ⟨by rfl, rfl⟩) ?_ ?_
  rotate_left
  · simp only [Act.put, List.setIfInBounds_toArray, List.set_cons_zero, List.set_cons_succ, i64_w, i32_w]
    rfl
  refine pure_ (i := 10) (N := some 81) (v := ?_) (a' := ?_) #[true, true, true, true, true, true, true, true, true, true, true, false, false, false, false, false, false, false, false, false, false, false, false, false, false] rfl rfl (any_of HT_.out (by kernel_rfl)) (fun _ _ _ h => h) (Or.inl ⟨by rfl, ?_⟩) ?_ ?_
  rotate_left
  · intro w'
    go_simp
    with_reducible rfl
  rotate_left
  · simp only [Act.put, List.setIfInBounds_toArray, List.set_cons_zero, List.set_cons_succ, i64_w, i32_w]
    rfl
  refine pure_ (i := 11) (N := some 82) (v := ?_) (a' := ?_) #[true, true, true, true, true, true, true, true, true, true, true, true, false, false, false, false, false, false, false, false, false, false, false, false, false] rfl rfl (any_of HT_.out (by kernel_rfl)) (fun _ _ _ h => h) (Or.inl ⟨by rfl, ?_⟩) ?_ ?_
  rotate_left
  · intro w'
    go_simp
    with_reducible rfl
  rotate_left
  · simp only [Act.put, List.setIfInBounds_toArray, List.set_cons_zero, List.set_cons_succ, i64_w, i32_w]
    rfl
  refine pure_ (i := 12) (N := some 83) (v := undef) (a' := ?_) #[true, true, true, true, true, true, true, true, true, true, true, true, true, false, false, false, false, false, false, false, false, false, false, false, false] rfl rfl (any_of HT_.out (by kernel_rfl)) (fun _ _ _ h => h) (Or.inr ⟨by rfl, rfl⟩) ?_ ?_
  rotate_left
  · simp only [Act.put, List.setIfInBounds_toArray, List.set_cons_zero, List.set_cons_succ, i64_w, i32_w]
    rfl
  refine pure_ (i := 13) (N := some 84) (v := undef) (a' := ?_) #[true, true, true, true, true, true, true, true, true, true, true, true, true, true, false, false, false, false, false, false, false, false, false, false, false] rfl rfl (any_of HT_.out (by kernel_rfl)) (fun _ _ _ h => h) (Or.inr ⟨by rfl, rfl⟩) ?_ ?_
  rotate_left
  · simp only [Act.put, List.setIfInBounds_toArray, List.set_cons_zero, List.set_cons_succ, i64_w, i32_w]
    rfl
  refine pure_ (i := 14) (N := some 85) (v := undef) (a' := ?_) #[true, true, true, true, true, true, true, true, true, true, true, true, true, true, true, false, false, false, false, false, false, false, false, false, false] rfl rfl (any_of HT_.out (by kernel_rfl)) (fun _ _ _ h => h) (Or.inr ⟨by rfl, rfl⟩) ?_ ?_
  rotate_left
  · simp only [Act.put, List.setIfInBounds_toArray, List.set_cons_zero, List.set_cons_succ, i64_w, i32_w]
    rfl
  refine pure_ (i := 15) (N := some 86) (v := undef) (a' := ?_) #[true, true, true, true, true, true, true, true, true, true, true, true, true, true, true, true, false, false, false, false, false, false, false, false, false] rfl rfl (any_of HT_.out (by kernel_rfl)) (fun _ _ _ h => h) (Or.inr ⟨by rfl, rfl⟩) ?_ ?_
  rotate_left
  · simp only [Act.put, List.setIfInBounds_toArray, List.set_cons_zero, List.set_cons_succ, i64_w, i32_w]
    rfl
  refine pure_ (i := 16) (N := some 87) (v := undef) (a' := ?_) #[true, true, true, true, true, true, true, true, true, true, true, true, true, true, true, true, true, false, false, false, false, false, false, false, false] rfl rfl (any_of HT_.out (by kernel_rfl)) (fun _ _ _ h => h) (Or.inr ⟨by rfl, rfl⟩) ?_ ?_
  rotate_left
  · simp only [Act.put, List.setIfInBounds_toArray, List.set_cons_zero, List.set_cons_succ, i64_w, i32_w]
    rfl
  refine pure_ (i := 17) (N := some 88) (v := undef) (a' := ?_) #[true, true, true, true, true, true, true, true, true, true, true, true, true, true, true, true, true, true, false, false, false, false, false, false, false] rfl rfl (any_of HT_.out (by kernel_rfl)) (fun _ _ _ h => h) (Or.inr ⟨by rfl, rfl⟩) ?_ ?_
  rotate_left
  · simp only [Act.put, List.setIfInBounds_toArray, List.set_cons_zero, List.set_cons_succ, i64_w, i32_w]
    rfl
  refine pure_ (i := 18) (N := some 89) (v := undef) (a' := ?_) #[true, true, true, true, true, true, true, true, true, true, true, true, true, true, true, true, true, true, true, false, false, false, false, false, false] rfl rfl (any_of HT_.out (by kernel_rfl)) (fun _ _ _ h => h) (Or.inr ⟨by rfl, rfl⟩) ?_ ?_
  rotate_left
  · simp only [Act.put, List.setIfInBounds_toArray, List.set_cons_zero, List.set_cons_succ, i64_w, i32_w]
    rfl
  refine pure_ (i := 19) (N := some 90) (v := undef) (a' := ?_) #[true, true, true, true, true, true, true, true, true, true, true, true, true, true, true, true, true, true, true, true, false, false, false, false, false] rfl rfl (any_of HT_.out (by kernel_rfl)) (fun _ _ _ h => h) (Or.inr ⟨by rfl, rfl⟩) ?_ ?_
  rotate_left
  · simp only [Act.put, List.setIfInBounds_toArray, List.set_cons_zero, List.set_cons_succ, i64_w, i32_w]
    rfl
  refine pure_ (i := 20) (N := some 91) (v := undef) (a' := ?_) #[true, true, true, true, true, true, true, true, true, true, true, true, true, true, true, true, true, true, true, true, true, false, false, false, false] rfl rfl (any_of HT_.out (by kernel_rfl)) (fun _ _ _ h => h) (Or.inr ⟨by rfl, rfl⟩) ?_ ?_
  rotate_left
  · simp only [Act.put, List.setIfInBounds_toArray, List.set_cons_zero, List.set_cons_succ, i64_w, i32_w]
    rfl
  refine pure_ (i := 21) (N := some 92) (v := undef) (a' := ?_) #[true, true, true, true, true, true, true, true, true, true, true, true, true, true, true, true, true, true, true, true, true, true, false, false, false] rfl rfl (any_of HT_.out (by kernel_rfl)) (fun _ _ _ h => h) (Or.inr ⟨by rfl, rfl⟩) ?_ ?_
  rotate_left
  · simp only [Act.put, List.setIfInBounds_toArray, List.set_cons_zero, List.set_cons_succ, i64_w, i32_w]
    rfl
  refine pure_ (i := 22) (N := some 93) (v := undef) (a' := ?_) #[true, true, true, true, true, true, true, true, true, true, true, true, true, true, true, true, true, true, true, true, true, true, true, false, false] rfl rfl (any_of HT_.out (by kernel_rfl)) (fun _ _ _ h => h) (Or.inr ⟨by rfl, rfl⟩) ?_ ?_
  rotate_left
  · simp only [Act.put, List.setIfInBounds_toArray, List.set_cons_zero, List.set_cons_succ, i64_w, i32_w]
    rfl
  refine pure_ (i := 23) (N := some 94) (v := ?_) (a' := ?_) #[true, true, true, true, true, true, true, true, true, true, true, true, true, true, true, true, true, true, true, true, true, true, true, true, false] rfl rfl (any_of HT_.out (by kernel_rfl)) (fun _ _ _ h => h) (Or.inl ⟨by rfl, ?_⟩) ?_ ?_
  rotate_left
  · intro w'
    go_simp
    with_reducible rfl
  rotate_left
  · simp only [Act.put, List.setIfInBounds_toArray, List.set_cons_zero, List.set_cons_succ, i64_w, i32_w]
    rfl
  refine pure_ (i := 24) (N := some 10) (v := ?_) (a' := ?_) #[true, true, true, true, true, true, true, true, true, true, true, true, true, true, true, true, true, true, true, true, true, true, true, true, true] rfl rfl (any_of HT_.out (by kernel_rfl)) (fun _ _ _ h => h) (Or.inl ⟨by rfl, ?_⟩) ?_ ?_
  rotate_left
  · intro w'
    go_simp
    with_reducible rfl
  rotate_left
  · simp only [Act.put, List.setIfInBounds_toArray, List.set_cons_zero, List.set_cons_succ, i64_w, i32_w]
    rfl
  refine done_ (done_of HT_.out (by kernel_rfl)) ?_
  clear x0 x1 x2 x3 hz
  have T8' := Lib.hid T8.out.drew
  obtain ⟨x0, x1, x2, x3⟩ := T8'.out.cells
  have hz := T8'.out.lt
  clear T8
  go_wp2_with fail
  refine (H9.out _ (by first | exact T8'.out | exact T8'.out.drew)).mono ?_
  rintro e w9 ⟨rfl, T9⟩
  clear x0 x1 x2 x3 hz
  obtain ⟨x0, x1, x2, x3⟩ := T9.out.cells
  have hz := T9.out.lt
  clear H9 T8'
  go_wp2_with fail
  refine (H10.out _ (T9.out)).mono ?_
  rintro e w10 ⟨rfl, T10⟩
  clear x0 x1 x2 x3 hz
  obtain ⟨x0, x1, x2, x3⟩ := T10.out.cells
  have hz := T10.out.lt
  clear H10 T9
  go_wp2_with fail
  refine (H11.out _ (T10.out)).mono ?_
  rintro e w11 ⟨rfl, T11⟩
  clear x0 x1 x2 x3 hz
  obtain ⟨x0, x1, x2, x3⟩ := T11.out.cells
  have hz := T11.out.lt
  clear H11 T10
  go_wp2_with fail
  refine (H12.out _ (T11.out)).mono ?_
  rintro e w12 ⟨rfl, T12⟩
  clear x0 x1 x2 x3 hz
  obtain ⟨x0, x1, x2, x3⟩ := T12.out.cells
  have hz := T12.out.lt
  clear H12 T11
  go_wp2_with fail
  go_ret
  exact ⟨by first | rfl | simp, T12.out.below⟩

set_option maxHeartbeats 4000000 in
theorem eq_100 (A B : Option Addr) (c d : Nat) (l m : List UInt8) (k k' : Int) (w : World) (hs : SB w A c l) (ht : SB w B d m) (h : (l.length ≤ 2147483647) ∧ (m.length ≤ 2147483647) ∧ (0 ≤ k ∧ k ≤ 255) ∧ (0 ≤ k' ∧ k' ≤ 255) ∧ (l.length ≤ 5000) ∧ (m.length ≤ 5000)) (hk : k = k') (hva : valIs k l = false) (hvb : valIs k' m = false) :
    Calls Tryz.prog 3 #[.agg #[.int .i64 k, .slice A l.length c], .agg #[.int .i64 k', .slice B m.length d]] w fun e w' => e = .returned (.bool true) ∧ Below w.heap.size w w' := by
  obtain ⟨t1, t2, t3, t4, t5, t6⟩ := h
  have H1 := Lib.hid (fun wx (T : Two w wx k k' A B l.length c m.length d) => twoF A B c d l m k k' w wx hs T)
  have H2 := Lib.hid (fun wx (T : Two w wx k k' A B l.length c m.length d) => twoF' A B c d l m k k' w wx ht T)
  have H3 := Lib.hid (fun wx (T : Two w wx k k' A B l.length c m.length d) => twoB A B l.length c m.length d k k k' w wx T)
  have H4 := Lib.hid (fun wx (T : Two w wx k k' A B l.length c m.length d) => twoB A B l.length c m.length d k' k k' w wx T)
  have H5 := Lib.hid (fun wx (T : Two w wx k k' A B l.length c m.length d) => twoM A B c d l m k k' w wx hs T)
  have H6 := Lib.hid (fun wx (T : Two w wx k k' A B l.length c m.length d) => twoM' A B c d l m k k' w wx ht T)
  rw [decide_eq_true t1] at H1
  rw [decide_eq_true t2] at H2
  rw [decide_eq_true t3] at H3
  rw [decide_eq_true t4] at H4
  rw [decide_eq_true t5] at H5
  rw [decide_eq_true t6] at H6
  have H7 := Lib.hid (fun wx (T : Two w wx k k' A B l.length c m.length d) => twoS A B c d l m k k' w wx hs t5 T)
  have H8 := Lib.hid (fun wx (T : Two w wx k k' A B l.length c m.length d) => twoS' A B c d l m k k' w wx ht t6 T)
  have H9 := Lib.hid (fun wx (T : Two w wx k k' A B l.length c m.length d) => twoAw A B l.length c m.length d k k' w wx T)
  have H10 := Lib.hid (fun wx (T : Two w wx k k' A B l.length c m.length d) => twoE A B c d l m k k' w wx hs ht t3 t4 T)
  have H11 := Lib.hid (fun wx (T : Two w wx k k' A B l.length c m.length d) => twoV A B c d l m k k' w wx hs ht t3 t4 T)
  have H12 := Lib.hid (fun wx (T : Two w wx k k' A B l.length c m.length d) => twoE' A B c d l m k k' w wx hs t3 T)
  rw [hva] at H7
  rw [hvb] at H8
  have hal : alike k k' l m = false := by unfold alike; rw [hva]; simp
  rw [hal] at H11
  obtain ⟨zs, hzs⟩ : ∃ z, z = decide (l = m) := ⟨_, rfl⟩
  rw [← hzs, decide_eq_true hk, Bool.true_and] at H10
  have ek : (k == k') = true := by simpa using hk
  obtain ⟨S1, hS1⟩ : ∃ s : ByteArray, s = ⟨l.toArray⟩ := ⟨_, rfl⟩
  obtain ⟨S2, hS2⟩ : ∃ s : ByteArray, s = ⟨m.toArray⟩ := ⟨_, rfl⟩
  have es : (S1.toList == S2.toList) = zs := by rw [hS1, hS2, hzs]; exact str_eq l m
  have HC1 : Hid (∀ wx, Two w wx k k' A B l.length c m.length d → (convert 22 9 (.slice A l.length c)).run Tryz.prog wx = .ok (.string S1) wx) := Lib.hid fun wx T => by rw [hS1]; exact str_of (hs.keep T.below)
  have HC2 : Hid (∀ wx, Two w wx k k' A B l.length c m.length d → (convert 22 9 (.slice B m.length d)).run Tryz.prog wx = .ok (.string S2) wx) := Lib.hid fun wx T => by rw [hS2]; exact str_of (ht.keep T.below)
  have T0 := Lib.hid (Two.start w k k' A B l.length c m.length d)
  obtain ⟨p, hp⟩ : ∃ p, p = l.length := ⟨_, rfl⟩
  obtain ⟨q, hq⟩ : ∃ q, q = m.length := ⟨_, rfl⟩
  rw [← hp, ← hq] at H1 H2 H3 H4 H5 H6 H7 H8 H9 H10 H11 H12 T0
  rw [← hp, ← hq] at HC1 HC2
  rw [← hp, ← hq]
  clear hs ht t1 t2 t3 t4 t5 t6 hk hva hvb hal hp hq hzs hS1 hS2
  go_enter Tryz.func3, Tryz.ntmps3
  go_wp2_with fail
  refine (H1.out _ (T0.out)).mono ?_
  rintro e w1 ⟨rfl, T1⟩
  obtain ⟨x0, x1, x2, x3⟩ := T1.out.cells
  have hz := T1.out.lt
  clear H1 T0
  go_wp2_with fail
  refine (H2.out _ (T1.out)).mono ?_
  rintro e w2 ⟨rfl, T2⟩
  clear x0 x1 x2 x3 hz
  obtain ⟨x0, x1, x2, x3⟩ := T2.out.cells
  have hz := T2.out.lt
  clear H2 T1
  go_wp2_with fail
  refine (H3.out _ (T2.out)).mono ?_
  rintro e w3 ⟨rfl, T3⟩
  clear x0 x1 x2 x3 hz
  obtain ⟨x0, x1, x2, x3⟩ := T3.out.cells
  have hz := T3.out.lt
  clear H3 T2
  go_wp2_with fail
  refine (H4.out _ (T3.out)).mono ?_
  rintro e w4 ⟨rfl, T4⟩
  clear x0 x1 x2 x3 hz
  obtain ⟨x0, x1, x2, x3⟩ := T4.out.cells
  have hz := T4.out.lt
  clear H4 T3
  go_wp2_with fail
  refine (H5.out _ (T4.out)).mono ?_
  rintro e w5 ⟨rfl, T5⟩
  clear x0 x1 x2 x3 hz
  obtain ⟨x0, x1, x2, x3⟩ := T5.out.cells
  have hz := T5.out.lt
  clear H5 T4
  go_wp2_with fail
  refine (H6.out _ (T5.out)).mono ?_
  rintro e w6 ⟨rfl, T6⟩
  clear x0 x1 x2 x3 hz
  obtain ⟨x0, x1, x2, x3⟩ := T6.out.cells
  have hz := T6.out.lt
  clear H6 T5
  have hc1 := HC1.out _ T6.out
  have hc2 := HC2.out _ T6.out
  go_wp2_with fail
  refine (H7.out _ (T6.out)).mono ?_
  rintro e w7 ⟨r7, rfl, hr7, T7⟩
  clear x0 x1 x2 x3 hz
  obtain ⟨x0, x1, x2, x3⟩ := T7.out.cells
  have hz := T7.out.lt
  clear hc1 hc2
  clear H7 T6
  clear hr7
  go_wp2_with fail
  refine (H8.out _ (T7.out)).mono ?_
  rintro e w8 ⟨r8, rfl, hr8, T8⟩
  clear x0 x1 x2 x3 hz
  obtain ⟨x0, x1, x2, x3⟩ := T8.out.cells
  have hz := T8.out.lt
  clear H8 T7
  clear hr8
  go_wp2_with fail
  refine start_ (n := 25) (S := fun w' => w'.cell? ⟨w.heap.size, 0, none⟩ = some (.int .i64 k) ∧ w'.cell? ⟨w.heap.size, 1, none⟩ = some (.slice A p c) ∧ w'.cell? ⟨w.heap.size + 1, 0, none⟩ = some (.int .i64 k') ∧ w'.cell? ⟨w.heap.size + 1, 1, none⟩ = some (.slice B q d)) (ds := []) #[false, false, false, false, false, false, false, false, false, false, false, false, false, false, false, false, false, false, false, false, false, false, false, false, false] (by kernel_rfl) rfl rfl ⟨(by exact x0), (by exact x1), (by exact x2), (by exact x3)⟩ (fun hHeld => ?_)
  refine with_tabW R3.tab8 R3.bits8 (fun HT_ HW_ => ?_)
  refine pure_ (i := 0) (N := some 71) (v := ?_) (a' := ?_) #[true, false, false, false, false, false, false, false, false, false, false, false, false, false, false, false, false, false, false, false, false, false, false, false, false] rfl rfl (any_of HT_.out (by kernel_rfl)) (fun _ _ _ h => h) (Or.inl ⟨by rfl, ?_⟩) ?_ ?_
  rotate_left
  · intro w'
    go_simp
    with_reducible rfl
  rotate_left
  · simp only [Act.put, List.setIfInBounds_toArray, List.set_cons_zero, List.set_cons_succ, i64_w, i32_w]
    rfl
  refine pure_ (i := 1) (N := some 72) (v := ?_) (a' := ?_) #[true, true, false, false, false, false, false, false, false, false, false, false, false, false, false, false, false, false, false, false, false, false, false, false, false] rfl rfl (any_of HT_.out (by kernel_rfl)) (fun _ _ _ h => h) (Or.inl ⟨by rfl, ?_⟩) ?_ ?_
  rotate_left
  · intro w'
    go_simp
    with_reducible rfl
  rotate_left
  · simp only [Act.put, List.setIfInBounds_toArray, List.set_cons_zero, List.set_cons_succ, i64_w, i32_w]
    rfl
  refine pure_ (i := 2) (N := some 73) (v := undef) (a' := ?_) #[true, true, true, false, false, false, false, false, false, false, false, false, false, false, false, false, false, false, false, false, false, false, false, false, false] rfl rfl (any_of HT_.out (by kernel_rfl)) (fun _ _ _ h => h) (Or.inr ⟨by rfl, rfl⟩) ?_ ?_
  rotate_left
  · simp only [Act.put, List.setIfInBounds_toArray, List.set_cons_zero, List.set_cons_succ, i64_w, i32_w]
    rfl
  refine pure_ (i := 3) (N := some 74) (v := ?_) (a' := ?_) #[true, true, true, true, false, false, false, false, false, false, false, false, false, false, false, false, false, false, false, false, false, false, false, false, false] rfl rfl (any_of HT_.out (by kernel_rfl)) (fun _ _ _ h => h) (Or.inl ⟨by rfl, ?_⟩) ?_ ?_
  rotate_left
  · intro w'
    go_simp
    with_reducible rfl
  rotate_left
  · simp only [Act.put, List.setIfInBounds_toArray, List.set_cons_zero, List.set_cons_succ, i64_w, i32_w]
    rfl
  refine pure_ (i := 4) (N := some 75) (v := ?_) (a' := ?_) #[true, true, true, true, true, false, false, false, false, false, false, false, false, false, false, false, false, false, false, false, false, false, false, false, false] rfl rfl (any_of HT_.out (by kernel_rfl)) (fun _ _ _ h => h) (Or.inl ⟨by rfl, ?_⟩) ?_ ?_
  rotate_left
  · intro w'
    go_simp
    with_reducible rfl
  rotate_left
  · simp only [Act.put, List.setIfInBounds_toArray, List.set_cons_zero, List.set_cons_succ, i64_w, i32_w]
    rfl
  refine pure_ (i := 5) (N := some 76) (v := undef) (a' := ?_) #[true, true, true, true, true, true, false, false, false, false, false, false, false, false, false, false, false, false, false, false, false, false, false, false, false] rfl rfl (any_of HT_.out (by kernel_rfl)) (fun _ _ _ h => h) (Or.inr ⟨by rfl, rfl⟩) ?_ ?_
  rotate_left
  · simp only [Act.put, List.setIfInBounds_toArray, List.set_cons_zero, List.set_cons_succ, i64_w, i32_w]
    rfl
  refine pure_ (i := 6) (N := some 77) (v := undef) (a' := ?_) #[true, true, true, true, true, true, true, false, false, false, false, false, false, false, false, false, false, false, false, false, false, false, false, false, false] rfl rfl (any_of HT_.out (by kernel_rfl)) (fun _ _ _ h => h) (Or.inr ⟨by rfl, rfl⟩) ?_ ?_
  rotate_left
  · simp only [Act.put, List.setIfInBounds_toArray, List.set_cons_zero, List.set_cons_succ, i64_w, i32_w]
    rfl
  refine pure_ (i := 7) (N := some 78) (v := undef) (a' := ?_) #[true, true, true, true, true, true, true, true, false, false, false, false, false, false, false, false, false, false, false, false, false, false, false, false, false] rfl rfl (any_of HT_.out (by kernel_rfl)) (fun _ _ _ h => h) (Or.inr ⟨by rfl, rfl⟩) ?_ ?_
  rotate_left
  · simp only [Act.put, List.setIfInBounds_toArray, List.set_cons_zero, List.set_cons_succ, i64_w, i32_w]
    rfl
  refine pure_ (i := 8) (N := some 79) (v := undef) (a' := ?_) #[true, true, true, true, true, true, true, true, true, false, false, false, false, false, false, false, false, false, false, false, false, false, false, false, false] rfl rfl (any_of HT_.out (by kernel_rfl)) (fun _ _ _ h => h) (Or.inr ⟨by rfl, rfl⟩) ?_ ?_
  rotate_left
  · simp only [Act.put, List.setIfInBounds_toArray, List.set_cons_zero, List.set_cons_succ, i64_w, i32_w]
    rfl
  refine pure_ (i := 9) (N := some 80) (v := undef) (a' := ?_) #[true, true, true, true, true, true, true, true, true, true, false, false, false, false, false, false, false, false, false, false, false, false, false, false, false] rfl rfl (any_of HT_.out (by kernel_rfl)) (fun _ _ _ h => h) (Or.inr ⟨by rfl, rfl⟩) ?_ ?_
  rotate_left
  · simp only [Act.put, List.setIfInBounds_toArray, List.set_cons_zero, List.set_cons_succ, i64_w, i32_w]
    rfl
  refine pure_ (i := 10) (N := some 81) (v := ?_) (a' := ?_) #[true, true, true, true, true, true, true, true, true, true, true, false, false, false, false, false, false, false, false, false, false, false, false, false, false] rfl rfl (any_of HT_.out (by kernel_rfl)) (fun _ _ _ h => h) (Or.inl ⟨by rfl, ?_⟩) ?_ ?_
  rotate_left
  · intro w'
    go_simp
    with_reducible rfl
  rotate_left
  · simp only [Act.put, List.setIfInBounds_toArray, List.set_cons_zero, List.set_cons_succ, i64_w, i32_w]
    rfl
  refine pure_ (i := 11) (N := some 82) (v := ?_) (a' := ?_) #[true, true, true, true, true, true, true, true, true, true, true, true, false, false, false, false, false, false, false, false, false, false, false, false, false] rfl rfl (any_of HT_.out (by kernel_rfl)) (fun _ _ _ h => h) (Or.inl ⟨by rfl, ?_⟩) ?_ ?_
  rotate_left
  · intro w'
    go_simp
    with_reducible rfl
  rotate_left
  · simp only [Act.put, List.setIfInBounds_toArray, List.set_cons_zero, List.set_cons_succ, i64_w, i32_w]
    rfl
  refine pure_ (i := 12) (N := some 83) (v := undef) (a' := ?_) #[true, true, true, true, true, true, true, true, true, true, true, true, true, false, false, false, false, false, false, false, false, false, false, false, false] rfl rfl (any_of HT_.out (by kernel_rfl)) (fun _ _ _ h => h) (Or.inr ⟨by rfl, rfl⟩) ?_ ?_
  rotate_left
  · simp only [Act.put, List.setIfInBounds_toArray, List.set_cons_zero, List.set_cons_succ, i64_w, i32_w]
    rfl
  refine pure_ (i := 13) (N := some 84) (v := undef) (a' := ?_) #[true, true, true, true, true, true, true, true, true, true, true, true, true, true, false, false, false, false, false, false, false, false, false, false, false] rfl rfl (any_of HT_.out (by kernel_rfl)) (fun _ _ _ h => h) (Or.inr ⟨by rfl, rfl⟩) ?_ ?_
  rotate_left
  · simp only [Act.put, List.setIfInBounds_toArray, List.set_cons_zero, List.set_cons_succ, i64_w, i32_w]
    rfl
  refine pure_ (i := 14) (N := some 85) (v := undef) (a' := ?_) #[true, true, true, true, true, true, true, true, true, true, true, true, true, true, true, false, false, false, false, false, false, false, false, false, false] rfl rfl (any_of HT_.out (by kernel_rfl)) (fun _ _ _ h => h) (Or.inr ⟨by rfl, rfl⟩) ?_ ?_
  rotate_left
  · simp only [Act.put, List.setIfInBounds_toArray, List.set_cons_zero, List.set_cons_succ, i64_w, i32_w]
    rfl
  refine pure_ (i := 15) (N := some 86) (v := undef) (a' := ?_) #[true, true, true, true, true, true, true, true, true, true, true, true, true, true, true, true, false, false, false, false, false, false, false, false, false] rfl rfl (any_of HT_.out (by kernel_rfl)) (fun _ _ _ h => h) (Or.inr ⟨by rfl, rfl⟩) ?_ ?_
  rotate_left
  · simp only [Act.put, List.setIfInBounds_toArray, List.set_cons_zero, List.set_cons_succ, i64_w, i32_w]
    rfl
  refine pure_ (i := 16) (N := some 87) (v := undef) (a' := ?_) #[true, true, true, true, true, true, true, true, true, true, true, true, true, true, true, true, true, false, false, false, false, false, false, false, false] rfl rfl (any_of HT_.out (by kernel_rfl)) (fun _ _ _ h => h) (Or.inr ⟨by rfl, rfl⟩) ?_ ?_
  rotate_left
  · simp only [Act.put, List.setIfInBounds_toArray, List.set_cons_zero, List.set_cons_succ, i64_w, i32_w]
    rfl
  refine pure_ (i := 17) (N := some 88) (v := undef) (a' := ?_) #[true, true, true, true, true, true, true, true, true, true, true, true, true, true, true, true, true, true, false, false, false, false, false, false, false] rfl rfl (any_of HT_.out (by kernel_rfl)) (fun _ _ _ h => h) (Or.inr ⟨by rfl, rfl⟩) ?_ ?_
  rotate_left
  · simp only [Act.put, List.setIfInBounds_toArray, List.set_cons_zero, List.set_cons_succ, i64_w, i32_w]
    rfl
  refine pure_ (i := 18) (N := some 89) (v := undef) (a' := ?_) #[true, true, true, true, true, true, true, true, true, true, true, true, true, true, true, true, true, true, true, false, false, false, false, false, false] rfl rfl (any_of HT_.out (by kernel_rfl)) (fun _ _ _ h => h) (Or.inr ⟨by rfl, rfl⟩) ?_ ?_
  rotate_left
  · simp only [Act.put, List.setIfInBounds_toArray, List.set_cons_zero, List.set_cons_succ, i64_w, i32_w]
    rfl
  refine pure_ (i := 19) (N := some 90) (v := undef) (a' := ?_) #[true, true, true, true, true, true, true, true, true, true, true, true, true, true, true, true, true, true, true, true, false, false, false, false, false] rfl rfl (any_of HT_.out (by kernel_rfl)) (fun _ _ _ h => h) (Or.inr ⟨by rfl, rfl⟩) ?_ ?_
  rotate_left
  · simp only [Act.put, List.setIfInBounds_toArray, List.set_cons_zero, List.set_cons_succ, i64_w, i32_w]
    rfl
  refine pure_ (i := 20) (N := some 91) (v := undef) (a' := ?_) #[true, true, true, true, true, true, true, true, true, true, true, true, true, true, true, true, true, true, true, true, true, false, false, false, false] rfl rfl (any_of HT_.out (by kernel_rfl)) (fun _ _ _ h => h) (Or.inr ⟨by rfl, rfl⟩) ?_ ?_
  rotate_left
  · simp only [Act.put, List.setIfInBounds_toArray, List.set_cons_zero, List.set_cons_succ, i64_w, i32_w]
    rfl
  refine pure_ (i := 21) (N := some 92) (v := undef) (a' := ?_) #[true, true, true, true, true, true, true, true, true, true, true, true, true, true, true, true, true, true, true, true, true, true, false, false, false] rfl rfl (any_of HT_.out (by kernel_rfl)) (fun _ _ _ h => h) (Or.inr ⟨by rfl, rfl⟩) ?_ ?_
  rotate_left
  · simp only [Act.put, List.setIfInBounds_toArray, List.set_cons_zero, List.set_cons_succ, i64_w, i32_w]
    rfl
  refine pure_ (i := 22) (N := some 93) (v := undef) (a' := ?_) #[true, true, true, true, true, true, true, true, true, true, true, true, true, true, true, true, true, true, true, true, true, true, true, false, false] rfl rfl (any_of HT_.out (by kernel_rfl)) (fun _ _ _ h => h) (Or.inr ⟨by rfl, rfl⟩) ?_ ?_
  rotate_left
  · simp only [Act.put, List.setIfInBounds_toArray, List.set_cons_zero, List.set_cons_succ, i64_w, i32_w]
    rfl
  refine pure_ (i := 23) (N := some 94) (v := ?_) (a' := ?_) #[true, true, true, true, true, true, true, true, true, true, true, true, true, true, true, true, true, true, true, true, true, true, true, true, false] rfl rfl (any_of HT_.out (by kernel_rfl)) (fun _ _ _ h => h) (Or.inl ⟨by rfl, ?_⟩) ?_ ?_
  rotate_left
  · intro w'
    go_simp
    with_reducible rfl
  rotate_left
  · simp only [Act.put, List.setIfInBounds_toArray, List.set_cons_zero, List.set_cons_succ, i64_w, i32_w]
    rfl
  refine pure_ (i := 24) (N := some 10) (v := ?_) (a' := ?_) #[true, true, true, true, true, true, true, true, true, true, true, true, true, true, true, true, true, true, true, true, true, true, true, true, true] rfl rfl (any_of HT_.out (by kernel_rfl)) (fun _ _ _ h => h) (Or.inl ⟨by rfl, ?_⟩) ?_ ?_
  rotate_left
  · intro w'
    go_simp
    with_reducible rfl
  rotate_left
  · simp only [Act.put, List.setIfInBounds_toArray, List.set_cons_zero, List.set_cons_succ, i64_w, i32_w]
    rfl
  refine done_ (done_of HT_.out (by kernel_rfl)) ?_
  clear x0 x1 x2 x3 hz
  have T8' := Lib.hid T8.out.drew
  obtain ⟨x0, x1, x2, x3⟩ := T8'.out.cells
  have hz := T8'.out.lt
  clear T8
  go_wp2_with fail
  refine (H9.out _ (by first | exact T8'.out | exact T8'.out.drew)).mono ?_
  rintro e w9 ⟨rfl, T9⟩
  clear x0 x1 x2 x3 hz
  obtain ⟨x0, x1, x2, x3⟩ := T9.out.cells
  have hz := T9.out.lt
  clear H9 T8'
  go_wp2_with fail
  refine (H10.out _ (T9.out)).mono ?_
  rintro e w10 ⟨rfl, T10⟩
  clear x0 x1 x2 x3 hz
  obtain ⟨x0, x1, x2, x3⟩ := T10.out.cells
  have hz := T10.out.lt
  clear H10 T9
  go_wp2_with fail
  refine (H11.out _ (T10.out)).mono ?_
  rintro e w11 ⟨rfl, T11⟩
  clear x0 x1 x2 x3 hz
  obtain ⟨x0, x1, x2, x3⟩ := T11.out.cells
  have hz := T11.out.lt
  clear H11 T10
  go_wp2_with fail
  refine (H12.out _ (T11.out)).mono ?_
  rintro e w12 ⟨rfl, T12⟩
  clear x0 x1 x2 x3 hz
  obtain ⟨x0, x1, x2, x3⟩ := T12.out.cells
  have hz := T12.out.lt
  clear H12 T11
  go_wp2_with fail
  go_ret
  exact ⟨by first | rfl | simp, T12.out.below⟩

set_option maxHeartbeats 4000000 in
theorem eq_011 (A B : Option Addr) (c d : Nat) (l m : List UInt8) (k k' : Int) (w : World) (hs : SB w A c l) (ht : SB w B d m) (h : (l.length ≤ 2147483647) ∧ (m.length ≤ 2147483647) ∧ (0 ≤ k ∧ k ≤ 255) ∧ (0 ≤ k' ∧ k' ≤ 255) ∧ (l.length ≤ 5000) ∧ (m.length ≤ 5000)) (hk : ¬ k = k') (hva : valIs k l = true) (hvb : valIs k' m = true) :
    Calls Tryz.prog 3 #[.agg #[.int .i64 k, .slice A l.length c], .agg #[.int .i64 k', .slice B m.length d]] w fun e w' => e = .returned (.bool true) ∧ Below w.heap.size w w' := by
  obtain ⟨t1, t2, t3, t4, t5, t6⟩ := h
  have H1 := Lib.hid (fun wx (T : Two w wx k k' A B l.length c m.length d) => twoF A B c d l m k k' w wx hs T)
  have H2 := Lib.hid (fun wx (T : Two w wx k k' A B l.length c m.length d) => twoF' A B c d l m k k' w wx ht T)
  have H3 := Lib.hid (fun wx (T : Two w wx k k' A B l.length c m.length d) => twoB A B l.length c m.length d k k k' w wx T)
  have H4 := Lib.hid (fun wx (T : Two w wx k k' A B l.length c m.length d) => twoB A B l.length c m.length d k' k k' w wx T)
  have H5 := Lib.hid (fun wx (T : Two w wx k k' A B l.length c m.length d) => twoM A B c d l m k k' w wx hs T)
  have H6 := Lib.hid (fun wx (T : Two w wx k k' A B l.length c m.length d) => twoM' A B c d l m k k' w wx ht T)
  rw [decide_eq_true t1] at H1
  rw [decide_eq_true t2] at H2
  rw [decide_eq_true t3] at H3
  rw [decide_eq_true t4] at H4
  rw [decide_eq_true t5] at H5
  rw [decide_eq_true t6] at H6
  have H7 := Lib.hid (fun wx (T : Two w wx k k' A B l.length c m.length d) => twoS A B c d l m k k' w wx hs t5 T)
  have H8 := Lib.hid (fun wx (T : Two w wx k k' A B l.length c m.length d) => twoS' A B c d l m k k' w wx ht t6 T)
  have H9 := Lib.hid (fun wx (T : Two w wx k k' A B l.length c m.length d) => twoAw A B l.length c m.length d k k' w wx T)
  have H10 := Lib.hid (fun wx (T : Two w wx k k' A B l.length c m.length d) => twoE A B c d l m k k' w wx hs ht t3 t4 T)
  have H11 := Lib.hid (fun wx (T : Two w wx k k' A B l.length c m.length d) => twoV A B c d l m k k' w wx hs ht t3 t4 T)
  have H12 := Lib.hid (fun wx (T : Two w wx k k' A B l.length c m.length d) => twoE' A B c d l m k k' w wx hs t3 T)
  rw [hva] at H7
  rw [hvb] at H8
  obtain ⟨n, hn, hn2⟩ := valLen_of_is hva
  obtain ⟨n', hn', hn2'⟩ := valLen_of_is hvb
  have hal : alike k k' l m = false := by unfold alike; rw [decide_eq_false hk]; simp
  rw [hal] at H11
  rw [decide_eq_false hk, Bool.false_and] at H10
  have ek : (k == k') = false := by simpa using hk
  have T0 := Lib.hid (Two.start w k k' A B l.length c m.length d)
  obtain ⟨p, hp⟩ : ∃ p, p = l.length := ⟨_, rfl⟩
  obtain ⟨q, hq⟩ : ∃ q, q = m.length := ⟨_, rfl⟩
  rw [← hp, ← hq] at H1 H2 H3 H4 H5 H6 H7 H8 H9 H10 H11 H12 T0
  rw [← hp, ← hq]
  clear hs ht t1 t2 t3 t4 t5 t6 hk hva hvb hal hp hq hn hn2 hn' hn2'
  go_enter Tryz.func3, Tryz.ntmps3
  go_wp2_with fail
  refine (H1.out _ (T0.out)).mono ?_
  rintro e w1 ⟨rfl, T1⟩
  obtain ⟨x0, x1, x2, x3⟩ := T1.out.cells
  have hz := T1.out.lt
  clear H1 T0
  go_wp2_with fail
  refine (H2.out _ (T1.out)).mono ?_
  rintro e w2 ⟨rfl, T2⟩
  clear x0 x1 x2 x3 hz
  obtain ⟨x0, x1, x2, x3⟩ := T2.out.cells
  have hz := T2.out.lt
  clear H2 T1
  go_wp2_with fail
  refine (H3.out _ (T2.out)).mono ?_
  rintro e w3 ⟨rfl, T3⟩
  clear x0 x1 x2 x3 hz
  obtain ⟨x0, x1, x2, x3⟩ := T3.out.cells
  have hz := T3.out.lt
  clear H3 T2
  go_wp2_with fail
  refine (H4.out _ (T3.out)).mono ?_
  rintro e w4 ⟨rfl, T4⟩
  clear x0 x1 x2 x3 hz
  obtain ⟨x0, x1, x2, x3⟩ := T4.out.cells
  have hz := T4.out.lt
  clear H4 T3
  go_wp2_with fail
  refine (H5.out _ (T4.out)).mono ?_
  rintro e w5 ⟨rfl, T5⟩
  clear x0 x1 x2 x3 hz
  obtain ⟨x0, x1, x2, x3⟩ := T5.out.cells
  have hz := T5.out.lt
  clear H5 T4
  go_wp2_with fail
  refine (H6.out _ (T5.out)).mono ?_
  rintro e w6 ⟨rfl, T6⟩
  clear x0 x1 x2 x3 hz
  obtain ⟨x0, x1, x2, x3⟩ := T6.out.cells
  have hz := T6.out.lt
  clear H6 T5
  go_wp2_with fail
  refine (H7.out _ (T6.out)).mono ?_
  rintro e w7 ⟨r7, rfl, hr7, T7⟩
  clear x0 x1 x2 x3 hz
  obtain ⟨x0, x1, x2, x3⟩ := T7.out.cells
  have hz := T7.out.lt
  clear H7 T6
  clear hr7
  go_wp2_with fail
  refine (H8.out _ (T7.out)).mono ?_
  rintro e w8 ⟨r8, rfl, hr8, T8⟩
  clear x0 x1 x2 x3 hz
  obtain ⟨x0, x1, x2, x3⟩ := T8.out.cells
  have hz := T8.out.lt
  clear H8 T7
  clear hr8
  go_wp2_with fail
  refine start_ (n := 25) (S := fun w' => w'.cell? ⟨w.heap.size, 0, none⟩ = some (.int .i64 k) ∧ w'.cell? ⟨w.heap.size, 1, none⟩ = some (.slice A p c) ∧ w'.cell? ⟨w.heap.size + 1, 0, none⟩ = some (.int .i64 k') ∧ w'.cell? ⟨w.heap.size + 1, 1, none⟩ = some (.slice B q d)) (ds := []) #[false, false, false, false, false, false, false, false, false, false, false, false, false, false, false, false, false, false, false, false, false, false, false, false, false] (by kernel_rfl) rfl rfl ⟨(by exact x0), (by exact x1), (by exact x2), (by exact x3)⟩ (fun hHeld => ?_)
  refine with_tabW R3.tab8 R3.bits8 (fun HT_ HW_ => ?_)
  refine pure_ (i := 0) (N := some 71) (v := ?_) (a' := ?_) #[true, false, false, false, false, false, false, false, false, false, false, false, false, false, false, false, false, false, false, false, false, false, false, false, false] rfl rfl (any_of HT_.out (by kernel_rfl)) (fun _ _ _ h => h) (Or.inl ⟨by rfl, ?_⟩) ?_ ?_
  rotate_left
  · intro w'
    go_simp
    with_reducible rfl
  rotate_left
  · simp only [Act.put, List.setIfInBounds_toArray, List.set_cons_zero, List.set_cons_succ, i64_w, i32_w]
    rfl
  refine pure_ (i := 1) (N := some 72) (v := ?_) (a' := ?_) #[true, true, false, false, false, false, false, false, false, false, false, false, false, false, false, false, false, false, false, false, false, false, false, false, false] rfl rfl (any_of HT_.out (by kernel_rfl)) (fun _ _ _ h => h) (Or.inl ⟨by rfl, ?_⟩) ?_ ?_
  rotate_left
  · intro w'
    go_simp
    with_reducible rfl
  rotate_left
  · simp only [Act.put, List.setIfInBounds_toArray, List.set_cons_zero, List.set_cons_succ, i64_w, i32_w]
    rfl
  refine pure_ (i := 2) (N := some 73) (v := ?_) (a' := ?_) #[true, true, true, false, false, false, false, false, false, false, false, false, false, false, false, false, false, false, false, false, false, false, false, false, false] rfl rfl (any_of HT_.out (by kernel_rfl)) (fun _ _ _ h => h) (Or.inl ⟨by rfl, ?_⟩) ?_ ?_
  rotate_left
  · intro w'
    go_simp
    with_reducible rfl
  rotate_left
  · simp only [Act.put, List.setIfInBounds_toArray, List.set_cons_zero, List.set_cons_succ, i64_w, i32_w]
    rfl
  refine pure_ (i := 3) (N := some 74) (v := ?_) (a' := ?_) #[true, true, true, true, false, false, false, false, false, false, false, false, false, false, false, false, false, false, false, false, false, false, false, false, false] rfl rfl (any_of HT_.out (by kernel_rfl)) (fun _ _ _ h => h) (Or.inl ⟨by rfl, ?_⟩) ?_ ?_
  rotate_left
  · intro w'
    go_simp
    with_reducible rfl
  rotate_left
  · simp only [Act.put, List.setIfInBounds_toArray, List.set_cons_zero, List.set_cons_succ, i64_w, i32_w]
    rfl
  refine pure_ (i := 4) (N := some 75) (v := ?_) (a' := ?_) #[true, true, true, true, true, false, false, false, false, false, false, false, false, false, false, false, false, false, false, false, false, false, false, false, false] rfl rfl (any_of HT_.out (by kernel_rfl)) (fun _ _ _ h => h) (Or.inl ⟨by rfl, ?_⟩) ?_ ?_
  rotate_left
  · intro w'
    go_simp
    with_reducible rfl
  rotate_left
  · simp only [Act.put, List.setIfInBounds_toArray, List.set_cons_zero, List.set_cons_succ, i64_w, i32_w]
    rfl
  refine pure_ (i := 5) (N := some 76) (v := ?_) (a' := ?_) #[true, true, true, true, true, true, false, false, false, false, false, false, false, false, false, false, false, false, false, false, false, false, false, false, false] rfl rfl (any_of HT_.out (by kernel_rfl)) (fun _ _ _ h => h) (Or.inl ⟨by rfl, ?_⟩) ?_ ?_
  rotate_left
  · intro w'
    go_simp
    with_reducible rfl
  rotate_left
  · simp only [Act.put, List.setIfInBounds_toArray, List.set_cons_zero, List.set_cons_succ, i64_w, i32_w]
    rfl
  refine pure_ (i := 7) (N := some 78) (v := ?_) (a' := ?_) #[true, true, true, true, true, true, false, true, false, false, false, false, false, false, false, false, false, false, false, false, false, false, false, false, false] rfl rfl (any_of HT_.out (by kernel_rfl)) (fun _ _ _ h => h) (Or.inl ⟨by rfl, ?_⟩) ?_ ?_
  rotate_left
  · intro w'
    go_simp
    with_reducible rfl
  rotate_left
  · simp only [Act.put, List.setIfInBounds_toArray, List.set_cons_zero, List.set_cons_succ, i64_w, i32_w]
    rfl
  refine take_ (i := 6) (N := some 77) (v := ?_) (a' := ?_) #[true, true, true, true, true, true, true, true, false, false, false, false, false, false, false, false, false, false, false, false, false, false, false, false, false] rfl rfl (take_ofW HT_.out HW_.out (by kernel_rfl)) (fun _ _ _ h => h) (Or.inl ⟨by rfl, ?_⟩) hHeld ?_ ?_
  rotate_left
  · rintro w' ⟨s0, s1, s2, s3⟩
    go_simp
    with_reducible rfl
  rotate_left
  · simp only [Act.put, List.setIfInBounds_toArray, List.set_cons_zero, List.set_cons_succ, i64_w, i32_w]
    rfl
  refine take_ (i := 8) (N := some 79) (v := ?_) (a' := ?_) #[true, true, true, true, true, true, true, true, true, false, false, false, false, false, false, false, false, false, false, false, false, false, false, false, false] rfl rfl (take_ofW HT_.out HW_.out (by kernel_rfl)) (fun _ _ _ h => h) (Or.inl ⟨by rfl, ?_⟩) hHeld ?_ ?_
  rotate_left
  · rintro w' ⟨s0, s1, s2, s3⟩
    go_simp
    with_reducible rfl
  rotate_left
  · simp only [Act.put, List.setIfInBounds_toArray, List.set_cons_zero, List.set_cons_succ, i64_w, i32_w]
    rfl
  refine pure_ (i := 9) (N := some 80) (v := ?_) (a' := ?_) #[true, true, true, true, true, true, true, true, true, true, false, false, false, false, false, false, false, false, false, false, false, false, false, false, false] rfl rfl (any_of HT_.out (by kernel_rfl)) (fun _ _ _ h => h) (Or.inl ⟨by rfl, ?_⟩) ?_ ?_
  rotate_left
  · intro w'
    go_simp
    with_reducible rfl
  rotate_left
  · simp only [Act.put, List.setIfInBounds_toArray, List.set_cons_zero, List.set_cons_succ, i64_w, i32_w]
    rfl
  refine pure_ (i := 10) (N := some 81) (v := ?_) (a' := ?_) #[true, true, true, true, true, true, true, true, true, true, true, false, false, false, false, false, false, false, false, false, false, false, false, false, false] rfl rfl (any_of HT_.out (by kernel_rfl)) (fun _ _ _ h => h) (Or.inl ⟨by rfl, ?_⟩) ?_ ?_
  rotate_left
  · intro w'
    go_simp
    with_reducible rfl
  rotate_left
  · simp only [Act.put, List.setIfInBounds_toArray, List.set_cons_zero, List.set_cons_succ, i64_w, i32_w]
    rfl
  refine pure_ (i := 11) (N := some 82) (v := ?_) (a' := ?_) #[true, true, true, true, true, true, true, true, true, true, true, true, false, false, false, false, false, false, false, false, false, false, false, false, false] rfl rfl (any_of HT_.out (by kernel_rfl)) (fun _ _ _ h => h) (Or.inl ⟨by rfl, ?_⟩) ?_ ?_
  rotate_left
  · intro w'
    go_simp
    with_reducible rfl
  rotate_left
  · simp only [Act.put, List.setIfInBounds_toArray, List.set_cons_zero, List.set_cons_succ, i64_w, i32_w]
    rfl
  refine pure_ (i := 12) (N := some 83) (v := undef) (a' := ?_) #[true, true, true, true, true, true, true, true, true, true, true, true, true, false, false, false, false, false, false, false, false, false, false, false, false] rfl rfl (any_of HT_.out (by kernel_rfl)) (fun _ _ _ h => h) (Or.inr ⟨by rfl, rfl⟩) ?_ ?_
  rotate_left
  · simp only [Act.put, List.setIfInBounds_toArray, List.set_cons_zero, List.set_cons_succ, i64_w, i32_w]
    rfl
  refine pure_ (i := 13) (N := some 84) (v := undef) (a' := ?_) #[true, true, true, true, true, true, true, true, true, true, true, true, true, true, false, false, false, false, false, false, false, false, false, false, false] rfl rfl (any_of HT_.out (by kernel_rfl)) (fun _ _ _ h => h) (Or.inr ⟨by rfl, rfl⟩) ?_ ?_
  rotate_left
  · simp only [Act.put, List.setIfInBounds_toArray, List.set_cons_zero, List.set_cons_succ, i64_w, i32_w]
    rfl
  refine pure_ (i := 14) (N := some 85) (v := undef) (a' := ?_) #[true, true, true, true, true, true, true, true, true, true, true, true, true, true, true, false, false, false, false, false, false, false, false, false, false] rfl rfl (any_of HT_.out (by kernel_rfl)) (fun _ _ _ h => h) (Or.inr ⟨by rfl, rfl⟩) ?_ ?_
  rotate_left
  · simp only [Act.put, List.setIfInBounds_toArray, List.set_cons_zero, List.set_cons_succ, i64_w, i32_w]
    rfl
  refine pure_ (i := 15) (N := some 86) (v := undef) (a' := ?_) #[true, true, true, true, true, true, true, true, true, true, true, true, true, true, true, true, false, false, false, false, false, false, false, false, false] rfl rfl (any_of HT_.out (by kernel_rfl)) (fun _ _ _ h => h) (Or.inr ⟨by rfl, rfl⟩) ?_ ?_
  rotate_left
  · simp only [Act.put, List.setIfInBounds_toArray, List.set_cons_zero, List.set_cons_succ, i64_w, i32_w]
    rfl
  refine pure_ (i := 16) (N := some 87) (v := undef) (a' := ?_) #[true, true, true, true, true, true, true, true, true, true, true, true, true, true, true, true, true, false, false, false, false, false, false, false, false] rfl rfl (any_of HT_.out (by kernel_rfl)) (fun _ _ _ h => h) (Or.inr ⟨by rfl, rfl⟩) ?_ ?_
  rotate_left
  · simp only [Act.put, List.setIfInBounds_toArray, List.set_cons_zero, List.set_cons_succ, i64_w, i32_w]
    rfl
  refine pure_ (i := 17) (N := some 88) (v := undef) (a' := ?_) #[true, true, true, true, true, true, true, true, true, true, true, true, true, true, true, true, true, true, false, false, false, false, false, false, false] rfl rfl (any_of HT_.out (by kernel_rfl)) (fun _ _ _ h => h) (Or.inr ⟨by rfl, rfl⟩) ?_ ?_
  rotate_left
  · simp only [Act.put, List.setIfInBounds_toArray, List.set_cons_zero, List.set_cons_succ, i64_w, i32_w]
    rfl
  refine pure_ (i := 18) (N := some 89) (v := undef) (a' := ?_) #[true, true, true, true, true, true, true, true, true, true, true, true, true, true, true, true, true, true, true, false, false, false, false, false, false] rfl rfl (any_of HT_.out (by kernel_rfl)) (fun _ _ _ h => h) (Or.inr ⟨by rfl, rfl⟩) ?_ ?_
  rotate_left
  · simp only [Act.put, List.setIfInBounds_toArray, List.set_cons_zero, List.set_cons_succ, i64_w, i32_w]
    rfl
  refine pure_ (i := 19) (N := some 90) (v := undef) (a' := ?_) #[true, true, true, true, true, true, true, true, true, true, true, true, true, true, true, true, true, true, true, true, false, false, false, false, false] rfl rfl (any_of HT_.out (by kernel_rfl)) (fun _ _ _ h => h) (Or.inr ⟨by rfl, rfl⟩) ?_ ?_
  rotate_left
  · simp only [Act.put, List.setIfInBounds_toArray, List.set_cons_zero, List.set_cons_succ, i64_w, i32_w]
    rfl
  refine pure_ (i := 20) (N := some 91) (v := undef) (a' := ?_) #[true, true, true, true, true, true, true, true, true, true, true, true, true, true, true, true, true, true, true, true, true, false, false, false, false] rfl rfl (any_of HT_.out (by kernel_rfl)) (fun _ _ _ h => h) (Or.inr ⟨by rfl, rfl⟩) ?_ ?_
  rotate_left
  · simp only [Act.put, List.setIfInBounds_toArray, List.set_cons_zero, List.set_cons_succ, i64_w, i32_w]
    rfl
  refine pure_ (i := 21) (N := some 92) (v := undef) (a' := ?_) #[true, true, true, true, true, true, true, true, true, true, true, true, true, true, true, true, true, true, true, true, true, true, false, false, false] rfl rfl (any_of HT_.out (by kernel_rfl)) (fun _ _ _ h => h) (Or.inr ⟨by rfl, rfl⟩) ?_ ?_
  rotate_left
  · simp only [Act.put, List.setIfInBounds_toArray, List.set_cons_zero, List.set_cons_succ, i64_w, i32_w]
    rfl
  refine pure_ (i := 22) (N := some 93) (v := undef) (a' := ?_) #[true, true, true, true, true, true, true, true, true, true, true, true, true, true, true, true, true, true, true, true, true, true, true, false, false] rfl rfl (any_of HT_.out (by kernel_rfl)) (fun _ _ _ h => h) (Or.inr ⟨by rfl, rfl⟩) ?_ ?_
  rotate_left
  · simp only [Act.put, List.setIfInBounds_toArray, List.set_cons_zero, List.set_cons_succ, i64_w, i32_w]
    rfl
  refine pure_ (i := 23) (N := some 94) (v := ?_) (a' := ?_) #[true, true, true, true, true, true, true, true, true, true, true, true, true, true, true, true, true, true, true, true, true, true, true, true, false] rfl rfl (any_of HT_.out (by kernel_rfl)) (fun _ _ _ h => h) (Or.inl ⟨by rfl, ?_⟩) ?_ ?_
  rotate_left
  · intro w'
    go_simp
    with_reducible rfl
  rotate_left
  · simp only [Act.put, List.setIfInBounds_toArray, List.set_cons_zero, List.set_cons_succ, i64_w, i32_w]
    rfl
  refine pure_ (i := 24) (N := some 10) (v := ?_) (a' := ?_) #[true, true, true, true, true, true, true, true, true, true, true, true, true, true, true, true, true, true, true, true, true, true, true, true, true] rfl rfl (any_of HT_.out (by kernel_rfl)) (fun _ _ _ h => h) (Or.inl ⟨by rfl, ?_⟩) ?_ ?_
  rotate_left
  · intro w'
    go_simp
    with_reducible rfl
  rotate_left
  · simp only [Act.put, List.setIfInBounds_toArray, List.set_cons_zero, List.set_cons_succ, i64_w, i32_w]
    rfl
  refine done_ (done_of HT_.out (by kernel_rfl)) ?_
  clear x0 x1 x2 x3 hz
  have T8' := Lib.hid T8.out.drew
  obtain ⟨x0, x1, x2, x3⟩ := T8'.out.cells
  have hz := T8'.out.lt
  clear T8
  go_wp2_with fail
  refine (H9.out _ (by first | exact T8'.out | exact T8'.out.drew)).mono ?_
  rintro e w9 ⟨rfl, T9⟩
  clear x0 x1 x2 x3 hz
  obtain ⟨x0, x1, x2, x3⟩ := T9.out.cells
  have hz := T9.out.lt
  clear H9 T8'
  go_wp2_with fail
  refine (H10.out _ (T9.out)).mono ?_
  rintro e w10 ⟨rfl, T10⟩
  clear x0 x1 x2 x3 hz
  obtain ⟨x0, x1, x2, x3⟩ := T10.out.cells
  have hz := T10.out.lt
  clear H10 T9
  go_wp2_with fail
  refine (H11.out _ (T10.out)).mono ?_
  rintro e w11 ⟨rfl, T11⟩
  clear x0 x1 x2 x3 hz
  obtain ⟨x0, x1, x2, x3⟩ := T11.out.cells
  have hz := T11.out.lt
  clear H11 T10
  go_wp2_with fail
  refine (H12.out _ (T11.out)).mono ?_
  rintro e w12 ⟨rfl, T12⟩
  clear x0 x1 x2 x3 hz
  obtain ⟨x0, x1, x2, x3⟩ := T12.out.cells
  have hz := T12.out.lt
  clear H12 T11
  go_wp2_with fail
  go_ret
  exact ⟨by first | rfl | simp, T12.out.below⟩

set_option maxHeartbeats 4000000 in
theorem eq_010 (A B : Option Addr) (c d : Nat) (l m : List UInt8) (k k' : Int) (w : World) (hs : SB w A c l) (ht : SB w B d m) (h : (l.length ≤ 2147483647) ∧ (m.length ≤ 2147483647) ∧ (0 ≤ k ∧ k ≤ 255) ∧ (0 ≤ k' ∧ k' ≤ 255) ∧ (l.length ≤ 5000) ∧ (m.length ≤ 5000)) (hk : ¬ k = k') (hva : valIs k l = true) (hvb : valIs k' m = false) :
    Calls Tryz.prog 3 #[.agg #[.int .i64 k, .slice A l.length c], .agg #[.int .i64 k', .slice B m.length d]] w fun e w' => e = .returned (.bool true) ∧ Below w.heap.size w w' := by
  obtain ⟨t1, t2, t3, t4, t5, t6⟩ := h
  have H1 := Lib.hid (fun wx (T : Two w wx k k' A B l.length c m.length d) => twoF A B c d l m k k' w wx hs T)
  have H2 := Lib.hid (fun wx (T : Two w wx k k' A B l.length c m.length d) => twoF' A B c d l m k k' w wx ht T)
  have H3 := Lib.hid (fun wx (T : Two w wx k k' A B l.length c m.length d) => twoB A B l.length c m.length d k k k' w wx T)
  have H4 := Lib.hid (fun wx (T : Two w wx k k' A B l.length c m.length d) => twoB A B l.length c m.length d k' k k' w wx T)
  have H5 := Lib.hid (fun wx (T : Two w wx k k' A B l.length c m.length d) => twoM A B c d l m k k' w wx hs T)
  have H6 := Lib.hid (fun wx (T : Two w wx k k' A B l.length c m.length d) => twoM' A B c d l m k k' w wx ht T)
  rw [decide_eq_true t1] at H1
  rw [decide_eq_true t2] at H2
  rw [decide_eq_true t3] at H3
  rw [decide_eq_true t4] at H4
  rw [decide_eq_true t5] at H5
  rw [decide_eq_true t6] at H6
  have H7 := Lib.hid (fun wx (T : Two w wx k k' A B l.length c m.length d) => twoS A B c d l m k k' w wx hs t5 T)
  have H8 := Lib.hid (fun wx (T : Two w wx k k' A B l.length c m.length d) => twoS' A B c d l m k k' w wx ht t6 T)
  have H9 := Lib.hid (fun wx (T : Two w wx k k' A B l.length c m.length d) => twoAw A B l.length c m.length d k k' w wx T)
  have H10 := Lib.hid (fun wx (T : Two w wx k k' A B l.length c m.length d) => twoE A B c d l m k k' w wx hs ht t3 t4 T)
  have H11 := Lib.hid (fun wx (T : Two w wx k k' A B l.length c m.length d) => twoV A B c d l m k k' w wx hs ht t3 t4 T)
  have H12 := Lib.hid (fun wx (T : Two w wx k k' A B l.length c m.length d) => twoE' A B c d l m k k' w wx hs t3 T)
  rw [hva] at H7
  rw [hvb] at H8
  have hal : alike k k' l m = false := by unfold alike; rw [decide_eq_false hk]; simp
  rw [hal] at H11
  rw [decide_eq_false hk, Bool.false_and] at H10
  have ek : (k == k') = false := by simpa using hk
  have T0 := Lib.hid (Two.start w k k' A B l.length c m.length d)
  obtain ⟨p, hp⟩ : ∃ p, p = l.length := ⟨_, rfl⟩
  obtain ⟨q, hq⟩ : ∃ q, q = m.length := ⟨_, rfl⟩
  rw [← hp, ← hq] at H1 H2 H3 H4 H5 H6 H7 H8 H9 H10 H11 H12 T0
  rw [← hp, ← hq]
  clear hs ht t1 t2 t3 t4 t5 t6 hk hva hvb hal hp hq
  go_enter Tryz.func3, Tryz.ntmps3
  go_wp2_with fail
  refine (H1.out _ (T0.out)).mono ?_
  rintro e w1 ⟨rfl, T1⟩
  obtain ⟨x0, x1, x2, x3⟩ := T1.out.cells
  have hz := T1.out.lt
  clear H1 T0
  go_wp2_with fail
  refine (H2.out _ (T1.out)).mono ?_
  rintro e w2 ⟨rfl, T2⟩
  clear x0 x1 x2 x3 hz
  obtain ⟨x0, x1, x2, x3⟩ := T2.out.cells
  have hz := T2.out.lt
  clear H2 T1
  go_wp2_with fail
  refine (H3.out _ (T2.out)).mono ?_
  rintro e w3 ⟨rfl, T3⟩
  clear x0 x1 x2 x3 hz
  obtain ⟨x0, x1, x2, x3⟩ := T3.out.cells
  have hz := T3.out.lt
  clear H3 T2
  go_wp2_with fail
  refine (H4.out _ (T3.out)).mono ?_
  rintro e w4 ⟨rfl, T4⟩
  clear x0 x1 x2 x3 hz
  obtain ⟨x0, x1, x2, x3⟩ := T4.out.cells
  have hz := T4.out.lt
  clear H4 T3
  go_wp2_with fail
  refine (H5.out _ (T4.out)).mono ?_
  rintro e w5 ⟨rfl, T5⟩
  clear x0 x1 x2 x3 hz
  obtain ⟨x0, x1, x2, x3⟩ := T5.out.cells
  have hz := T5.out.lt
  clear H5 T4
  go_wp2_with fail
  refine (H6.out _ (T5.out)).mono ?_
  rintro e w6 ⟨rfl, T6⟩
  clear x0 x1 x2 x3 hz
  obtain ⟨x0, x1, x2, x3⟩ := T6.out.cells
  have hz := T6.out.lt
  clear H6 T5
  go_wp2_with fail
  refine (H7.out _ (T6.out)).mono ?_
  rintro e w7 ⟨r7, rfl, hr7, T7⟩
  clear x0 x1 x2 x3 hz
  obtain ⟨x0, x1, x2, x3⟩ := T7.out.cells
  have hz := T7.out.lt
  clear H7 T6
  clear hr7
  go_wp2_with fail
  refine (H8.out _ (T7.out)).mono ?_
  rintro e w8 ⟨r8, rfl, hr8, T8⟩
  clear x0 x1 x2 x3 hz
  obtain ⟨x0, x1, x2, x3⟩ := T8.out.cells
  have hz := T8.out.lt
  clear H8 T7
  clear hr8
  go_wp2_with fail
  refine start_ (n := 25) (S := fun w' => w'.cell? ⟨w.heap.size, 0, none⟩ = some (.int .i64 k) ∧ w'.cell? ⟨w.heap.size, 1, none⟩ = some (.slice A p c) ∧ w'.cell? ⟨w.heap.size + 1, 0, none⟩ = some (.int .i64 k') ∧ w'.cell? ⟨w.heap.size + 1, 1, none⟩ = some (.slice B q d)) (ds := []) #[false, false, false, false, false, false, false, false, false, false, false, false, false, false, false, false, false, false, false, false, false, false, false, false, false] (by kernel_rfl) rfl rfl ⟨(by exact x0), (by exact x1), (by exact x2), (by exact x3)⟩ (fun hHeld => ?_)
  refine with_tabW R3.tab8 R3.bits8 (fun HT_ HW_ => ?_)
  refine pure_ (i := 0) (N := some 71) (v := ?_) (a' := ?_) #[true, false, false, false, false, false, false, false, false, false, false, false, false, false, false, false, false, false, false, false, false, false, false, false, false] rfl rfl (any_of HT_.out (by kernel_rfl)) (fun _ _ _ h => h) (Or.inl ⟨by rfl, ?_⟩) ?_ ?_
  rotate_left
  · intro w'
    go_simp
    with_reducible rfl
  rotate_left
  · simp only [Act.put, List.setIfInBounds_toArray, List.set_cons_zero, List.set_cons_succ, i64_w, i32_w]
    rfl
  refine pure_ (i := 1) (N := some 72) (v := ?_) (a' := ?_) #[true, true, false, false, false, false, false, false, false, false, false, false, false, false, false, false, false, false, false, false, false, false, false, false, false] rfl rfl (any_of HT_.out (by kernel_rfl)) (fun _ _ _ h => h) (Or.inl ⟨by rfl, ?_⟩) ?_ ?_
  rotate_left
  · intro w'
    go_simp
    with_reducible rfl
  rotate_left
  · simp only [Act.put, List.setIfInBounds_toArray, List.set_cons_zero, List.set_cons_succ, i64_w, i32_w]
    rfl
  refine pure_ (i := 2) (N := some 73) (v := ?_) (a' := ?_) #[true, true, true, false, false, false, false, false, false, false, false, false, false, false, false, false, false, false, false, false, false, false, false, false, false] rfl rfl (any_of HT_.out (by kernel_rfl)) (fun _ _ _ h => h) (Or.inl ⟨by rfl, ?_⟩) ?_ ?_
  rotate_left
  · intro w'
    go_simp
    with_reducible rfl
  rotate_left
  · simp only [Act.put, List.setIfInBounds_toArray, List.set_cons_zero, List.set_cons_succ, i64_w, i32_w]
    rfl
  refine pure_ (i := 3) (N := some 74) (v := ?_) (a' := ?_) #[true, true, true, true, false, false, false, false, false, false, false, false, false, false, false, false, false, false, false, false, false, false, false, false, false] rfl rfl (any_of HT_.out (by kernel_rfl)) (fun _ _ _ h => h) (Or.inl ⟨by rfl, ?_⟩) ?_ ?_
  rotate_left
  · intro w'
    go_simp
    with_reducible rfl
  rotate_left
  · simp only [Act.put, List.setIfInBounds_toArray, List.set_cons_zero, List.set_cons_succ, i64_w, i32_w]
    rfl
  refine pure_ (i := 4) (N := some 75) (v := ?_) (a' := ?_) #[true, true, true, true, true, false, false, false, false, false, false, false, false, false, false, false, false, false, false, false, false, false, false, false, false] rfl rfl (any_of HT_.out (by kernel_rfl)) (fun _ _ _ h => h) (Or.inl ⟨by rfl, ?_⟩) ?_ ?_
  rotate_left
  · intro w'
    go_simp
    with_reducible rfl
  rotate_left
  · simp only [Act.put, List.setIfInBounds_toArray, List.set_cons_zero, List.set_cons_succ, i64_w, i32_w]
    rfl
  refine pure_ (i := 5) (N := some 76) (v := undef) (a' := ?_) #[true, true, true, true, true, true, false, false, false, false, false, false, false, false, false, false, false, false, false, false, false, false, false, false, false] rfl rfl (any_of HT_.out (by kernel_rfl)) (fun _ _ _ h => h) (Or.inr ⟨by rfl, rfl⟩) ?_ ?_
  rotate_left
  · simp only [Act.put, List.setIfInBounds_toArray, List.set_cons_zero, List.set_cons_succ, i64_w, i32_w]
    rfl
  refine pure_ (i := 6) (N := some 77) (v := undef) (a' := ?_) #[true, true, true, true, true, true, true, false, false, false, false, false, false, false, false, false, false, false, false, false, false, false, false, false, false] rfl rfl (any_of HT_.out (by kernel_rfl)) (fun _ _ _ h => h) (Or.inr ⟨by rfl, rfl⟩) ?_ ?_
  rotate_left
  · simp only [Act.put, List.setIfInBounds_toArray, List.set_cons_zero, List.set_cons_succ, i64_w, i32_w]
    rfl
  refine pure_ (i := 7) (N := some 78) (v := undef) (a' := ?_) #[true, true, true, true, true, true, true, true, false, false, false, false, false, false, false, false, false, false, false, false, false, false, false, false, false] rfl rfl (any_of HT_.out (by kernel_rfl)) (fun _ _ _ h => h) (Or.inr ⟨by rfl, rfl⟩) ?_ ?_
  rotate_left
  · simp only [Act.put, List.setIfInBounds_toArray, List.set_cons_zero, List.set_cons_succ, i64_w, i32_w]
    rfl
  refine pure_ (i := 8) (N := some 79) (v := undef) (a' := ?_) #[true, true, true, true, true, true, true, true, true, false, false, false, false, false, false, false, false, false, false, false, false, false, false, false, false] rfl rfl (any_of HT_.out (by kernel_rfl)) (fun _ _ _ h => h) (Or.inr ⟨by rfl, rfl⟩) ?_ ?_
  rotate_left
  · simp only [Act.put, List.setIfInBounds_toArray, List.set_cons_zero, List.set_cons_succ, i64_w, i32_w]
    rfl
  refine pure_ (i := 9) (N := some 80) (v := undef) (a' := ?_) #[true, true, true, true, true, true, true, true, true, true, false, false, false, false, false, false, false, false, false, false, false, false, false, false, false] rfl rfl (any_of HT_.out (by kernel_rfl)) (fun _ _ _ h => h) (Or.inr ⟨by rfl, rfl⟩) ?_ ?_
  rotate_left
  · simp only [Act.put, List.setIfInBounds_toArray, List.set_cons_zero, List.set_cons_succ, i64_w, i32_w]
    rfl
  refine pure_ (i := 10) (N := some 81) (v := ?_) (a' := ?_) #[true, true, true, true, true, true, true, true, true, true, true, false, false, false, false, false, false, false, false, false, false, false, false, false, false] rfl rfl (any_of HT_.out (by kernel_rfl)) (fun _ _ _ h => h) (Or.inl ⟨by rfl, ?_⟩) ?_ ?_
  rotate_left
  · intro w'
    go_simp
    with_reducible rfl
  rotate_left
  · simp only [Act.put, List.setIfInBounds_toArray, List.set_cons_zero, List.set_cons_succ, i64_w, i32_w]
    rfl
  refine pure_ (i := 11) (N := some 82) (v := ?_) (a' := ?_) #[true, true, true, true, true, true, true, true, true, true, true, true, false, false, false, false, false, false, false, false, false, false, false, false, false] rfl rfl (any_of HT_.out (by kernel_rfl)) (fun _ _ _ h => h) (Or.inl ⟨by rfl, ?_⟩) ?_ ?_
  rotate_left
  · intro w'
    go_simp
    with_reducible rfl
  rotate_left
  · simp only [Act.put, List.setIfInBounds_toArray, List.set_cons_zero, List.set_cons_succ, i64_w, i32_w]
    rfl
  refine pure_ (i := 12) (N := some 83) (v := undef) (a' := ?_) #[true, true, true, true, true, true, true, true, true, true, true, true, true, false, false, false, false, false, false, false, false, false, false, false, false] rfl rfl (any_of HT_.out (by kernel_rfl)) (fun _ _ _ h => h) (Or.inr ⟨by rfl, rfl⟩) ?_ ?_
  rotate_left
  · simp only [Act.put, List.setIfInBounds_toArray, List.set_cons_zero, List.set_cons_succ, i64_w, i32_w]
    rfl
  refine pure_ (i := 13) (N := some 84) (v := undef) (a' := ?_) #[true, true, true, true, true, true, true, true, true, true, true, true, true, true, false, false, false, false, false, false, false, false, false, false, false] rfl rfl (any_of HT_.out (by kernel_rfl)) (fun _ _ _ h => h) (Or.inr ⟨by rfl, rfl⟩) ?_ ?_
  rotate_left
  · simp only [Act.put, List.setIfInBounds_toArray, List.set_cons_zero, List.set_cons_succ, i64_w, i32_w]
    rfl
  refine pure_ (i := 14) (N := some 85) (v := undef) (a' := ?_) #[true, true, true, true, true, true, true, true, true, true, true, true, true, true, true, false, false, false, false, false, false, false, false, false, false] rfl rfl (any_of HT_.out (by kernel_rfl)) (fun _ _ _ h => h) (Or.inr ⟨by rfl, rfl⟩) ?_ ?_
  rotate_left
  · simp only [Act.put, List.setIfInBounds_toArray, List.set_cons_zero, List.set_cons_succ, i64_w, i32_w]
    rfl
  refine pure_ (i := 15) (N := some 86) (v := undef) (a' := ?_) #[true, true, true, true, true, true, true, true, true, true, true, true, true, true, true, true, false, false, false, false, false, false, false, false, false] rfl rfl (any_of HT_.out (by kernel_rfl)) (fun _ _ _ h => h) (Or.inr ⟨by rfl, rfl⟩) ?_ ?_
  rotate_left
  · simp only [Act.put, List.setIfInBounds_toArray, List.set_cons_zero, List.set_cons_succ, i64_w, i32_w]
    rfl
  refine pure_ (i := 16) (N := some 87) (v := undef) (a' := ?_) #[true, true, true, true, true, true, true, true, true, true, true, true, true, true, true, true, true, false, false, false, false, false, false, false, false] rfl rfl (any_of HT_.out (by kernel_rfl)) (fun _ _ _ h => h) (Or.inr ⟨by rfl, rfl⟩) ?_ ?_
  rotate_left
  · simp only [Act.put, List.setIfInBounds_toArray, List.set_cons_zero, List.set_cons_succ, i64_w, i32_w]
    rfl
  refine pure_ (i := 17) (N := some 88) (v := undef) (a' := ?_) #[true, true, true, true, true, true, true, true, true, true, true, true, true, true, true, true, true, true, false, false, false, false, false, false, false] rfl rfl (any_of HT_.out (by kernel_rfl)) (fun _ _ _ h => h) (Or.inr ⟨by rfl, rfl⟩) ?_ ?_
  rotate_left
  · simp only [Act.put, List.setIfInBounds_toArray, List.set_cons_zero, List.set_cons_succ, i64_w, i32_w]
    rfl
  refine pure_ (i := 18) (N := some 89) (v := undef) (a' := ?_) #[true, true, true, true, true, true, true, true, true, true, true, true, true, true, true, true, true, true, true, false, false, false, false, false, false] rfl rfl (any_of HT_.out (by kernel_rfl)) (fun _ _ _ h => h) (Or.inr ⟨by rfl, rfl⟩) ?_ ?_
  rotate_left
  · simp only [Act.put, List.setIfInBounds_toArray, List.set_cons_zero, List.set_cons_succ, i64_w, i32_w]
    rfl
  refine pure_ (i := 19) (N := some 90) (v := undef) (a' := ?_) #[true, true, true, true, true, true, true, true, true, true, true, true, true, true, true, true, true, true, true, true, false, false, false, false, false] rfl rfl (any_of HT_.out (by kernel_rfl)) (fun _ _ _ h => h) (Or.inr ⟨by rfl, rfl⟩) ?_ ?_
  rotate_left
  · simp only [Act.put, List.setIfInBounds_toArray, List.set_cons_zero, List.set_cons_succ, i64_w, i32_w]
    rfl
  refine pure_ (i := 20) (N := some 91) (v := undef) (a' := ?_) #[true, true, true, true, true, true, true, true, true, true, true, true, true, true, true, true, true, true, true, true, true, false, false, false, false] rfl rfl (any_of HT_.out (by kernel_rfl)) (fun _ _ _ h => h) (Or.inr ⟨by rfl, rfl⟩) ?_ ?_
  rotate_left
  · simp only [Act.put, List.setIfInBounds_toArray, List.set_cons_zero, List.set_cons_succ, i64_w, i32_w]
    rfl
  refine pure_ (i := 21) (N := some 92) (v := undef) (a' := ?_) #[true, true, true, true, true, true, true, true, true, true, true, true, true, true, true, true, true, true, true, true, true, true, false, false, false] rfl rfl (any_of HT_.out (by kernel_rfl)) (fun _ _ _ h => h) (Or.inr ⟨by rfl, rfl⟩) ?_ ?_
  rotate_left
  · simp only [Act.put, List.setIfInBounds_toArray, List.set_cons_zero, List.set_cons_succ, i64_w, i32_w]
    rfl
  refine pure_ (i := 22) (N := some 93) (v := undef) (a' := ?_) #[true, true, true, true, true, true, true, true, true, true, true, true, true, true, true, true, true, true, true, true, true, true, true, false, false] rfl rfl (any_of HT_.out (by kernel_rfl)) (fun _ _ _ h => h) (Or.inr ⟨by rfl, rfl⟩) ?_ ?_
  rotate_left
  · simp only [Act.put, List.setIfInBounds_toArray, List.set_cons_zero, List.set_cons_succ, i64_w, i32_w]
    rfl
  refine pure_ (i := 23) (N := some 94) (v := ?_) (a' := ?_) #[true, true, true, true, true, true, true, true, true, true, true, true, true, true, true, true, true, true, true, true, true, true, true, true, false] rfl rfl (any_of HT_.out (by kernel_rfl)) (fun _ _ _ h => h) (Or.inl ⟨by rfl, ?_⟩) ?_ ?_
  rotate_left
  · intro w'
    go_simp
    with_reducible rfl
  rotate_left
  · simp only [Act.put, List.setIfInBounds_toArray, List.set_cons_zero, List.set_cons_succ, i64_w, i32_w]
    rfl
  refine pure_ (i := 24) (N := some 10) (v := ?_) (a' := ?_) #[true, true, true, true, true, true, true, true, true, true, true, true, true, true, true, true, true, true, true, true, true, true, true, true, true] rfl rfl (any_of HT_.out (by kernel_rfl)) (fun _ _ _ h => h) (Or.inl ⟨by rfl, ?_⟩) ?_ ?_
  rotate_left
  · intro w'
    go_simp
    with_reducible rfl
  rotate_left
  · simp only [Act.put, List.setIfInBounds_toArray, List.set_cons_zero, List.set_cons_succ, i64_w, i32_w]
    rfl
  refine done_ (done_of HT_.out (by kernel_rfl)) ?_
  clear x0 x1 x2 x3 hz
  have T8' := Lib.hid T8.out.drew
  obtain ⟨x0, x1, x2, x3⟩ := T8'.out.cells
  have hz := T8'.out.lt
  clear T8
  go_wp2_with fail
  refine (H9.out _ (by first | exact T8'.out | exact T8'.out.drew)).mono ?_
  rintro e w9 ⟨rfl, T9⟩
  clear x0 x1 x2 x3 hz
  obtain ⟨x0, x1, x2, x3⟩ := T9.out.cells
  have hz := T9.out.lt
  clear H9 T8'
  go_wp2_with fail
  refine (H10.out _ (T9.out)).mono ?_
  rintro e w10 ⟨rfl, T10⟩
  clear x0 x1 x2 x3 hz
  obtain ⟨x0, x1, x2, x3⟩ := T10.out.cells
  have hz := T10.out.lt
  clear H10 T9
  go_wp2_with fail
  refine (H11.out _ (T10.out)).mono ?_
  rintro e w11 ⟨rfl, T11⟩
  clear x0 x1 x2 x3 hz
  obtain ⟨x0, x1, x2, x3⟩ := T11.out.cells
  have hz := T11.out.lt
  clear H11 T10
  go_wp2_with fail
  refine (H12.out _ (T11.out)).mono ?_
  rintro e w12 ⟨rfl, T12⟩
  clear x0 x1 x2 x3 hz
  obtain ⟨x0, x1, x2, x3⟩ := T12.out.cells
  have hz := T12.out.lt
  clear H12 T11
  go_wp2_with fail
  go_ret
  exact ⟨by first | rfl | simp, T12.out.below⟩

set_option maxHeartbeats 4000000 in
theorem eq_001 (A B : Option Addr) (c d : Nat) (l m : List UInt8) (k k' : Int) (w : World) (hs : SB w A c l) (ht : SB w B d m) (h : (l.length ≤ 2147483647) ∧ (m.length ≤ 2147483647) ∧ (0 ≤ k ∧ k ≤ 255) ∧ (0 ≤ k' ∧ k' ≤ 255) ∧ (l.length ≤ 5000) ∧ (m.length ≤ 5000)) (hk : ¬ k = k') (hva : valIs k l = false) (hvb : valIs k' m = true) :
    Calls Tryz.prog 3 #[.agg #[.int .i64 k, .slice A l.length c], .agg #[.int .i64 k', .slice B m.length d]] w fun e w' => e = .returned (.bool true) ∧ Below w.heap.size w w' := by
  obtain ⟨t1, t2, t3, t4, t5, t6⟩ := h
  have H1 := Lib.hid (fun wx (T : Two w wx k k' A B l.length c m.length d) => twoF A B c d l m k k' w wx hs T)
  have H2 := Lib.hid (fun wx (T : Two w wx k k' A B l.length c m.length d) => twoF' A B c d l m k k' w wx ht T)
  have H3 := Lib.hid (fun wx (T : Two w wx k k' A B l.length c m.length d) => twoB A B l.length c m.length d k k k' w wx T)
  have H4 := Lib.hid (fun wx (T : Two w wx k k' A B l.length c m.length d) => twoB A B l.length c m.length d k' k k' w wx T)
  have H5 := Lib.hid (fun wx (T : Two w wx k k' A B l.length c m.length d) => twoM A B c d l m k k' w wx hs T)
  have H6 := Lib.hid (fun wx (T : Two w wx k k' A B l.length c m.length d) => twoM' A B c d l m k k' w wx ht T)
  rw [decide_eq_true t1] at H1
  rw [decide_eq_true t2] at H2
  rw [decide_eq_true t3] at H3
  rw [decide_eq_true t4] at H4
  rw [decide_eq_true t5] at H5
  rw [decide_eq_true t6] at H6
  have H7 := Lib.hid (fun wx (T : Two w wx k k' A B l.length c m.length d) => twoS A B c d l m k k' w wx hs t5 T)
  have H8 := Lib.hid (fun wx (T : Two w wx k k' A B l.length c m.length d) => twoS' A B c d l m k k' w wx ht t6 T)
  have H9 := Lib.hid (fun wx (T : Two w wx k k' A B l.length c m.length d) => twoAw A B l.length c m.length d k k' w wx T)
  have H10 := Lib.hid (fun wx (T : Two w wx k k' A B l.length c m.length d) => twoE A B c d l m k k' w wx hs ht t3 t4 T)
  have H11 := Lib.hid (fun wx (T : Two w wx k k' A B l.length c m.length d) => twoV A B c d l m k k' w wx hs ht t3 t4 T)
  have H12 := Lib.hid (fun wx (T : Two w wx k k' A B l.length c m.length d) => twoE' A B c d l m k k' w wx hs t3 T)
  rw [hva] at H7
  rw [hvb] at H8
  have hal : alike k k' l m = false := by unfold alike; rw [decide_eq_false hk]; simp
  rw [hal] at H11
  rw [decide_eq_false hk, Bool.false_and] at H10
  have ek : (k == k') = false := by simpa using hk
  have T0 := Lib.hid (Two.start w k k' A B l.length c m.length d)
  obtain ⟨p, hp⟩ : ∃ p, p = l.length := ⟨_, rfl⟩
  obtain ⟨q, hq⟩ : ∃ q, q = m.length := ⟨_, rfl⟩
  rw [← hp, ← hq] at H1 H2 H3 H4 H5 H6 H7 H8 H9 H10 H11 H12 T0
  rw [← hp, ← hq]
  clear hs ht t1 t2 t3 t4 t5 t6 hk hva hvb hal hp hq
  go_enter Tryz.func3, Tryz.ntmps3
  go_wp2_with fail
  refine (H1.out _ (T0.out)).mono ?_
  rintro e w1 ⟨rfl, T1⟩
  obtain ⟨x0, x1, x2, x3⟩ := T1.out.cells
  have hz := T1.out.lt
  clear H1 T0
  go_wp2_with fail
  refine (H2.out _ (T1.out)).mono ?_
  rintro e w2 ⟨rfl, T2⟩
  clear x0 x1 x2 x3 hz
  obtain ⟨x0, x1, x2, x3⟩ := T2.out.cells
  have hz := T2.out.lt
  clear H2 T1
  go_wp2_with fail
  refine (H3.out _ (T2.out)).mono ?_
  rintro e w3 ⟨rfl, T3⟩
  clear x0 x1 x2 x3 hz
  obtain ⟨x0, x1, x2, x3⟩ := T3.out.cells
  have hz := T3.out.lt
  clear H3 T2
  go_wp2_with fail
  refine (H4.out _ (T3.out)).mono ?_
  rintro e w4 ⟨rfl, T4⟩
  clear x0 x1 x2 x3 hz
  obtain ⟨x0, x1, x2, x3⟩ := T4.out.cells
  have hz := T4.out.lt
  clear H4 T3
  go_wp2_with fail
  refine (H5.out _ (T4.out)).mono ?_
  rintro e w5 ⟨rfl, T5⟩
  clear x0 x1 x2 x3 hz
  obtain ⟨x0, x1, x2, x3⟩ := T5.out.cells
  have hz := T5.out.lt
  clear H5 T4
  go_wp2_with fail
  refine (H6.out _ (T5.out)).mono ?_
  rintro e w6 ⟨rfl, T6⟩
  clear x0 x1 x2 x3 hz
  obtain ⟨x0, x1, x2, x3⟩ := T6.out.cells
  have hz := T6.out.lt
  clear H6 T5
  go_wp2_with fail
  refine (H7.out _ (T6.out)).mono ?_
  rintro e w7 ⟨r7, rfl, hr7, T7⟩
  clear x0 x1 x2 x3 hz
  obtain ⟨x0, x1, x2, x3⟩ := T7.out.cells
  have hz := T7.out.lt
  clear H7 T6
  clear hr7
  go_wp2_with fail
  refine (H8.out _ (T7.out)).mono ?_
  rintro e w8 ⟨r8, rfl, hr8, T8⟩
  clear x0 x1 x2 x3 hz
  obtain ⟨x0, x1, x2, x3⟩ := T8.out.cells
  have hz := T8.out.lt
  clear H8 T7
  clear hr8
  go_wp2_with fail
  refine start_ (n := 25) (S := fun w' => w'.cell? ⟨w.heap.size, 0, none⟩ = some (.int .i64 k) ∧ w'.cell? ⟨w.heap.size, 1, none⟩ = some (.slice A p c) ∧ w'.cell? ⟨w.heap.size + 1, 0, none⟩ = some (.int .i64 k') ∧ w'.cell? ⟨w.heap.size + 1, 1, none⟩ = some (.slice B q d)) (ds := []) #[false, false, false, false, false, false, false, false, false, false, false, false, false, false, false, false, false, false, false, false, false, false, false, false, false] (by kernel_rfl) rfl rfl ⟨(by exact x0), (by exact x1), (by exact x2), (by exact x3)⟩ (fun hHeld => ?_)
  refine with_tabW R3.tab8 R3.bits8 (fun HT_ HW_ => ?_)
  refine pure_ (i := 0) (N := some 71) (v := ?_) (a' := ?_) #[true, false, false, false, false, false, false, false, false, false, false, false, false, false, false, false, false, false, false, false, false, false, false, false, false] rfl rfl (any_of HT_.out (by kernel_rfl)) (fun _ _ _ h => h) (Or.inl ⟨by rfl, ?_⟩) ?_ ?_
  rotate_left
  · intro w'
    go_simp
    with_reducible rfl
  rotate_left
  · simp only [Act.put, List.setIfInBounds_toArray, List.set_cons_zero, List.set_cons_succ, i64_w, i32_w]
    rfl
  refine pure_ (i := 1) (N := some 72) (v := ?_) (a' := ?_) #[true, true, false, false, false, false, false, false, false, false, false, false, false, false, false, false, false, false, false, false, false, false, false, false, false] rfl rfl (any_of HT_.out (by kernel_rfl)) (fun _ _ _ h => h) (Or.inl ⟨by rfl, ?_⟩) ?_ ?_
  rotate_left
  · intro w'
    go_simp
    with_reducible rfl
  rotate_left
  · simp only [Act.put, List.setIfInBounds_toArray, List.set_cons_zero, List.set_cons_succ, i64_w, i32_w]
    rfl
  refine pure_ (i := 2) (N := some 73) (v := undef) (a' := ?_) #[true, true, true, false, false, false, false, false, false, false, false, false, false, false, false, false, false, false, false, false, false, false, false, false, false] rfl rfl (any_of HT_.out (by kernel_rfl)) (fun _ _ _ h => h) (Or.inr ⟨by rfl, rfl⟩) ?_ ?_
  rotate_left
  · simp only [Act.put, List.setIfInBounds_toArray, List.set_cons_zero, List.set_cons_succ, i64_w, i32_w]
    rfl
  refine pure_ (i := 3) (N := some 74) (v := ?_) (a' := ?_) #[true, true, true, true, false, false, false, false, false, false, false, false, false, false, false, false, false, false, false, false, false, false, false, false, false] rfl rfl (any_of HT_.out (by kernel_rfl)) (fun _ _ _ h => h) (Or.inl ⟨by rfl, ?_⟩) ?_ ?_
  rotate_left
  · intro w'
    go_simp
    with_reducible rfl
  rotate_left
  · simp only [Act.put, List.setIfInBounds_toArray, List.set_cons_zero, List.set_cons_succ, i64_w, i32_w]
    rfl
  refine pure_ (i := 4) (N := some 75) (v := ?_) (a' := ?_) #[true, true, true, true, true, false, false, false, false, false, false, false, false, false, false, false, false, false, false, false, false, false, false, false, false] rfl rfl (any_of HT_.out (by kernel_rfl)) (fun _ _ _ h => h) (Or.inl ⟨by rfl, ?_⟩) ?_ ?_
  rotate_left
  · intro w'
    go_simp
    with_reducible rfl
  rotate_left
  · simp only [Act.put, List.setIfInBounds_toArray, List.set_cons_zero, List.set_cons_succ, i64_w, i32_w]
    rfl
  refine pure_ (i := 5) (N := some 76) (v := undef) (a' := ?_) #[true, true, true, true, true, true, false, false, false, false, false, false, false, false, false, false, false, false, false, false, false, false, false, false, false] rfl rfl (any_of HT_.out (by kernel_rfl)) (fun _ _ _ h => h) (Or.inr ⟨by rfl, rfl⟩) ?_ ?_
  rotate_left
  · simp only [Act.put, List.setIfInBounds_toArray, List.set_cons_zero, List.set_cons_succ, i64_w, i32_w]
    rfl
  refine pure_ (i := 6) (N := some 77) (v := undef) (a' := ?_) #[true, true, true, true, true, true, true, false, false, false, false, false, false, false, false, false, false, false, false, false, false, false, false, false, false] rfl rfl (any_of HT_.out (by kernel_rfl)) (fun _ _ _ h => h) (Or.inr ⟨by rfl, rfl⟩) ?_ ?_
  rotate_left
  · simp only [Act.put, List.setIfInBounds_toArray, List.set_cons_zero, List.set_cons_succ, i64_w, i32_w]
    rfl
  refine pure_ (i := 7) (N := some 78) (v := undef) (a' := ?_) #[true, true, true, true, true, true, true, true, false, false, false, false, false, false, false, false, false, false, false, false, false, false, false, false, false] rfl rfl (any_of HT_.out (by kernel_rfl)) (fun _ _ _ h => h) (Or.inr ⟨by rfl, rfl⟩) ?_ ?_
  rotate_left
  · simp only [Act.put, List.setIfInBounds_toArray, List.set_cons_zero, List.set_cons_succ, i64_w, i32_w]
    rfl
  refine pure_ (i := 8) (N := some 79) (v := undef) (a' := ?_) #[true, true, true, true, true, true, true, true, true, false, false, false, false, false, false, false, false, false, false, false, false, false, false, false, false] rfl rfl (any_of HT_.out (by kernel_rfl)) (fun _ _ _ h => h) (Or.inr ⟨by rfl, rfl⟩) ?_ ?_
  rotate_left
  · simp only [Act.put, List.setIfInBounds_toArray, List.set_cons_zero, List.set_cons_succ, i64_w, i32_w]
    rfl
  refine pure_ (i := 9) (N := some 80) (v := undef) (a' := ?_) #[true, true, true, true, true, true, true, true, true, true, false, false, false, false, false, false, false, false, false, false, false, false, false, false, false] rfl rfl (any_of HT_.out (by kernel_rfl)) (fun _ _ _ h => h) (Or.inr ⟨by rfl, rfl⟩) ?_ ?_
  rotate_left
  · simp only [Act.put, List.setIfInBounds_toArray, List.set_cons_zero, List.set_cons_succ, i64_w, i32_w]
    rfl
  refine pure_ (i := 10) (N := some 81) (v := ?_) (a' := ?_) #[true, true, true, true, true, true, true, true, true, true, true, false, false, false, false, false, false, false, false, false, false, false, false, false, false] rfl rfl (any_of HT_.out (by kernel_rfl)) (fun _ _ _ h => h) (Or.inl ⟨by rfl, ?_⟩) ?_ ?_
  rotate_left
  · intro w'
    go_simp
    with_reducible rfl
  rotate_left
  · simp only [Act.put, List.setIfInBounds_toArray, List.set_cons_zero, List.set_cons_succ, i64_w, i32_w]
    rfl
  refine pure_ (i := 11) (N := some 82) (v := ?_) (a' := ?_) #[true, true, true, true, true, true, true, true, true, true, true, true, false, false, false, false, false, false, false, false, false, false, false, false, false] rfl rfl (any_of HT_.out (by kernel_rfl)) (fun _ _ _ h => h) (Or.inl ⟨by rfl, ?_⟩) ?_ ?_
  rotate_left
  · intro w'
    go_simp
    with_reducible rfl
  rotate_left
  · simp only [Act.put, List.setIfInBounds_toArray, List.set_cons_zero, List.set_cons_succ, i64_w, i32_w]
    rfl
  refine pure_ (i := 12) (N := some 83) (v := undef) (a' := ?_) #[true, true, true, true, true, true, true, true, true, true, true, true, true, false, false, false, false, false, false, false, false, false, false, false, false] rfl rfl (any_of HT_.out (by kernel_rfl)) (fun _ _ _ h => h) (Or.inr ⟨by rfl, rfl⟩) ?_ ?_
  rotate_left
  · simp only [Act.put, List.setIfInBounds_toArray, List.set_cons_zero, List.set_cons_succ, i64_w, i32_w]
    rfl
  refine pure_ (i := 13) (N := some 84) (v := undef) (a' := ?_) #[true, true, true, true, true, true, true, true, true, true, true, true, true, true, false, false, false, false, false, false, false, false, false, false, false] rfl rfl (any_of HT_.out (by kernel_rfl)) (fun _ _ _ h => h) (Or.inr ⟨by rfl, rfl⟩) ?_ ?_
  rotate_left
  · simp only [Act.put, List.setIfInBounds_toArray, List.set_cons_zero, List.set_cons_succ, i64_w, i32_w]
    rfl
  refine pure_ (i := 14) (N := some 85) (v := undef) (a' := ?_) #[true, true, true, true, true, true, true, true, true, true, true, true, true, true, true, false, false, false, false, false, false, false, false, false, false] rfl rfl (any_of HT_.out (by kernel_rfl)) (fun _ _ _ h => h) (Or.inr ⟨by rfl, rfl⟩) ?_ ?_
  rotate_left
  · simp only [Act.put, List.setIfInBounds_toArray, List.set_cons_zero, List.set_cons_succ, i64_w, i32_w]
    rfl
  refine pure_ (i := 15) (N := some 86) (v := undef) (a' := ?_) #[true, true, true, true, true, true, true, true, true, true, true, true, true, true, true, true, false, false, false, false, false, false, false, false, false] rfl rfl (any_of HT_.out (by kernel_rfl)) (fun _ _ _ h => h) (Or.inr ⟨by rfl, rfl⟩) ?_ ?_
  rotate_left
  · simp only [Act.put, List.setIfInBounds_toArray, List.set_cons_zero, List.set_cons_succ, i64_w, i32_w]
    rfl
  refine pure_ (i := 16) (N := some 87) (v := undef) (a' := ?_) #[true, true, true, true, true, true, true, true, true, true, true, true, true, true, true, true, true, false, false, false, false, false, false, false, false] rfl rfl (any_of HT_.out (by kernel_rfl)) (fun _ _ _ h => h) (Or.inr ⟨by rfl, rfl⟩) ?_ ?_
  rotate_left
  · simp only [Act.put, List.setIfInBounds_toArray, List.set_cons_zero, List.set_cons_succ, i64_w, i32_w]
    rfl
  refine pure_ (i := 17) (N := some 88) (v := undef) (a' := ?_) #[true, true, true, true, true, true, true, true, true, true, true, true, true, true, true, true, true, true, false, false, false, false, false, false, false] rfl rfl (any_of HT_.out (by kernel_rfl)) (fun _ _ _ h => h) (Or.inr ⟨by rfl, rfl⟩) ?_ ?_
  rotate_left
  · simp only [Act.put, List.setIfInBounds_toArray, List.set_cons_zero, List.set_cons_succ, i64_w, i32_w]
    rfl
  refine pure_ (i := 18) (N := some 89) (v := undef) (a' := ?_) #[true, true, true, true, true, true, true, true, true, true, true, true, true, true, true, true, true, true, true, false, false, false, false, false, false] rfl rfl (any_of HT_.out (by kernel_rfl)) (fun _ _ _ h => h) (Or.inr ⟨by rfl, rfl⟩) ?_ ?_
  rotate_left
  · simp only [Act.put, List.setIfInBounds_toArray, List.set_cons_zero, List.set_cons_succ, i64_w, i32_w]
    rfl
  refine pure_ (i := 19) (N := some 90) (v := undef) (a' := ?_) #[true, true, true, true, true, true, true, true, true, true, true, true, true, true, true, true, true, true, true, true, false, false, false, false, false] rfl rfl (any_of HT_.out (by kernel_rfl)) (fun _ _ _ h => h) (Or.inr ⟨by rfl, rfl⟩) ?_ ?_
  rotate_left
  · simp only [Act.put, List.setIfInBounds_toArray, List.set_cons_zero, List.set_cons_succ, i64_w, i32_w]
    rfl
  refine pure_ (i := 20) (N := some 91) (v := undef) (a' := ?_) #[true, true, true, true, true, true, true, true, true, true, true, true, true, true, true, true, true, true, true, true, true, false, false, false, false] rfl rfl (any_of HT_.out (by kernel_rfl)) (fun _ _ _ h => h) (Or.inr ⟨by rfl, rfl⟩) ?_ ?_
  rotate_left
  · simp only [Act.put, List.setIfInBounds_toArray, List.set_cons_zero, List.set_cons_succ, i64_w, i32_w]
    rfl
  refine pure_ (i := 21) (N := some 92) (v := undef) (a' := ?_) #[true, true, true, true, true, true, true, true, true, true, true, true, true, true, true, true, true, true, true, true, true, true, false, false, false] rfl rfl (any_of HT_.out (by kernel_rfl)) (fun _ _ _ h => h) (Or.inr ⟨by rfl, rfl⟩) ?_ ?_
  rotate_left
  · simp only [Act.put, List.setIfInBounds_toArray, List.set_cons_zero, List.set_cons_succ, i64_w, i32_w]
    rfl
  refine pure_ (i := 22) (N := some 93) (v := undef) (a' := ?_) #[true, true, true, true, true, true, true, true, true, true, true, true, true, true, true, true, true, true, true, true, true, true, true, false, false] rfl rfl (any_of HT_.out (by kernel_rfl)) (fun _ _ _ h => h) (Or.inr ⟨by rfl, rfl⟩) ?_ ?_
  rotate_left
  · simp only [Act.put, List.setIfInBounds_toArray, List.set_cons_zero, List.set_cons_succ, i64_w, i32_w]
    rfl
  refine pure_ (i := 23) (N := some 94) (v := ?_) (a' := ?_) #[true, true, true, true, true, true, true, true, true, true, true, true, true, true, true, true, true, true, true, true, true, true, true, true, false] rfl rfl (any_of HT_.out (by kernel_rfl)) (fun _ _ _ h => h) (Or.inl ⟨by rfl, ?_⟩) ?_ ?_
  rotate_left
  · intro w'
    go_simp
    with_reducible rfl
  rotate_left
  · simp only [Act.put, List.setIfInBounds_toArray, List.set_cons_zero, List.set_cons_succ, i64_w, i32_w]
    rfl
  refine pure_ (i := 24) (N := some 10) (v := ?_) (a' := ?_) #[true, true, true, true, true, true, true, true, true, true, true, true, true, true, true, true, true, true, true, true, true, true, true, true, true] rfl rfl (any_of HT_.out (by kernel_rfl)) (fun _ _ _ h => h) (Or.inl ⟨by rfl, ?_⟩) ?_ ?_
  rotate_left
  · intro w'
    go_simp
    with_reducible rfl
  rotate_left
  · simp only [Act.put, List.setIfInBounds_toArray, List.set_cons_zero, List.set_cons_succ, i64_w, i32_w]
    rfl
  refine done_ (done_of HT_.out (by kernel_rfl)) ?_
  clear x0 x1 x2 x3 hz
  have T8' := Lib.hid T8.out.drew
  obtain ⟨x0, x1, x2, x3⟩ := T8'.out.cells
  have hz := T8'.out.lt
  clear T8
  go_wp2_with fail
  refine (H9.out _ (by first | exact T8'.out | exact T8'.out.drew)).mono ?_
  rintro e w9 ⟨rfl, T9⟩
  clear x0 x1 x2 x3 hz
  obtain ⟨x0, x1, x2, x3⟩ := T9.out.cells
  have hz := T9.out.lt
  clear H9 T8'
  go_wp2_with fail
  refine (H10.out _ (T9.out)).mono ?_
  rintro e w10 ⟨rfl, T10⟩
  clear x0 x1 x2 x3 hz
  obtain ⟨x0, x1, x2, x3⟩ := T10.out.cells
  have hz := T10.out.lt
  clear H10 T9
  go_wp2_with fail
  refine (H11.out _ (T10.out)).mono ?_
  rintro e w11 ⟨rfl, T11⟩
  clear x0 x1 x2 x3 hz
  obtain ⟨x0, x1, x2, x3⟩ := T11.out.cells
  have hz := T11.out.lt
  clear H11 T10
  go_wp2_with fail
  refine (H12.out _ (T11.out)).mono ?_
  rintro e w12 ⟨rfl, T12⟩
  clear x0 x1 x2 x3 hz
  obtain ⟨x0, x1, x2, x3⟩ := T12.out.cells
  have hz := T12.out.lt
  clear H12 T11
  go_wp2_with fail
  go_ret
  exact ⟨by first | rfl | simp, T12.out.below⟩

set_option maxHeartbeats 4000000 in
theorem eq_000 (A B : Option Addr) (c d : Nat) (l m : List UInt8) (k k' : Int) (w : World) (hs : SB w A c l) (ht : SB w B d m) (h : (l.length ≤ 2147483647) ∧ (m.length ≤ 2147483647) ∧ (0 ≤ k ∧ k ≤ 255) ∧ (0 ≤ k' ∧ k' ≤ 255) ∧ (l.length ≤ 5000) ∧ (m.length ≤ 5000)) (hk : ¬ k = k') (hva : valIs k l = false) (hvb : valIs k' m = false) :
    Calls Tryz.prog 3 #[.agg #[.int .i64 k, .slice A l.length c], .agg #[.int .i64 k', .slice B m.length d]] w fun e w' => e = .returned (.bool true) ∧ Below w.heap.size w w' := by
  obtain ⟨t1, t2, t3, t4, t5, t6⟩ := h
  have H1 := Lib.hid (fun wx (T : Two w wx k k' A B l.length c m.length d) => twoF A B c d l m k k' w wx hs T)
  have H2 := Lib.hid (fun wx (T : Two w wx k k' A B l.length c m.length d) => twoF' A B c d l m k k' w wx ht T)
  have H3 := Lib.hid (fun wx (T : Two w wx k k' A B l.length c m.length d) => twoB A B l.length c m.length d k k k' w wx T)
  have H4 := Lib.hid (fun wx (T : Two w wx k k' A B l.length c m.length d) => twoB A B l.length c m.length d k' k k' w wx T)
  have H5 := Lib.hid (fun wx (T : Two w wx k k' A B l.length c m.length d) => twoM A B c d l m k k' w wx hs T)
  have H6 := Lib.hid (fun wx (T : Two w wx k k' A B l.length c m.length d) => twoM' A B c d l m k k' w wx ht T)
  rw [decide_eq_true t1] at H1
  rw [decide_eq_true t2] at H2
  rw [decide_eq_true t3] at H3
  rw [decide_eq_true t4] at H4
  rw [decide_eq_true t5] at H5
  rw [decide_eq_true t6] at H6
  have H7 := Lib.hid (fun wx (T : Two w wx k k' A B l.length c m.length d) => twoS A B c d l m k k' w wx hs t5 T)
  have H8 := Lib.hid (fun wx (T : Two w wx k k' A B l.length c m.length d) => twoS' A B c d l m k k' w wx ht t6 T)
  have H9 := Lib.hid (fun wx (T : Two w wx k k' A B l.length c m.length d) => twoAw A B l.length c m.length d k k' w wx T)
  have H10 := Lib.hid (fun wx (T : Two w wx k k' A B l.length c m.length d) => twoE A B c d l m k k' w wx hs ht t3 t4 T)
  have H11 := Lib.hid (fun wx (T : Two w wx k k' A B l.length c m.length d) => twoV A B c d l m k k' w wx hs ht t3 t4 T)
  have H12 := Lib.hid (fun wx (T : Two w wx k k' A B l.length c m.length d) => twoE' A B c d l m k k' w wx hs t3 T)
  rw [hva] at H7
  rw [hvb] at H8
  have hal : alike k k' l m = false := by unfold alike; rw [decide_eq_false hk]; simp
  rw [hal] at H11
  rw [decide_eq_false hk, Bool.false_and] at H10
  have ek : (k == k') = false := by simpa using hk
  have T0 := Lib.hid (Two.start w k k' A B l.length c m.length d)
  obtain ⟨p, hp⟩ : ∃ p, p = l.length := ⟨_, rfl⟩
  obtain ⟨q, hq⟩ : ∃ q, q = m.length := ⟨_, rfl⟩
  rw [← hp, ← hq] at H1 H2 H3 H4 H5 H6 H7 H8 H9 H10 H11 H12 T0
  rw [← hp, ← hq]
  clear hs ht t1 t2 t3 t4 t5 t6 hk hva hvb hal hp hq
  go_enter Tryz.func3, Tryz.ntmps3
  go_wp2_with fail
  refine (H1.out _ (T0.out)).mono ?_
  rintro e w1 ⟨rfl, T1⟩
  obtain ⟨x0, x1, x2, x3⟩ := T1.out.cells
  have hz := T1.out.lt
  clear H1 T0
  go_wp2_with fail
  refine (H2.out _ (T1.out)).mono ?_
  rintro e w2 ⟨rfl, T2⟩
  clear x0 x1 x2 x3 hz
  obtain ⟨x0, x1, x2, x3⟩ := T2.out.cells
  have hz := T2.out.lt
  clear H2 T1
  go_wp2_with fail
  refine (H3.out _ (T2.out)).mono ?_
  rintro e w3 ⟨rfl, T3⟩
  clear x0 x1 x2 x3 hz
  obtain ⟨x0, x1, x2, x3⟩ := T3.out.cells
  have hz := T3.out.lt
  clear H3 T2
  go_wp2_with fail
  refine (H4.out _ (T3.out)).mono ?_
  rintro e w4 ⟨rfl, T4⟩
  clear x0 x1 x2 x3 hz
  obtain ⟨x0, x1, x2, x3⟩ := T4.out.cells
  have hz := T4.out.lt
  clear H4 T3
  go_wp2_with fail
  refine (H5.out _ (T4.out)).mono ?_
  rintro e w5 ⟨rfl, T5⟩
  clear x0 x1 x2 x3 hz
  obtain ⟨x0, x1, x2, x3⟩ := T5.out.cells
  have hz := T5.out.lt
  clear H5 T4
  go_wp2_with fail
  refine (H6.out _ (T5.out)).mono ?_
  rintro e w6 ⟨rfl, T6⟩
  clear x0 x1 x2 x3 hz
  obtain ⟨x0, x1, x2, x3⟩ := T6.out.cells
  have hz := T6.out.lt
  clear H6 T5
  go_wp2_with fail
  refine (H7.out _ (T6.out)).mono ?_
  rintro e w7 ⟨r7, rfl, hr7, T7⟩
  clear x0 x1 x2 x3 hz
  obtain ⟨x0, x1, x2, x3⟩ := T7.out.cells
  have hz := T7.out.lt
  clear H7 T6
  clear hr7
  go_wp2_with fail
  refine (H8.out _ (T7.out)).mono ?_
  rintro e w8 ⟨r8, rfl, hr8, T8⟩
  clear x0 x1 x2 x3 hz
  obtain ⟨x0, x1, x2, x3⟩ := T8.out.cells
  have hz := T8.out.lt
  clear H8 T7
  clear hr8
  go_wp2_with fail
  refine start_ (n := 25) (S := fun w' => w'.cell? ⟨w.heap.size, 0, none⟩ = some (.int .i64 k) ∧ w'.cell? ⟨w.heap.size, 1, none⟩ = some (.slice A p c) ∧ w'.cell? ⟨w.heap.size + 1, 0, none⟩ = some (.int .i64 k') ∧ w'.cell? ⟨w.heap.size + 1, 1, none⟩ = some (.slice B q d)) (ds := []) #[false, false, false, false, false, false, false, false, false, false, false, false, false, false, false, false, false, false, false, false, false, false, false, false, false] (by kernel_rfl) rfl rfl ⟨(by exact x0), (by exact x1), (by exact x2), (by exact x3)⟩ (fun hHeld => ?_)
  refine with_tabW R3.tab8 R3.bits8 (fun HT_ HW_ => ?_)
  refine pure_ (i := 0) (N := some 71) (v := ?_) (a' := ?_) #[true, false, false, false, false, false, false, false, false, false, false, false, false, false, false, false, false, false, false, false, false, false, false, false, false] rfl rfl (any_of HT_.out (by kernel_rfl)) (fun _ _ _ h => h) (Or.inl ⟨by rfl, ?_⟩) ?_ ?_
  rotate_left
  · intro w'
    go_simp
    with_reducible rfl
  rotate_left
  · simp only [Act.put, List.setIfInBounds_toArray, List.set_cons_zero, List.set_cons_succ, i64_w, i32_w]
    rfl
  refine pure_ (i := 1) (N := some 72) (v := ?_) (a' := ?_) #[true, true, false, false, false, false, false, false, false, false, false, false, false, false, false, false, false, false, false, false, false, false, false, false, false] rfl rfl (any_of HT_.out (by kernel_rfl)) (fun _ _ _ h => h) (Or.inl ⟨by rfl, ?_⟩) ?_ ?_
  rotate_left
  · intro w'
    go_simp
    with_reducible rfl
  rotate_left
  · simp only [Act.put, List.setIfInBounds_toArray, List.set_cons_zero, List.set_cons_succ, i64_w, i32_w]
    rfl
  refine pure_ (i := 2) (N := some 73) (v := undef) (a' := ?_) #[true, true, true, false, false, false, false, false, false, false, false, false, false, false, false, false, false, false, false, false, false, false, false, false, false] rfl rfl (any_of HT_.out (by kernel_rfl)) (fun _ _ _ h => h) (Or.inr ⟨by rfl, rfl⟩) ?_ ?_
  rotate_left
  · simp only [Act.put, List.setIfInBounds_toArray, List.set_cons_zero, List.set_cons_succ, i64_w, i32_w]
    rfl
  refine pure_ (i := 3) (N := some 74) (v := ?_) (a' := ?_) #[true, true, true, true, false, false, false, false, false, false, false, false, false, false, false, false, false, false, false, false, false, false, false, false, false] rfl rfl (any_of HT_.out (by kernel_rfl)) (fun _ _ _ h => h) (Or.inl ⟨by rfl, ?_⟩) ?_ ?_
  rotate_left
  · intro w'
    go_simp
    with_reducible rfl
  rotate_left
  · simp only [Act.put, List.setIfInBounds_toArray, List.set_cons_zero, List.set_cons_succ, i64_w, i32_w]
    rfl
  refine pure_ (i := 4) (N := some 75) (v := ?_) (a' := ?_) #[true, true, true, true, true, false, false, false, false, false, false, false, false, false, false, false, false, false, false, false, false, false, false, false, false] rfl rfl (any_of HT_.out (by kernel_rfl)) (fun _ _ _ h => h) (Or.inl ⟨by rfl, ?_⟩) ?_ ?_
  rotate_left
  · intro w'
    go_simp
    with_reducible rfl
  rotate_left
  · simp only [Act.put, List.setIfInBounds_toArray, List.set_cons_zero, List.set_cons_succ, i64_w, i32_w]
    rfl
  refine pure_ (i := 5) (N := some 76) (v := undef) (a' := ?_) #[true, true, true, true, true, true, false, false, false, false, false, false, false, false, false, false, false, false, false, false, false, false, false, false, false] rfl rfl (any_of HT_.out (by kernel_rfl)) (fun _ _ _ h => h) (Or.inr ⟨by rfl, rfl⟩) ?_ ?_
  rotate_left
  · simp only [Act.put, List.setIfInBounds_toArray, List.set_cons_zero, List.set_cons_succ, i64_w, i32_w]
    rfl
  refine pure_ (i := 6) (N := some 77) (v := undef) (a' := ?_) #[true, true, true, true, true, true, true, false, false, false, false, false, false, false, false, false, false, false, false, false, false, false, false, false, false] rfl rfl (any_of HT_.out (by kernel_rfl)) (fun _ _ _ h => h) (Or.inr ⟨by rfl, rfl⟩) ?_ ?_
  rotate_left
  · simp only [Act.put, List.setIfInBounds_toArray, List.set_cons_zero, List.set_cons_succ, i64_w, i32_w]
    rfl
  refine pure_ (i := 7) (N := some 78) (v := undef) (a' := ?_) #[true, true, true, true, true, true, true, true, false, false, false, false, false, false, false, false, false, false, false, false, false, false, false, false, false] rfl rfl (any_of HT_.out (by kernel_rfl)) (fun _ _ _ h => h) (Or.inr ⟨by rfl, rfl⟩) ?_ ?_
  rotate_left
  · simp only [Act.put, List.setIfInBounds_toArray, List.set_cons_zero, List.set_cons_succ, i64_w, i32_w]
    rfl
  refine pure_ (i := 8) (N := some 79) (v := undef) (a' := ?_) #[true, true, true, true, true, true, true, true, true, false, false, false, false, false, false, false, false, false, false, false, false, false, false, false, false] rfl rfl (any_of HT_.out (by kernel_rfl)) (fun _ _ _ h => h) (Or.inr ⟨by rfl, rfl⟩) ?_ ?_
  rotate_left
  · simp only [Act.put, List.setIfInBounds_toArray, List.set_cons_zero, List.set_cons_succ, i64_w, i32_w]
    rfl
  refine pure_ (i := 9) (N := some 80) (v := undef) (a' := ?_) #[true, true, true, true, true, true, true, true, true, true, false, false, false, false, false, false, false, false, false, false, false, false, false, false, false] rfl rfl (any_of HT_.out (by kernel_rfl)) (fun _ _ _ h => h) (Or.inr ⟨by rfl, rfl⟩) ?_ ?_
  rotate_left
  · simp only [Act.put, List.setIfInBounds_toArray, List.set_cons_zero, List.set_cons_succ, i64_w, i32_w]
    rfl
  refine pure_ (i := 10) (N := some 81) (v := ?_) (a' := ?_) #[true, true, true, true, true, true, true, true, true, true, true, false, false, false, false, false, false, false, false, false, false, false, false, false, false] rfl rfl (any_of HT_.out (by kernel_rfl)) (fun _ _ _ h => h) (Or.inl ⟨by rfl, ?_⟩) ?_ ?_
  rotate_left
  · intro w'
    go_simp
    with_reducible rfl
  rotate_left
  · simp only [Act.put, List.setIfInBounds_toArray, List.set_cons_zero, List.set_cons_succ, i64_w, i32_w]
    rfl
  refine pure_ (i := 11) (N := some 82) (v := ?_) (a' := ?_) #[true, true, true, true, true, true, true, true, true, true, true, true, false, false, false, false, false, false, false, false, false, false, false, false, false] rfl rfl (any_of HT_.out (by kernel_rfl)) (fun _ _ _ h => h) (Or.inl ⟨by rfl, ?_⟩) ?_ ?_
  rotate_left
  · intro w'
    go_simp
    with_reducible rfl
  rotate_left
  · simp only [Act.put, List.setIfInBounds_toArray, List.set_cons_zero, List.set_cons_succ, i64_w, i32_w]
    rfl
  refine pure_ (i := 12) (N := some 83) (v := undef) (a' := ?_) #[true, true, true, true, true, true, true, true, true, true, true, true, true, false, false, false, false, false, false, false, false, false, false, false, false] rfl rfl (any_of HT_.out (by kernel_rfl)) (fun _ _ _ h => h) (Or.inr ⟨by rfl, rfl⟩) ?_ ?_
  rotate_left
  · simp only [Act.put, List.setIfInBounds_toArray, List.set_cons_zero, List.set_cons_succ, i64_w, i32_w]
    rfl
  refine pure_ (i := 13) (N := some 84) (v := undef) (a' := ?_) #[true, true, true, true, true, true, true, true, true, true, true, true, true, true, false, false, false, false, false, false, false, false, false, false, false] rfl rfl (any_of HT_.out (by kernel_rfl)) (fun _ _ _ h => h) (Or.inr ⟨by rfl, rfl⟩) ?_ ?_
  rotate_left
  · simp only [Act.put, List.setIfInBounds_toArray, List.set_cons_zero, List.set_cons_succ, i64_w, i32_w]
    rfl
  refine pure_ (i := 14) (N := some 85) (v := undef) (a' := ?_) #[true, true, true, true, true, true, true, true, true, true, true, true, true, true, true, false, false, false, false, false, false, false, false, false, false] rfl rfl (any_of HT_.out (by kernel_rfl)) (fun _ _ _ h => h) (Or.inr ⟨by rfl, rfl⟩) ?_ ?_
  rotate_left
  · simp only [Act.put, List.setIfInBounds_toArray, List.set_cons_zero, List.set_cons_succ, i64_w, i32_w]
    rfl
  refine pure_ (i := 15) (N := some 86) (v := undef) (a' := ?_) #[true, true, true, true, true, true, true, true, true, true, true, true, true, true, true, true, false, false, false, false, false, false, false, false, false] rfl rfl (any_of HT_.out (by kernel_rfl)) (fun _ _ _ h => h) (Or.inr ⟨by rfl, rfl⟩) ?_ ?_
  rotate_left
  · simp only [Act.put, List.setIfInBounds_toArray, List.set_cons_zero, List.set_cons_succ, i64_w, i32_w]
    rfl
  refine pure_ (i := 16) (N := some 87) (v := undef) (a' := ?_) #[true, true, true, true, true, true, true, true, true, true, true, true, true, true, true, true, true, false, false, false, false, false, false, false, false] rfl rfl (any_of HT_.out (by kernel_rfl)) (fun _ _ _ h => h) (Or.inr ⟨by rfl, rfl⟩) ?_ ?_
  rotate_left
  · simp only [Act.put, List.setIfInBounds_toArray, List.set_cons_zero, List.set_cons_succ, i64_w, i32_w]
    rfl
  refine pure_ (i := 17) (N := some 88) (v := undef) (a' := ?_) #[true, true, true, true, true, true, true, true, true, true, true, true, true, true, true, true, true, true, false, false, false, false, false, false, false] rfl rfl (any_of HT_.out (by kernel_rfl)) (fun _ _ _ h => h) (Or.inr ⟨by rfl, rfl⟩) ?_ ?_
  rotate_left
  · simp only [Act.put, List.setIfInBounds_toArray, List.set_cons_zero, List.set_cons_succ, i64_w, i32_w]
    rfl
  refine pure_ (i := 18) (N := some 89) (v := undef) (a' := ?_) #[true, true, true, true, true, true, true, true, true, true, true, true, true, true, true, true, true, true, true, false, false, false, false, false, false] rfl rfl (any_of HT_.out (by kernel_rfl)) (fun _ _ _ h => h) (Or.inr ⟨by rfl, rfl⟩) ?_ ?_
  rotate_left
  · simp only [Act.put, List.setIfInBounds_toArray, List.set_cons_zero, List.set_cons_succ, i64_w, i32_w]
    rfl
  refine pure_ (i := 19) (N := some 90) (v := undef) (a' := ?_) #[true, true, true, true, true, true, true, true, true, true, true, true, true, true, true, true, true, true, true, true, false, false, false, false, false] rfl rfl (any_of HT_.out (by kernel_rfl)) (fun _ _ _ h => h) (Or.inr ⟨by rfl, rfl⟩) ?_ ?_
  rotate_left
  · simp only [Act.put, List.setIfInBounds_toArray, List.set_cons_zero, List.set_cons_succ, i64_w, i32_w]
    rfl
  refine pure_ (i := 20) (N := some 91) (v := undef) (a' := ?_) #[true, true, true, true, true, true, true, true, true, true, true, true, true, true, true, true, true, true, true, true, true, false, false, false, false] rfl rfl (any_of HT_.out (by kernel_rfl)) (fun _ _ _ h => h) (Or.inr ⟨by rfl, rfl⟩) ?_ ?_
  rotate_left
  · simp only [Act.put, List.setIfInBounds_toArray, List.set_cons_zero, List.set_cons_succ, i64_w, i32_w]
    rfl
  refine pure_ (i := 21) (N := some 92) (v := undef) (a' := ?_) #[true, true, true, true, true, true, true, true, true, true, true, true, true, true, true, true, true, true, true, true, true, true, false, false, false] rfl rfl (any_of HT_.out (by kernel_rfl)) (fun _ _ _ h => h) (Or.inr ⟨by rfl, rfl⟩) ?_ ?_
  rotate_left
  · simp only [Act.put, List.setIfInBounds_toArray, List.set_cons_zero, List.set_cons_succ, i64_w, i32_w]
    rfl
  refine pure_ (i := 22) (N := some 93) (v := undef) (a' := ?_) #[true, true, true, true, true, true, true, true, true, true, true, true, true, true, true, true, true, true, true, true, true, true, true, false, false] rfl rfl (any_of HT_.out (by kernel_rfl)) (fun _ _ _ h => h) (Or.inr ⟨by rfl, rfl⟩) ?_ ?_
  rotate_left
  · simp only [Act.put, List.setIfInBounds_toArray, List.set_cons_zero, List.set_cons_succ, i64_w, i32_w]
    rfl
  refine pure_ (i := 23) (N := some 94) (v := ?_) (a' := ?_) #[true, true, true, true, true, true, true, true, true, true, true, true, true, true, true, true, true, true, true, true, true, true, true, true, false] rfl rfl (any_of HT_.out (by kernel_rfl)) (fun _ _ _ h => h) (Or.inl ⟨by rfl, ?_⟩) ?_ ?_
  rotate_left
  · intro w'
    go_simp
    with_reducible rfl
  rotate_left
  · simp only [Act.put, List.setIfInBounds_toArray, List.set_cons_zero, List.set_cons_succ, i64_w, i32_w]
    rfl
  refine pure_ (i := 24) (N := some 10) (v := ?_) (a' := ?_) #[true, true, true, true, true, true, true, true, true, true, true, true, true, true, true, true, true, true, true, true, true, true, true, true, true] rfl rfl (any_of HT_.out (by kernel_rfl)) (fun _ _ _ h => h) (Or.inl ⟨by rfl, ?_⟩) ?_ ?_
  rotate_left
  · intro w'
    go_simp
    with_reducible rfl
  rotate_left
  · simp only [Act.put, List.setIfInBounds_toArray, List.set_cons_zero, List.set_cons_succ, i64_w, i32_w]
    rfl
  refine done_ (done_of HT_.out (by kernel_rfl)) ?_
  clear x0 x1 x2 x3 hz
  have T8' := Lib.hid T8.out.drew
  obtain ⟨x0, x1, x2, x3⟩ := T8'.out.cells
  have hz := T8'.out.lt
  clear T8
  go_wp2_with fail
  refine (H9.out _ (by first | exact T8'.out | exact T8'.out.drew)).mono ?_
  rintro e w9 ⟨rfl, T9⟩
  clear x0 x1 x2 x3 hz
  obtain ⟨x0, x1, x2, x3⟩ := T9.out.cells
  have hz := T9.out.lt
  clear H9 T8'
  go_wp2_with fail
  refine (H10.out _ (T9.out)).mono ?_
  rintro e w10 ⟨rfl, T10⟩
  clear x0 x1 x2 x3 hz
  obtain ⟨x0, x1, x2, x3⟩ := T10.out.cells
  have hz := T10.out.lt
  clear H10 T9
  go_wp2_with fail
  refine (H11.out _ (T10.out)).mono ?_
  rintro e w11 ⟨rfl, T11⟩
  clear x0 x1 x2 x3 hz
  obtain ⟨x0, x1, x2, x3⟩ := T11.out.cells
  have hz := T11.out.lt
  clear H11 T10
  go_wp2_with fail
  refine (H12.out _ (T11.out)).mono ?_
  rintro e w12 ⟨rfl, T12⟩
  clear x0 x1 x2 x3 hz
  obtain ⟨x0, x1, x2, x3⟩ := T12.out.cells
  have hz := T12.out.lt
  clear H12 T11
  go_wp2_with fail
  go_ret
  exact ⟨by first | rfl | simp, T12.out.below⟩

theorem fnDocEqual_walk (A B : Option Addr) (c d : Nat) (l m : List UInt8) (k k' : Int) (w : World) (hs : SB w A c l) (ht : SB w B d m) :
    Calls Tryz.prog 3 #[.agg #[.int .i64 k, .slice A l.length c], .agg #[.int .i64 k', .slice B m.length d]] w fun e w' => e = .returned (.bool true) ∧ Below w.heap.size w w' := by
  by_cases h : (l.length ≤ 2147483647) ∧ (m.length ≤ 2147483647) ∧ (0 ≤ k ∧ k ≤ 255) ∧ (0 ≤ k' ∧ k' ≤ 255) ∧ (l.length ≤ 5000) ∧ (m.length ≤ 5000)
  · by_cases hk : k = k'
    · cases hva : valIs k l <;> cases hvb : valIs k' m
      · exact eq_100 A B c d l m k k' w hs ht h hk hva hvb
      · exact eq_101 A B c d l m k k' w hs ht h hk hva hvb
      · exact eq_110 A B c d l m k k' w hs ht h hk hva hvb
      · exact eq_111 A B c d l m k k' w hs ht h hk hva hvb
    · cases hva : valIs k l <;> cases hvb : valIs k' m
      · exact eq_000 A B c d l m k k' w hs ht h hk hva hvb
      · exact eq_001 A B c d l m k k' w hs ht h hk hva hvb
      · exact eq_010 A B c d l m k k' w hs ht h hk hva hvb
      · exact eq_011 A B c d l m k k' w hs ht h hk hva hvb
  · exact eq_early A B c d l m k k' w hs ht h

end Eq2
end Go.Proofs.YtfhbnlbdmfjhlaaGreatDoor.X
