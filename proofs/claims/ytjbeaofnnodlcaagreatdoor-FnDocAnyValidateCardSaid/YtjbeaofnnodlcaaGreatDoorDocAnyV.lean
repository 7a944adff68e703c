/- The law FnDocAnyValidate. -/
import Derived.Test.YtjbeaofnnodlcaaGreatDoorDck
import Derived.Test.YtjbeaofnnodlcaaGreatDoorAw
import Derived.Test.YtjbeaofnnodlcaaGreatDoorStart2
set_option linter.unusedVariables false
set_option linter.unusedSimpArgs false
set_option maxRecDepth 100000
namespace Go.Proofs.YtjbeaofnnodlcaaGreatDoor.X
open Go.RowKit Go.Proofs.YtjbeaofnnodlcaaGreatDoorW.PrintLast
namespace Ck
open Sp Al Av Aw

theorem docModest (A : Option Addr) (c p : Nat) (b : Bool) (hb : b = decide ((p : Int) ≤ 5000)) (w : World) :
    Calls Tryz.prog 5 #[.slice A p c] w fun e w' => e = .returned (.bool b) ∧ Below w.heap.size w w' := by
  have hb2 := hb.symm
  clear hb
  go_enter Tryz.func5, Tryz.ntmps5
  go_wp2
  go_ret
  exact ⟨rfl, Below.refl _ _⟩
theorem copyOf (A : Option Addr) (c : Nat) (L : List UInt8) (w wx : World) (hs : SB w A c L) (hl : L.length ≤ 5000) (hb : Below w.heap.size w wx) :
    Calls Tryz.prog 8 #[.slice A L.length c] wx fun e w' => (∃ A1 c1, e = .returned (.slice A1 L.length c1) ∧ SB w' A1 c1 L) ∧ Below w.heap.size w w' :=
  (fresh_of (docCopy A c L wx (hs.keep hb) (by omega))).mono fun e w' ⟨A1, c1, a1, a2, a3, a4⟩ => ⟨⟨A1, c1, a1, a2⟩, bthen hb a4⟩
theorem av_long (A : Option Addr) (c : Nat) (L : List UInt8) (w : World) (h : 2147483647 < L.length) :
    Calls Tryz.prog 3 #[.slice A L.length c] w fun e w' => e = .returned (.bool true) ∧ Below w.heap.size w w' := by
  obtain ⟨p, hp⟩ : ∃ p, p = L.length := ⟨_, rfl⟩
  rw [← hp] at h ⊢
  have b1 : decide ((2147483647 : Int) < (p : Int)) = true := decide_eq_true (by omega)
  clear hp
  go_enter Tryz.func3, Tryz.ntmps3
  go_wp2_with fail
  go_ret
  exact ⟨rfl, Below.refl _ _⟩
theorem av_mid (A : Option Addr) (c : Nat) (L : List UInt8) (w : World) (h0 : L.length ≤ 2147483647) (h : 5000 < L.length) :
    Calls Tryz.prog 3 #[.slice A L.length c] w fun e w' => e = .returned (.bool true) ∧ Below w.heap.size w w' := by
  obtain ⟨p, hp⟩ : ∃ p, p = L.length := ⟨_, rfl⟩
  rw [← hp] at h h0 ⊢
  have HM := Lib.hid (docModest A c p false (decide_eq_false (by omega)).symm w)
  have b1 : decide ((2147483647 : Int) < (p : Int)) = false := decide_eq_false (by omega)
  clear hp h h0
  go_enter Tryz.func3, Tryz.ntmps3
  go_wp2_with fail
  refine HM.out.mono ?_
  rintro e w1 ⟨rfl, hb1⟩
  have HB1 := Lib.hid hb1
  clear hb1 HM
  go_wp2_with fail
  go_ret
  exact ⟨rfl, HB1.out⟩
set_option maxHeartbeats 2000000 in
theorem av_main (A : Option Addr) (c : Nat) (L : List UInt8) (w : World) (hs : SB w A c L) (hl : L.length ≤ 5000) (htab : Lib.TabIs Tryz.prog w "internal/strconv.uint64pow10" .u64 Lib.pow10Tab) (hS : Sents w) :
    Calls Tryz.prog 3 #[.slice A L.length c] w fun e w' => e = .returned (.bool true) ∧ Below w.heap.size w w' := by
  have HCp := Lib.hid (fun wx (hb : Below w.heap.size w wx) => copyOf A c L w wx hs hl hb)
  have HVd := Lib.hid (fun A1 c1 wx (hb : Below w.heap.size w wx) (h : SB wx A1 c1 L) => (implValidate A1 c1 L wx h (by omega)).mono fun e w' (h : _ ∧ _) => (⟨h.1, bthen hb h.2⟩ : _ ∧ Below w.heap.size w w'))
  have HVa := Lib.hid (fun A1 c1 wx (hb : Below w.heap.size w wx) (h : SB wx A1 c1 L) => (implValidateArray A1 c1 L wx h (by omega) (tab_keep htab hb) (hS.keep hb)).mono fun e w' (h : _ ∧ _) => (⟨h.1, bthen hb h.2⟩ : _ ∧ Below w.heap.size w w'))
  have HDd := Lib.hid (fun wx (hb : Below w.heap.size w wx) => (checkDoc A c L wx (hs.keep hb) hl).mono fun e w' (h : _ ∧ _) => (⟨h.1, bthen hb h.2⟩ : _ ∧ Below w.heap.size w w'))
  have HDa := Lib.hid (fun wx (hb : Below w.heap.size w wx) => (checkArr A c L wx (hs.keep hb) hl).mono fun e w' (h : _ ∧ _) => (⟨h.1, bthen hb h.2⟩ : _ ∧ Below w.heap.size w w'))
  have HAw := Lib.hid (fun wx (hb : Below w.heap.size w wx) => (docAwake wx).mono fun e w' (h : _ ∧ _) => (⟨h.1, bthen hb h.2⟩ : e = .returned (.bool true) ∧ Below w.heap.size w w'))
  obtain ⟨n, hn⟩ : ∃ n, n = docCode L := ⟨_, rfl⟩
  obtain ⟨m, hm⟩ : ∃ n, n = arrTold L := ⟨_, rfl⟩
  obtain ⟨p, hp⟩ : ∃ p, p = L.length := ⟨_, rfl⟩
  rw [← hn, ← hp] at HVd
  rw [← hm, ← hp] at HVa
  rw [← hn, ← hp] at HDd
  rw [← hm, ← hp] at HDa
  rw [← hp] at HCp hl ⊢
  have HM := Lib.hid (docModest A c p true (decide_eq_true (by omega)).symm w)
  have b1 : decide ((2147483647 : Int) < (p : Int)) = false := decide_eq_false (by omega)
  clear hp hl hs htab hS hn hm
  go_enter Tryz.func3, Tryz.ntmps3
  go_wp2_with fail
  refine HM.out.mono ?_
  rintro e w1 ⟨rfl, hb1⟩
  have HB1 := Lib.hid hb1
  clear hb1 HM
  go_wp2_with fail
  refine (HAw.out _ HB1.out).mono ?_
  rintro e w2 ⟨rfl, hb2⟩
  have HB2 := Lib.hid hb2
  clear hb2 HB1 HAw
  go_wp2_with fail
  refine (HCp.out _ HB2.out).mono ?_
  rintro e w3 ⟨⟨A3, c3, rfl, hs3⟩, hb3⟩
  have HB3 := Lib.hid hb3
  have HS3 := Lib.hid hs3
  clear hb3 hs3 HB2
  go_wp2_with fail
  refine (HVd.out A3 c3 _ HB3.out HS3.out).mono ?_
  rintro e w4 ⟨rfl, hb4⟩
  have HB4 := Lib.hid hb4
  clear hb4 HS3 HB3 HVd
  go_wp2_with fail
  refine (HDd.out _ HB4.out).mono ?_
  rintro e w5 ⟨rfl, hb5⟩
  have HB5 := Lib.hid hb5
  clear hb5 HB4 HDd
  go_wp2_with fail
  refine (HCp.out _ HB5.out).mono ?_
  rintro e w6 ⟨⟨A6, c6, rfl, hs6⟩, hb6⟩
  have HB6 := Lib.hid hb6
  have HS6 := Lib.hid hs6
  clear hb6 hs6 HB5 HCp
  go_wp2_with fail
  refine (HVa.out A6 c6 _ HB6.out HS6.out).mono ?_
  rintro e w7 ⟨rfl, hb7⟩
  have HB7 := Lib.hid hb7
  clear hb7 HS6 HB6 HVa
  go_wp2_with fail
  refine (HDa.out _ HB7.out).mono ?_
  rintro e w8 ⟨rfl, hb8⟩
  have HB8 := Lib.hid hb8
  clear hb8 HB7 HDa
  go_wp2_with fail
  go_ret
  exact ⟨by first | rfl | simp, HB8.out⟩
theorem fnDocAnyValidate_walk (A : Option Addr) (c : Nat) (L : List UInt8) (w : World) (hs : SB w A c L) (htab : Lib.TabIs Tryz.prog w "internal/strconv.uint64pow10" .u64 Lib.pow10Tab) (hS : Sents w) :
    Calls Tryz.prog 3 #[.slice A L.length c] w fun e w' => e = .returned (.bool true) ∧ Below w.heap.size w w' := by
  by_cases h1 : 2147483647 < L.length
  · exact av_long A c L w h1
  by_cases h2 : 5000 < L.length
  · exact av_mid A c L w (by omega) h2
  exact av_main A c L w hs (by omega) htab hS
end Ck
end Go.Proofs.YtjbeaofnnodlcaaGreatDoor.X
