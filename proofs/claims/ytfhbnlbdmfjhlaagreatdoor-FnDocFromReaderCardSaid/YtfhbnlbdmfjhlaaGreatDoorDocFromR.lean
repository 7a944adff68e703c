/- The law FnDocFromReader. -/
import Derived.Test.YtfhbnlbdmfjhlaaGreatDoorRdE
import Derived.Test.YtfhbnlbdmfjhlaaGreatDoorSpan
import Derived.Test.YtfhbnlbdmfjhlaaGreatDoorAw
import Derived.Test.YtfhbnlbdmfjhlaaGreatDoorWLast
import Derived.Test.YtfhbnlbdmfjhlaaGreatDoorWTab
set_option linter.unusedVariables false
set_option linter.unusedSimpArgs false
set_option maxRecDepth 100000
namespace Go.Proofs.YtfhbnlbdmfjhlaaGreatDoor.X
open Go.RowKit Go.Proofs.YtfhbnlbdmfjhlaaGreatDoorW.PrintLast Go.Proofs.YtfhbnlbdmfjhlaaGreatDoorW.PrintWords
open Go.Proofs.YtfhbnlbdmfjhlaaGreatDoor.PFnDocEqual
namespace Rd
open Sp Aw
def R4.T11 : Bool × List (List Nat × List Nat) := (true, [([], []), ([0, 0], [0]), ([1], [1]), ([2, 1], [1, 2]), ([3, 1, 1], [1, 3]), ([4], [4]), ([5, 4], [4, 5]), ([4], [4]), ([4], [4]), ([7, 8, 4], [4, 7, 8]), ([9, 4], [4, 9]), ([6, 10, 4], [4, 6, 10]), ([11, 4, 4], [4, 11]), ([12], [12]), ([13, 12], [12, 13]), ([12], [12]), ([12], [12]), ([15, 16, 12], [12, 15, 16]), ([17, 12], [12, 17]), ([14, 18, 12], [12, 14, 18]), ([12, 19, 4], [4, 12, 19]), ([4, 20, 1], [1, 4, 20]), ([1, 21], [1, 21]), ([22, 12, 0, 1, 2, 3, 4, 5, 6, 7, 8, 9, 10, 11, 12, 13, 14, 15, 16, 17, 18, 19, 20, 21, 22], [22])])
def R4.B11 : List Nat := [0, 1, 3, 7, 15, 31, 63, 31, 31, 415, 927, 2047, 4095, 8191, 16383, 8191, 8191, 106495, 237567, 524287, 1048575, 2097151, 4194303, 8388607]
theorem R4.tab11 : rtab .any (opsOf Tryz.f4 11) = R4.T11 := by kernel_rfl
theorem R4.bits11 : waitsOk R4.T11.2 R4.B11 = true := by kernel_rfl
theorem docNumber (A : Option Addr) (c : Nat) (l : List UInt8) (w : World) (hs : SB w A c l) :
    Calls Tryz.prog 12 #[.slice A l.length c] w fun e w' => e = .returned (.tuple #[.int .i64 (numOf l).1, .bool (numOf l).2]) ∧ Below w.heap.size w w' := by
  have h := spec_DocNumber.calls A c (ints l) (numOf l).1 (numOf l).2 w (kd_bytes hs) (by rw [ints_len]; exact hs.le) (num_f l)
  rw [ints_len] at h
  refine h.mono ?_
  rintro e w' ⟨rfl, hd⟩
  exact ⟨rfl, hd.below⟩
theorem w64one (N : Nat) (h : 1 ≤ N) (h2 : N ≤ 1000000) : wrap64 ((N : Int) - 1) = (N : Int) - 1 := by unfold wrap64; omega
theorem copyOf (A : Option Addr) (c : Nat) (L : List UInt8) (w wx : World) (hs : SB w A c L) (hl : L.length ≤ 5000) (hb : Below w.heap.size w wx) :
    Calls Tryz.prog 14 #[.slice A L.length c] wx fun e w' => (∃ A1 c1, e = .returned (.slice A1 L.length c1) ∧ SB w' A1 c1 L) ∧ Below w.heap.size w w' ∧ Below wx.heap.size wx w' :=
  (fresh_of (docCopy A c L wx (hs.keep hb) (by omega))).mono fun e w' ⟨A1, c1, a1, a2, a3, a4⟩ => ⟨⟨A1, c1, a1, a2⟩, bthen hb a4, a4⟩

theorem gotD (L : List UInt8) (w wx : World) (A1 : Option Addr) (c1 : Nat) (hE : IoErrs w) (hmax : (numOf L).1 ≤ 20000) (hb : Below w.heap.size w wx) (h1 : SB wx A1 c1 L) :
    Calls Tryz.prog 13 #[.slice A1 L.length c1] wx fun e w' => (∃ A2 n2 c2, e = .returned (.tuple #[.slice A2 n2 c2, .bool (RdOk L)]) ∧ (RdOk L = true → n2 = (numOf L).1.toNat ∧ SB w' A2 c2 (L.take (numOf L).1.toNat))) ∧ Below w.heap.size w w' ∧ Below wx.heap.size wx w' :=
  (implFromD A1 c1 L wx h1 (hE.keep hb) hmax).mono fun e w' ⟨a, b⟩ => ⟨a, bthen hb b, b⟩

theorem gotA (L : List UInt8) (w wx : World) (A1 : Option Addr) (c1 : Nat) (hE : IoErrs w) (hmax : (numOf L).1 ≤ 20000) (hb : Below w.heap.size w wx) (h1 : SB wx A1 c1 L) :
    Calls Tryz.prog 15 #[.slice A1 L.length c1] wx fun e w' => (∃ A2 n2 c2, e = .returned (.tuple #[.slice A2 n2 c2, .bool (RdOk L)]) ∧ (RdOk L = true → n2 = (numOf L).1.toNat ∧ SB w' A2 c2 (L.take (numOf L).1.toNat))) ∧ Below w.heap.size w w' ∧ Below wx.heap.size wx w' :=
  (implFromA A1 c1 L wx h1 (hE.keep hb) hmax).mono fun e w' ⟨a, b⟩ => ⟨a, bthen hb b, b⟩

theorem fr_long (A : Option Addr) (c : Nat) (L : List UInt8) (w : World) (hs : SB w A c L) (hE : IoErrs w) (h : 2147483647 < L.length) :
    Calls Tryz.prog 4 #[.slice A L.length c] w fun e w' => e = .returned (.bool true) ∧ Below w.heap.size w w' := by
  obtain ⟨p, hp⟩ : ∃ p, p = L.length := ⟨_, rfl⟩
  rw [← hp] at h ⊢
  have b1 : decide ((2147483647 : Int) < (p : Int)) = true := decide_eq_true (by omega)
  clear hs hE hp
  go_enter Tryz.func4, Tryz.ntmps4
  go_wp2_with fail
  go_ret
  exact ⟨rfl, Below.refl _ _⟩

theorem fr_mid (A : Option Addr) (c : Nat) (L : List UInt8) (w : World) (hs : SB w A c L) (hE : IoErrs w) (h0 : L.length ≤ 2147483647) (h : 5000 < L.length) :
    Calls Tryz.prog 4 #[.slice A L.length c] w fun e w' => e = .returned (.bool true) ∧ Below w.heap.size w w' := by
  have HNum := Lib.hid (docNumber A c L w hs)
  obtain ⟨n, hn⟩ : ∃ n, n = (numOf L).1 := ⟨_, rfl⟩
  obtain ⟨ok, hok⟩ : ∃ b, b = (numOf L).2 := ⟨_, rfl⟩
  obtain ⟨p, hp⟩ : ∃ p, p = L.length := ⟨_, rfl⟩
  rw [← hn, ← hok, ← hp] at HNum
  rw [← hp] at h0 ⊢
  rw [← hp] at h
  have b1 : decide ((2147483647 : Int) < (p : Int)) = false := decide_eq_false (by omega)
  have b2 : decide ((5000 : Int) < (p : Int)) = true := decide_eq_true (by omega)
  clear hs hE hp hn hok h h0
  go_enter Tryz.func4, Tryz.ntmps4
  go_wp2_with fail
  refine HNum.out.mono ?_
  rintro e w1 ⟨rfl, hb1⟩
  have HB1 := Lib.hid hb1
  clear hb1 HNum
  go_wp2_with fail
  go_ret
  exact ⟨rfl, HB1.out⟩

theorem fr_big (A : Option Addr) (c : Nat) (L : List UInt8) (w : World) (hs : SB w A c L) (hE : IoErrs w) (h0 : L.length ≤ 5000) (h : 20000 < (numOf L).1) :
    Calls Tryz.prog 4 #[.slice A L.length c] w fun e w' => e = .returned (.bool true) ∧ Below w.heap.size w w' := by
  have HNum := Lib.hid (docNumber A c L w hs)
  obtain ⟨n, hn⟩ : ∃ n, n = (numOf L).1 := ⟨_, rfl⟩
  obtain ⟨ok, hok⟩ : ∃ b, b = (numOf L).2 := ⟨_, rfl⟩
  obtain ⟨p, hp⟩ : ∃ p, p = L.length := ⟨_, rfl⟩
  rw [← hn, ← hok, ← hp] at HNum
  rw [← hp] at h0 ⊢
  rw [← hn] at h
  have b1 : decide ((2147483647 : Int) < (p : Int)) = false := decide_eq_false (by omega)
  have b2 : decide ((5000 : Int) < (p : Int)) = false := decide_eq_false (by omega)
  have b3 : decide ((20000 : Int) < n) = true := decide_eq_true (by omega)
  clear hs hE hp hn hok h h0
  go_enter Tryz.func4, Tryz.ntmps4
  go_wp2_with fail
  refine HNum.out.mono ?_
  rintro e w1 ⟨rfl, hb1⟩
  have HB1 := Lib.hid hb1
  clear hb1 HNum
  go_wp2_with fail
  go_ret
  exact ⟨rfl, HB1.out⟩

set_option maxHeartbeats 2000000 in
theorem fr_a (A : Option Addr) (c : Nat) (L : List UInt8) (w : World) (hs : SB w A c L) (hE : IoErrs w) (h0 : L.length ≤ 5000) (h1 : (numOf L).1 ≤ 20000) (hx : (numOf L).2 = false) :
    Calls Tryz.prog 4 #[.slice A L.length c] w fun e w' => e = .returned (.bool true) ∧ Below w.heap.size w w' := by
  have hrb : RdOk L = false := by unfold RdOk; rw [hx]; rfl
  have HCp := Lib.hid (fun wx (hb : Below w.heap.size w wx) => copyOf A c L w wx hs h0 hb)
  have HFr := Lib.hid (fun A1 c1 wx (hb : Below w.heap.size w wx) (h : SB wx A1 c1 L) => gotD L w wx A1 c1 hE h1 hb h)
  have HAr := Lib.hid (fun A1 c1 wx (hb : Below w.heap.size w wx) (h : SB wx A1 c1 L) => gotA L w wx A1 c1 hE h1 hb h)
  have HAw := Lib.hid (fun wx (hb : Below w.heap.size w wx) => (docAwake wx).mono fun e w' (h : _ ∧ _) => (⟨h.1, bthen hb h.2⟩ : e = .returned (.bool true) ∧ Below w.heap.size w w'))
  rw [hrb] at HFr HAr
  have HNum := Lib.hid (docNumber A c L w hs)
  obtain ⟨n, hn⟩ : ∃ n, n = (numOf L).1 := ⟨_, rfl⟩
  obtain ⟨ok, hok⟩ : ∃ b, b = (numOf L).2 := ⟨_, rfl⟩
  obtain ⟨p, hp⟩ : ∃ p, p = L.length := ⟨_, rfl⟩
  rw [← hn, ← hok, ← hp] at HNum
  rw [← hp] at HCp HFr HAr h0 ⊢
  rw [← hn] at h1
  rw [← hok] at hx
  have b1 : decide ((2147483647 : Int) < (p : Int)) = false := decide_eq_false (by omega)
  have b2 : decide ((5000 : Int) < (p : Int)) = false := decide_eq_false (by omega)
  have b3 : decide ((20000 : Int) < n) = false := decide_eq_false (by omega)
  subst hx
  clear hs hE hp hok hrb h0 h1 hn
  go_enter Tryz.func4, Tryz.ntmps4
  go_wp2_with fail
  refine HNum.out.mono ?_
  rintro e w1 ⟨rfl, hb1⟩
  have HB1 := Lib.hid hb1
  clear hb1 HNum
  go_wp2_with fail
  refine (HCp.out _ HB1.out).mono ?_
  rintro e w2 ⟨⟨A2, c2, rfl, hs2⟩, hb2, -⟩
  have HS2 := Lib.hid hs2
  have HB2 := Lib.hid hb2
  clear hs2 hb2 HB1
  go_wp2_with fail
  refine (HFr.out A2 c2 _ HB2.out HS2.out).mono ?_
  rintro e w3 ⟨⟨A3, n3, c3, rfl, hs3⟩, hb3, -⟩
  have HB3 := Lib.hid hb3
  clear hs3 hb3 HB2 HS2 HFr
  go_wp2_with fail
  refine (HCp.out _ HB3.out).mono ?_
  rintro e w4 ⟨⟨A5, c5, rfl, hs4⟩, hb4, hk4⟩
  have HS4 := Lib.hid hs4
  clear hk4
  have HB4 := Lib.hid hb4
  clear hs4 hb4 HCp
  go_wp2_with fail
  refine (HAr.out A5 c5 _ HB4.out HS4.out).mono ?_
  rintro e w5 ⟨⟨A6, n6, c6, rfl, hs5⟩, hb5, hk5⟩
  have HB5 := Lib.hid hb5
  clear hk5
  clear hs5 hb5 HS4 HAr
  go_wp2_with fail
  refine start_ (n := 24) (S := fun w' => True) (ds := []) #[false, false, false, false, false, false, false, false, false, false, false, false, false, false, false, false, false, false, false, false, false, false, false, false] (by kernel_rfl) rfl rfl trivial (fun hHeld => ?_)
  refine with_tabW R4.tab11 R4.bits11 (fun HT_ HW_ => ?_)
  refine one_ (i := 0) (N := some 67) #[true, false, false, false, false, false, false, false, false, false, false, false, false, false, false, false, false, false, false, false, false, false, false, false] rfl rfl (one_of HT_.out (by kernel_rfl)) (by decide) (fun K hK => ?_)
  refine goes_ Tryz.func9 (by kernel_rfl) rfl #[] (by rfl) rfl rfl (by simp only [List.map_toArray, List.map_cons, List.map_nil]) ?_
  with_reducible refine ((docAwake _)).mono ?_
  rintro e w6 ⟨rfl, hb6⟩
  refine ⟨_, rfl, ?_⟩
  have HB6 := Lib.hid (HB5.out.trans ((bleft hb6).mono HB5.out.size))
  refine hK.out _ _ trivial (fun hHeld => ?_)
  clear hK K
  refine norm_ (a' := ?_) ?_ ?_
  rotate_left
  · show Act.put _ (some 67) _ = _
    simp only [Act.put, List.setIfInBounds_toArray, List.set_cons_zero, List.set_cons_succ, i64_w, i32_w]
    rfl
  refine pure_ (i := 1) (N := some 68) (v := ?_) (a' := ?_) #[true, true, false, false, false, false, false, false, false, false, false, false, false, false, false, false, false, false, false, false, false, false, false, false] rfl rfl (any_of HT_.out (by kernel_rfl)) (fun _ _ _ h => h) (Or.inl ⟨by rfl, ?_⟩) ?_ ?_
  rotate_left
  · intro w'
    go_simp
    with_reducible rfl
  rotate_left
  · simp only [Act.put, List.setIfInBounds_toArray, List.set_cons_zero, List.set_cons_succ, i64_w, i32_w]
    rfl
  refine pure_ (i := 2) (N := some 69) (v := ?_) (a' := ?_) #[true, true, true, false, false, false, false, false, false, false, false, false, false, false, false, false, false, false, false, false, false, false, false, false] rfl rfl (any_of HT_.out (by kernel_rfl)) (fun _ _ _ h => h) (Or.inl ⟨by rfl, ?_⟩) ?_ ?_
  rotate_left
  · intro w'
    go_simp
    with_reducible rfl
  rotate_left
  · simp only [Act.put, List.setIfInBounds_toArray, List.set_cons_zero, List.set_cons_succ, i64_w, i32_w]
    rfl
  refine pure_ (i := 3) (N := some 70) (v := ?_) (a' := ?_) #[true, true, true, true, false, false, false, false, false, false, false, false, false, false, false, false, false, false, false, false, false, false, false, false] rfl rfl (any_of HT_.out (by kernel_rfl)) (fun _ _ _ h => h) (Or.inl ⟨by rfl, ?_⟩) ?_ ?_
  rotate_left
  · intro w'
    go_simp
    with_reducible rfl
  rotate_left
  · simp only [Act.put, List.setIfInBounds_toArray, List.set_cons_zero, List.set_cons_succ, i64_w, i32_w]
    rfl
  refine pure_ (i := 4) (N := some 71) (v := ?_) (a' := ?_) #[true, true, true, true, true, false, false, false, false, false, false, false, false, false, false, false, false, false, false, false, false, false, false, false] rfl rfl (any_of HT_.out (by kernel_rfl)) (fun _ _ _ h => h) (Or.inl ⟨by rfl, ?_⟩) ?_ ?_
  rotate_left
  · intro w'
    go_simp
    with_reducible rfl
  rotate_left
  · simp only [Act.put, List.setIfInBounds_toArray, List.set_cons_zero, List.set_cons_succ, i64_w, i32_w]
    rfl
  refine pure_ (i := 5) (N := some 72) (v := undef) (a' := ?_) #[true, true, true, true, true, true, false, false, false, false, false, false, false, false, false, false, false, false, false, false, false, false, false, false] rfl rfl (any_of HT_.out (by kernel_rfl)) (fun _ _ _ h => h) (Or.inr ⟨by rfl, rfl⟩) ?_ ?_
  rotate_left
  · simp only [Act.put, List.setIfInBounds_toArray, List.set_cons_zero, List.set_cons_succ, i64_w, i32_w]
    rfl
  refine pure_ (i := 6) (N := some 73) (v := undef) (a' := ?_) #[true, true, true, true, true, true, true, false, false, false, false, false, false, false, false, false, false, false, false, false, false, false, false, false] rfl rfl (any_of HT_.out (by kernel_rfl)) (fun _ _ _ h => h) (Or.inr ⟨by rfl, rfl⟩) ?_ ?_
  rotate_left
  · simp only [Act.put, List.setIfInBounds_toArray, List.set_cons_zero, List.set_cons_succ, i64_w, i32_w]
    rfl
  refine pure_ (i := 7) (N := some 74) (v := undef) (a' := ?_) #[true, true, true, true, true, true, true, true, false, false, false, false, false, false, false, false, false, false, false, false, false, false, false, false] rfl rfl (any_of HT_.out (by kernel_rfl)) (fun _ _ _ h => h) (Or.inr ⟨by rfl, rfl⟩) ?_ ?_
  rotate_left
  · simp only [Act.put, List.setIfInBounds_toArray, List.set_cons_zero, List.set_cons_succ, i64_w, i32_w]
    rfl
  refine pure_ (i := 8) (N := some 75) (v := undef) (a' := ?_) #[true, true, true, true, true, true, true, true, true, false, false, false, false, false, false, false, false, false, false, false, false, false, false, false] rfl rfl (any_of HT_.out (by kernel_rfl)) (fun _ _ _ h => h) (Or.inr ⟨by rfl, rfl⟩) ?_ ?_
  rotate_left
  · simp only [Act.put, List.setIfInBounds_toArray, List.set_cons_zero, List.set_cons_succ, i64_w, i32_w]
    rfl
  refine pure_ (i := 9) (N := some 76) (v := undef) (a' := ?_) #[true, true, true, true, true, true, true, true, true, true, false, false, false, false, false, false, false, false, false, false, false, false, false, false] rfl rfl (any_of HT_.out (by kernel_rfl)) (fun _ _ _ h => h) (Or.inr ⟨by rfl, rfl⟩) ?_ ?_
  rotate_left
  · simp only [Act.put, List.setIfInBounds_toArray, List.set_cons_zero, List.set_cons_succ, i64_w, i32_w]
    rfl
  refine pure_ (i := 10) (N := some 77) (v := undef) (a' := ?_) #[true, true, true, true, true, true, true, true, true, true, true, false, false, false, false, false, false, false, false, false, false, false, false, false] rfl rfl (any_of HT_.out (by kernel_rfl)) (fun _ _ _ h => h) (Or.inr ⟨by rfl, rfl⟩) ?_ ?_
  rotate_left
  · simp only [Act.put, List.setIfInBounds_toArray, List.set_cons_zero, List.set_cons_succ, i64_w, i32_w]
    rfl
  refine pure_ (i := 11) (N := some 78) (v := undef) (a' := ?_) #[true, true, true, true, true, true, true, true, true, true, true, true, false, false, false, false, false, false, false, false, false, false, false, false] rfl rfl (any_of HT_.out (by kernel_rfl)) (fun _ _ _ h => h) (Or.inr ⟨by rfl, rfl⟩) ?_ ?_
  rotate_left
  · simp only [Act.put, List.setIfInBounds_toArray, List.set_cons_zero, List.set_cons_succ, i64_w, i32_w]
    rfl
  refine pure_ (i := 12) (N := some 79) (v := undef) (a' := ?_) #[true, true, true, true, true, true, true, true, true, true, true, true, true, false, false, false, false, false, false, false, false, false, false, false] rfl rfl (any_of HT_.out (by kernel_rfl)) (fun _ _ _ h => h) (Or.inr ⟨by rfl, rfl⟩) ?_ ?_
  rotate_left
  · simp only [Act.put, List.setIfInBounds_toArray, List.set_cons_zero, List.set_cons_succ, i64_w, i32_w]
    rfl
  refine pure_ (i := 13) (N := some 80) (v := undef) (a' := ?_) #[true, true, true, true, true, true, true, true, true, true, true, true, true, true, false, false, false, false, false, false, false, false, false, false] rfl rfl (any_of HT_.out (by kernel_rfl)) (fun _ _ _ h => h) (Or.inr ⟨by rfl, rfl⟩) ?_ ?_
  rotate_left
  · simp only [Act.put, List.setIfInBounds_toArray, List.set_cons_zero, List.set_cons_succ, i64_w, i32_w]
    rfl
  refine pure_ (i := 14) (N := some 81) (v := undef) (a' := ?_) #[true, true, true, true, true, true, true, true, true, true, true, true, true, true, true, false, false, false, false, false, false, false, false, false] rfl rfl (any_of HT_.out (by kernel_rfl)) (fun _ _ _ h => h) (Or.inr ⟨by rfl, rfl⟩) ?_ ?_
  rotate_left
  · simp only [Act.put, List.setIfInBounds_toArray, List.set_cons_zero, List.set_cons_succ, i64_w, i32_w]
    rfl
  refine pure_ (i := 15) (N := some 82) (v := undef) (a' := ?_) #[true, true, true, true, true, true, true, true, true, true, true, true, true, true, true, true, false, false, false, false, false, false, false, false] rfl rfl (any_of HT_.out (by kernel_rfl)) (fun _ _ _ h => h) (Or.inr ⟨by rfl, rfl⟩) ?_ ?_
  rotate_left
  · simp only [Act.put, List.setIfInBounds_toArray, List.set_cons_zero, List.set_cons_succ, i64_w, i32_w]
    rfl
  refine pure_ (i := 16) (N := some 83) (v := undef) (a' := ?_) #[true, true, true, true, true, true, true, true, true, true, true, true, true, true, true, true, true, false, false, false, false, false, false, false] rfl rfl (any_of HT_.out (by kernel_rfl)) (fun _ _ _ h => h) (Or.inr ⟨by rfl, rfl⟩) ?_ ?_
  rotate_left
  · simp only [Act.put, List.setIfInBounds_toArray, List.set_cons_zero, List.set_cons_succ, i64_w, i32_w]
    rfl
  refine pure_ (i := 17) (N := some 84) (v := undef) (a' := ?_) #[true, true, true, true, true, true, true, true, true, true, true, true, true, true, true, true, true, true, false, false, false, false, false, false] rfl rfl (any_of HT_.out (by kernel_rfl)) (fun _ _ _ h => h) (Or.inr ⟨by rfl, rfl⟩) ?_ ?_
  rotate_left
  · simp only [Act.put, List.setIfInBounds_toArray, List.set_cons_zero, List.set_cons_succ, i64_w, i32_w]
    rfl
  refine pure_ (i := 18) (N := some 85) (v := undef) (a' := ?_) #[true, true, true, true, true, true, true, true, true, true, true, true, true, true, true, true, true, true, true, false, false, false, false, false] rfl rfl (any_of HT_.out (by kernel_rfl)) (fun _ _ _ h => h) (Or.inr ⟨by rfl, rfl⟩) ?_ ?_
  rotate_left
  · simp only [Act.put, List.setIfInBounds_toArray, List.set_cons_zero, List.set_cons_succ, i64_w, i32_w]
    rfl
  refine pure_ (i := 19) (N := some 86) (v := undef) (a' := ?_) #[true, true, true, true, true, true, true, true, true, true, true, true, true, true, true, true, true, true, true, true, false, false, false, false] rfl rfl (any_of HT_.out (by kernel_rfl)) (fun _ _ _ h => h) (Or.inr ⟨by rfl, rfl⟩) ?_ ?_
  rotate_left
  · simp only [Act.put, List.setIfInBounds_toArray, List.set_cons_zero, List.set_cons_succ, i64_w, i32_w]
    rfl
  refine pure_ (i := 20) (N := some 87) (v := undef) (a' := ?_) #[true, true, true, true, true, true, true, true, true, true, true, true, true, true, true, true, true, true, true, true, true, false, false, false] rfl rfl (any_of HT_.out (by kernel_rfl)) (fun _ _ _ h => h) (Or.inr ⟨by rfl, rfl⟩) ?_ ?_
  rotate_left
  · simp only [Act.put, List.setIfInBounds_toArray, List.set_cons_zero, List.set_cons_succ, i64_w, i32_w]
    rfl
  refine pure_ (i := 21) (N := some 88) (v := ?_) (a' := ?_) #[true, true, true, true, true, true, true, true, true, true, true, true, true, true, true, true, true, true, true, true, true, true, false, false] rfl rfl (any_of HT_.out (by kernel_rfl)) (fun _ _ _ h => h) (Or.inl ⟨by rfl, ?_⟩) ?_ ?_
  rotate_left
  · intro w'
    go_simp
    with_reducible rfl
  rotate_left
  · simp only [Act.put, List.setIfInBounds_toArray, List.set_cons_zero, List.set_cons_succ, i64_w, i32_w]
    rfl
  refine pure_ (i := 22) (N := some 89) (v := ?_) (a' := ?_) #[true, true, true, true, true, true, true, true, true, true, true, true, true, true, true, true, true, true, true, true, true, true, true, false] rfl rfl (any_of HT_.out (by kernel_rfl)) (fun _ _ _ h => h) (Or.inl ⟨by rfl, ?_⟩) ?_ ?_
  rotate_left
  · intro w'
    go_simp
    with_reducible rfl
  rotate_left
  · simp only [Act.put, List.setIfInBounds_toArray, List.set_cons_zero, List.set_cons_succ, i64_w, i32_w]
    rfl
  refine pure_ (i := 23) (N := some 2) (v := ?_) (a' := ?_) #[true, true, true, true, true, true, true, true, true, true, true, true, true, true, true, true, true, true, true, true, true, true, true, true] rfl rfl (any_of HT_.out (by kernel_rfl)) (fun _ _ _ h => h) (Or.inl ⟨by rfl, ?_⟩) ?_ ?_
  rotate_left
  · intro w'
    go_simp
    with_reducible rfl
  rotate_left
  · simp only [Act.put, List.setIfInBounds_toArray, List.set_cons_zero, List.set_cons_succ, i64_w, i32_w]
    rfl
  refine done_ (done_of HT_.out (by kernel_rfl)) ?_
  go_wp2_with fail
  go_ret
  exact ⟨by first | rfl | simp, HB6.out⟩

set_option maxHeartbeats 2000000 in
theorem fr_b (A : Option Addr) (c : Nat) (L : List UInt8) (w : World) (hs : SB w A c L) (hE : IoErrs w) (h0 : L.length ≤ 5000) (h1 : (numOf L).1 ≤ 20000) (hx : (numOf L).2 = true) (h5 : (numOf L).1 < 5) :
    Calls Tryz.prog 4 #[.slice A L.length c] w fun e w' => e = .returned (.bool true) ∧ Below w.heap.size w w' := by
  have hrb : RdOk L = false := by unfold RdOk; rw [decide_eq_false (p := 5 ≤ (numOf L).1) (by omega)]; simp
  have HCp := Lib.hid (fun wx (hb : Below w.heap.size w wx) => copyOf A c L w wx hs h0 hb)
  have HFr := Lib.hid (fun A1 c1 wx (hb : Below w.heap.size w wx) (h : SB wx A1 c1 L) => gotD L w wx A1 c1 hE h1 hb h)
  have HAr := Lib.hid (fun A1 c1 wx (hb : Below w.heap.size w wx) (h : SB wx A1 c1 L) => gotA L w wx A1 c1 hE h1 hb h)
  have HAw := Lib.hid (fun wx (hb : Below w.heap.size w wx) => (docAwake wx).mono fun e w' (h : _ ∧ _) => (⟨h.1, bthen hb h.2⟩ : e = .returned (.bool true) ∧ Below w.heap.size w w'))
  rw [hrb] at HFr HAr
  have HNum := Lib.hid (docNumber A c L w hs)
  obtain ⟨n, hn⟩ : ∃ n, n = (numOf L).1 := ⟨_, rfl⟩
  obtain ⟨ok, hok⟩ : ∃ b, b = (numOf L).2 := ⟨_, rfl⟩
  obtain ⟨p, hp⟩ : ∃ p, p = L.length := ⟨_, rfl⟩
  rw [← hn, ← hok, ← hp] at HNum
  rw [← hp] at HCp HFr HAr h0 ⊢
  rw [← hn] at h1
  rw [← hok] at hx
  rw [← hn] at h5
  have b1 : decide ((2147483647 : Int) < (p : Int)) = false := decide_eq_false (by omega)
  have b2 : decide ((5000 : Int) < (p : Int)) = false := decide_eq_false (by omega)
  have b3 : decide ((20000 : Int) < n) = false := decide_eq_false (by omega)
  have b4 : decide ((5 : Int) ≤ n) = false := decide_eq_false (by omega)
  subst hx
  clear hs hE hp hok hrb h0 h1 h5 hn
  go_enter Tryz.func4, Tryz.ntmps4
  go_wp2_with fail
  refine HNum.out.mono ?_
  rintro e w1 ⟨rfl, hb1⟩
  have HB1 := Lib.hid hb1
  clear hb1 HNum
  go_wp2_with fail
  refine (HCp.out _ HB1.out).mono ?_
  rintro e w2 ⟨⟨A2, c2, rfl, hs2⟩, hb2, -⟩
  have HS2 := Lib.hid hs2
  have HB2 := Lib.hid hb2
  clear hs2 hb2 HB1
  go_wp2_with fail
  refine (HFr.out A2 c2 _ HB2.out HS2.out).mono ?_
  rintro e w3 ⟨⟨A3, n3, c3, rfl, hs3⟩, hb3, -⟩
  have HB3 := Lib.hid hb3
  clear hs3 hb3 HB2 HS2 HFr
  go_wp2_with fail
  refine (HCp.out _ HB3.out).mono ?_
  rintro e w4 ⟨⟨A5, c5, rfl, hs4⟩, hb4, hk4⟩
  have HS4 := Lib.hid hs4
  clear hk4
  have HB4 := Lib.hid hb4
  clear hs4 hb4 HCp
  go_wp2_with fail
  refine (HAr.out A5 c5 _ HB4.out HS4.out).mono ?_
  rintro e w5 ⟨⟨A6, n6, c6, rfl, hs5⟩, hb5, hk5⟩
  have HB5 := Lib.hid hb5
  clear hk5
  clear hs5 hb5 HS4 HAr
  go_wp2_with fail
  refine start_ (n := 24) (S := fun w' => True) (ds := []) #[false, false, false, false, false, false, false, false, false, false, false, false, false, false, false, false, false, false, false, false, false, false, false, false] (by kernel_rfl) rfl rfl trivial (fun hHeld => ?_)
  refine with_tabW R4.tab11 R4.bits11 (fun HT_ HW_ => ?_)
  refine one_ (i := 0) (N := some 67) #[true, false, false, false, false, false, false, false, false, false, false, false, false, false, false, false, false, false, false, false, false, false, false, false] rfl rfl (one_of HT_.out (by kernel_rfl)) (by decide) (fun K hK => ?_)
  refine goes_ Tryz.func9 (by kernel_rfl) rfl #[] (by rfl) rfl rfl (by simp only [List.map_toArray, List.map_cons, List.map_nil]) ?_
  with_reducible refine ((docAwake _)).mono ?_
  rintro e w6 ⟨rfl, hb6⟩
  refine ⟨_, rfl, ?_⟩
  have HB6 := Lib.hid (HB5.out.trans ((bleft hb6).mono HB5.out.size))
  refine hK.out _ _ trivial (fun hHeld => ?_)
  clear hK K
  refine norm_ (a' := ?_) ?_ ?_
  rotate_left
  · show Act.put _ (some 67) _ = _
    simp only [Act.put, List.setIfInBounds_toArray, List.set_cons_zero, List.set_cons_succ, i64_w, i32_w]
    rfl
  refine pure_ (i := 1) (N := some 68) (v := ?_) (a' := ?_) #[true, true, false, false, false, false, false, false, false, false, false, false, false, false, false, false, false, false, false, false, false, false, false, false] rfl rfl (any_of HT_.out (by kernel_rfl)) (fun _ _ _ h => h) (Or.inl ⟨by rfl, ?_⟩) ?_ ?_
  rotate_left
  · intro w'
    go_simp
    with_reducible rfl
  rotate_left
  · simp only [Act.put, List.setIfInBounds_toArray, List.set_cons_zero, List.set_cons_succ, i64_w, i32_w]
    rfl
  refine pure_ (i := 2) (N := some 69) (v := ?_) (a' := ?_) #[true, true, true, false, false, false, false, false, false, false, false, false, false, false, false, false, false, false, false, false, false, false, false, false] rfl rfl (any_of HT_.out (by kernel_rfl)) (fun _ _ _ h => h) (Or.inl ⟨by rfl, ?_⟩) ?_ ?_
  rotate_left
  · intro w'
    go_simp
    with_reducible rfl
  rotate_left
  · simp only [Act.put, List.setIfInBounds_toArray, List.set_cons_zero, List.set_cons_succ, i64_w, i32_w]
    rfl
  refine pure_ (i := 3) (N := some 70) (v := ?_) (a' := ?_) #[true, true, true, true, false, false, false, false, false, false, false, false, false, false, false, false, false, false, false, false, false, false, false, false] rfl rfl (any_of HT_.out (by kernel_rfl)) (fun _ _ _ h => h) (Or.inl ⟨by rfl, ?_⟩) ?_ ?_
  rotate_left
  · intro w'
    go_simp
    with_reducible rfl
  rotate_left
  · simp only [Act.put, List.setIfInBounds_toArray, List.set_cons_zero, List.set_cons_succ, i64_w, i32_w]
    rfl
  refine pure_ (i := 4) (N := some 71) (v := ?_) (a' := ?_) #[true, true, true, true, true, false, false, false, false, false, false, false, false, false, false, false, false, false, false, false, false, false, false, false] rfl rfl (any_of HT_.out (by kernel_rfl)) (fun _ _ _ h => h) (Or.inl ⟨by rfl, ?_⟩) ?_ ?_
  rotate_left
  · intro w'
    go_simp
    with_reducible rfl
  rotate_left
  · simp only [Act.put, List.setIfInBounds_toArray, List.set_cons_zero, List.set_cons_succ, i64_w, i32_w]
    rfl
  refine pure_ (i := 5) (N := some 72) (v := undef) (a' := ?_) #[true, true, true, true, true, true, false, false, false, false, false, false, false, false, false, false, false, false, false, false, false, false, false, false] rfl rfl (any_of HT_.out (by kernel_rfl)) (fun _ _ _ h => h) (Or.inr ⟨by rfl, rfl⟩) ?_ ?_
  rotate_left
  · simp only [Act.put, List.setIfInBounds_toArray, List.set_cons_zero, List.set_cons_succ, i64_w, i32_w]
    rfl
  refine pure_ (i := 6) (N := some 73) (v := undef) (a' := ?_) #[true, true, true, true, true, true, true, false, false, false, false, false, false, false, false, false, false, false, false, false, false, false, false, false] rfl rfl (any_of HT_.out (by kernel_rfl)) (fun _ _ _ h => h) (Or.inr ⟨by rfl, rfl⟩) ?_ ?_
  rotate_left
  · simp only [Act.put, List.setIfInBounds_toArray, List.set_cons_zero, List.set_cons_succ, i64_w, i32_w]
    rfl
  refine pure_ (i := 7) (N := some 74) (v := undef) (a' := ?_) #[true, true, true, true, true, true, true, true, false, false, false, false, false, false, false, false, false, false, false, false, false, false, false, false] rfl rfl (any_of HT_.out (by kernel_rfl)) (fun _ _ _ h => h) (Or.inr ⟨by rfl, rfl⟩) ?_ ?_
  rotate_left
  · simp only [Act.put, List.setIfInBounds_toArray, List.set_cons_zero, List.set_cons_succ, i64_w, i32_w]
    rfl
  refine pure_ (i := 8) (N := some 75) (v := undef) (a' := ?_) #[true, true, true, true, true, true, true, true, true, false, false, false, false, false, false, false, false, false, false, false, false, false, false, false] rfl rfl (any_of HT_.out (by kernel_rfl)) (fun _ _ _ h => h) (Or.inr ⟨by rfl, rfl⟩) ?_ ?_
  rotate_left
  · simp only [Act.put, List.setIfInBounds_toArray, List.set_cons_zero, List.set_cons_succ, i64_w, i32_w]
    rfl
  refine pure_ (i := 9) (N := some 76) (v := undef) (a' := ?_) #[true, true, true, true, true, true, true, true, true, true, false, false, false, false, false, false, false, false, false, false, false, false, false, false] rfl rfl (any_of HT_.out (by kernel_rfl)) (fun _ _ _ h => h) (Or.inr ⟨by rfl, rfl⟩) ?_ ?_
  rotate_left
  · simp only [Act.put, List.setIfInBounds_toArray, List.set_cons_zero, List.set_cons_succ, i64_w, i32_w]
    rfl
  refine pure_ (i := 10) (N := some 77) (v := undef) (a' := ?_) #[true, true, true, true, true, true, true, true, true, true, true, false, false, false, false, false, false, false, false, false, false, false, false, false] rfl rfl (any_of HT_.out (by kernel_rfl)) (fun _ _ _ h => h) (Or.inr ⟨by rfl, rfl⟩) ?_ ?_
  rotate_left
  · simp only [Act.put, List.setIfInBounds_toArray, List.set_cons_zero, List.set_cons_succ, i64_w, i32_w]
    rfl
  refine pure_ (i := 11) (N := some 78) (v := undef) (a' := ?_) #[true, true, true, true, true, true, true, true, true, true, true, true, false, false, false, false, false, false, false, false, false, false, false, false] rfl rfl (any_of HT_.out (by kernel_rfl)) (fun _ _ _ h => h) (Or.inr ⟨by rfl, rfl⟩) ?_ ?_
  rotate_left
  · simp only [Act.put, List.setIfInBounds_toArray, List.set_cons_zero, List.set_cons_succ, i64_w, i32_w]
    rfl
  refine pure_ (i := 12) (N := some 79) (v := undef) (a' := ?_) #[true, true, true, true, true, true, true, true, true, true, true, true, true, false, false, false, false, false, false, false, false, false, false, false] rfl rfl (any_of HT_.out (by kernel_rfl)) (fun _ _ _ h => h) (Or.inr ⟨by rfl, rfl⟩) ?_ ?_
  rotate_left
  · simp only [Act.put, List.setIfInBounds_toArray, List.set_cons_zero, List.set_cons_succ, i64_w, i32_w]
    rfl
  refine pure_ (i := 13) (N := some 80) (v := undef) (a' := ?_) #[true, true, true, true, true, true, true, true, true, true, true, true, true, true, false, false, false, false, false, false, false, false, false, false] rfl rfl (any_of HT_.out (by kernel_rfl)) (fun _ _ _ h => h) (Or.inr ⟨by rfl, rfl⟩) ?_ ?_
  rotate_left
  · simp only [Act.put, List.setIfInBounds_toArray, List.set_cons_zero, List.set_cons_succ, i64_w, i32_w]
    rfl
  refine pure_ (i := 14) (N := some 81) (v := undef) (a' := ?_) #[true, true, true, true, true, true, true, true, true, true, true, true, true, true, true, false, false, false, false, false, false, false, false, false] rfl rfl (any_of HT_.out (by kernel_rfl)) (fun _ _ _ h => h) (Or.inr ⟨by rfl, rfl⟩) ?_ ?_
  rotate_left
  · simp only [Act.put, List.setIfInBounds_toArray, List.set_cons_zero, List.set_cons_succ, i64_w, i32_w]
    rfl
  refine pure_ (i := 15) (N := some 82) (v := undef) (a' := ?_) #[true, true, true, true, true, true, true, true, true, true, true, true, true, true, true, true, false, false, false, false, false, false, false, false] rfl rfl (any_of HT_.out (by kernel_rfl)) (fun _ _ _ h => h) (Or.inr ⟨by rfl, rfl⟩) ?_ ?_
  rotate_left
  · simp only [Act.put, List.setIfInBounds_toArray, List.set_cons_zero, List.set_cons_succ, i64_w, i32_w]
    rfl
  refine pure_ (i := 16) (N := some 83) (v := undef) (a' := ?_) #[true, true, true, true, true, true, true, true, true, true, true, true, true, true, true, true, true, false, false, false, false, false, false, false] rfl rfl (any_of HT_.out (by kernel_rfl)) (fun _ _ _ h => h) (Or.inr ⟨by rfl, rfl⟩) ?_ ?_
  rotate_left
  · simp only [Act.put, List.setIfInBounds_toArray, List.set_cons_zero, List.set_cons_succ, i64_w, i32_w]
    rfl
  refine pure_ (i := 17) (N := some 84) (v := undef) (a' := ?_) #[true, true, true, true, true, true, true, true, true, true, true, true, true, true, true, true, true, true, false, false, false, false, false, false] rfl rfl (any_of HT_.out (by kernel_rfl)) (fun _ _ _ h => h) (Or.inr ⟨by rfl, rfl⟩) ?_ ?_
  rotate_left
  · simp only [Act.put, List.setIfInBounds_toArray, List.set_cons_zero, List.set_cons_succ, i64_w, i32_w]
    rfl
  refine pure_ (i := 18) (N := some 85) (v := undef) (a' := ?_) #[true, true, true, true, true, true, true, true, true, true, true, true, true, true, true, true, true, true, true, false, false, false, false, false] rfl rfl (any_of HT_.out (by kernel_rfl)) (fun _ _ _ h => h) (Or.inr ⟨by rfl, rfl⟩) ?_ ?_
  rotate_left
  · simp only [Act.put, List.setIfInBounds_toArray, List.set_cons_zero, List.set_cons_succ, i64_w, i32_w]
    rfl
  refine pure_ (i := 19) (N := some 86) (v := undef) (a' := ?_) #[true, true, true, true, true, true, true, true, true, true, true, true, true, true, true, true, true, true, true, true, false, false, false, false] rfl rfl (any_of HT_.out (by kernel_rfl)) (fun _ _ _ h => h) (Or.inr ⟨by rfl, rfl⟩) ?_ ?_
  rotate_left
  · simp only [Act.put, List.setIfInBounds_toArray, List.set_cons_zero, List.set_cons_succ, i64_w, i32_w]
    rfl
  refine pure_ (i := 20) (N := some 87) (v := undef) (a' := ?_) #[true, true, true, true, true, true, true, true, true, true, true, true, true, true, true, true, true, true, true, true, true, false, false, false] rfl rfl (any_of HT_.out (by kernel_rfl)) (fun _ _ _ h => h) (Or.inr ⟨by rfl, rfl⟩) ?_ ?_
  rotate_left
  · simp only [Act.put, List.setIfInBounds_toArray, List.set_cons_zero, List.set_cons_succ, i64_w, i32_w]
    rfl
  refine pure_ (i := 21) (N := some 88) (v := ?_) (a' := ?_) #[true, true, true, true, true, true, true, true, true, true, true, true, true, true, true, true, true, true, true, true, true, true, false, false] rfl rfl (any_of HT_.out (by kernel_rfl)) (fun _ _ _ h => h) (Or.inl ⟨by rfl, ?_⟩) ?_ ?_
  rotate_left
  · intro w'
    go_simp
    with_reducible rfl
  rotate_left
  · simp only [Act.put, List.setIfInBounds_toArray, List.set_cons_zero, List.set_cons_succ, i64_w, i32_w]
    rfl
  refine pure_ (i := 22) (N := some 89) (v := ?_) (a' := ?_) #[true, true, true, true, true, true, true, true, true, true, true, true, true, true, true, true, true, true, true, true, true, true, true, false] rfl rfl (any_of HT_.out (by kernel_rfl)) (fun _ _ _ h => h) (Or.inl ⟨by rfl, ?_⟩) ?_ ?_
  rotate_left
  · intro w'
    go_simp
    with_reducible rfl
  rotate_left
  · simp only [Act.put, List.setIfInBounds_toArray, List.set_cons_zero, List.set_cons_succ, i64_w, i32_w]
    rfl
  refine pure_ (i := 23) (N := some 2) (v := ?_) (a' := ?_) #[true, true, true, true, true, true, true, true, true, true, true, true, true, true, true, true, true, true, true, true, true, true, true, true] rfl rfl (any_of HT_.out (by kernel_rfl)) (fun _ _ _ h => h) (Or.inl ⟨by rfl, ?_⟩) ?_ ?_
  rotate_left
  · intro w'
    go_simp
    with_reducible rfl
  rotate_left
  · simp only [Act.put, List.setIfInBounds_toArray, List.set_cons_zero, List.set_cons_succ, i64_w, i32_w]
    rfl
  refine done_ (done_of HT_.out (by kernel_rfl)) ?_
  go_wp2_with fail
  go_ret
  exact ⟨by first | rfl | simp, HB6.out⟩

set_option maxHeartbeats 2000000 in
theorem fr_c (A : Option Addr) (c : Nat) (L : List UInt8) (w : World) (hs : SB w A c L) (hE : IoErrs w) (h0 : L.length ≤ 5000) (h1 : (numOf L).1 ≤ 20000) (hx : (numOf L).2 = true) (h5 : 5 ≤ (numOf L).1) (hc5 : (L.length : Int) < (numOf L).1) :
    Calls Tryz.prog 4 #[.slice A L.length c] w fun e w' => e = .returned (.bool true) ∧ Below w.heap.size w w' := by
  have hrb : RdOk L = false := by unfold RdOk; rw [decide_eq_false (p := (numOf L).1 ≤ (L.length : Int)) (by omega)]; simp
  have HCp := Lib.hid (fun wx (hb : Below w.heap.size w wx) => copyOf A c L w wx hs h0 hb)
  have HFr := Lib.hid (fun A1 c1 wx (hb : Below w.heap.size w wx) (h : SB wx A1 c1 L) => gotD L w wx A1 c1 hE h1 hb h)
  have HAr := Lib.hid (fun A1 c1 wx (hb : Below w.heap.size w wx) (h : SB wx A1 c1 L) => gotA L w wx A1 c1 hE h1 hb h)
  have HAw := Lib.hid (fun wx (hb : Below w.heap.size w wx) => (docAwake wx).mono fun e w' (h : _ ∧ _) => (⟨h.1, bthen hb h.2⟩ : e = .returned (.bool true) ∧ Below w.heap.size w w'))
  rw [hrb] at HFr HAr
  have HNum := Lib.hid (docNumber A c L w hs)
  obtain ⟨n, hn⟩ : ∃ n, n = (numOf L).1 := ⟨_, rfl⟩
  obtain ⟨ok, hok⟩ : ∃ b, b = (numOf L).2 := ⟨_, rfl⟩
  obtain ⟨p, hp⟩ : ∃ p, p = L.length := ⟨_, rfl⟩
  rw [← hn, ← hok, ← hp] at HNum
  rw [← hp] at HCp HFr HAr h0 ⊢
  rw [← hn] at h1
  rw [← hok] at hx
  rw [← hn] at h5
  rw [← hn, ← hp] at hc5
  have b1 : decide ((2147483647 : Int) < (p : Int)) = false := decide_eq_false (by omega)
  have b2 : decide ((5000 : Int) < (p : Int)) = false := decide_eq_false (by omega)
  have b3 : decide ((20000 : Int) < n) = false := decide_eq_false (by omega)
  have b4 : decide ((5 : Int) ≤ n) = true := decide_eq_true (by omega)
  have b5 : decide (n ≤ (p : Int)) = false := decide_eq_false (by omega)
  subst hx
  clear hs hE hp hok hrb h0 h1 h5 hc5 hn
  go_enter Tryz.func4, Tryz.ntmps4
  go_wp2_with fail
  refine HNum.out.mono ?_
  rintro e w1 ⟨rfl, hb1⟩
  have HB1 := Lib.hid hb1
  clear hb1 HNum
  go_wp2_with fail
  refine (HCp.out _ HB1.out).mono ?_
  rintro e w2 ⟨⟨A2, c2, rfl, hs2⟩, hb2, -⟩
  have HS2 := Lib.hid hs2
  have HB2 := Lib.hid hb2
  clear hs2 hb2 HB1
  go_wp2_with fail
  refine (HFr.out A2 c2 _ HB2.out HS2.out).mono ?_
  rintro e w3 ⟨⟨A3, n3, c3, rfl, hs3⟩, hb3, -⟩
  have HB3 := Lib.hid hb3
  clear hs3 hb3 HB2 HS2 HFr
  go_wp2_with fail
  refine (HCp.out _ HB3.out).mono ?_
  rintro e w4 ⟨⟨A5, c5, rfl, hs4⟩, hb4, hk4⟩
  have HS4 := Lib.hid hs4
  clear hk4
  have HB4 := Lib.hid hb4
  clear hs4 hb4 HCp
  go_wp2_with fail
  refine (HAr.out A5 c5 _ HB4.out HS4.out).mono ?_
  rintro e w5 ⟨⟨A6, n6, c6, rfl, hs5⟩, hb5, hk5⟩
  have HB5 := Lib.hid hb5
  clear hk5
  clear hs5 hb5 HS4 HAr
  go_wp2_with fail
  refine start_ (n := 24) (S := fun w' => True) (ds := []) #[false, false, false, false, false, false, false, false, false, false, false, false, false, false, false, false, false, false, false, false, false, false, false, false] (by kernel_rfl) rfl rfl trivial (fun hHeld => ?_)
  refine with_tabW R4.tab11 R4.bits11 (fun HT_ HW_ => ?_)
  refine one_ (i := 0) (N := some 67) #[true, false, false, false, false, false, false, false, false, false, false, false, false, false, false, false, false, false, false, false, false, false, false, false] rfl rfl (one_of HT_.out (by kernel_rfl)) (by decide) (fun K hK => ?_)
  refine goes_ Tryz.func9 (by kernel_rfl) rfl #[] (by rfl) rfl rfl (by simp only [List.map_toArray, List.map_cons, List.map_nil]) ?_
  with_reducible refine ((docAwake _)).mono ?_
  rintro e w6 ⟨rfl, hb6⟩
  refine ⟨_, rfl, ?_⟩
  have HB6 := Lib.hid (HB5.out.trans ((bleft hb6).mono HB5.out.size))
  refine hK.out _ _ trivial (fun hHeld => ?_)
  clear hK K
  refine norm_ (a' := ?_) ?_ ?_
  rotate_left
  · show Act.put _ (some 67) _ = _
    simp only [Act.put, List.setIfInBounds_toArray, List.set_cons_zero, List.set_cons_succ, i64_w, i32_w]
    rfl
  refine pure_ (i := 1) (N := some 68) (v := ?_) (a' := ?_) #[true, true, false, false, false, false, false, false, false, false, false, false, false, false, false, false, false, false, false, false, false, false, false, false] rfl rfl (any_of HT_.out (by kernel_rfl)) (fun _ _ _ h => h) (Or.inl ⟨by rfl, ?_⟩) ?_ ?_
  rotate_left
  · intro w'
    go_simp
    with_reducible rfl
  rotate_left
  · simp only [Act.put, List.setIfInBounds_toArray, List.set_cons_zero, List.set_cons_succ, i64_w, i32_w]
    rfl
  refine pure_ (i := 2) (N := some 69) (v := ?_) (a' := ?_) #[true, true, true, false, false, false, false, false, false, false, false, false, false, false, false, false, false, false, false, false, false, false, false, false] rfl rfl (any_of HT_.out (by kernel_rfl)) (fun _ _ _ h => h) (Or.inl ⟨by rfl, ?_⟩) ?_ ?_
  rotate_left
  · intro w'
    go_simp
    with_reducible rfl
  rotate_left
  · simp only [Act.put, List.setIfInBounds_toArray, List.set_cons_zero, List.set_cons_succ, i64_w, i32_w]
    rfl
  refine pure_ (i := 3) (N := some 70) (v := ?_) (a' := ?_) #[true, true, true, true, false, false, false, false, false, false, false, false, false, false, false, false, false, false, false, false, false, false, false, false] rfl rfl (any_of HT_.out (by kernel_rfl)) (fun _ _ _ h => h) (Or.inl ⟨by rfl, ?_⟩) ?_ ?_
  rotate_left
  · intro w'
    go_simp
    with_reducible rfl
  rotate_left
  · simp only [Act.put, List.setIfInBounds_toArray, List.set_cons_zero, List.set_cons_succ, i64_w, i32_w]
    rfl
  refine pure_ (i := 4) (N := some 71) (v := ?_) (a' := ?_) #[true, true, true, true, true, false, false, false, false, false, false, false, false, false, false, false, false, false, false, false, false, false, false, false] rfl rfl (any_of HT_.out (by kernel_rfl)) (fun _ _ _ h => h) (Or.inl ⟨by rfl, ?_⟩) ?_ ?_
  rotate_left
  · intro w'
    go_simp
    with_reducible rfl
  rotate_left
  · simp only [Act.put, List.setIfInBounds_toArray, List.set_cons_zero, List.set_cons_succ, i64_w, i32_w]
    rfl
  refine pure_ (i := 5) (N := some 72) (v := undef) (a' := ?_) #[true, true, true, true, true, true, false, false, false, false, false, false, false, false, false, false, false, false, false, false, false, false, false, false] rfl rfl (any_of HT_.out (by kernel_rfl)) (fun _ _ _ h => h) (Or.inr ⟨by rfl, rfl⟩) ?_ ?_
  rotate_left
  · simp only [Act.put, List.setIfInBounds_toArray, List.set_cons_zero, List.set_cons_succ, i64_w, i32_w]
    rfl
  refine pure_ (i := 6) (N := some 73) (v := undef) (a' := ?_) #[true, true, true, true, true, true, true, false, false, false, false, false, false, false, false, false, false, false, false, false, false, false, false, false] rfl rfl (any_of HT_.out (by kernel_rfl)) (fun _ _ _ h => h) (Or.inr ⟨by rfl, rfl⟩) ?_ ?_
  rotate_left
  · simp only [Act.put, List.setIfInBounds_toArray, List.set_cons_zero, List.set_cons_succ, i64_w, i32_w]
    rfl
  refine pure_ (i := 7) (N := some 74) (v := undef) (a' := ?_) #[true, true, true, true, true, true, true, true, false, false, false, false, false, false, false, false, false, false, false, false, false, false, false, false] rfl rfl (any_of HT_.out (by kernel_rfl)) (fun _ _ _ h => h) (Or.inr ⟨by rfl, rfl⟩) ?_ ?_
  rotate_left
  · simp only [Act.put, List.setIfInBounds_toArray, List.set_cons_zero, List.set_cons_succ, i64_w, i32_w]
    rfl
  refine pure_ (i := 8) (N := some 75) (v := undef) (a' := ?_) #[true, true, true, true, true, true, true, true, true, false, false, false, false, false, false, false, false, false, false, false, false, false, false, false] rfl rfl (any_of HT_.out (by kernel_rfl)) (fun _ _ _ h => h) (Or.inr ⟨by rfl, rfl⟩) ?_ ?_
  rotate_left
  · simp only [Act.put, List.setIfInBounds_toArray, List.set_cons_zero, List.set_cons_succ, i64_w, i32_w]
    rfl
  refine pure_ (i := 9) (N := some 76) (v := undef) (a' := ?_) #[true, true, true, true, true, true, true, true, true, true, false, false, false, false, false, false, false, false, false, false, false, false, false, false] rfl rfl (any_of HT_.out (by kernel_rfl)) (fun _ _ _ h => h) (Or.inr ⟨by rfl, rfl⟩) ?_ ?_
  rotate_left
  · simp only [Act.put, List.setIfInBounds_toArray, List.set_cons_zero, List.set_cons_succ, i64_w, i32_w]
    rfl
  refine pure_ (i := 10) (N := some 77) (v := undef) (a' := ?_) #[true, true, true, true, true, true, true, true, true, true, true, false, false, false, false, false, false, false, false, false, false, false, false, false] rfl rfl (any_of HT_.out (by kernel_rfl)) (fun _ _ _ h => h) (Or.inr ⟨by rfl, rfl⟩) ?_ ?_
  rotate_left
  · simp only [Act.put, List.setIfInBounds_toArray, List.set_cons_zero, List.set_cons_succ, i64_w, i32_w]
    rfl
  refine pure_ (i := 11) (N := some 78) (v := undef) (a' := ?_) #[true, true, true, true, true, true, true, true, true, true, true, true, false, false, false, false, false, false, false, false, false, false, false, false] rfl rfl (any_of HT_.out (by kernel_rfl)) (fun _ _ _ h => h) (Or.inr ⟨by rfl, rfl⟩) ?_ ?_
  rotate_left
  · simp only [Act.put, List.setIfInBounds_toArray, List.set_cons_zero, List.set_cons_succ, i64_w, i32_w]
    rfl
  refine pure_ (i := 12) (N := some 79) (v := undef) (a' := ?_) #[true, true, true, true, true, true, true, true, true, true, true, true, true, false, false, false, false, false, false, false, false, false, false, false] rfl rfl (any_of HT_.out (by kernel_rfl)) (fun _ _ _ h => h) (Or.inr ⟨by rfl, rfl⟩) ?_ ?_
  rotate_left
  · simp only [Act.put, List.setIfInBounds_toArray, List.set_cons_zero, List.set_cons_succ, i64_w, i32_w]
    rfl
  refine pure_ (i := 13) (N := some 80) (v := undef) (a' := ?_) #[true, true, true, true, true, true, true, true, true, true, true, true, true, true, false, false, false, false, false, false, false, false, false, false] rfl rfl (any_of HT_.out (by kernel_rfl)) (fun _ _ _ h => h) (Or.inr ⟨by rfl, rfl⟩) ?_ ?_
  rotate_left
  · simp only [Act.put, List.setIfInBounds_toArray, List.set_cons_zero, List.set_cons_succ, i64_w, i32_w]
    rfl
  refine pure_ (i := 14) (N := some 81) (v := undef) (a' := ?_) #[true, true, true, true, true, true, true, true, true, true, true, true, true, true, true, false, false, false, false, false, false, false, false, false] rfl rfl (any_of HT_.out (by kernel_rfl)) (fun _ _ _ h => h) (Or.inr ⟨by rfl, rfl⟩) ?_ ?_
  rotate_left
  · simp only [Act.put, List.setIfInBounds_toArray, List.set_cons_zero, List.set_cons_succ, i64_w, i32_w]
    rfl
  refine pure_ (i := 15) (N := some 82) (v := undef) (a' := ?_) #[true, true, true, true, true, true, true, true, true, true, true, true, true, true, true, true, false, false, false, false, false, false, false, false] rfl rfl (any_of HT_.out (by kernel_rfl)) (fun _ _ _ h => h) (Or.inr ⟨by rfl, rfl⟩) ?_ ?_
  rotate_left
  · simp only [Act.put, List.setIfInBounds_toArray, List.set_cons_zero, List.set_cons_succ, i64_w, i32_w]
    rfl
  refine pure_ (i := 16) (N := some 83) (v := undef) (a' := ?_) #[true, true, true, true, true, true, true, true, true, true, true, true, true, true, true, true, true, false, false, false, false, false, false, false] rfl rfl (any_of HT_.out (by kernel_rfl)) (fun _ _ _ h => h) (Or.inr ⟨by rfl, rfl⟩) ?_ ?_
  rotate_left
  · simp only [Act.put, List.setIfInBounds_toArray, List.set_cons_zero, List.set_cons_succ, i64_w, i32_w]
    rfl
  refine pure_ (i := 17) (N := some 84) (v := undef) (a' := ?_) #[true, true, true, true, true, true, true, true, true, true, true, true, true, true, true, true, true, true, false, false, false, false, false, false] rfl rfl (any_of HT_.out (by kernel_rfl)) (fun _ _ _ h => h) (Or.inr ⟨by rfl, rfl⟩) ?_ ?_
  rotate_left
  · simp only [Act.put, List.setIfInBounds_toArray, List.set_cons_zero, List.set_cons_succ, i64_w, i32_w]
    rfl
  refine pure_ (i := 18) (N := some 85) (v := undef) (a' := ?_) #[true, true, true, true, true, true, true, true, true, true, true, true, true, true, true, true, true, true, true, false, false, false, false, false] rfl rfl (any_of HT_.out (by kernel_rfl)) (fun _ _ _ h => h) (Or.inr ⟨by rfl, rfl⟩) ?_ ?_
  rotate_left
  · simp only [Act.put, List.setIfInBounds_toArray, List.set_cons_zero, List.set_cons_succ, i64_w, i32_w]
    rfl
  refine pure_ (i := 19) (N := some 86) (v := undef) (a' := ?_) #[true, true, true, true, true, true, true, true, true, true, true, true, true, true, true, true, true, true, true, true, false, false, false, false] rfl rfl (any_of HT_.out (by kernel_rfl)) (fun _ _ _ h => h) (Or.inr ⟨by rfl, rfl⟩) ?_ ?_
  rotate_left
  · simp only [Act.put, List.setIfInBounds_toArray, List.set_cons_zero, List.set_cons_succ, i64_w, i32_w]
    rfl
  refine pure_ (i := 20) (N := some 87) (v := undef) (a' := ?_) #[true, true, true, true, true, true, true, true, true, true, true, true, true, true, true, true, true, true, true, true, true, false, false, false] rfl rfl (any_of HT_.out (by kernel_rfl)) (fun _ _ _ h => h) (Or.inr ⟨by rfl, rfl⟩) ?_ ?_
  rotate_left
  · simp only [Act.put, List.setIfInBounds_toArray, List.set_cons_zero, List.set_cons_succ, i64_w, i32_w]
    rfl
  refine pure_ (i := 21) (N := some 88) (v := ?_) (a' := ?_) #[true, true, true, true, true, true, true, true, true, true, true, true, true, true, true, true, true, true, true, true, true, true, false, false] rfl rfl (any_of HT_.out (by kernel_rfl)) (fun _ _ _ h => h) (Or.inl ⟨by rfl, ?_⟩) ?_ ?_
  rotate_left
  · intro w'
    go_simp
    with_reducible rfl
  rotate_left
  · simp only [Act.put, List.setIfInBounds_toArray, List.set_cons_zero, List.set_cons_succ, i64_w, i32_w]
    rfl
  refine pure_ (i := 22) (N := some 89) (v := ?_) (a' := ?_) #[true, true, true, true, true, true, true, true, true, true, true, true, true, true, true, true, true, true, true, true, true, true, true, false] rfl rfl (any_of HT_.out (by kernel_rfl)) (fun _ _ _ h => h) (Or.inl ⟨by rfl, ?_⟩) ?_ ?_
  rotate_left
  · intro w'
    go_simp
    with_reducible rfl
  rotate_left
  · simp only [Act.put, List.setIfInBounds_toArray, List.set_cons_zero, List.set_cons_succ, i64_w, i32_w]
    rfl
  refine pure_ (i := 23) (N := some 2) (v := ?_) (a' := ?_) #[true, true, true, true, true, true, true, true, true, true, true, true, true, true, true, true, true, true, true, true, true, true, true, true] rfl rfl (any_of HT_.out (by kernel_rfl)) (fun _ _ _ h => h) (Or.inl ⟨by rfl, ?_⟩) ?_ ?_
  rotate_left
  · intro w'
    go_simp
    with_reducible rfl
  rotate_left
  · simp only [Act.put, List.setIfInBounds_toArray, List.set_cons_zero, List.set_cons_succ, i64_w, i32_w]
    rfl
  refine done_ (done_of HT_.out (by kernel_rfl)) ?_
  go_wp2_with fail
  go_ret
  exact ⟨by first | rfl | simp, HB6.out⟩

set_option maxHeartbeats 2000000 in
theorem fr_d (A : Option Addr) (c : Nat) (L : List UInt8) (w : World) (hs : SB w A c L) (hE : IoErrs w) (h0 : L.length ≤ 5000) (h1 : (numOf L).1 ≤ 20000) (hx : (numOf L).2 = true) (h5 : 5 ≤ (numOf L).1) (hc5 : (numOf L).1 ≤ (L.length : Int)) (hz : ¬ L[((numOf L).1 - 1).toNat]? = some 0) :
    Calls Tryz.prog 4 #[.slice A L.length c] w fun e w' => e = .returned (.bool true) ∧ Below w.heap.size w w' := by
  have hrb : RdOk L = false := by unfold RdOk; rw [decide_eq_false hz]; simp
  have HCp := Lib.hid (fun wx (hb : Below w.heap.size w wx) => copyOf A c L w wx hs h0 hb)
  have HFr := Lib.hid (fun A1 c1 wx (hb : Below w.heap.size w wx) (h : SB wx A1 c1 L) => gotD L w wx A1 c1 hE h1 hb h)
  have HAr := Lib.hid (fun A1 c1 wx (hb : Below w.heap.size w wx) (h : SB wx A1 c1 L) => gotA L w wx A1 c1 hE h1 hb h)
  have HAw := Lib.hid (fun wx (hb : Below w.heap.size w wx) => (docAwake wx).mono fun e w' (h : _ ∧ _) => (⟨h.1, bthen hb h.2⟩ : e = .returned (.bool true) ∧ Below w.heap.size w w'))
  rw [hrb] at HFr HAr
  obtain ⟨N, hN⟩ : ∃ N : Nat, (numOf L).1 = (N : Int) := ⟨(numOf L).1.toNat, by omega⟩
  have hN5 : 5 ≤ N ∧ N ≤ L.length := by omega
  obtain ⟨b, off, rfl, hcell⟩ := hs.cells (by omega)
  have hNl : N - 1 < L.length := by omega
  obtain ⟨z, hzz⟩ : ∃ z, z = (L[N - 1].toNat : Int) := ⟨_, rfl⟩
  have hlast : w.cell? ⟨b, off + (N - 1), none⟩ = some (.int .u8 z) := by rw [hzz]; exact hcell (N - 1) hNl
  have hgz : L[((numOf L).1 - 1).toNat]? = some L[N - 1] := by rw [hN, show ((N : Int) - 1).toNat = N - 1 from by omega]; exact List.getElem?_eq_getElem hNl
  have hz0 : (z == 0) = false := by rw [beq_eq_false_iff_ne, hzz]; intro h; exact hz (by rw [hgz, toNat_zero' _ h])
  have HNum := Lib.hid (docNumber (some ⟨b, off, none⟩) c L w hs)
  obtain ⟨n, hn⟩ : ∃ n, n = (numOf L).1 := ⟨_, rfl⟩
  obtain ⟨ok, hok⟩ : ∃ b, b = (numOf L).2 := ⟨_, rfl⟩
  obtain ⟨p, hp⟩ : ∃ p, p = L.length := ⟨_, rfl⟩
  rw [← hn, ← hok, ← hp] at HNum
  rw [← hp] at HCp HFr HAr h0 ⊢
  rw [← hn] at h1
  rw [← hok] at hx
  rw [← hn] at h5
  rw [← hn, ← hp] at hc5
  rw [← hn] at hN
  rw [← hp] at hN5
  have b1 : decide ((2147483647 : Int) < (p : Int)) = false := decide_eq_false (by omega)
  have b2 : decide ((5000 : Int) < (p : Int)) = false := decide_eq_false (by omega)
  have b3 : decide ((20000 : Int) < n) = false := decide_eq_false (by omega)
  have b4 : decide ((5 : Int) ≤ n) = true := decide_eq_true (by omega)
  have b5 : decide ((N : Int) ≤ (p : Int)) = true := decide_eq_true (by omega)
  subst hN
  subst hx
  have e1 : min (N : Int) (p : Int) = (N : Int) := by omega
  have e2 : max 0 ((N : Int) - 1) = (N : Int) - 1 := by omega
  have g1 : ((N : Int) - 1 < (p : Int)) = True := eq_true (by omega)
  have g2 : ((N : Int) - 1).toNat = N - 1 := by omega
  have g3 : (0 ≤ (N : Int) - 1) = True := eq_true (by omega)
  have HW : Hid (wrap64 ((N : Int) - 1) = (N : Int) - 1) := Lib.hid (w64one N (by omega) (by omega))
  clear hs hE hp hok hrb h0 h1 h5 hcell hzz hgz hz hc5 hn
  have g4 := HW.out
  go_enter Tryz.func4, Tryz.ntmps4
  go_wp2_with fail
  refine HNum.out.mono ?_
  rintro e w1 ⟨rfl, hb1⟩
  have HB1 := Lib.hid hb1
  clear hb1 HNum
  have hl1 : w1.cell? ⟨b, off + (N - 1), none⟩ = some (.int .u8 z) := (HB1.out.cell (World.block_lt_of_cell? _ _ hlast)).trans hlast
  go_wp2_with fail
  refine (HCp.out _ HB1.out).mono ?_
  rintro e w2 ⟨⟨A2, c2, rfl, hs2⟩, hb2, -⟩
  have HS2 := Lib.hid hs2
  have HB2 := Lib.hid hb2
  clear hs2 hb2 HB1 hl1 hlast e1 e2 g1 g2 g3 g4
  go_wp2_with fail
  refine (HFr.out A2 c2 _ HB2.out HS2.out).mono ?_
  rintro e w3 ⟨⟨A3, n3, c3, rfl, hs3⟩, hb3, -⟩
  have HB3 := Lib.hid hb3
  clear hs3 hb3 HB2 HS2 HFr
  go_wp2_with fail
  refine (HCp.out _ HB3.out).mono ?_
  rintro e w4 ⟨⟨A5, c5, rfl, hs4⟩, hb4, hk4⟩
  have HS4 := Lib.hid hs4
  clear hk4
  have HB4 := Lib.hid hb4
  clear hs4 hb4 HCp
  go_wp2_with fail
  refine (HAr.out A5 c5 _ HB4.out HS4.out).mono ?_
  rintro e w5 ⟨⟨A6, n6, c6, rfl, hs5⟩, hb5, hk5⟩
  have HB5 := Lib.hid hb5
  clear hk5
  clear hs5 hb5 HS4 HAr
  go_wp2_with fail
  refine start_ (n := 24) (S := fun w' => True) (ds := []) #[false, false, false, false, false, false, false, false, false, false, false, false, false, false, false, false, false, false, false, false, false, false, false, false] (by kernel_rfl) rfl rfl trivial (fun hHeld => ?_)
  refine with_tabW R4.tab11 R4.bits11 (fun HT_ HW_ => ?_)
  refine one_ (i := 0) (N := some 67) #[true, false, false, false, false, false, false, false, false, false, false, false, false, false, false, false, false, false, false, false, false, false, false, false] rfl rfl (one_of HT_.out (by kernel_rfl)) (by decide) (fun K hK => ?_)
  refine goes_ Tryz.func9 (by kernel_rfl) rfl #[] (by rfl) rfl rfl (by simp only [List.map_toArray, List.map_cons, List.map_nil]) ?_
  with_reducible refine ((docAwake _)).mono ?_
  rintro e w6 ⟨rfl, hb6⟩
  refine ⟨_, rfl, ?_⟩
  have HB6 := Lib.hid (HB5.out.trans ((bleft hb6).mono HB5.out.size))
  refine hK.out _ _ trivial (fun hHeld => ?_)
  clear hK K
  refine norm_ (a' := ?_) ?_ ?_
  rotate_left
  · show Act.put _ (some 67) _ = _
    simp only [Act.put, List.setIfInBounds_toArray, List.set_cons_zero, List.set_cons_succ, i64_w, i32_w]
    rfl
  refine pure_ (i := 1) (N := some 68) (v := ?_) (a' := ?_) #[true, true, false, false, false, false, false, false, false, false, false, false, false, false, false, false, false, false, false, false, false, false, false, false] rfl rfl (any_of HT_.out (by kernel_rfl)) (fun _ _ _ h => h) (Or.inl ⟨by rfl, ?_⟩) ?_ ?_
  rotate_left
  · intro w'
    go_simp
    with_reducible rfl
  rotate_left
  · simp only [Act.put, List.setIfInBounds_toArray, List.set_cons_zero, List.set_cons_succ, i64_w, i32_w]
    rfl
  refine pure_ (i := 2) (N := some 69) (v := ?_) (a' := ?_) #[true, true, true, false, false, false, false, false, false, false, false, false, false, false, false, false, false, false, false, false, false, false, false, false] rfl rfl (any_of HT_.out (by kernel_rfl)) (fun _ _ _ h => h) (Or.inl ⟨by rfl, ?_⟩) ?_ ?_
  rotate_left
  · intro w'
    go_simp
    with_reducible rfl
  rotate_left
  · simp only [Act.put, List.setIfInBounds_toArray, List.set_cons_zero, List.set_cons_succ, i64_w, i32_w]
    rfl
  refine pure_ (i := 3) (N := some 70) (v := ?_) (a' := ?_) #[true, true, true, true, false, false, false, false, false, false, false, false, false, false, false, false, false, false, false, false, false, false, false, false] rfl rfl (any_of HT_.out (by kernel_rfl)) (fun _ _ _ h => h) (Or.inl ⟨by rfl, ?_⟩) ?_ ?_
  rotate_left
  · intro w'
    go_simp
    with_reducible rfl
  rotate_left
  · simp only [Act.put, List.setIfInBounds_toArray, List.set_cons_zero, List.set_cons_succ, i64_w, i32_w]
    rfl
  refine pure_ (i := 4) (N := some 71) (v := ?_) (a' := ?_) #[true, true, true, true, true, false, false, false, false, false, false, false, false, false, false, false, false, false, false, false, false, false, false, false] rfl rfl (any_of HT_.out (by kernel_rfl)) (fun _ _ _ h => h) (Or.inl ⟨by rfl, ?_⟩) ?_ ?_
  rotate_left
  · intro w'
    go_simp
    with_reducible rfl
  rotate_left
  · simp only [Act.put, List.setIfInBounds_toArray, List.set_cons_zero, List.set_cons_succ, i64_w, i32_w]
    rfl
  refine pure_ (i := 5) (N := some 72) (v := undef) (a' := ?_) #[true, true, true, true, true, true, false, false, false, false, false, false, false, false, false, false, false, false, false, false, false, false, false, false] rfl rfl (any_of HT_.out (by kernel_rfl)) (fun _ _ _ h => h) (Or.inr ⟨by rfl, rfl⟩) ?_ ?_
  rotate_left
  · simp only [Act.put, List.setIfInBounds_toArray, List.set_cons_zero, List.set_cons_succ, i64_w, i32_w]
    rfl
  refine pure_ (i := 6) (N := some 73) (v := undef) (a' := ?_) #[true, true, true, true, true, true, true, false, false, false, false, false, false, false, false, false, false, false, false, false, false, false, false, false] rfl rfl (any_of HT_.out (by kernel_rfl)) (fun _ _ _ h => h) (Or.inr ⟨by rfl, rfl⟩) ?_ ?_
  rotate_left
  · simp only [Act.put, List.setIfInBounds_toArray, List.set_cons_zero, List.set_cons_succ, i64_w, i32_w]
    rfl
  refine pure_ (i := 7) (N := some 74) (v := undef) (a' := ?_) #[true, true, true, true, true, true, true, true, false, false, false, false, false, false, false, false, false, false, false, false, false, false, false, false] rfl rfl (any_of HT_.out (by kernel_rfl)) (fun _ _ _ h => h) (Or.inr ⟨by rfl, rfl⟩) ?_ ?_
  rotate_left
  · simp only [Act.put, List.setIfInBounds_toArray, List.set_cons_zero, List.set_cons_succ, i64_w, i32_w]
    rfl
  refine pure_ (i := 8) (N := some 75) (v := undef) (a' := ?_) #[true, true, true, true, true, true, true, true, true, false, false, false, false, false, false, false, false, false, false, false, false, false, false, false] rfl rfl (any_of HT_.out (by kernel_rfl)) (fun _ _ _ h => h) (Or.inr ⟨by rfl, rfl⟩) ?_ ?_
  rotate_left
  · simp only [Act.put, List.setIfInBounds_toArray, List.set_cons_zero, List.set_cons_succ, i64_w, i32_w]
    rfl
  refine pure_ (i := 9) (N := some 76) (v := undef) (a' := ?_) #[true, true, true, true, true, true, true, true, true, true, false, false, false, false, false, false, false, false, false, false, false, false, false, false] rfl rfl (any_of HT_.out (by kernel_rfl)) (fun _ _ _ h => h) (Or.inr ⟨by rfl, rfl⟩) ?_ ?_
  rotate_left
  · simp only [Act.put, List.setIfInBounds_toArray, List.set_cons_zero, List.set_cons_succ, i64_w, i32_w]
    rfl
  refine pure_ (i := 10) (N := some 77) (v := undef) (a' := ?_) #[true, true, true, true, true, true, true, true, true, true, true, false, false, false, false, false, false, false, false, false, false, false, false, false] rfl rfl (any_of HT_.out (by kernel_rfl)) (fun _ _ _ h => h) (Or.inr ⟨by rfl, rfl⟩) ?_ ?_
  rotate_left
  · simp only [Act.put, List.setIfInBounds_toArray, List.set_cons_zero, List.set_cons_succ, i64_w, i32_w]
    rfl
  refine pure_ (i := 11) (N := some 78) (v := undef) (a' := ?_) #[true, true, true, true, true, true, true, true, true, true, true, true, false, false, false, false, false, false, false, false, false, false, false, false] rfl rfl (any_of HT_.out (by kernel_rfl)) (fun _ _ _ h => h) (Or.inr ⟨by rfl, rfl⟩) ?_ ?_
  rotate_left
  · simp only [Act.put, List.setIfInBounds_toArray, List.set_cons_zero, List.set_cons_succ, i64_w, i32_w]
    rfl
  refine pure_ (i := 12) (N := some 79) (v := undef) (a' := ?_) #[true, true, true, true, true, true, true, true, true, true, true, true, true, false, false, false, false, false, false, false, false, false, false, false] rfl rfl (any_of HT_.out (by kernel_rfl)) (fun _ _ _ h => h) (Or.inr ⟨by rfl, rfl⟩) ?_ ?_
  rotate_left
  · simp only [Act.put, List.setIfInBounds_toArray, List.set_cons_zero, List.set_cons_succ, i64_w, i32_w]
    rfl
  refine pure_ (i := 13) (N := some 80) (v := undef) (a' := ?_) #[true, true, true, true, true, true, true, true, true, true, true, true, true, true, false, false, false, false, false, false, false, false, false, false] rfl rfl (any_of HT_.out (by kernel_rfl)) (fun _ _ _ h => h) (Or.inr ⟨by rfl, rfl⟩) ?_ ?_
  rotate_left
  · simp only [Act.put, List.setIfInBounds_toArray, List.set_cons_zero, List.set_cons_succ, i64_w, i32_w]
    rfl
  refine pure_ (i := 14) (N := some 81) (v := undef) (a' := ?_) #[true, true, true, true, true, true, true, true, true, true, true, true, true, true, true, false, false, false, false, false, false, false, false, false] rfl rfl (any_of HT_.out (by kernel_rfl)) (fun _ _ _ h => h) (Or.inr ⟨by rfl, rfl⟩) ?_ ?_
  rotate_left
  · simp only [Act.put, List.setIfInBounds_toArray, List.set_cons_zero, List.set_cons_succ, i64_w, i32_w]
    rfl
  refine pure_ (i := 15) (N := some 82) (v := undef) (a' := ?_) #[true, true, true, true, true, true, true, true, true, true, true, true, true, true, true, true, false, false, false, false, false, false, false, false] rfl rfl (any_of HT_.out (by kernel_rfl)) (fun _ _ _ h => h) (Or.inr ⟨by rfl, rfl⟩) ?_ ?_
  rotate_left
  · simp only [Act.put, List.setIfInBounds_toArray, List.set_cons_zero, List.set_cons_succ, i64_w, i32_w]
    rfl
  refine pure_ (i := 16) (N := some 83) (v := undef) (a' := ?_) #[true, true, true, true, true, true, true, true, true, true, true, true, true, true, true, true, true, false, false, false, false, false, false, false] rfl rfl (any_of HT_.out (by kernel_rfl)) (fun _ _ _ h => h) (Or.inr ⟨by rfl, rfl⟩) ?_ ?_
  rotate_left
  · simp only [Act.put, List.setIfInBounds_toArray, List.set_cons_zero, List.set_cons_succ, i64_w, i32_w]
    rfl
  refine pure_ (i := 17) (N := some 84) (v := undef) (a' := ?_) #[true, true, true, true, true, true, true, true, true, true, true, true, true, true, true, true, true, true, false, false, false, false, false, false] rfl rfl (any_of HT_.out (by kernel_rfl)) (fun _ _ _ h => h) (Or.inr ⟨by rfl, rfl⟩) ?_ ?_
  rotate_left
  · simp only [Act.put, List.setIfInBounds_toArray, List.set_cons_zero, List.set_cons_succ, i64_w, i32_w]
    rfl
  refine pure_ (i := 18) (N := some 85) (v := undef) (a' := ?_) #[true, true, true, true, true, true, true, true, true, true, true, true, true, true, true, true, true, true, true, false, false, false, false, false] rfl rfl (any_of HT_.out (by kernel_rfl)) (fun _ _ _ h => h) (Or.inr ⟨by rfl, rfl⟩) ?_ ?_
  rotate_left
  · simp only [Act.put, List.setIfInBounds_toArray, List.set_cons_zero, List.set_cons_succ, i64_w, i32_w]
    rfl
  refine pure_ (i := 19) (N := some 86) (v := undef) (a' := ?_) #[true, true, true, true, true, true, true, true, true, true, true, true, true, true, true, true, true, true, true, true, false, false, false, false] rfl rfl (any_of HT_.out (by kernel_rfl)) (fun _ _ _ h => h) (Or.inr ⟨by rfl, rfl⟩) ?_ ?_
  rotate_left
  · simp only [Act.put, List.setIfInBounds_toArray, List.set_cons_zero, List.set_cons_succ, i64_w, i32_w]
    rfl
  refine pure_ (i := 20) (N := some 87) (v := undef) (a' := ?_) #[true, true, true, true, true, true, true, true, true, true, true, true, true, true, true, true, true, true, true, true, true, false, false, false] rfl rfl (any_of HT_.out (by kernel_rfl)) (fun _ _ _ h => h) (Or.inr ⟨by rfl, rfl⟩) ?_ ?_
  rotate_left
  · simp only [Act.put, List.setIfInBounds_toArray, List.set_cons_zero, List.set_cons_succ, i64_w, i32_w]
    rfl
  refine pure_ (i := 21) (N := some 88) (v := ?_) (a' := ?_) #[true, true, true, true, true, true, true, true, true, true, true, true, true, true, true, true, true, true, true, true, true, true, false, false] rfl rfl (any_of HT_.out (by kernel_rfl)) (fun _ _ _ h => h) (Or.inl ⟨by rfl, ?_⟩) ?_ ?_
  rotate_left
  · intro w'
    go_simp
    with_reducible rfl
  rotate_left
  · simp only [Act.put, List.setIfInBounds_toArray, List.set_cons_zero, List.set_cons_succ, i64_w, i32_w]
    rfl
  refine pure_ (i := 22) (N := some 89) (v := ?_) (a' := ?_) #[true, true, true, true, true, true, true, true, true, true, true, true, true, true, true, true, true, true, true, true, true, true, true, false] rfl rfl (any_of HT_.out (by kernel_rfl)) (fun _ _ _ h => h) (Or.inl ⟨by rfl, ?_⟩) ?_ ?_
  rotate_left
  · intro w'
    go_simp
    with_reducible rfl
  rotate_left
  · simp only [Act.put, List.setIfInBounds_toArray, List.set_cons_zero, List.set_cons_succ, i64_w, i32_w]
    rfl
  refine pure_ (i := 23) (N := some 2) (v := ?_) (a' := ?_) #[true, true, true, true, true, true, true, true, true, true, true, true, true, true, true, true, true, true, true, true, true, true, true, true] rfl rfl (any_of HT_.out (by kernel_rfl)) (fun _ _ _ h => h) (Or.inl ⟨by rfl, ?_⟩) ?_ ?_
  rotate_left
  · intro w'
    go_simp
    with_reducible rfl
  rotate_left
  · simp only [Act.put, List.setIfInBounds_toArray, List.set_cons_zero, List.set_cons_succ, i64_w, i32_w]
    rfl
  refine done_ (done_of HT_.out (by kernel_rfl)) ?_
  go_wp2_with fail
  go_ret
  exact ⟨by first | rfl | simp, HB6.out⟩

set_option maxHeartbeats 2000000 in
theorem fr_e (A : Option Addr) (c : Nat) (L : List UInt8) (w : World) (hs : SB w A c L) (hE : IoErrs w) (h0 : L.length ≤ 5000) (h1 : (numOf L).1 ≤ 20000) (hx : (numOf L).2 = true) (h5 : 5 ≤ (numOf L).1) (hc5 : (numOf L).1 ≤ (L.length : Int)) (hz : L[((numOf L).1 - 1).toNat]? = some 0) :
    Calls Tryz.prog 4 #[.slice A L.length c] w fun e w' => e = .returned (.bool true) ∧ Below w.heap.size w w' := by
  have hrb : RdOk L = true := by unfold RdOk; rw [hx, decide_eq_true h5, decide_eq_true hc5, decide_eq_true hz]; rfl
  have HCp := Lib.hid (fun wx (hb : Below w.heap.size w wx) => copyOf A c L w wx hs h0 hb)
  have HFr := Lib.hid (fun A1 c1 wx (hb : Below w.heap.size w wx) (h : SB wx A1 c1 L) => gotD L w wx A1 c1 hE h1 hb h)
  have HAr := Lib.hid (fun A1 c1 wx (hb : Below w.heap.size w wx) (h : SB wx A1 c1 L) => gotA L w wx A1 c1 hE h1 hb h)
  have HAw := Lib.hid (fun wx (hb : Below w.heap.size w wx) => (docAwake wx).mono fun e w' (h : _ ∧ _) => (⟨h.1, bthen hb h.2⟩ : e = .returned (.bool true) ∧ Below w.heap.size w w'))
  rw [hrb] at HFr HAr
  obtain ⟨N, hN⟩ : ∃ N : Nat, (numOf L).1 = (N : Int) := ⟨(numOf L).1.toNat, by omega⟩
  have hN5 : 5 ≤ N ∧ N ≤ L.length := by omega
  obtain ⟨b, off, rfl, hcell⟩ := hs.cells (by omega)
  have hNl : N - 1 < L.length := by omega
  obtain ⟨z, hzz⟩ : ∃ z, z = (L[N - 1].toNat : Int) := ⟨_, rfl⟩
  have hlast : w.cell? ⟨b, off + (N - 1), none⟩ = some (.int .u8 z) := by rw [hzz]; exact hcell (N - 1) hNl
  have hgz : L[((numOf L).1 - 1).toNat]? = some L[N - 1] := by rw [hN, show ((N : Int) - 1).toNat = N - 1 from by omega]; exact List.getElem?_eq_getElem hNl
  have hz0 : z = 0 := by rw [hzz]; rw [hgz] at hz; rw [Option.some.inj hz]; rfl
  subst hz0
  obtain ⟨A4, e4, s4⟩ := SB.to_ (P := Tryz.prog) Tryz.underlying22 rfl rfl .i64 (some ⟨b, off, none⟩) c L N hN5.2 hs.le
  obtain ⟨T, hT⟩ : ∃ T, T = L.take N := ⟨_, rfl⟩
  have hTl : T.length = N := by rw [hT, List.length_take]; omega
  obtain ⟨S1, hS1⟩ : ∃ s : ByteArray, s = ⟨T.toArray⟩ := ⟨_, rfl⟩
  have HC4 : Hid (∀ wx, Below w.heap.size w wx → (convert 22 9 (.slice A4 N c)).run Tryz.prog wx = .ok (.string S1) wx) := Lib.hid fun wx hb => by have h := str_of (s4 wx (hs.keep hb)); rw [← hT, hTl] at h; rw [hS1]; exact h
  have HC5 : Hid (∀ wx A2 c2, SB wx A2 c2 T → (convert 22 9 (.slice A2 N c2)).run Tryz.prog wx = .ok (.string S1) wx) := Lib.hid fun wx A2 c2 hb => by have h := str_of hb; rw [hTl] at h; rw [hS1]; exact h
  rw [hN, Int.toNat_natCast, ← hT] at HFr HAr
  have HNum := Lib.hid (docNumber (some ⟨b, off, none⟩) c L w hs)
  obtain ⟨n, hn⟩ : ∃ n, n = (numOf L).1 := ⟨_, rfl⟩
  obtain ⟨ok, hok⟩ : ∃ b, b = (numOf L).2 := ⟨_, rfl⟩
  obtain ⟨p, hp⟩ : ∃ p, p = L.length := ⟨_, rfl⟩
  rw [← hn, ← hok, ← hp] at HNum
  rw [← hp] at HCp HFr HAr h0 ⊢
  rw [← hn] at h1
  rw [← hok] at hx
  rw [← hn] at h5
  rw [← hn, ← hp] at hc5
  rw [← hn] at hN
  rw [← hp] at hN5
  rw [← hp] at e4
  have b1 : decide ((2147483647 : Int) < (p : Int)) = false := decide_eq_false (by omega)
  have b2 : decide ((5000 : Int) < (p : Int)) = false := decide_eq_false (by omega)
  have b3 : decide ((20000 : Int) < n) = false := decide_eq_false (by omega)
  have b4 : decide ((5 : Int) ≤ n) = true := decide_eq_true (by omega)
  have b5 : decide ((N : Int) ≤ (p : Int)) = true := decide_eq_true (by omega)
  subst hN
  subst hx
  have e1 : min (N : Int) (p : Int) = (N : Int) := by omega
  have e2 : max 0 ((N : Int) - 1) = (N : Int) - 1 := by omega
  have g1 : ((N : Int) - 1 < (p : Int)) = True := eq_true (by omega)
  have g2 : ((N : Int) - 1).toNat = N - 1 := by omega
  have g3 : (0 ≤ (N : Int) - 1) = True := eq_true (by omega)
  have HW : Hid (wrap64 ((N : Int) - 1) = (N : Int) - 1) := Lib.hid (w64one N (by omega) (by omega))
  clear hs hE hp hok hrb h0 h1 h5 hcell hzz hgz hz hc5 s4 hT hTl hS1 hn
  have g4 := HW.out
  go_enter Tryz.func4, Tryz.ntmps4
  go_wp2_with fail
  refine HNum.out.mono ?_
  rintro e w1 ⟨rfl, hb1⟩
  have HB1 := Lib.hid hb1
  clear hb1 HNum
  have hl1 : w1.cell? ⟨b, off + (N - 1), none⟩ = some (.int .u8 0) := (HB1.out.cell (World.block_lt_of_cell? _ _ hlast)).trans hlast
  go_wp2_with fail
  refine (HCp.out _ HB1.out).mono ?_
  rintro e w2 ⟨⟨A2, c2, rfl, hs2⟩, hb2, -⟩
  have HS2 := Lib.hid hs2
  have HB2 := Lib.hid hb2
  clear hs2 hb2 HB1 hl1 hlast e1 e2 g1 g2 g3 g4
  go_wp2_with fail
  refine (HFr.out A2 c2 _ HB2.out HS2.out).mono ?_
  rintro e w3 ⟨⟨A3, n3, c3, rfl, hs3⟩, hb3, -⟩
  have HB3 := Lib.hid hb3
  obtain ⟨e3, hk3⟩ := hs3 (by first | trivial | rfl)
  have e3' := e3.symm
  clear hs3 e3
  subst e3'
  have HS3 := Lib.hid hk3
  clear hk3
  clear hb3 HB2 HS2 HFr
  go_wp2_with fail
  refine (HCp.out _ HB3.out).mono ?_
  rintro e w4 ⟨⟨A5, c5, rfl, hs4⟩, hb4, hk4⟩
  have HS4 := Lib.hid hs4
  have HS34 := Lib.hid (HS3.out.keep hk4)
  clear hk4
  have HB4 := Lib.hid hb4
  clear hs4 hb4 HCp
  go_wp2_with fail
  refine (HAr.out A5 c5 _ HB4.out HS4.out).mono ?_
  rintro e w5 ⟨⟨A6, n6, c6, rfl, hs5⟩, hb5, hk5⟩
  have HB5 := Lib.hid hb5
  have HS35 := Lib.hid (HS34.out.keep hk5)
  clear hk5
  obtain ⟨e5, hj5⟩ := hs5 (by first | trivial | rfl)
  have e5' := e5.symm
  clear hs5 e5
  subst e5'
  have HS5 := Lib.hid hj5
  clear hj5
  clear hb5 HS4 HAr
  go_wp2_with fail
  refine start_ (n := 24) (S := fun w' => (convert 22 9 (.slice A3 N c3)).run Tryz.prog w' = .ok (.string S1) w' ∧ (convert 22 9 (.slice A4 N c)).run Tryz.prog w' = .ok (.string S1) w' ∧ (convert 22 9 (.slice A6 N c6)).run Tryz.prog w' = .ok (.string S1) w') (ds := []) #[false, false, false, false, false, false, false, false, false, false, false, false, false, false, false, false, false, false, false, false, false, false, false, false] (by kernel_rfl) rfl rfl ⟨(by exact HC5.out _ _ _ HS35.out.drew), (by exact HC4.out _ (bdrew HB5.out)), (by exact HC5.out _ _ _ HS5.out.drew)⟩ (fun hHeld => ?_)
  refine with_tabW R4.tab11 R4.bits11 (fun HT_ HW_ => ?_)
  refine one_ (i := 0) (N := some 67) #[true, false, false, false, false, false, false, false, false, false, false, false, false, false, false, false, false, false, false, false, false, false, false, false] rfl rfl (one_of HT_.out (by kernel_rfl)) (by decide) (fun K hK => ?_)
  refine goes_ Tryz.func9 (by kernel_rfl) rfl #[] (by rfl) rfl rfl (by simp only [List.map_toArray, List.map_cons, List.map_nil]) ?_
  with_reducible refine ((docAwake _)).mono ?_
  rintro e w6 ⟨rfl, hb6⟩
  refine ⟨_, rfl, ?_⟩
  have HB6 := Lib.hid (HB5.out.trans ((bleft hb6).mono HB5.out.size))
  refine hK.out _ _ ⟨(HC5.out _ _ _ (HS35.out.drew.keep hb6)), (HC4.out _ HB6.out), (HC5.out _ _ _ (HS5.out.drew.keep hb6))⟩ (fun hHeld => ?_)
  clear hK K
  refine norm_ (a' := ?_) ?_ ?_
  rotate_left
  · show Act.put _ (some 67) _ = _
    simp only [Act.put, List.setIfInBounds_toArray, List.set_cons_zero, List.set_cons_succ, i64_w, i32_w]
    rfl
  refine pure_ (i := 1) (N := some 68) (v := ?_) (a' := ?_) #[true, true, false, false, false, false, false, false, false, false, false, false, false, false, false, false, false, false, false, false, false, false, false, false] rfl rfl (any_of HT_.out (by kernel_rfl)) (fun _ _ _ h => h) (Or.inl ⟨by rfl, ?_⟩) ?_ ?_
  rotate_left
  · intro w'
    go_simp
    with_reducible rfl
  rotate_left
  · simp only [Act.put, List.setIfInBounds_toArray, List.set_cons_zero, List.set_cons_succ, i64_w, i32_w]
    rfl
  refine pure_ (i := 2) (N := some 69) (v := ?_) (a' := ?_) #[true, true, true, false, false, false, false, false, false, false, false, false, false, false, false, false, false, false, false, false, false, false, false, false] rfl rfl (any_of HT_.out (by kernel_rfl)) (fun _ _ _ h => h) (Or.inl ⟨by rfl, ?_⟩) ?_ ?_
  rotate_left
  · intro w'
    go_simp
    with_reducible rfl
  rotate_left
  · simp only [Act.put, List.setIfInBounds_toArray, List.set_cons_zero, List.set_cons_succ, i64_w, i32_w]
    rfl
  refine pure_ (i := 3) (N := some 70) (v := ?_) (a' := ?_) #[true, true, true, true, false, false, false, false, false, false, false, false, false, false, false, false, false, false, false, false, false, false, false, false] rfl rfl (any_of HT_.out (by kernel_rfl)) (fun _ _ _ h => h) (Or.inl ⟨by rfl, ?_⟩) ?_ ?_
  rotate_left
  · intro w'
    go_simp
    with_reducible rfl
  rotate_left
  · simp only [Act.put, List.setIfInBounds_toArray, List.set_cons_zero, List.set_cons_succ, i64_w, i32_w]
    rfl
  refine pure_ (i := 4) (N := some 71) (v := ?_) (a' := ?_) #[true, true, true, true, true, false, false, false, false, false, false, false, false, false, false, false, false, false, false, false, false, false, false, false] rfl rfl (any_of HT_.out (by kernel_rfl)) (fun _ _ _ h => h) (Or.inl ⟨by rfl, ?_⟩) ?_ ?_
  rotate_left
  · intro w'
    go_simp
    with_reducible rfl
  rotate_left
  · simp only [Act.put, List.setIfInBounds_toArray, List.set_cons_zero, List.set_cons_succ, i64_w, i32_w]
    rfl
  refine pure_ (i := 5) (N := some 72) (v := ?_) (a' := ?_) #[true, true, true, true, true, true, false, false, false, false, false, false, false, false, false, false, false, false, false, false, false, false, false, false] rfl rfl (any_of HT_.out (by kernel_rfl)) (fun _ _ _ h => h) (Or.inl ⟨by rfl, ?_⟩) ?_ ?_
  rotate_left
  · intro w'
    go_simp
    with_reducible rfl
  rotate_left
  · simp only [Act.put, List.setIfInBounds_toArray, List.set_cons_zero, List.set_cons_succ, i64_w, i32_w]
    rfl
  refine pure_ (i := 7) (N := some 74) (v := ?_) (a' := ?_) #[true, true, true, true, true, true, false, true, false, false, false, false, false, false, false, false, false, false, false, false, false, false, false, false] rfl rfl (any_of HT_.out (by kernel_rfl)) (fun _ _ _ h => h) (Or.inl ⟨by rfl, ?_⟩) ?_ ?_
  rotate_left
  · intro w'
    go_simp
    with_reducible rfl
  rotate_left
  · simp only [Act.put, List.setIfInBounds_toArray, List.set_cons_zero, List.set_cons_succ, i64_w, i32_w]
    rfl
  refine pure_ (i := 8) (N := some 75) (v := ?_) (a' := ?_) #[true, true, true, true, true, true, false, true, true, false, false, false, false, false, false, false, false, false, false, false, false, false, false, false] rfl rfl (any_of HT_.out (by kernel_rfl)) (fun _ _ _ h => h) (Or.inl ⟨by rfl, ?_⟩) ?_ ?_
  rotate_left
  · intro w'
    go_simp
    with_reducible rfl
  rotate_left
  · simp only [Act.put, List.setIfInBounds_toArray, List.set_cons_zero, List.set_cons_succ, i64_w, i32_w]
    rfl
  refine pure_ (i := 9) (N := some 76) (v := ?_) (a' := ?_) #[true, true, true, true, true, true, false, true, true, true, false, false, false, false, false, false, false, false, false, false, false, false, false, false] rfl rfl (any_of HT_.out (by kernel_rfl)) (fun _ _ _ h => h) (Or.inl ⟨by rfl, ?_⟩) ?_ ?_
  rotate_left
  · intro w'
    go_simp
    with_reducible rfl
  rotate_left
  · simp only [Act.put, List.setIfInBounds_toArray, List.set_cons_zero, List.set_cons_succ, i64_w, i32_w]
    rfl
  refine take_ (i := 6) (N := some 73) (v := ?_) (a' := ?_) #[true, true, true, true, true, true, true, true, true, true, false, false, false, false, false, false, false, false, false, false, false, false, false, false] rfl rfl (take_ofW HT_.out HW_.out (by kernel_rfl)) (fun _ _ _ h => h) (Or.inl ⟨by rfl, ?_⟩) hHeld ?_ ?_
  rotate_left
  · rintro w' ⟨s0, s1, s2⟩
    go_simp
    with_reducible rfl
  rotate_left
  · simp only [Act.put, List.setIfInBounds_toArray, List.set_cons_zero, List.set_cons_succ, i64_w, i32_w]
    rfl
  refine take_ (i := 10) (N := some 77) (v := ?_) (a' := ?_) #[true, true, true, true, true, true, true, true, true, true, true, false, false, false, false, false, false, false, false, false, false, false, false, false] rfl rfl (take_ofW HT_.out HW_.out (by kernel_rfl)) (fun _ _ _ h => h) (Or.inl ⟨by rfl, ?_⟩) hHeld ?_ ?_
  rotate_left
  · rintro w' ⟨s0, s1, s2⟩
    go_simp
    with_reducible rfl
  rotate_left
  · simp only [Act.put, List.setIfInBounds_toArray, List.set_cons_zero, List.set_cons_succ, i64_w, i32_w]
    rfl
  refine pure_ (i := 11) (N := some 78) (v := ?_) (a' := ?_) #[true, true, true, true, true, true, true, true, true, true, true, true, false, false, false, false, false, false, false, false, false, false, false, false] rfl rfl (any_of HT_.out (by kernel_rfl)) (fun _ _ _ h => h) (Or.inl ⟨by rfl, ?_⟩) ?_ ?_
  rotate_left
  · intro w'
    go_simp
    with_reducible rfl
  rotate_left
  · simp only [Act.put, List.setIfInBounds_toArray, List.set_cons_zero, List.set_cons_succ, i64_w, i32_w]
    rfl
  refine pure_ (i := 12) (N := some 79) (v := ?_) (a' := ?_) #[true, true, true, true, true, true, true, true, true, true, true, true, true, false, false, false, false, false, false, false, false, false, false, false] rfl rfl (any_of HT_.out (by kernel_rfl)) (fun _ _ _ h => h) (Or.inl ⟨by rfl, ?_⟩) ?_ ?_
  rotate_left
  · intro w'
    go_simp
    with_reducible rfl
  rotate_left
  · simp only [Act.put, List.setIfInBounds_toArray, List.set_cons_zero, List.set_cons_succ, i64_w, i32_w]
    rfl
  refine pure_ (i := 13) (N := some 80) (v := ?_) (a' := ?_) #[true, true, true, true, true, true, true, true, true, true, true, true, true, true, false, false, false, false, false, false, false, false, false, false] rfl rfl (any_of HT_.out (by kernel_rfl)) (fun _ _ _ h => h) (Or.inl ⟨by rfl, ?_⟩) ?_ ?_
  rotate_left
  · intro w'
    go_simp
    with_reducible rfl
  rotate_left
  · simp only [Act.put, List.setIfInBounds_toArray, List.set_cons_zero, List.set_cons_succ, i64_w, i32_w]
    rfl
  refine pure_ (i := 15) (N := some 82) (v := ?_) (a' := ?_) #[true, true, true, true, true, true, true, true, true, true, true, true, true, true, false, true, false, false, false, false, false, false, false, false] rfl rfl (any_of HT_.out (by kernel_rfl)) (fun _ _ _ h => h) (Or.inl ⟨by rfl, ?_⟩) ?_ ?_
  rotate_left
  · intro w'
    go_simp
    with_reducible rfl
  rotate_left
  · simp only [Act.put, List.setIfInBounds_toArray, List.set_cons_zero, List.set_cons_succ, i64_w, i32_w]
    rfl
  refine pure_ (i := 16) (N := some 83) (v := ?_) (a' := ?_) #[true, true, true, true, true, true, true, true, true, true, true, true, true, true, false, true, true, false, false, false, false, false, false, false] rfl rfl (any_of HT_.out (by kernel_rfl)) (fun _ _ _ h => h) (Or.inl ⟨by rfl, ?_⟩) ?_ ?_
  rotate_left
  · intro w'
    go_simp
    with_reducible rfl
  rotate_left
  · simp only [Act.put, List.setIfInBounds_toArray, List.set_cons_zero, List.set_cons_succ, i64_w, i32_w]
    rfl
  refine pure_ (i := 17) (N := some 84) (v := ?_) (a' := ?_) #[true, true, true, true, true, true, true, true, true, true, true, true, true, true, false, true, true, true, false, false, false, false, false, false] rfl rfl (any_of HT_.out (by kernel_rfl)) (fun _ _ _ h => h) (Or.inl ⟨by rfl, ?_⟩) ?_ ?_
  rotate_left
  · intro w'
    go_simp
    with_reducible rfl
  rotate_left
  · simp only [Act.put, List.setIfInBounds_toArray, List.set_cons_zero, List.set_cons_succ, i64_w, i32_w]
    rfl
  refine take_ (i := 14) (N := some 81) (v := ?_) (a' := ?_) #[true, true, true, true, true, true, true, true, true, true, true, true, true, true, true, true, true, true, false, false, false, false, false, false] rfl rfl (take_ofW HT_.out HW_.out (by kernel_rfl)) (fun _ _ _ h => h) (Or.inl ⟨by rfl, ?_⟩) hHeld ?_ ?_
  rotate_left
  · rintro w' ⟨s0, s1, s2⟩
    go_simp
    with_reducible rfl
  rotate_left
  · simp only [Act.put, List.setIfInBounds_toArray, List.set_cons_zero, List.set_cons_succ, i64_w, i32_w]
    rfl
  refine take_ (i := 18) (N := some 85) (v := ?_) (a' := ?_) #[true, true, true, true, true, true, true, true, true, true, true, true, true, true, true, true, true, true, true, false, false, false, false, false] rfl rfl (take_ofW HT_.out HW_.out (by kernel_rfl)) (fun _ _ _ h => h) (Or.inl ⟨by rfl, ?_⟩) hHeld ?_ ?_
  rotate_left
  · rintro w' ⟨s0, s1, s2⟩
    go_simp
    with_reducible rfl
  rotate_left
  · simp only [Act.put, List.setIfInBounds_toArray, List.set_cons_zero, List.set_cons_succ, i64_w, i32_w]
    rfl
  refine pure_ (i := 19) (N := some 86) (v := ?_) (a' := ?_) #[true, true, true, true, true, true, true, true, true, true, true, true, true, true, true, true, true, true, true, true, false, false, false, false] rfl rfl (any_of HT_.out (by kernel_rfl)) (fun _ _ _ h => h) (Or.inl ⟨by rfl, ?_⟩) ?_ ?_
  rotate_left
  · intro w'
    go_simp
    with_reducible rfl
  rotate_left
  · simp only [Act.put, List.setIfInBounds_toArray, List.set_cons_zero, List.set_cons_succ, i64_w, i32_w]
    rfl
  refine pure_ (i := 20) (N := some 87) (v := ?_) (a' := ?_) #[true, true, true, true, true, true, true, true, true, true, true, true, true, true, true, true, true, true, true, true, true, false, false, false] rfl rfl (any_of HT_.out (by kernel_rfl)) (fun _ _ _ h => h) (Or.inl ⟨by rfl, ?_⟩) ?_ ?_
  rotate_left
  · intro w'
    go_simp
    with_reducible rfl
  rotate_left
  · simp only [Act.put, List.setIfInBounds_toArray, List.set_cons_zero, List.set_cons_succ, i64_w, i32_w]
    rfl
  refine pure_ (i := 21) (N := some 88) (v := ?_) (a' := ?_) #[true, true, true, true, true, true, true, true, true, true, true, true, true, true, true, true, true, true, true, true, true, true, false, false] rfl rfl (any_of HT_.out (by kernel_rfl)) (fun _ _ _ h => h) (Or.inl ⟨by rfl, ?_⟩) ?_ ?_
  rotate_left
  · intro w'
    go_simp
    with_reducible rfl
  rotate_left
  · simp only [Act.put, List.setIfInBounds_toArray, List.set_cons_zero, List.set_cons_succ, i64_w, i32_w]
    rfl
  refine pure_ (i := 22) (N := some 89) (v := ?_) (a' := ?_) #[true, true, true, true, true, true, true, true, true, true, true, true, true, true, true, true, true, true, true, true, true, true, true, false] rfl rfl (any_of HT_.out (by kernel_rfl)) (fun _ _ _ h => h) (Or.inl ⟨by rfl, ?_⟩) ?_ ?_
  rotate_left
  · intro w'
    go_simp
    with_reducible rfl
  rotate_left
  · simp only [Act.put, List.setIfInBounds_toArray, List.set_cons_zero, List.set_cons_succ, i64_w, i32_w]
    rfl
  refine pure_ (i := 23) (N := some 2) (v := ?_) (a' := ?_) #[true, true, true, true, true, true, true, true, true, true, true, true, true, true, true, true, true, true, true, true, true, true, true, true] rfl rfl (any_of HT_.out (by kernel_rfl)) (fun _ _ _ h => h) (Or.inl ⟨by rfl, ?_⟩) ?_ ?_
  rotate_left
  · intro w'
    go_simp
    with_reducible rfl
  rotate_left
  · simp only [Act.put, List.setIfInBounds_toArray, List.set_cons_zero, List.set_cons_succ, i64_w, i32_w]
    rfl
  refine done_ (done_of HT_.out (by kernel_rfl)) ?_
  go_wp2_with fail
  go_ret
  exact ⟨by first | rfl | simp, HB6.out⟩

theorem fnDocFromReader_walk (A : Option Addr) (c : Nat) (L : List UInt8) (w : World) (hs : SB w A c L) (hE : IoErrs w) :
    Calls Tryz.prog 4 #[.slice A L.length c] w fun e w' => e = .returned (.bool true) ∧ Below w.heap.size w w' := by
  by_cases h1 : 2147483647 < L.length
  · exact fr_long A c L w hs hE h1
  by_cases h2 : 5000 < L.length
  · exact fr_mid A c L w hs hE (by omega) h2
  by_cases h3 : 20000 < (numOf L).1
  · exact fr_big A c L w hs hE (by omega) h3
  cases hx : (numOf L).2 with
  | false => exact fr_a A c L w hs hE (by omega) (by omega) hx
  | true =>
    by_cases h5 : (numOf L).1 < 5
    · exact fr_b A c L w hs hE (by omega) (by omega) hx h5
    by_cases h6 : (L.length : Int) < (numOf L).1
    · exact fr_c A c L w hs hE (by omega) (by omega) hx (by omega) h6
    by_cases hz : L[((numOf L).1 - 1).toNat]? = some 0
    · exact fr_e A c L w hs hE (by omega) (by omega) hx (by omega) (by omega) hz
    · exact fr_d A c L w hs hE (by omega) (by omega) hx (by omega) (by omega) hz

end Rd
end Go.Proofs.YtfhbnlbdmfjhlaaGreatDoor.X
