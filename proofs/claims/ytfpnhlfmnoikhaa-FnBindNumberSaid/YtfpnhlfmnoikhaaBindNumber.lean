/- Walk of the law FnBindNumber. -/
import Derived.Test.YtfpnhlfmnoikhaaDoc9
import Derived.Test.YtfpnhlfmnoikhaaOpen
import Derived.Test.YtfpnhlfmnoikhaaBindRaw
import Derived.Test.YtfpnhlfmnoikhaaBindZero
set_option linter.unusedVariables false
set_option linter.unusedSimpArgs false
namespace Go.Proofs.Ytfpnhlfmnoikhaa.X
open Go.RowKit

def isNum (k : Int) : Bool := decide (k = 1 ∨ k = 16 ∨ k = 18 ∨ k = 19)
theorem toCore (k : Int) (A : Option Addr) (n c : Nat) (w : World) :
    Calls Try.prog 53 #[.agg #[.int .u8 k, .slice A n c]] w fun e w' => e = .returned (.agg #[.int .u8 k, .slice A n c]) ∧ Below w.heap.size w w' := by
  go_enter Try.func53, Try.ntmps53
  go_wp2
  exact bodyPost_ret (v := .agg #[.int .u8 k, .slice A n c]) (by simp [results, Try.results53, go_sem]) rfl ⟨rfl, by exact balloc (balloc (Below.refl _ _) (Nat.le_refl _) _) (by simp) _⟩
theorem coreIsNumber (k : Int) (A : Option Addr) (n c : Nat) (w : World) :
    Calls Try.prog 54 #[.agg #[.int .u8 k, .slice A n c]] w fun e w' => e = .returned (.bool (isNum k)) ∧ Below w.heap.size w w' := by
  by_cases h1 : k = 1
  · subst h1
    go_enter Try.func54, Try.ntmps54
    go_wp2
    go_ret
    exact ⟨by simp [isNum], (Below.refl _ _).alloc (Nat.le_refl _) _⟩
  by_cases h16 : k = 16
  · subst h16
    go_enter Try.func54, Try.ntmps54
    go_wp2
    go_ret
    exact ⟨by simp [isNum], (Below.refl _ _).alloc (Nat.le_refl _) _⟩
  by_cases h18 : k = 18
  · subst h18
    go_enter Try.func54, Try.ntmps54
    go_wp2
    go_ret
    exact ⟨by simp [isNum], (Below.refl _ _).alloc (Nat.le_refl _) _⟩
  by_cases h19 : k = 19
  · subst h19
    go_enter Try.func54, Try.ntmps54
    go_wp2
    go_ret
    exact ⟨by simp [isNum], (Below.refl _ _).alloc (Nat.le_refl _) _⟩
  have e1 : (k == 1) = false := by simpa using h1
  have e16 : (k == 16) = false := by simpa using h16
  have e18 : (k == 18) = false := by simpa using h18
  have e19 : (k == 19) = false := by simpa using h19
  go_enter Try.func54, Try.ntmps54
  go_wp2
  go_ret
  exact ⟨by simp [isNum, h1, h16, h18, h19], (Below.refl _ _).alloc (Nat.le_refl _) _⟩
theorem valueIsNumber (k : Int) (A : Option Addr) (n c : Nat) (w : World) :
    Calls Try.prog 34 #[.agg #[.int .u8 k, .slice A n c]] w fun e w' => e = .returned (.bool (isNum k)) ∧ Below w.heap.size w w' := by
  go_enter Try.func34, Try.ntmps34
  go_wp2_with fail
  refine (toCore k A n c _).mono ?_
  rintro e w1 ⟨rfl, hb1⟩
  go_wp2_with fail
  refine (coreIsNumber k A n c _).mono ?_
  rintro e w2 ⟨rfl, hb2⟩
  go_wp2_with fail
  go_ret
  exact ⟨rfl, ((Below.refl _ _).alloc (Nat.le_refl _) _).trans ((hb1.trans (hb2.mono hb1.size)).mono (by simp))⟩
theorem rawIsNumber (k : Int) (A : Option Addr) (n c : Nat) (w : World) :
    Calls Try.prog 13 #[.agg #[.int .i64 k, .slice A n c]] w fun e w' => e = .returned (.bool (isNum (k % 256))) ∧ Below w.heap.size w w' := by
  go_enter Try.func13, Try.ntmps13
  go_wp2_with fail
  refine (some_any k A n c _).mono ?_
  rintro e w1 ⟨rfl, hb1⟩
  go_wp2_with fail
  refine (valueIsNumber (k % 256) A n c _).mono ?_
  rintro e w2 ⟨rfl, hb2⟩
  go_wp2_with fail
  go_ret
  exact ⟨rfl, ((Below.refl _ _).alloc (Nat.le_refl _) _).trans ((hb1.trans (hb2.mono hb1.size)).mono (by simp))⟩

theorem right_known {v : Val} {d : Int} (h : right v d = true) : known v.kind = true := by
  obtain ⟨k, text, more, n, bits, high, b, kids⟩ := v
  simp only [right, Bool.and_eq_true] at h
  exact h.1.1.1

set_option maxHeartbeats 6400000 in
theorem fnBindNumber_walk (v : Val) (cs : List Value) (w : World) (hok : okv v) (hv : RV w v cs) :
    Calls Try.prog 4 #[.agg cs.toArray] w fun e w' => e = .returned (.bool true) ∧ Below w.heap.size w w' := by
  have HV := Lib.hid hv
  obtain ⟨v0, hv00⟩ : ∃ x, x = v := ⟨_, rfl⟩
  rw [← hv00] at HV hok
  obtain ⟨k, text, more, n, bits, high, b, kids⟩ := v
  simp only [RV] at hv
  obtain ⟨A, c, K', d, rfl, hs, hd, hd2, hk⟩ := hv
  have ek : v0.kind = k := by rw [hv00]; rfl
  clear hk hv00 hs
  obtain ⟨cs, hcs⟩ : ∃ x, x = [Value.int .i64 k, .string text, .string more, .int .i64 n, .int .u64 bits, .int .u64 high, .slice A b.length c, .slice K' kids.length d] := ⟨_, rfl⟩
  have HF : Hid (∀ wx : World, Below w.heap.size w wx → ∃ q : Bool, Calls Try.prog 11 #[.agg #[.int .i64 k, .string text, .string more, .int .i64 n, .int .u64 bits, .int .u64 high, .slice A b.length c, .slice K' kids.length d]] wx fun e w' => e = .returned (.bool q) ∧ Below wx.heap.size wx w') := Lib.hid fun wx hb => by
    by_cases h : v0.text.size ≤ 2147483647 ∧ v0.more.size ≤ 2147483647 ∧ v0.b.length ≤ 2147483647 ∧ v0.kids.length ≤ 2147483647
    · exact ⟨true, zzFits1 v0 _ wx (HV.out.keep hb) h⟩
    · exact ⟨false, zzFits1_not v0 _ wx (HV.out.keep hb) h⟩
  have HR : Hid (∀ wx : World, Below w.heap.size w wx → Calls Try.prog 12 #[.agg #[.int .i64 k, .string text, .string more, .int .i64 n, .int .u64 bits, .int .u64 high, .slice A b.length c, .slice K' kids.length d]] wx fun e w' => e = .returned (.bool (fine v0 1000 65536)) ∧ Below wx.heap.size wx w') := Lib.hid fun wx hb => bindRight v0 _ wx hok (HV.out.keep hb)
  have HW : Hid (fine v0 1000 65536 = true → ∀ wx : World, Below w.heap.size w wx → Calls Try.prog 14 #[.agg #[.int .i64 k, .string text, .string more, .int .i64 n, .int .u64 bits, .int .u64 high, .slice A b.length c, .slice K' kids.length d]] wx fun e w' => ∃ A1 m c1, e = .returned (.agg #[.int .i64 k, .slice A1 m c1]) ∧ Below wx.heap.size wx w') := Lib.hid fun hf wx hb => by
    have := fine_value hf (by omega) (by omega) (by omega)
    refine (bindRaw v0 _ wx (by omega) (HV.out.keep hb)).mono ?_
    rintro e w' ⟨A1, c1, rfl, _, hb1⟩
    exact ⟨A1, _, c1, by rw [ek], hb1⟩
  have hkn : fine v0 1000 65536 = true → k % 256 = k := fun hf => by
    have := right_known (fine_len hf (by omega)).2.2
    rw [ek] at this
    simp [known] at this
    omega
  clear HV hok ek hcs
  have hB0 : Below w.heap.size w (w.alloc (.cells #[.int .i64 k, .string text, .string more, .int .i64 n, .int .u64 bits, .int .u64 high, .slice A b.length c, .slice K' kids.length d] 29)) := balloc (Below.refl _ _) (Nat.le_refl _) _
  obtain ⟨q, hq⟩ := HF.out _ hB0
  cases q with
  | false =>
    go_enter Try.func4, Try.ntmps4
    go_wp2_with fail
    refine hq.mono ?_
    rintro e w1 ⟨rfl, hb1⟩
    go_wp2_with fail
    go_ret
    exact ⟨rfl, hB0.trans (hb1.mono (by simp))⟩
  | true =>
    have hstart : Calls Try.prog 4 #[.agg #[.int .i64 k, .string text, .string more, .int .i64 n, .int .u64 bits, .int .u64 high, .slice A b.length c, .slice K' kids.length d]] w fun e w' => e = .returned (.bool true) ∧ Below w.heap.size w w' := by
      obtain ⟨f, hf⟩ : ∃ f, f = fine v0 1000 65536 := ⟨_, rfl⟩
      rw [← hf] at HR HW hkn
      clear hf
      cases f with
      | false =>
        go_enter Try.func4, Try.ntmps4
        go_wp2_with fail
        refine hq.mono ?_
        rintro e w1 ⟨rfl, hb1⟩
        replace hb1 := hb1.mono (B' := w.heap.size + 1) (by simp)
        have hz1 := boxs hb1
        have q0 := boxc hb1 0
        have q1 := boxc hb1 1
        have q2 := boxc hb1 2
        have q3 := boxc hb1 3
        have q4 := boxc hb1 4
        have q5 := boxc hb1 5
        have q6 := boxc hb1 6
        have q7 := boxc hb1 7
        simp only [List.getElem?_cons_succ, List.getElem?_cons_zero] at q0 q1 q2 q3 q4 q5 q6 q7
        go_wp2_with fail
        refine (HR.out w1 (boxb hb1)).mono ?_
        rintro e w2 ⟨rfl, hb2⟩
        go_wp2_with fail
        go_ret
        exact ⟨rfl, boxb (bstep hb1 hz1 hb2)⟩
      | true =>
        have hkk := hkn rfl
        have hfin : ∀ (r : Bool), r = isNum k → True := fun _ _ => trivial
        by_cases h1 : k = 1
        · subst h1
          have hn : isNum 1 = true := by simp [isNum]
          go_enter Try.func4, Try.ntmps4
          go_wp2_with fail
          refine hq.mono ?_
          rintro e w1 ⟨rfl, hb1⟩
          replace hb1 := hb1.mono (B' := w.heap.size + 1) (by simp)
          have hz1 := boxs hb1
          have q0 := boxc hb1 0
          have q1 := boxc hb1 1
          have q2 := boxc hb1 2
          have q3 := boxc hb1 3
          have q4 := boxc hb1 4
          have q5 := boxc hb1 5
          have q6 := boxc hb1 6
          have q7 := boxc hb1 7
          simp only [List.getElem?_cons_succ, List.getElem?_cons_zero] at q0 q1 q2 q3 q4 q5 q6 q7
          go_wp2_with fail
          refine (HR.out w1 (boxb hb1)).mono ?_
          rintro e w2 ⟨rfl, hb2⟩
          replace hb2 := bstep hb1 hz1 hb2
          have hz2 := boxs hb2
          have p0 := boxc hb2 0
          have p1 := boxc hb2 1
          have p2 := boxc hb2 2
          have p3 := boxc hb2 3
          have p4 := boxc hb2 4
          have p5 := boxc hb2 5
          have p6 := boxc hb2 6
          have p7 := boxc hb2 7
          simp only [List.getElem?_cons_succ, List.getElem?_cons_zero] at p0 p1 p2 p3 p4 p5 p6 p7
          go_wp2_with fail
          refine (HW.out (by trivial) w2 (boxb hb2)).mono ?_
          rintro e w3 ⟨A1, m, c1, rfl, hb3⟩
          replace hb3 := bstep hb2 hz2 hb3
          have hz3 := boxs hb3
          go_wp2_with fail
          refine (rawIsNumber _ A1 m c1 w3).mono ?_
          rintro e w4 ⟨rfl, hb4⟩
          go_wp2_with fail
          go_ret
          exact ⟨by simp [hkk, hn], boxb (bstep hb3 hz3 hb4)⟩
        by_cases h16 : k = 16
        · subst h16
          have hn : isNum 16 = true := by simp [isNum]
          go_enter Try.func4, Try.ntmps4
          go_wp2_with fail
          refine hq.mono ?_
          rintro e w1 ⟨rfl, hb1⟩
          replace hb1 := hb1.mono (B' := w.heap.size + 1) (by simp)
          have hz1 := boxs hb1
          have q0 := boxc hb1 0
          have q1 := boxc hb1 1
          have q2 := boxc hb1 2
          have q3 := boxc hb1 3
          have q4 := boxc hb1 4
          have q5 := boxc hb1 5
          have q6 := boxc hb1 6
          have q7 := boxc hb1 7
          simp only [List.getElem?_cons_succ, List.getElem?_cons_zero] at q0 q1 q2 q3 q4 q5 q6 q7
          go_wp2_with fail
          refine (HR.out w1 (boxb hb1)).mono ?_
          rintro e w2 ⟨rfl, hb2⟩
          replace hb2 := bstep hb1 hz1 hb2
          have hz2 := boxs hb2
          have p0 := boxc hb2 0
          have p1 := boxc hb2 1
          have p2 := boxc hb2 2
          have p3 := boxc hb2 3
          have p4 := boxc hb2 4
          have p5 := boxc hb2 5
          have p6 := boxc hb2 6
          have p7 := boxc hb2 7
          simp only [List.getElem?_cons_succ, List.getElem?_cons_zero] at p0 p1 p2 p3 p4 p5 p6 p7
          go_wp2_with fail
          refine (HW.out (by trivial) w2 (boxb hb2)).mono ?_
          rintro e w3 ⟨A1, m, c1, rfl, hb3⟩
          replace hb3 := bstep hb2 hz2 hb3
          have hz3 := boxs hb3
          go_wp2_with fail
          refine (rawIsNumber _ A1 m c1 w3).mono ?_
          rintro e w4 ⟨rfl, hb4⟩
          go_wp2_with fail
          go_ret
          exact ⟨by simp [hkk, hn], boxb (bstep hb3 hz3 hb4)⟩
        by_cases h18 : k = 18
        · subst h18
          have hn : isNum 18 = true := by simp [isNum]
          go_enter Try.func4, Try.ntmps4
          go_wp2_with fail
          refine hq.mono ?_
          rintro e w1 ⟨rfl, hb1⟩
          replace hb1 := hb1.mono (B' := w.heap.size + 1) (by simp)
          have hz1 := boxs hb1
          have q0 := boxc hb1 0
          have q1 := boxc hb1 1
          have q2 := boxc hb1 2
          have q3 := boxc hb1 3
          have q4 := boxc hb1 4
          have q5 := boxc hb1 5
          have q6 := boxc hb1 6
          have q7 := boxc hb1 7
          simp only [List.getElem?_cons_succ, List.getElem?_cons_zero] at q0 q1 q2 q3 q4 q5 q6 q7
          go_wp2_with fail
          refine (HR.out w1 (boxb hb1)).mono ?_
          rintro e w2 ⟨rfl, hb2⟩
          replace hb2 := bstep hb1 hz1 hb2
          have hz2 := boxs hb2
          have p0 := boxc hb2 0
          have p1 := boxc hb2 1
          have p2 := boxc hb2 2
          have p3 := boxc hb2 3
          have p4 := boxc hb2 4
          have p5 := boxc hb2 5
          have p6 := boxc hb2 6
          have p7 := boxc hb2 7
          simp only [List.getElem?_cons_succ, List.getElem?_cons_zero] at p0 p1 p2 p3 p4 p5 p6 p7
          go_wp2_with fail
          refine (HW.out (by trivial) w2 (boxb hb2)).mono ?_
          rintro e w3 ⟨A1, m, c1, rfl, hb3⟩
          replace hb3 := bstep hb2 hz2 hb3
          have hz3 := boxs hb3
          go_wp2_with fail
          refine (rawIsNumber _ A1 m c1 w3).mono ?_
          rintro e w4 ⟨rfl, hb4⟩
          go_wp2_with fail
          go_ret
          exact ⟨by simp [hkk, hn], boxb (bstep hb3 hz3 hb4)⟩
        by_cases h19 : k = 19
        · subst h19
          have hn : isNum 19 = true := by simp [isNum]
          go_enter Try.func4, Try.ntmps4
          go_wp2_with fail
          refine hq.mono ?_
          rintro e w1 ⟨rfl, hb1⟩
          replace hb1 := hb1.mono (B' := w.heap.size + 1) (by simp)
          have hz1 := boxs hb1
          have q0 := boxc hb1 0
          have q1 := boxc hb1 1
          have q2 := boxc hb1 2
          have q3 := boxc hb1 3
          have q4 := boxc hb1 4
          have q5 := boxc hb1 5
          have q6 := boxc hb1 6
          have q7 := boxc hb1 7
          simp only [List.getElem?_cons_succ, List.getElem?_cons_zero] at q0 q1 q2 q3 q4 q5 q6 q7
          go_wp2_with fail
          refine (HR.out w1 (boxb hb1)).mono ?_
          rintro e w2 ⟨rfl, hb2⟩
          replace hb2 := bstep hb1 hz1 hb2
          have hz2 := boxs hb2
          have p0 := boxc hb2 0
          have p1 := boxc hb2 1
          have p2 := boxc hb2 2
          have p3 := boxc hb2 3
          have p4 := boxc hb2 4
          have p5 := boxc hb2 5
          have p6 := boxc hb2 6
          have p7 := boxc hb2 7
          simp only [List.getElem?_cons_succ, List.getElem?_cons_zero] at p0 p1 p2 p3 p4 p5 p6 p7
          go_wp2_with fail
          refine (HW.out (by trivial) w2 (boxb hb2)).mono ?_
          rintro e w3 ⟨A1, m, c1, rfl, hb3⟩
          replace hb3 := bstep hb2 hz2 hb3
          have hz3 := boxs hb3
          go_wp2_with fail
          refine (rawIsNumber _ A1 m c1 w3).mono ?_
          rintro e w4 ⟨rfl, hb4⟩
          go_wp2_with fail
          go_ret
          exact ⟨by simp [hkk, hn], boxb (bstep hb3 hz3 hb4)⟩
        have e1 : (k == 1) = false := by simpa using h1
        have e16 : (k == 16) = false := by simpa using h16
        have e18 : (k == 18) = false := by simpa using h18
        have e19 : (k == 19) = false := by simpa using h19
        have hn : isNum k = false := by simp [isNum, h1, h16, h18, h19]
        go_enter Try.func4, Try.ntmps4
        go_wp2_with fail
        refine hq.mono ?_
        rintro e w1 ⟨rfl, hb1⟩
        replace hb1 := hb1.mono (B' := w.heap.size + 1) (by simp)
        have hz1 := boxs hb1
        have q0 := boxc hb1 0
        have q1 := boxc hb1 1
        have q2 := boxc hb1 2
        have q3 := boxc hb1 3
        have q4 := boxc hb1 4
        have q5 := boxc hb1 5
        have q6 := boxc hb1 6
        have q7 := boxc hb1 7
        simp only [List.getElem?_cons_succ, List.getElem?_cons_zero] at q0 q1 q2 q3 q4 q5 q6 q7
        go_wp2_with fail
        refine (HR.out w1 (boxb hb1)).mono ?_
        rintro e w2 ⟨rfl, hb2⟩
        replace hb2 := bstep hb1 hz1 hb2
        have hz2 := boxs hb2
        have p0 := boxc hb2 0
        have p1 := boxc hb2 1
        have p2 := boxc hb2 2
        have p3 := boxc hb2 3
        have p4 := boxc hb2 4
        have p5 := boxc hb2 5
        have p6 := boxc hb2 6
        have p7 := boxc hb2 7
        simp only [List.getElem?_cons_succ, List.getElem?_cons_zero] at p0 p1 p2 p3 p4 p5 p6 p7
        go_wp2_with fail
        refine (HW.out (by trivial) w2 (boxb hb2)).mono ?_
        rintro e w3 ⟨A1, m, c1, rfl, hb3⟩
        replace hb3 := bstep hb2 hz2 hb3
        have hz3 := boxs hb3
        go_wp2_with fail
        refine (rawIsNumber _ A1 m c1 w3).mono ?_
        rintro e w4 ⟨rfl, hb4⟩
        go_wp2_with fail
        go_ret
        exact ⟨by simp [hkk, hn], boxb (bstep hb3 hz3 hb4)⟩
    exact hstart
end Go.Proofs.Ytfpnhlfmnoikhaa.X
