/- Contracts of bsoncore.ReadLength and valueLength, for all bytes. -/
import Derived.Test.YtohfgfbfohkkkaaGreatDoorReadI32
import Derived.Test.YtohfgfbfohkkkaaGreatDoorBytes
set_option linter.unusedVariables false
set_option linter.unusedSimpArgs false
set_option maxRecDepth 100000
namespace Go.Proofs.YtohfgfbfohkkkaaGreatDoor.X
open Go.RowKit Go.Proofs.YtohfgfbfohkkkaaGreatDoorW.PrintLast

theorem readI32_short (A : Option Addr) (c : Nat) (l : List UInt8) (w : World) (h4 : l.length < 4) :
    Calls Tryz.prog 103 #[.slice A l.length c] w fun e w' => e = .returned (.tuple #[.int .i32 0, .slice A l.length c, .bool false]) ∧ Below w.heap.size w w' := by
  go_enter Tryz.func103, Tryz.ntmps103
  go_wp2
  exact bodyPost_ret (v := .tuple #[.int .i32 0, .slice A l.length c, .bool false]) (by simp [results, Tryz.results103, go_sem]) rfl ⟨rfl, Below.refl _ _⟩
/-- What the first four bytes say of a length. -/
def readLen : List UInt8 → Int × Bool
  | b0 :: b1 :: b2 :: b3 :: _ => (wrap32 (leI [b0, b1, b2, b3]), decide (0 ≤ wrap32 (leI [b0, b1, b2, b3])))
  | _ => (0, false)
theorem wrap32_bd (n : Int) : -2147483648 ≤ wrap32 n ∧ wrap32 n ≤ 2147483647 := by unfold wrap32; omega
theorem readLen_bd (l : List UInt8) : -2147483648 ≤ (readLen l).1 ∧ (readLen l).1 ≤ 2147483647 := by
  unfold readLen
  split
  · exact wrap32_bd _
  · simp
theorem readLen_neg {l : List UInt8} (h : (readLen l).2 = true) : 0 ≤ (readLen l).1 ∧ 4 ≤ l.length := by
  unfold readLen at h ⊢
  split at h
  · simp at h; exact ⟨h, by simp⟩
  · cases h
theorem readLength (A : Option Addr) (c : Nat) (l : List UInt8) (w : World) (hs : SB w A c l) :
    Calls Tryz.prog 43 #[.slice A l.length c] w fun e w' => ∃ A1 n1 c1, e = .returned (.tuple #[.int .i32 (readLen l).1, .slice A1 n1 c1, .bool (readLen l).2]) ∧ (4 ≤ l.length → n1 = l.length - 4 ∧ c1 = c - 4 ∧ SB w' A1 c1 (l.drop 4)) ∧ (l.length < 4 → A1 = A ∧ n1 = l.length ∧ c1 = c) ∧ Below w.heap.size w w' := by
  by_cases h4 : l.length < 4
  · have hr : readLen l = (0, false) := by
      match l, h4 with
      | [], _ | [_], _ | [_, _], _ | [_, _, _], _ => rfl
    rw [hr]
    have HC := Lib.hid (readI32_short A c l w h4)
    have H4 := Lib.hid h4
    clear hs hr h4
    go_enter Tryz.func43, Tryz.ntmps43
    go_wp2_with fail
    refine HC.out.mono ?_
    rintro e w1 ⟨rfl, hb⟩
    go_wp2_with fail
    exact bodyPost_ret (v := .tuple #[.int .i32 0, .slice A l.length c, .bool false]) (by simp [results, Tryz.results43, go_sem]) rfl ⟨A, l.length, c, rfl, fun h => absurd h (by have := H4.out; omega), fun _ => ⟨rfl, rfl, rfl⟩, hb⟩
  · obtain ⟨b0, b1, b2, b3, r, rfl⟩ : ∃ b0 b1 b2 b3 r, l = b0 :: b1 :: b2 :: b3 :: r := by
      match l, h4 with
      | b0 :: b1 :: b2 :: b3 :: r, _ => exact ⟨b0, b1, b2, b3, r, rfl⟩
      | [], h => exact absurd (by simp) h
      | [_], h => exact absurd (by simp) h
      | [_, _], h => exact absurd (by simp) h
      | [_, _, _], h => exact absurd (by simp) h
    clear h4
    · skip
      have hc := readI32 A c b0 b1 b2 b3 r w hs
      have hr : readLen (b0 :: b1 :: b2 :: b3 :: r) = (wrap32 (leI [b0, b1, b2, b3]), decide (0 ≤ wrap32 (leI [b0, b1, b2, b3]))) := rfl
      rw [hr]
      obtain ⟨x, hx⟩ : ∃ x, x = wrap32 (leI [b0, b1, b2, b3]) := ⟨_, rfl⟩
      rw [← hx] at hc ⊢
      obtain ⟨q, hq⟩ : ∃ q, q = (b0 :: b1 :: b2 :: b3 :: r).length := ⟨_, rfl⟩
      have hq4 : r.length = q - 4 := by rw [hq]; simp
      rw [← hq] at hc ⊢
      have HC := Lib.hid hc
      have HQ4 := Lib.hid hq4
      have hge : 4 ≤ q := by rw [hq]; simp
      clear hs hx hc hr hq hq4
      by_cases h0 : x < 0
      all_goals
        go_enter Tryz.func43, Tryz.ntmps43
        go_wp2_with fail
        refine HC.out.mono ?_
        rintro e w1 ⟨A1, rfl, hs1, hb⟩
        have HS1 := Lib.hid hs1
        clear hs1
        go_wp2_with fail
        exact bodyPost_ret (v := .tuple #[.int .i32 x, .slice A1 r.length (c - 4), .bool (decide (0 ≤ x))]) (by simp [results, Tryz.results43, go_sem]; try omega) rfl ⟨A1, r.length, c - 4, rfl, fun _ => ⟨HQ4.out, rfl, HS1.out⟩, fun h => by omega, hb⟩
theorem idx_lt : ∀ (l : List UInt8) (z : UInt8), Lib.indexByte l z < l.length ∨ l = []
  | [], _ => .inr rfl
  | b :: r, z => by
    left
    unfold Lib.indexByte
    split
    · simp <;> omega
    · split
      · simp <;> omega
      · rcases idx_lt r z with h | h
        · simp <;> omega
        · subst h; rename_i h2; simp [Lib.indexByte] at h2
/-- What valueLength says ahead of its last test. -/
def valBase (k : Int) (l : List UInt8) : Int × Bool :=
  if k = 4 ∨ k = 3 ∨ k = 15 then readLen l
  else if k = 5 then (wrap32 ((readLen l).1 + 5), (readLen l).2)
  else if k = 8 then (1, true)
  else if k = 12 then (wrap32 ((readLen l).1 + 16), (readLen l).2)
  else if k = 9 ∨ k = 1 ∨ k = 18 ∨ k = 17 then (8, true)
  else if k = 19 then (16, true)
  else if k = 16 then (4, true)
  else if k = 13 ∨ k = 2 ∨ k = 14 then (wrap32 ((readLen l).1 + 4), (readLen l).2)
  else if k = 127 ∨ k = 255 ∨ k = 10 ∨ k = 6 then (0, true)
  else if k = 7 then (12, true)
  else if k = 11 then (if Lib.indexByte l 0 < 0 then (0, false) else if Lib.indexByte (l.drop (Lib.indexByte l 0 + 1).toNat) 0 < 0 then (0, false) else (wrap32 (Lib.indexByte l 0 + 1 + Lib.indexByte (l.drop (Lib.indexByte l 0 + 1).toNat) 0 + 1), true))
  else (0, false)
/-- How long a value of a kind is that begins some bytes. -/
def valLen (k : Int) (l : List UInt8) : Int × Bool := ((valBase k l).1, (valBase k l).2 && decide (0 ≤ (valBase k l).1))

set_option maxRecDepth 100000 in
set_option maxHeartbeats 16000000 in
theorem valueLength (A : Option Addr) (c : Nat) (l : List UInt8) (k : Int) (w : World) (hs : SB w A c l) :
    Calls Tryz.prog 105 #[.slice A l.length c, .int .u8 k] w fun e w' => e = .returned (.tuple #[.int .i32 (valLen k l).1, .bool (valLen k l).2]) ∧ Below w.heap.size w w' := by
  have HR := Lib.hid (readLength A c l w hs)
  have hbd := readLen_bd l
  have hlc := hs.le
  have hcc := hs.cap
  have HS := Lib.hid hs
  obtain ⟨n, hn⟩ : ∃ n, n = (readLen l).1 := ⟨_, rfl⟩
  obtain ⟨b, hb⟩ : ∃ b, b = (readLen l).2 := ⟨_, rfl⟩
  rw [← hn] at hbd
  rw [← hn, ← hb] at HR
  have HN := Lib.hid hn
  have HB := Lib.hid hb
  clear hs hn hb
  by_cases k4 : k = 4
  · subst k4
    have HV : Hid (valLen 4 l = (n, b && decide (0 ≤ n))) := Lib.hid (by simp [valLen, valBase, HN.out, HB.out])
    by_cases hx : n < 0
    · have hd : decide (n < 0) = true := decide_eq_true hx
      go_enter Tryz.func105, Tryz.ntmps105
      go_wp2_with fail
      refine HR.out.mono ?_
      rintro e w1 ⟨A1, n1, c1, rfl, -, -, hb1⟩
      go_wp2_with fail
      exact bodyPost_ret (v := .tuple #[.int .i32 (n), .bool (false)]) (by simp [results, Tryz.results105, go_sem]) rfl ⟨by rw [HV.out]; simp; omega, hb1⟩
    · have hd : decide (n < 0) = false := decide_eq_false hx
      go_enter Tryz.func105, Tryz.ntmps105
      go_wp2_with fail
      refine HR.out.mono ?_
      rintro e w1 ⟨A1, n1, c1, rfl, -, -, hb1⟩
      go_wp2_with fail
      exact bodyPost_ret (v := .tuple #[.int .i32 (n), .bool (b)]) (by simp [results, Tryz.results105, go_sem]) rfl ⟨by rw [HV.out]; simp; omega, hb1⟩
  by_cases k3 : k = 3
  · subst k3
    clear k4
    have HV : Hid (valLen 3 l = (n, b && decide (0 ≤ n))) := Lib.hid (by simp [valLen, valBase, HN.out, HB.out])
    by_cases hx : n < 0
    · have hd : decide (n < 0) = true := decide_eq_true hx
      go_enter Tryz.func105, Tryz.ntmps105
      go_wp2_with fail
      refine HR.out.mono ?_
      rintro e w1 ⟨A1, n1, c1, rfl, -, -, hb1⟩
      go_wp2_with fail
      exact bodyPost_ret (v := .tuple #[.int .i32 (n), .bool (false)]) (by simp [results, Tryz.results105, go_sem]) rfl ⟨by rw [HV.out]; simp; omega, hb1⟩
    · have hd : decide (n < 0) = false := decide_eq_false hx
      go_enter Tryz.func105, Tryz.ntmps105
      go_wp2_with fail
      refine HR.out.mono ?_
      rintro e w1 ⟨A1, n1, c1, rfl, -, -, hb1⟩
      go_wp2_with fail
      exact bodyPost_ret (v := .tuple #[.int .i32 (n), .bool (b)]) (by simp [results, Tryz.results105, go_sem]) rfl ⟨by rw [HV.out]; simp; omega, hb1⟩
  by_cases k15 : k = 15
  · subst k15
    clear k4 k3
    have HV : Hid (valLen 15 l = (n, b && decide (0 ≤ n))) := Lib.hid (by simp [valLen, valBase, HN.out, HB.out])
    by_cases hx : n < 0
    · have hd : decide (n < 0) = true := decide_eq_true hx
      go_enter Tryz.func105, Tryz.ntmps105
      go_wp2_with fail
      refine HR.out.mono ?_
      rintro e w1 ⟨A1, n1, c1, rfl, -, -, hb1⟩
      go_wp2_with fail
      exact bodyPost_ret (v := .tuple #[.int .i32 (n), .bool (false)]) (by simp [results, Tryz.results105, go_sem]) rfl ⟨by rw [HV.out]; simp; omega, hb1⟩
    · have hd : decide (n < 0) = false := decide_eq_false hx
      go_enter Tryz.func105, Tryz.ntmps105
      go_wp2_with fail
      refine HR.out.mono ?_
      rintro e w1 ⟨A1, n1, c1, rfl, -, -, hb1⟩
      go_wp2_with fail
      exact bodyPost_ret (v := .tuple #[.int .i32 (n), .bool (b)]) (by simp [results, Tryz.results105, go_sem]) rfl ⟨by rw [HV.out]; simp; omega, hb1⟩
  by_cases k5 : k = 5
  · subst k5
    clear k4 k3 k15
    have HV : Hid (valLen 5 l = (wrap32 (n + 5), b && decide (0 ≤ wrap32 (n + 5)))) := Lib.hid (by simp [valLen, valBase, HN.out, HB.out])
    by_cases hx : wrap32 (n + 5) < 0
    · have hd : decide (wrap32 (n + 5) < 0) = true := decide_eq_true hx
      go_enter Tryz.func105, Tryz.ntmps105
      go_wp2_with fail
      refine HR.out.mono ?_
      rintro e w1 ⟨A1, n1, c1, rfl, -, -, hb1⟩
      go_wp2_with fail
      exact bodyPost_ret (v := .tuple #[.int .i32 (wrap32 (n + 5)), .bool (false)]) (by simp [results, Tryz.results105, go_sem]) rfl ⟨by rw [HV.out]; simp; omega, hb1⟩
    · have hd : decide (wrap32 (n + 5) < 0) = false := decide_eq_false hx
      go_enter Tryz.func105, Tryz.ntmps105
      go_wp2_with fail
      refine HR.out.mono ?_
      rintro e w1 ⟨A1, n1, c1, rfl, -, -, hb1⟩
      go_wp2_with fail
      exact bodyPost_ret (v := .tuple #[.int .i32 (wrap32 (n + 5)), .bool (b)]) (by simp [results, Tryz.results105, go_sem]) rfl ⟨by rw [HV.out]; simp; omega, hb1⟩
  by_cases k8 : k = 8
  · subst k8
    clear k4 k3 k15 k5
    have HV : Hid (valLen 8 l = (1, true)) := Lib.hid (by simp [valLen, valBase])
    go_enter Tryz.func105, Tryz.ntmps105
    go_wp2_with fail
    exact bodyPost_ret (v := .tuple #[.int .i32 (1), .bool (true)]) (by simp [results, Tryz.results105, go_sem]; try omega) rfl ⟨by rw [HV.out], Below.refl _ _⟩
  by_cases k12 : k = 12
  · subst k12
    clear k4 k3 k15 k5 k8
    have HV : Hid (valLen 12 l = (wrap32 (n + 16), b && decide (0 ≤ wrap32 (n + 16)))) := Lib.hid (by simp [valLen, valBase, HN.out, HB.out])
    by_cases hx : wrap32 (n + 16) < 0
    · have hd : decide (wrap32 (n + 16) < 0) = true := decide_eq_true hx
      go_enter Tryz.func105, Tryz.ntmps105
      go_wp2_with fail
      refine HR.out.mono ?_
      rintro e w1 ⟨A1, n1, c1, rfl, -, -, hb1⟩
      go_wp2_with fail
      exact bodyPost_ret (v := .tuple #[.int .i32 (wrap32 (n + 16)), .bool (false)]) (by simp [results, Tryz.results105, go_sem]) rfl ⟨by rw [HV.out]; simp; omega, hb1⟩
    · have hd : decide (wrap32 (n + 16) < 0) = false := decide_eq_false hx
      go_enter Tryz.func105, Tryz.ntmps105
      go_wp2_with fail
      refine HR.out.mono ?_
      rintro e w1 ⟨A1, n1, c1, rfl, -, -, hb1⟩
      go_wp2_with fail
      exact bodyPost_ret (v := .tuple #[.int .i32 (wrap32 (n + 16)), .bool (b)]) (by simp [results, Tryz.results105, go_sem]) rfl ⟨by rw [HV.out]; simp; omega, hb1⟩
  by_cases k9 : k = 9
  · subst k9
    clear k4 k3 k15 k5 k8 k12
    have HV : Hid (valLen 9 l = (8, true)) := Lib.hid (by simp [valLen, valBase])
    go_enter Tryz.func105, Tryz.ntmps105
    go_wp2_with fail
    exact bodyPost_ret (v := .tuple #[.int .i32 (8), .bool (true)]) (by simp [results, Tryz.results105, go_sem]; try omega) rfl ⟨by rw [HV.out], Below.refl _ _⟩
  by_cases k1 : k = 1
  · subst k1
    clear k4 k3 k15 k5 k8 k12 k9
    have HV : Hid (valLen 1 l = (8, true)) := Lib.hid (by simp [valLen, valBase])
    go_enter Tryz.func105, Tryz.ntmps105
    go_wp2_with fail
    exact bodyPost_ret (v := .tuple #[.int .i32 (8), .bool (true)]) (by simp [results, Tryz.results105, go_sem]; try omega) rfl ⟨by rw [HV.out], Below.refl _ _⟩
  by_cases k18 : k = 18
  · subst k18
    clear k4 k3 k15 k5 k8 k12 k9 k1
    have HV : Hid (valLen 18 l = (8, true)) := Lib.hid (by simp [valLen, valBase])
    go_enter Tryz.func105, Tryz.ntmps105
    go_wp2_with fail
    exact bodyPost_ret (v := .tuple #[.int .i32 (8), .bool (true)]) (by simp [results, Tryz.results105, go_sem]; try omega) rfl ⟨by rw [HV.out], Below.refl _ _⟩
  by_cases k17 : k = 17
  · subst k17
    clear k4 k3 k15 k5 k8 k12 k9 k1 k18
    have HV : Hid (valLen 17 l = (8, true)) := Lib.hid (by simp [valLen, valBase])
    go_enter Tryz.func105, Tryz.ntmps105
    go_wp2_with fail
    exact bodyPost_ret (v := .tuple #[.int .i32 (8), .bool (true)]) (by simp [results, Tryz.results105, go_sem]; try omega) rfl ⟨by rw [HV.out], Below.refl _ _⟩
  by_cases k19 : k = 19
  · subst k19
    clear k4 k3 k15 k5 k8 k12 k9 k1 k18 k17
    have HV : Hid (valLen 19 l = (16, true)) := Lib.hid (by simp [valLen, valBase])
    go_enter Tryz.func105, Tryz.ntmps105
    go_wp2_with fail
    exact bodyPost_ret (v := .tuple #[.int .i32 (16), .bool (true)]) (by simp [results, Tryz.results105, go_sem]; try omega) rfl ⟨by rw [HV.out], Below.refl _ _⟩
  by_cases k16 : k = 16
  · subst k16
    clear k4 k3 k15 k5 k8 k12 k9 k1 k18 k17 k19
    have HV : Hid (valLen 16 l = (4, true)) := Lib.hid (by simp [valLen, valBase])
    go_enter Tryz.func105, Tryz.ntmps105
    go_wp2_with fail
    exact bodyPost_ret (v := .tuple #[.int .i32 (4), .bool (true)]) (by simp [results, Tryz.results105, go_sem]; try omega) rfl ⟨by rw [HV.out], Below.refl _ _⟩
  by_cases k13 : k = 13
  · subst k13
    clear k4 k3 k15 k5 k8 k12 k9 k1 k18 k17 k19 k16
    have HV : Hid (valLen 13 l = (wrap32 (n + 4), b && decide (0 ≤ wrap32 (n + 4)))) := Lib.hid (by simp [valLen, valBase, HN.out, HB.out])
    by_cases hx : wrap32 (n + 4) < 0
    · have hd : decide (wrap32 (n + 4) < 0) = true := decide_eq_true hx
      go_enter Tryz.func105, Tryz.ntmps105
      go_wp2_with fail
      refine HR.out.mono ?_
      rintro e w1 ⟨A1, n1, c1, rfl, -, -, hb1⟩
      go_wp2_with fail
      exact bodyPost_ret (v := .tuple #[.int .i32 (wrap32 (n + 4)), .bool (false)]) (by simp [results, Tryz.results105, go_sem]) rfl ⟨by rw [HV.out]; simp; omega, hb1⟩
    · have hd : decide (wrap32 (n + 4) < 0) = false := decide_eq_false hx
      go_enter Tryz.func105, Tryz.ntmps105
      go_wp2_with fail
      refine HR.out.mono ?_
      rintro e w1 ⟨A1, n1, c1, rfl, -, -, hb1⟩
      go_wp2_with fail
      exact bodyPost_ret (v := .tuple #[.int .i32 (wrap32 (n + 4)), .bool (b)]) (by simp [results, Tryz.results105, go_sem]) rfl ⟨by rw [HV.out]; simp; omega, hb1⟩
  by_cases k2 : k = 2
  · subst k2
    clear k4 k3 k15 k5 k8 k12 k9 k1 k18 k17 k19 k16 k13
    have HV : Hid (valLen 2 l = (wrap32 (n + 4), b && decide (0 ≤ wrap32 (n + 4)))) := Lib.hid (by simp [valLen, valBase, HN.out, HB.out])
    by_cases hx : wrap32 (n + 4) < 0
    · have hd : decide (wrap32 (n + 4) < 0) = true := decide_eq_true hx
      go_enter Tryz.func105, Tryz.ntmps105
      go_wp2_with fail
      refine HR.out.mono ?_
      rintro e w1 ⟨A1, n1, c1, rfl, -, -, hb1⟩
      go_wp2_with fail
      exact bodyPost_ret (v := .tuple #[.int .i32 (wrap32 (n + 4)), .bool (false)]) (by simp [results, Tryz.results105, go_sem]) rfl ⟨by rw [HV.out]; simp; omega, hb1⟩
    · have hd : decide (wrap32 (n + 4) < 0) = false := decide_eq_false hx
      go_enter Tryz.func105, Tryz.ntmps105
      go_wp2_with fail
      refine HR.out.mono ?_
      rintro e w1 ⟨A1, n1, c1, rfl, -, -, hb1⟩
      go_wp2_with fail
      exact bodyPost_ret (v := .tuple #[.int .i32 (wrap32 (n + 4)), .bool (b)]) (by simp [results, Tryz.results105, go_sem]) rfl ⟨by rw [HV.out]; simp; omega, hb1⟩
  by_cases k14 : k = 14
  · subst k14
    clear k4 k3 k15 k5 k8 k12 k9 k1 k18 k17 k19 k16 k13 k2
    have HV : Hid (valLen 14 l = (wrap32 (n + 4), b && decide (0 ≤ wrap32 (n + 4)))) := Lib.hid (by simp [valLen, valBase, HN.out, HB.out])
    by_cases hx : wrap32 (n + 4) < 0
    · have hd : decide (wrap32 (n + 4) < 0) = true := decide_eq_true hx
      go_enter Tryz.func105, Tryz.ntmps105
      go_wp2_with fail
      refine HR.out.mono ?_
      rintro e w1 ⟨A1, n1, c1, rfl, -, -, hb1⟩
      go_wp2_with fail
      exact bodyPost_ret (v := .tuple #[.int .i32 (wrap32 (n + 4)), .bool (false)]) (by simp [results, Tryz.results105, go_sem]) rfl ⟨by rw [HV.out]; simp; omega, hb1⟩
    · have hd : decide (wrap32 (n + 4) < 0) = false := decide_eq_false hx
      go_enter Tryz.func105, Tryz.ntmps105
      go_wp2_with fail
      refine HR.out.mono ?_
      rintro e w1 ⟨A1, n1, c1, rfl, -, -, hb1⟩
      go_wp2_with fail
      exact bodyPost_ret (v := .tuple #[.int .i32 (wrap32 (n + 4)), .bool (b)]) (by simp [results, Tryz.results105, go_sem]) rfl ⟨by rw [HV.out]; simp; omega, hb1⟩
  by_cases k127 : k = 127
  · subst k127
    clear k4 k3 k15 k5 k8 k12 k9 k1 k18 k17 k19 k16 k13 k2 k14
    have HV : Hid (valLen 127 l = (0, true)) := Lib.hid (by simp [valLen, valBase])
    go_enter Tryz.func105, Tryz.ntmps105
    go_wp2_with fail
    exact bodyPost_ret (v := .tuple #[.int .i32 (0), .bool (true)]) (by simp [results, Tryz.results105, go_sem]; try omega) rfl ⟨by rw [HV.out], Below.refl _ _⟩
  by_cases k255 : k = 255
  · subst k255
    clear k4 k3 k15 k5 k8 k12 k9 k1 k18 k17 k19 k16 k13 k2 k14 k127
    have HV : Hid (valLen 255 l = (0, true)) := Lib.hid (by simp [valLen, valBase])
    go_enter Tryz.func105, Tryz.ntmps105
    go_wp2_with fail
    exact bodyPost_ret (v := .tuple #[.int .i32 (0), .bool (true)]) (by simp [results, Tryz.results105, go_sem]; try omega) rfl ⟨by rw [HV.out], Below.refl _ _⟩
  by_cases k10 : k = 10
  · subst k10
    clear k4 k3 k15 k5 k8 k12 k9 k1 k18 k17 k19 k16 k13 k2 k14 k127 k255
    have HV : Hid (valLen 10 l = (0, true)) := Lib.hid (by simp [valLen, valBase])
    go_enter Tryz.func105, Tryz.ntmps105
    go_wp2_with fail
    exact bodyPost_ret (v := .tuple #[.int .i32 (0), .bool (true)]) (by simp [results, Tryz.results105, go_sem]; try omega) rfl ⟨by rw [HV.out], Below.refl _ _⟩
  by_cases k6 : k = 6
  · subst k6
    clear k4 k3 k15 k5 k8 k12 k9 k1 k18 k17 k19 k16 k13 k2 k14 k127 k255 k10
    have HV : Hid (valLen 6 l = (0, true)) := Lib.hid (by simp [valLen, valBase])
    go_enter Tryz.func105, Tryz.ntmps105
    go_wp2_with fail
    exact bodyPost_ret (v := .tuple #[.int .i32 (0), .bool (true)]) (by simp [results, Tryz.results105, go_sem]; try omega) rfl ⟨by rw [HV.out], Below.refl _ _⟩
  by_cases k7 : k = 7
  · subst k7
    clear k4 k3 k15 k5 k8 k12 k9 k1 k18 k17 k19 k16 k13 k2 k14 k127 k255 k10 k6
    have HV : Hid (valLen 7 l = (12, true)) := Lib.hid (by simp [valLen, valBase])
    go_enter Tryz.func105, Tryz.ntmps105
    go_wp2_with fail
    exact bodyPost_ret (v := .tuple #[.int .i32 (12), .bool (true)]) (by simp [results, Tryz.results105, go_sem]; try omega) rfl ⟨by rw [HV.out], Below.refl _ _⟩
  by_cases k11 : k = 11
  · subst k11
    clear k4 k3 k15 k5 k8 k12 k9 k1 k18 k17 k19 k16 k13 k2 k14 k127 k255 k10 k6 k7
    have hi0 := Lib.indexByte_ge l 0
    have hi1 : Lib.indexByte l 0 < l.length ∨ Lib.indexByte l 0 = -1 := (idx_lt l 0).imp_right (fun h => by subst h; rfl)
    have HI := Lib.hid (fun wx (h : Below w.heap.size w wx) => bytesIndexByte A c l 0 wx (HS.out.keep h))
    rw [show (0 : Int).toNat.toUInt8 = 0 from rfl] at HI
    obtain ⟨i, hi⟩ : ∃ i, i = Lib.indexByte l 0 := ⟨_, rfl⟩
    rw [← hi] at HI hi1 hi0
    by_cases hneg : i < 0
    · have HV : Hid (valLen 11 l = (0, false)) := Lib.hid (by simp [valLen, valBase, ← hi, hneg])
      clear hi HN HB HR HS
      go_enter Tryz.func105, Tryz.ntmps105
      go_wp2_with fail
      refine (HI.out _ (Below.refl _ _)).mono ?_
      rintro e w1 ⟨rfl, rfl⟩
      go_wp2_with fail
      exact bodyPost_ret (v := .tuple #[.int .i32 0, .bool false]) (by simp [results, Tryz.results105, go_sem]) rfl ⟨by rw [HV.out], Below.refl _ _⟩
    obtain ⟨m, rfl⟩ : ∃ m : Nat, i = m := ⟨i.toNat, by omega⟩
    have hml : m + 1 ≤ l.length := by omega
    obtain ⟨A2, e2, s2⟩ := SB.from_ (P := Tryz.prog) Tryz.underlying22 rfl rfl .i64 A c l (m + 1) hml hlc
    have e2' : ∀ W : World, (Instr.slice 22 (.slice A l.length c) (some (.int .i64 ((m : Int) + 1))) none none).run Tryz.prog W = .ok (.slice A2 (l.length - (m + 1)) (c - (m + 1))) W := fun W => by have h := e2 W; rw [show ((m + 1 : Nat) : Int) = (m : Int) + 1 from by omega] at h; exact h
    have hj0 := Lib.indexByte_ge (l.drop (m + 1)) 0
    have hj1 : Lib.indexByte (l.drop (m + 1)) 0 < (l.drop (m + 1)).length ∨ Lib.indexByte (l.drop (m + 1)) 0 = -1 := (idx_lt (l.drop (m + 1)) 0).imp_right (fun h => by rw [h]; rfl)
    have HJ := Lib.hid (fun wx (h : Below w.heap.size w wx) => bytesIndexByte A2 (c - (m + 1)) (l.drop (m + 1)) 0 wx (s2 wx (HS.out.keep h)))
    rw [show (0 : Int).toNat.toUInt8 = 0 from rfl, List.length_drop] at HJ
    rw [List.length_drop] at hj1
    obtain ⟨j, hj⟩ : ∃ j, j = Lib.indexByte (l.drop (m + 1)) 0 := ⟨_, rfl⟩
    rw [← hj] at HJ hj1 hj0
    obtain ⟨q, hq⟩ : ∃ q, q = l.length := ⟨_, rfl⟩
    have hm2 : ((m : Int) + 1).toNat = m + 1 := by omega
    have hv2 : valLen 11 l = if j < 0 then (0, false) else (wrap32 ((m : Int) + 1 + j + 1), decide (0 ≤ wrap32 ((m : Int) + 1 + j + 1))) := by
      simp only [valLen, valBase, ← hi]
      rw [if_neg (by omega), if_neg (by omega), if_neg (by omega), if_neg (by omega), if_neg (by omega), if_neg (by omega), if_neg (by omega), if_neg (by omega), if_neg (by omega), if_neg (by omega)]
      simp only [if_true]
      rw [if_neg hneg, hm2, ← hj]
      split <;> simp
    rw [← hq] at HI HJ e2' hml hlc hj1 hi1 ⊢
    clear e2 s2 hi hj hq HN HB HR HS hm2
    by_cases hjn : j < 0
    · rw [if_pos hjn] at hv2
      have HV := Lib.hid hv2
      clear hv2
      go_enter Tryz.func105, Tryz.ntmps105
      go_wp2_with fail
      refine (HI.out _ (Below.refl _ _)).mono ?_
      rintro e w1 ⟨rfl, rfl⟩
      go_wp2_with fail
      refine (HJ.out _ (Below.refl _ _)).mono ?_
      rintro e w1 ⟨rfl, rfl⟩
      go_wp2_with fail
      exact bodyPost_ret (v := .tuple #[.int .i32 0, .bool false]) (by simp [results, Tryz.results105, go_sem]) rfl ⟨by rw [HV.out], Below.refl _ _⟩
    rw [if_neg hjn] at hv2
    have HV := Lib.hid hv2
    clear hv2
    by_cases hx : wrap32 ((m : Int) + 1 + j + 1) < 0
    all_goals
      have hd : decide (wrap32 ((m : Int) + 1 + j + 1) < 0) = decide (wrap32 ((m : Int) + 1 + j + 1) < 0) := rfl
      go_enter Tryz.func105, Tryz.ntmps105
      go_wp2_with fail
      refine (HI.out _ (Below.refl _ _)).mono ?_
      rintro e w1 ⟨rfl, rfl⟩
      go_wp2_with fail
      refine (HJ.out _ (Below.refl _ _)).mono ?_
      rintro e w1 ⟨rfl, rfl⟩
      go_wp2_with fail
      exact bodyPost_ret (v := .tuple #[.int .i32 (wrap32 ((m : Int) + 1 + j + 1)), .bool (decide (0 ≤ wrap32 ((m : Int) + 1 + j + 1)))]) (by simp [results, Tryz.results105, go_sem]; try omega) rfl ⟨by rw [HV.out], Below.refl _ _⟩
  have hne : (k == 4) = false ∧ (k == 3) = false ∧ (k == 15) = false ∧ (k == 5) = false ∧ (k == 8) = false ∧ (k == 12) = false ∧ (k == 9) = false ∧ (k == 1) = false ∧ (k == 18) = false ∧ (k == 17) = false ∧ (k == 19) = false ∧ (k == 16) = false ∧ (k == 13) = false ∧ (k == 2) = false ∧ (k == 14) = false ∧ (k == 127) = false ∧ (k == 255) = false ∧ (k == 10) = false ∧ (k == 6) = false ∧ (k == 7) = false ∧ (k == 11) = false := by simp only [beq_eq_false_iff_ne, ne_eq]; exact ⟨k4, k3, k15, k5, k8, k12, k9, k1, k18, k17, k19, k16, k13, k2, k14, k127, k255, k10, k6, k7, k11⟩
  obtain ⟨e4, e3, e15, e5, e8, e12, e9, e1, e18, e17, e19, e16, e13, e2, e14, e127, e255, e10, e6, e7, e11⟩ := hne
  have HV : Hid (valLen k l = (0, false)) := Lib.hid (by simp [valLen, valBase, k4, k3, k15, k5, k8, k12, k9, k1, k18, k17, k19, k16, k13, k2, k14, k127, k255, k10, k6, k7, k11])
  clear k4 k3 k15 k5 k8 k12 k9 k1 k18 k17 k19 k16 k13 k2 k14 k127 k255 k10 k6 k7 k11
  go_enter Tryz.func105, Tryz.ntmps105
  go_wp2_with fail
  exact bodyPost_ret (v := .tuple #[.int .i32 (0), .bool (false)]) (by simp [results, Tryz.results105, go_sem]; try omega) rfl ⟨by rw [HV.out], Below.refl _ _⟩
end Go.Proofs.YtohfgfbfohkkkaaGreatDoor.X
