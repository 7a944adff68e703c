/- Put together: LkP, LkD, LkR, LkE, LkF, LkS, LkT. -/
import Derived.Test.YtbpopaegfhcdpaaGreatDoorParts2
import Derived.Test.YtbpopaegfhcdpaaGreatDoorRb2
import Derived.Test.YtbpopaegfhcdpaaGreatDoorGen
import Derived.Test.YtbpopaegfhcdpaaGreatDoorLookup
import Derived.Test.YtbpopaegfhcdpaaGreatDoorIs
import Derived.Test.YtbpopaegfhcdpaaGreatDoorChk
import Derived.Test.YtbpopaegfhcdpaaGreatDoorOpenT
import Derived.Test.YtbpopaegfhcdpaaGreatDoorWLast
import Derived.Test.YtbpopaegfhcdpaaGreatDoorWTab
/- A look-up along names in any bytes: plain law; spec.DocParts in full. -/
set_option linter.unusedVariables false
set_option linter.unusedSimpArgs false
set_option maxRecDepth 100000
namespace Go.Proofs.YtbpopaegfhcdpaaGreatDoor.X
open Go.RowKit Go.Proofs.YtbpopaegfhcdpaaGreatDoorW.PrintLast
namespace Ck
open Sp Al Av Aw
/-- The elements of some bytes as a document, and whether all can be read. -/
def partsOf (l : List UInt8) : List Pt × Bool :=
  if (numOf l).2 = true ∧ 0 ≤ (numOf l).1 then ((pts (l.length + 1) ((numOf l).1 - 4) (l.drop 4)).1, (pts (l.length + 1) ((numOf l).1 - 4) (l.drop 4)).2.2) else ([], false)
/-- What a name leads to: nothing, what cannot be read, a value. -/
inductive Out where
  | no : Out
  | bad : Out
  | hit (t : UInt8) (v : List UInt8) : Out
def outP : List Pt → Bool → List UInt8 → Out
  | [], ok, s => if ok = true then .no else .bad
  | p :: r, ok, s => if p.2.1 = s then .hit p.1 p.2.2 else outP r ok s
def outOf (l s : List UInt8) : Out := outP (partsOf l).1 (partsOf l).2 s
/-- The kind and the bytes to which names lead, and the code. -/
def seek : List ByteArray → List UInt8 → Int × List UInt8 × Int
  | [], _ => (0, [], 8)
  | s :: r, l => match outOf l s.toList with
    | .no => (0, [], 7)
    | .bad => (0, [], 1)
    | .hit t v => if valIs (t.toNat : Int) v = true then (if r.length = 0 then ((t.toNat : Int), v, 0) else if t = 3 ∨ t = 4 then seek r v else (0, [], 10)) else (0, [], 1)
/-- Whether names lead through what says that it has less than four bytes. -/
def narrow : List ByteArray → List UInt8 → Bool
  | [], _ => false
  | s :: r, l => if r.length = 0 then false else match outOf l s.toList with
    | .no => false
    | .bad => false
    | .hit t v => if valIs (t.toNat : Int) v = true then (if t = 3 ∨ t = 4 then narrow r v else false) else true
theorem seek_no {s : ByteArray} {r : List ByteArray} {l : List UInt8} (h : outOf l s.toList = .no) : seek (s :: r) l = (0, [], 7) := by simp only [seek, h]
theorem seek_bad {s : ByteArray} {r : List ByteArray} {l : List UInt8} (h : outOf l s.toList = .bad) : seek (s :: r) l = (0, [], 1) := by simp only [seek, h]
theorem seek_cut {s : ByteArray} {r : List ByteArray} {l v : List UInt8} {t : UInt8} (h : outOf l s.toList = .hit t v) (hv : ¬ valIs (t.toNat : Int) v = true) : seek (s :: r) l = (0, [], 1) := by simp only [seek, h, if_neg hv]
theorem seek_one {s : ByteArray} {l v : List UInt8} {t : UInt8} (h : outOf l s.toList = .hit t v) (hv : valIs (t.toNat : Int) v = true) : seek [s] l = ((t.toNat : Int), v, 0) := by simp only [seek, h, if_pos hv, List.length_nil, if_true]
theorem seek_in {s s2 : ByteArray} {r : List ByteArray} {l v : List UInt8} {t : UInt8} (h : outOf l s.toList = .hit t v) (hv : valIs (t.toNat : Int) v = true) (ht : t = 3 ∨ t = 4) : seek (s :: s2 :: r) l = seek (s2 :: r) v := by
  rw [seek, h]
  simp only [if_pos hv, List.length_cons, if_pos ht]
  rw [if_neg (by omega)]
theorem seek_out {s s2 : ByteArray} {r : List ByteArray} {l v : List UInt8} {t : UInt8} (h : outOf l s.toList = .hit t v) (hv : valIs (t.toNat : Int) v = true) (ht : ¬ (t = 3 ∨ t = 4)) : seek (s :: s2 :: r) l = (0, [], 10) := by
  rw [seek, h]
  simp only [if_pos hv, List.length_cons, if_neg ht]
  rw [if_neg (by omega)]
theorem narrow_hit {s s2 : ByteArray} {r : List ByteArray} {l v : List UInt8} {t : UInt8} (h : outOf l s.toList = .hit t v) (hn : narrow (s :: s2 :: r) l = false) : valIs (t.toNat : Int) v = true ∧ (t = 3 ∨ t = 4 → narrow (s2 :: r) v = false) := by
  rw [narrow, h, if_neg (by simp)] at hn
  by_cases hv : valIs (t.toNat : Int) v = true
  · refine ⟨hv, fun ht => ?_⟩
    simp only [if_pos hv, if_pos ht] at hn
    exact hn
  · simp only [if_neg hv] at hn
    cases hn
/-- Where there is a code, there is no value. -/
theorem seek_nz : ∀ (ks : List ByteArray) (l : List UInt8), (seek ks l).2.2 ≠ 0 → (seek ks l).1 = 0 ∧ (seek ks l).2.1 = []
  | [], l, _ => ⟨rfl, rfl⟩
  | s :: r, l, h => by
    cases ho : outOf l s.toList with
    | no => rw [seek_no ho]; exact ⟨rfl, rfl⟩
    | bad => rw [seek_bad ho]; exact ⟨rfl, rfl⟩
    | hit t v =>
      by_cases hv : valIs (t.toNat : Int) v = true
      · match r with
        | [] => rw [seek_one ho hv] at h; exact absurd rfl h
        | s2 :: r2 =>
          by_cases ht : t = 3 ∨ t = 4
          · rw [seek_in ho hv ht] at h ⊢
            exact seek_nz (s2 :: r2) v h
          · rw [seek_out ho hv ht]; exact ⟨rfl, rfl⟩
      · rw [seek_cut ho hv]; exact ⟨rfl, rfl⟩
theorem outP_nil (ok : Bool) (s : List UInt8) : outP [] ok s = if ok = true then .no else .bad := rfl
theorem outP_other {p : Pt} {r : List Pt} {ok : Bool} {s : List UInt8} (h : ¬ p.2.1 = s) : outP (p :: r) ok s = outP r ok s := by rw [outP, if_neg h]
theorem outP_hit {p : Pt} {r : List Pt} {ok : Bool} {s : List UInt8} (h : p.2.1 = s) : outP (p :: r) ok s = .hit p.1 p.2.2 := by rw [outP, if_pos h]
/-- The element that begins some bytes: its value is one just if it has as many bytes as it says. -/
theorem first_parts (rem : List UInt8) (k : Nat) (h : firstN rem = some k) : ∃ t nm v, rem.take k = t :: (nm ++ 0 :: v) ∧ plainB nm = true ∧ 2 ≤ k ∧ k ≤ rem.length ∧ ((rem.headD 0, elName rem, (rem.take k).drop (elName rem).length.succ.succ) : Pt) = (t, nm, v) ∧ (valIs (t.toNat : Int) v = true → valLen (t.toNat : Int) v = ((v.length : Int), true)) := by
  obtain ⟨t, nm, v, h1, h2, h3⟩ := first_split rem k h
  obtain ⟨k2, kq⟩ := first_bd rem k h
  have hhd : rem.headD 0 = t := by
    cases rem with
    | nil => simp at h1
    | cons x r =>
      cases k with
      | zero => simp at h1
      | succ k => rw [List.take_succ_cons] at h1; exact (List.cons.inj h1).1
  have hv : (rem.take k).drop (elName rem).length.succ.succ = v := by
    rw [h1, h3, List.drop_succ_cons, List.drop_append, List.drop_of_length_le (by omega), show nm.length.succ - nm.length = 1 from by omega]
    rfl
  refine ⟨t, nm, v, h1, h2, k2, kq, by rw [hhd, hv, h3], fun hvi => ?_⟩
  have hc : elemCode (rem.take k) = 0 := by
    have hi : Lib.indexByte (nm ++ 0 :: v) ((0 : Int).toNat.toUInt8) = nm.length := index_plain nm v h2
    rw [h1]
    unfold elemCode
    rw [if_pos (by simp)]
    have e1 : (t :: (nm ++ 0 :: v)).drop 1 = nm ++ 0 :: v := rfl
    rw [e1, hi, if_pos (by omega)]
    have e2 : ((nm.length : Int) + 2).toNat = nm.length + 1 + 1 := by omega
    have e3 : (t :: (nm ++ 0 :: v)).drop ((nm.length : Int) + 2).toNat = v := by
      rw [e2, List.drop_succ_cons, List.drop_append, List.drop_of_length_le (by omega), show nm.length + 1 - nm.length = 1 from by omega]
      rfl
    rw [e3]
    show (if valIs (t.toNat : Int) v = true then (0 : Int) else 1) = 0
    rw [if_pos hvi]
  obtain ⟨⟨t', nm', v', he⟩, -, -⟩ := first_full rem k h hc
  have hq := he.eq
  rw [h1] at hq
  obtain ⟨e1, e2⟩ := List.cons.inj hq
  have hn : nm = nm' ∧ v = v' := by
    have ha := index_plain nm v h2
    have hb := index_plain nm' v' he.plain
    rw [e2] at ha
    rw [ha] at hb
    have hl : nm.length = nm'.length := by omega
    obtain ⟨g1, g2⟩ := List.append_inj e2 hl
    exact ⟨g1, (List.cons.inj g2).2⟩
  rw [e1, hn.2]
  exact he.val
/-- A document's or an array's value: its length is the number that begins it. -/
theorem read_whole {t : UInt8} {v : List UInt8} (ht : t = 3 ∨ t = 4) (h : valLen (t.toNat : Int) v = ((v.length : Int), true)) : readLen v = ((v.length : Int), true) ∧ 4 ≤ v.length := by
  have hb : valBase (t.toNat : Int) v = readLen v := by
    unfold valBase
    rw [if_pos (by rcases ht with rfl | rfl <;> decide)]
  unfold valLen at h
  rw [hb] at h
  obtain ⟨h1, h2⟩ := Prod.mk.inj h
  rw [Bool.and_eq_true] at h2
  refine ⟨Prod.ext h1 h2.1, ?_⟩
  have h3 := read_num v
  rw [h3] at h2
  have h4 := h2.1
  simp only [Bool.and_eq_true] at h4
  exact num_long v h4.1
theorem partsOf_yes {l : List UInt8} {nn : Int} (hr : numOf l = (nn, true)) (h0 : 0 ≤ nn) : partsOf l = ((pts (l.length + 1) (nn - 4) (l.drop 4)).1, (pts (l.length + 1) (nn - 4) (l.drop 4)).2.2) := by
  unfold partsOf
  rw [hr, if_pos ⟨rfl, h0⟩]
theorem partsOf_no {l : List UInt8} {nn : Int} {ok : Bool} (hr : numOf l = (nn, ok)) (h : ¬ (ok = true ∧ 0 ≤ nn)) : partsOf l = ([], false) := by
  unfold partsOf
  rw [hr, if_neg h]
/-- DocParts of any bytes. -/
theorem docPartsA (A : Option Addr) (c : Nat) (l : List UInt8) (w : World) (hs : SB w A c l) (hl : l.length ≤ 5000) :
    Calls Tryz.prog 67 #[.slice A l.length c] w fun e w' => (∃ v n A2 q c2 xs, e = .returned (.tuple #[v, .slice A2 q c2, .bool (partsOf l).2]) ∧ ON 123 4 w' w.heap.size v n xs ∧ n ≤ 5000 ∧ PtsC w (partsOf l).1 xs ∧ n = (partsOf l).1.length) ∧ Below w.heap.size w w' := by
  obtain ⟨⟨nn, ok⟩, hr⟩ : ∃ x, numOf l = x := ⟨_, rfl⟩
  by_cases h : ok = true ∧ 0 ≤ nn
  · obtain ⟨rfl, h0⟩ := h
    have hb := num_bd l
    rw [hr] at hb
    rw [partsOf_yes hr h0]
    refine (docParts A c l nn w hs hl hr h0 hb.2).mono ?_
    rintro e w' ⟨⟨v, n, A2, q, c2, ok, xs, rfl, ho, hn, hp, hnl, -, hok, -⟩, hbl⟩
    exact ⟨⟨v, n, A2, q, c2, xs, by rw [hok], ho, hn, hp, hnl⟩, hbl⟩
  · rw [partsOf_no hr h]
    have HN := Lib.hid (num_call A c l nn ok w hs hr)
    obtain ⟨p, hp⟩ : ∃ p, p = l.length := ⟨_, rfl⟩
    rw [← hp] at HN ⊢
    clear hs hr hp hl
    cases ok with
    | false =>
      clear h
      go_enter Tryz.func67, Tryz.ntmps67
      go_wp2_with fail
      refine HN.out.mono ?_
      rintro e w1 ⟨rfl, hb1⟩
      have HB1 := Lib.hid hb1
      clear hb1 HN
      go_wp2_with fail
      go_ret3
      exact ⟨⟨_, 0, _, _, _, [], rfl, ON.nil _ _, by omega, rfl, rfl⟩, HB1.out⟩
    | true =>
      have n0 : decide (nn < 0) = true := decide_eq_true (by simp at h; omega)
      clear h
      go_enter Tryz.func67, Tryz.ntmps67
      go_wp2_with fail
      refine HN.out.mono ?_
      rintro e w1 ⟨rfl, hb1⟩
      have HB1 := Lib.hid hb1
      clear hb1 HN
      go_wp2_with fail
      go_ret3
      exact ⟨⟨_, 0, _, _, _, [], rfl, ON.nil _ _, by omega, rfl, rfl⟩, HB1.out⟩
end Ck
end Go.Proofs.YtbpopaegfhcdpaaGreatDoor.X


/- Of a look-up: documents, arrays and values as they are asked of right values; the codes of its errors. -/
set_option linter.unusedVariables false
set_option linter.unusedSimpArgs false
set_option maxRecDepth 100000
namespace Go.Proofs.YtbpopaegfhcdpaaGreatDoor.X
open Go.RowKit Go.Proofs.YtbpopaegfhcdpaaGreatDoorW.PrintLast
namespace Ck
open Sp Al Av Aw

/-- What was read: later slices of the same bytes. -/
def Same (A : Option Addr) (c : Nat) (l : List UInt8) (A1 : Option Addr) (c1 : Nat) (l1 : List UInt8) : Prop := ∀ wx, SB wx A c l → SB wx A1 c1 l1
theorem readLengthBytes (A : Option Addr) (c : Nat) (l : List UInt8) (w : World) (hs : SB w A c l) (hr : readLen l = ((l.length : Int), true)) (h4 : 4 ≤ l.length) (hl : l.length ≤ 2147483647) :
    Calls Tryz.prog 113 #[.slice A l.length c] w fun e w' => (∃ A1 c1 A2 c2, e = .returned (.tuple #[.slice A1 l.length c1, .slice A2 0 c2, .bool true]) ∧ Same A c l A1 c1 l) ∧ Below w.heap.size w w' := by
  have HL : Hid (Calls Tryz.prog 114 #[.slice A l.length c] w fun e w' => ∃ A1 n1 c1, e = .returned (.tuple #[.int .i32 (l.length : Int), .slice A1 n1 c1, .bool true]) ∧ Below w.heap.size w w') := Lib.hid (by
    refine (readLength A c l w hs).mono ?_
    rintro e w' ⟨A1, n1, c1, rfl, -, -, hb⟩
    exact ⟨A1, n1, c1, by rw [hr], hb⟩)
  obtain ⟨A1, e1, s1⟩ := SB.to_ (P := Tryz.prog) Tryz.underlying22 rfl rfl .i32 A c l l.length (Nat.le_refl _) hs.le
  obtain ⟨A2, e2, s2⟩ := SB.from_ (P := Tryz.prog) Tryz.underlying22 rfl rfl .i32 A c l l.length (Nat.le_refl _) hs.le
  rw [Nat.sub_self] at e2
  have HS : Hid (Same A c l A1 c l) := Lib.hid fun wx h => by have := s1 wx h; rwa [List.take_length] at this
  obtain ⟨p, hp⟩ : ∃ p, p = l.length := ⟨_, rfl⟩
  rw [← hp] at HL e1 e2 h4 hl ⊢
  have g4 : decide ((p : Int) < 4) = false := decide_eq_false (by omega)
  have gp : decide ((p : Int) < (p : Int)) = false := decide_eq_false (by omega)
  have HW : Hid (wrap64 (p : Int) = (p : Int)) := Lib.hid (by unfold wrap64; omega)
  clear hs hr h4 hl s1 s2 hp
  have i0 := HW.out
  go_enter Tryz.func113, Tryz.ntmps113
  go_wp2_with fail
  refine HL.out.mono ?_
  rintro e w1 ⟨B1, n1, c1, rfl, hb1⟩
  have HB1 := Lib.hid hb1
  clear hb1 HL
  go_wp2_with fail
  go_region
  go_wp2_with fail
  go_ret3
  exact ⟨⟨_, _, _, _, rfl, HS.out⟩, bdrew HB1.out⟩
theorem readDocumentW (A : Option Addr) (c : Nat) (l : List UInt8) (w : World) (hs : SB w A c l) (hr : readLen l = ((l.length : Int), true)) (h4 : 4 ≤ l.length) (hl : l.length ≤ 2147483647) :
    Calls Tryz.prog 48 #[.slice A l.length c] w fun e w' => (∃ A1 c1 A2 c2, e = .returned (.tuple #[.slice A1 l.length c1, .slice A2 0 c2, .bool true]) ∧ Same A c l A1 c1 l) ∧ Below w.heap.size w w' := by
  have HL := Lib.hid (readLengthBytes A c l w hs hr h4 hl)
  obtain ⟨p, hp⟩ : ∃ p, p = l.length := ⟨_, rfl⟩
  rw [← hp] at HL ⊢
  clear hs hr h4 hl hp
  go_enter Tryz.func48, Tryz.ntmps48
  go_wp2_with fail
  refine HL.out.mono ?_
  rintro e w1 ⟨⟨A1, c1, A2, c2, rfl, hsm⟩, hb1⟩
  have HB1 := Lib.hid hb1
  have HS := Lib.hid hsm
  clear hb1 HL hsm
  go_wp2_with fail
  go_ret3
  exact ⟨⟨_, _, _, _, rfl, HS.out⟩, HB1.out⟩
theorem readArrayW (A : Option Addr) (c : Nat) (l : List UInt8) (w : World) (hs : SB w A c l) (hr : readLen l = ((l.length : Int), true)) (h4 : 4 ≤ l.length) (hl : l.length ≤ 2147483647) :
    Calls Tryz.prog 49 #[.slice A l.length c] w fun e w' => (∃ A1 c1 A2 c2, e = .returned (.tuple #[.slice A1 l.length c1, .slice A2 0 c2, .bool true]) ∧ Same A c l A1 c1 l) ∧ Below w.heap.size w w' := by
  have HL := Lib.hid (readLengthBytes A c l w hs hr h4 hl)
  obtain ⟨p, hp⟩ : ∃ p, p = l.length := ⟨_, rfl⟩
  rw [← hp] at HL ⊢
  clear hs hr h4 hl hp
  go_enter Tryz.func49, Tryz.ntmps49
  go_wp2_with fail
  refine HL.out.mono ?_
  rintro e w1 ⟨⟨A1, c1, A2, c2, rfl, hsm⟩, hb1⟩
  have HB1 := Lib.hid hb1
  have HS := Lib.hid hsm
  clear hb1 HL hsm
  go_wp2_with fail
  go_ret3
  exact ⟨⟨_, _, _, _, rfl, HS.out⟩, HB1.out⟩
theorem valueDocument (A : Option Addr) (c : Nat) (l : List UInt8) (w : World) (hs : SB w A c l) (hr : readLen l = ((l.length : Int), true)) (h4 : 4 ≤ l.length) (hl : l.length ≤ 2147483647) :
    Calls Tryz.prog 131 #[.agg #[.int .u8 3, .slice A l.length c]] w fun e w' => (∃ A1 c1, e = .returned (.slice A1 l.length c1) ∧ Same A c l A1 c1 l) ∧ Below w.heap.size w w' := by
  have HL := Lib.hid (fun wx (h : Below w.heap.size w wx) => readDocumentW A c l wx (hs.keep h) hr h4 hl)
  obtain ⟨p, hp⟩ : ∃ p, p = l.length := ⟨_, rfl⟩
  rw [← hp] at HL ⊢
  clear hs hr h4 hl hp
  go_enter Tryz.func131, Tryz.ntmps131
  go_wp2_with fail
  refine (HL.out _ (balloc (Below.refl _ _) (Nat.le_refl _) _)).mono ?_
  rintro e w1 ⟨⟨A1, c1, A2, c2, rfl, hsm⟩, hb1⟩
  have HB1 := Lib.hid (bthen (balloc (Below.refl _ _) (Nat.le_refl _) (.cells #[.int .u8 3, .slice A p c] 73)) hb1)
  have HS := Lib.hid hsm
  clear hb1 HL hsm
  go_wp2_with fail
  go_ret
  exact ⟨⟨_, _, rfl, HS.out⟩, HB1.out⟩
theorem valueArray (A : Option Addr) (c : Nat) (l : List UInt8) (w : World) (hs : SB w A c l) (hr : readLen l = ((l.length : Int), true)) (h4 : 4 ≤ l.length) (hl : l.length ≤ 2147483647) :
    Calls Tryz.prog 132 #[.agg #[.int .u8 4, .slice A l.length c]] w fun e w' => (∃ A1 c1, e = .returned (.slice A1 l.length c1) ∧ Same A c l A1 c1 l) ∧ Below w.heap.size w w' := by
  have HL := Lib.hid (fun wx (h : Below w.heap.size w wx) => readArrayW A c l wx (hs.keep h) hr h4 hl)
  obtain ⟨p, hp⟩ : ∃ p, p = l.length := ⟨_, rfl⟩
  rw [← hp] at HL ⊢
  clear hs hr h4 hl hp
  go_enter Tryz.func132, Tryz.ntmps132
  go_wp2_with fail
  refine (HL.out _ (balloc (Below.refl _ _) (Nat.le_refl _) _)).mono ?_
  rintro e w1 ⟨⟨A1, c1, A2, c2, rfl, hsm⟩, hb1⟩
  have HB1 := Lib.hid (bthen (balloc (Below.refl _ _) (Nat.le_refl _) (.cells #[.int .u8 4, .slice A p c] 73)) hb1)
  have HS := Lib.hid hsm
  clear hb1 HL hsm
  go_wp2_with fail
  go_ret
  exact ⟨⟨_, _, rfl, HS.out⟩, HB1.out⟩
theorem elemValueW (A : Option Addr) (c : Nat) (t : UInt8) (nm v : List UInt8) (w : World) (hs : SB w A c (t :: (nm ++ 0 :: v))) (hn : plainB nm = true) (hv : valLen (t.toNat : Int) v = ((v.length : Int), true)) (hmax : (t :: (nm ++ 0 :: v)).length ≤ 140737488355328) :
    Calls Tryz.prog 130 #[.slice A (t :: (nm ++ 0 :: v)).length c] w fun e w' => (∃ A1 c1, e = .returned (.agg #[.int .u8 (t.toNat : Int), .slice A1 v.length c1]) ∧ Same A c (t :: (nm ++ 0 :: v)) A1 c1 v) ∧ Below w.heap.size w w' := by
  have HV := Lib.hid (fun wx (h : Below w.heap.size w wx) => valueErr A c t nm v wx (hs.keep h) hn hv hmax)
  have HSm : Hid (∀ A1 c1, (∀ wx, SB wx A c (t :: (nm ++ 0 :: v)) → SB wx A1 c1 v) → Same A c (t :: (nm ++ 0 :: v)) A1 c1 v) := Lib.hid fun A1 c1 h => h
  obtain ⟨p, hp⟩ : ∃ p, p = (t :: (nm ++ 0 :: v)).length := ⟨_, rfl⟩
  obtain ⟨q, hq⟩ : ∃ p, p = v.length := ⟨_, rfl⟩
  obtain ⟨tt, htt⟩ : ∃ x : Int, x = (t.toNat : Int) := ⟨_, rfl⟩
  obtain ⟨L, hL⟩ : ∃ x, x = t :: (nm ++ 0 :: v) := ⟨_, rfl⟩
  rw [← hp, ← hq, ← htt, ← hL] at HV
  rw [← hL] at HSm
  rw [← hp, ← hq, ← htt, ← hL]
  clear hs hn hv hmax hp hq htt hL
  go_enter Tryz.func130, Tryz.ntmps130
  go_wp2_with fail
  refine (HV.out _ (balloc (Below.refl _ _) (Nat.le_refl _) _)).mono ?_
  rintro e w1 ⟨A1, c1, rfl, hs1, hb⟩
  have hb1 : Below (w.heap.size + 1) (w.alloc (.cells #[.int .u8 0, .slice none 0 0] 73)) w1 := by simpa using hb
  have hsm := HSm.out A1 c1 hs1
  have HS := Lib.hid hsm
  have hz1 := boxs hb1
  have q0 := boxc hb1 0
  have q1 := boxc hb1 1
  simp only [List.getElem?_cons_succ, List.getElem?_cons_zero] at q0 q1
  have f0 := boxf hb1 0
  have f1 := boxf hb1 1
  have HB := Lib.hid (boxb hb1)
  have hlt : w.heap.size < w1.heap.size := by omega
  clear hb hb1 hs1 hsm HV HSm
  go_wp2_with fail
  exact bodyPost_ret (v := .agg #[.int .u8 tt, .slice A1 q c1]) (by simp [results, Tryz.results130, go_sem, q0, q1, hlt]) rfl ⟨⟨A1, c1, rfl, HS.out⟩, by exact balloc ((HB.out.setCell (Nat.le_refl _) _).setCell (Nat.le_refl _) _) (by simp [World.setCell]; omega) _⟩
/-- The errors that a look-up tells, apart. -/
structure SentD (w : World) (a1 a2 a3 : Addr) : Prop where
  e1 : w.cell? ⟨3, 0, none⟩ = some (.iface 270 (.pointer (some a1)))
  e2 : w.cell? ⟨2, 0, none⟩ = some (.iface 270 (.pointer (some a2)))
  e3 : w.cell? ⟨1, 0, none⟩ = some (.iface 270 (.pointer (some a3)))
  n12 : a1 ≠ a2
  n13 : a1 ≠ a3
  n23 : a2 ≠ a3
  h1 : ∃ c t, w.heap[a1.block]? = some (.cells c t (0, 0))
  h2 : ∃ c t, w.heap[a2.block]? = some (.cells c t (0, 0))
  h3 : ∃ c t, w.heap[a3.block]? = some (.cells c t (0, 0))
theorem SentD.keep {w w1 : World} {a1 a2 a3 : Addr} (h : SentD w a1 a2 a3) (hb : Below w.heap.size w w1) : SentD w1 a1 a2 a3 where
  e1 := (hb.cell (World.block_lt_of_cell? _ _ h.e1)).trans h.e1
  e2 := (hb.cell (World.block_lt_of_cell? _ _ h.e2)).trans h.e2
  e3 := (hb.cell (World.block_lt_of_cell? _ _ h.e3)).trans h.e3
  n12 := h.n12
  n13 := h.n13
  n23 := h.n23
  h1 := by obtain ⟨c, t, h⟩ := h.h1; exact ⟨c, t, (hb.block _ (Array.getElem?_eq_some_iff.1 h).1).trans h⟩
  h2 := by obtain ⟨c, t, h⟩ := h.h2; exact ⟨c, t, (hb.block _ (Array.getElem?_eq_some_iff.1 h).1).trans h⟩
  h3 := by obtain ⟨c, t, h⟩ := h.h3; exact ⟨c, t, (hb.block _ (Array.getElem?_eq_some_iff.1 h).1).trans h⟩
/-- A look-up's error, by its code. -/
def CodeL (a2 a3 : Addr) (n : Int) (v : Value) : Prop := CodeIs n v ∨ (n = 7 ∧ v = .iface 270 (.pointer (some a2))) ∨ (n = 8 ∧ v = .iface 270 (.pointer (some a3))) ∨ (n = 10 ∧ ∃ s t, v = .iface 188 (.agg #[.string s, .int .u8 t]))
/-- Whether it is an error, in one look. -/
theorem CodeL.nil_or {a2 a3 : Addr} {n : Int} {v : Value} (h : CodeL a2 a3 n v) : (n = 0 ∧ v = .nilIface) ∨ (n ≠ 0 ∧ ∃ E x, v = .iface E x) := by
  rcases h with (⟨rfl, rfl⟩ | ⟨rfl, s, rfl⟩ | ⟨rfl, A, m, c, B, k, d, rfl⟩) | ⟨rfl, rfl⟩ | ⟨rfl, rfl⟩ | ⟨rfl, s, t, rfl⟩
  · exact .inl ⟨rfl, rfl⟩
  all_goals exact .inr ⟨by decide, _, _, rfl⟩
theorem code_sent (a1 a2 a3 a : Addr) (n : Int) (w : World) (hS : SentD w a1 a2 a3) (h : (n = 7 ∧ a = a2) ∨ (n = 8 ∧ a = a3)) :
    Calls Tryz.prog 71 #[.iface 270 (.pointer (some a))] w fun e w' => e = .returned (.int .i64 n) ∧ Below w.heap.size w w' := by
  have t1 : ∀ W : World, (Instr.typeAssert (.iface 270 (.pointer (some a))) 126 180 true).run Tryz.prog W = .ok (.tuple #[.agg #[.slice none 0 0, .slice none 0 0], .bool false]) W := fun W => by rfl
  have t2 : ∀ W : World, (Instr.typeAssert (.iface 270 (.pointer (some a))) 126 190 true).run Tryz.prog W = .ok (.tuple #[.string ⟨#[]⟩, .bool false]) W := fun W => by rfl
  have t3 : ∀ W : World, (Instr.typeAssert (.iface 270 (.pointer (some a))) 126 191 true).run Tryz.prog W = .ok (.tuple #[.string ⟨#[]⟩, .bool false]) W := fun W => by rfl
  have t4 : ∀ W : World, (Instr.typeAssert (.iface 270 (.pointer (some a))) 126 188 true).run Tryz.prog W = .ok (.tuple #[.agg #[.string ⟨#[]⟩, .int .u8 0], .bool false]) W := fun W => by rfl
  obtain ⟨c1, u1, k1⟩ := hS.h1
  obtain ⟨c2, u2, k2⟩ := hS.h2
  obtain ⟨c3, u3, k3⟩ := hS.h3
  have g1 := hS.e1
  have g2 := hS.e2
  have g3 := hS.e3
  rcases h with ⟨rfl, rfl⟩ | ⟨rfl, rfl⟩
  · have H1 := Lib.hid (is_other a a1 _ _ _ _ w (Ne.symm hS.n12) k2 k1)
    have H2 := Lib.hid (is_same a w)
    clear hS k1 k2 k3 g3
    go_enter Tryz.func71, Tryz.ntmps71
    go_wp2_with fail
    refine H1.out.mono ?_
    rintro e w1 ⟨rfl, rfl⟩
    go_wp2_with fail
    refine H2.out.mono ?_
    rintro e w1 ⟨rfl, rfl⟩
    go_wp2_with fail
    go_ret
    exact ⟨rfl, Below.refl _ _⟩
  · have H1 := Lib.hid (is_other a a1 _ _ _ _ w (Ne.symm hS.n13) k3 k1)
    have H2 := Lib.hid (is_other a a2 _ _ _ _ w (Ne.symm hS.n23) k3 k2)
    have H3 := Lib.hid (is_same a w)
    clear hS k1 k2 k3
    go_enter Tryz.func71, Tryz.ntmps71
    go_wp2_with fail
    refine H1.out.mono ?_
    rintro e w1 ⟨rfl, rfl⟩
    go_wp2_with fail
    refine H2.out.mono ?_
    rintro e w1 ⟨rfl, rfl⟩
    go_wp2_with fail
    refine H3.out.mono ?_
    rintro e w1 ⟨rfl, rfl⟩
    go_wp2_with fail
    go_ret
    exact ⟨rfl, Below.refl _ _⟩
theorem code_depth (s : ByteArray) (k : Int) (w : World) :
    Calls Tryz.prog 71 #[.iface 188 (.agg #[.string s, .int .u8 k])] w fun e w' => e = .returned (.int .i64 10) ∧ Below w.heap.size w w' := by
  have t1 : ∀ W : World, (Instr.typeAssert (.iface 188 (.agg #[.string s, .int .u8 k])) 126 180 true).run Tryz.prog W = .ok (.tuple #[.agg #[.slice none 0 0, .slice none 0 0], .bool false]) W := fun W => by rfl
  have t2 : ∀ W : World, (Instr.typeAssert (.iface 188 (.agg #[.string s, .int .u8 k])) 126 190 true).run Tryz.prog W = .ok (.tuple #[.string ⟨#[]⟩, .bool false]) W := fun W => by rfl
  have t3 : ∀ W : World, (Instr.typeAssert (.iface 188 (.agg #[.string s, .int .u8 k])) 126 191 true).run Tryz.prog W = .ok (.tuple #[.string ⟨#[]⟩, .bool false]) W := fun W => by rfl
  have t4 : ∀ W : World, (Instr.typeAssert (.iface 188 (.agg #[.string s, .int .u8 k])) 126 188 true).run Tryz.prog W = .ok (.tuple #[.agg #[.string s, .int .u8 k], .bool true]) W := fun W => by rfl
  go_enter Tryz.func71, Tryz.ntmps71
  go_wp2
  go_ret
  exact ⟨rfl, by first | exact Below.refl _ _ | exact balloc (Below.refl _ _) (Nat.le_refl _) _⟩
theorem codeL {a1 a2 a3 : Addr} {n : Int} {v : Value} (h : CodeL a2 a3 n v) (w : World) (hS : SentD w a1 a2 a3) : Calls Tryz.prog 71 #[v] w fun e w' => e = .returned (.int .i64 n) ∧ Below w.heap.size w w' := by
  rcases h with h | ⟨rfl, rfl⟩ | ⟨rfl, rfl⟩ | ⟨rfl, s, t, rfl⟩
  · exact code_ex h w
  · exact code_sent a1 a2 a3 a2 7 w hS (.inl ⟨rfl, rfl⟩)
  · exact code_sent a1 a2 a3 a3 8 w hS (.inr ⟨rfl, rfl⟩)
  · exact code_depth s t w
end Ck
end Go.Proofs.YtbpopaegfhcdpaaGreatDoor.X


/- ReadLength and ReadElement, their slices told in every world; the rest of a list of texts. -/
set_option linter.unusedVariables false
set_option linter.unusedSimpArgs false
set_option maxRecDepth 100000
namespace Go.Proofs.YtbpopaegfhcdpaaGreatDoor.X
open Go.RowKit Go.Proofs.YtbpopaegfhcdpaaGreatDoorW.PrintLast
namespace Lk
open Sp Al Av Aw Ck
def R117.T4 : Bool × List (List Nat × List Nat) := (true, [([], []), ([0], [0]), ([1], [1]), ([2], [2]), ([], []), ([4], [4]), ([5], [5]), ([6], [6]), ([7], [7]), ([3, 8], [3, 8]), ([], []), ([10], [10]), ([11], [11]), ([12], [12]), ([13], [13]), ([9, 14], [9, 14]), ([], []), ([16], [16]), ([17], [17]), ([18], [18]), ([19], [19]), ([15, 20], [15, 20]), ([21, 0, 1, 2, 3, 4, 5, 6, 7, 8, 9, 10, 11, 12, 13, 14, 15, 16, 17, 18, 19, 20, 21], [21])])
def R117.B4 : List Nat := [0, 1, 3, 7, 0, 16, 48, 112, 240, 511, 0, 1024, 3072, 7168, 15360, 32767, 0, 65536, 196608, 458752, 983040, 2097151, 4194303]
theorem R117.tab4 : rtab .any (opsOf Tryz.f117 4) = R117.T4 := by kernel_rfl
theorem R117.bits4 : waitsOk R117.T4.2 R117.B4 = true := by kernel_rfl
def R117.T5 : Bool × List (List Nat × List Nat) := (true, [([], []), ([], []), ([1], [1]), ([0, 0], [0]), ([2, 3, 0, 1, 2, 3], [2]), ([4, 0, 1, 2, 3, 4], [])])
def R117.B5 : List Nat := [0, 0, 2, 1, 15, 31]
theorem R117.tab5 : rtab .any (opsOf Tryz.f117 5) = R117.T5 := by kernel_rfl
theorem R117.bits5 : waitsOk R117.T5.2 R117.B5 = true := by kernel_rfl
set_option maxHeartbeats 1600000 in
theorem readI32S (A : Option Addr) (c : Nat) (b0 b1 b2 b3 : UInt8) (r : List UInt8) (w : World) (hs : SB w A c (b0 :: b1 :: b2 :: b3 :: r)) :
    Calls Tryz.prog 117 #[.slice A (b0 :: b1 :: b2 :: b3 :: r).length c] w fun e w' => ∃ A1, e = .returned (.tuple #[.int .i32 (wrap32 (leI [b0, b1, b2, b3])), .slice A1 r.length (c - 4), .bool true]) ∧ (∀ wx, SB wx A c (b0 :: b1 :: b2 :: b3 :: r) → SB wx A1 (c - 4) r) ∧ Below w.heap.size w w' := by
  obtain ⟨A1, e1, s1⟩ := SB.from_ (P := Tryz.prog) Tryz.underlying22 rfl rfl .i64 A c (b0 :: b1 :: b2 :: b3 :: r) 4 (by simp) hs.le
  have e1' : ∀ W : World, (Instr.slice 22 (.slice A (b0 :: b1 :: b2 :: b3 :: r).length c) (some (.int .i64 4)) none none).run Tryz.prog W = .ok (.slice A1 r.length (c - 4)) W := fun W => by have h := e1 W; rw [show (b0 :: b1 :: b2 :: b3 :: r).length - 4 = r.length from by simp] at h; exact h
  have T1 : Hid (∀ wx, SB wx A c (b0 :: b1 :: b2 :: b3 :: r) → SB wx A1 (c - 4) r) := Lib.hid s1
  have hcap : r.length + 4 ≤ c := by have := hs.le; simpa using this
  have hlen9 : c ≤ 9223372036854775807 := hs.cap
  obtain ⟨b, off, rfl, hc⟩ := hs.cells (by simp)
  have c0 : w.cell? ⟨b, off, none⟩ = some (.int .u8 b0.toNat) := by have h := hc 0 (by simp); exact h
  have c1 : w.cell? ⟨b, off + 1, none⟩ = some (.int .u8 b1.toNat) := by have h := hc 1 (by simp); exact h
  have c2 : w.cell? ⟨b, off + 2, none⟩ = some (.int .u8 b2.toNat) := by have h := hc 2 (by simp); exact h
  have c3 : w.cell? ⟨b, off + 3, none⟩ = some (.int .u8 b3.toNat) := by have h := hc 3 (by simp); exact h
  have hv : bits .or .i32 (bits .or .i32 (bits .or .i32 (wrap32 (b0.toNat : Int)) (wrap32 ((wrap32 (b1.toNat : Int)) * 256))) (wrap32 ((wrap32 (b2.toNat : Int)) * 65536))) (wrap32 ((wrap32 (b3.toNat : Int)) * 16777216)) = wrap32 (leI [b0, b1, b2, b3]) := by
    have hb0 : b0.toNat < 256 := b0.toNat_lt
    have hb1 : b1.toNat < 256 := b1.toNat_lt
    have hb2 : b2.toNat < 256 := b2.toNat_lt
    have hb3 : b3.toNat < 256 := b3.toNat_lt
    have h := or4_val b0.toNat b1.toNat b2.toNat b3.toNat hb0 hb1 hb2 hb3
    rw [h]
    congr 1
    simp only [leI]
    omega
  obtain ⟨x0, h0⟩ : ∃ x, x = (b0.toNat : Int) := ⟨_, rfl⟩
  rw [← h0] at c0 hv
  obtain ⟨x1, h1⟩ : ∃ x, x = (b1.toNat : Int) := ⟨_, rfl⟩
  rw [← h1] at c1 hv
  obtain ⟨x2, h2⟩ : ∃ x, x = (b2.toNat : Int) := ⟨_, rfl⟩
  rw [← h2] at c2 hv
  obtain ⟨x3, h3⟩ : ∃ x, x = (b3.toNat : Int) := ⟨_, rfl⟩
  rw [← h3] at c3 hv
  obtain ⟨xv, hxv⟩ : ∃ x, x = wrap32 (leI [b0, b1, b2, b3]) := ⟨_, rfl⟩
  rw [← hxv] at hv ⊢
  have HV := Lib.hid hv
  obtain ⟨q, hq⟩ : ∃ x, x = (b0 :: b1 :: b2 :: b3 :: r).length := ⟨_, rfl⟩
  have hq4 : 4 ≤ q := by rw [hq]; simp
  rw [← hq] at e1' ⊢
  clear hq hs hc hv hxv e1 s1 h0 h1 h2 h3
  go_enter Tryz.func117, Tryz.ntmps117
  go_wp2
  have g0 : 0 < q := by omega
  have g1 : (1 : Int) < q := by omega
  have g2 : (2 : Int) < q := by omega
  have g3 : (3 : Int) < q := by omega
  refine start_ (n := 23) (S := fun w' => w'.cell? ⟨b, off, none⟩ = some (.int .u8 x0) ∧ w'.cell? ⟨b, off + 1, none⟩ = some (.int .u8 x1) ∧ w'.cell? ⟨b, off + 2, none⟩ = some (.int .u8 x2) ∧ w'.cell? ⟨b, off + 3, none⟩ = some (.int .u8 x3)) (ds := []) #[false, false, false, false, false, false, false, false, false, false, false, false, false, false, false, false, false, false, false, false, false, false, false] (by kernel_rfl) rfl rfl ⟨(by go_simp), (by go_simp), (by go_simp), (by go_simp)⟩ (fun hHeld => ?_)
  refine with_tabW R117.tab4 R117.bits4 (fun HT_ HW_ => ?_)
  refine pure_ (i := 0) (N := some 13) (v := ?_) (a' := ?_) #[true, false, false, false, false, false, false, false, false, false, false, false, false, false, false, false, false, false, false, false, false, false, false] rfl rfl (any_of HT_.out (by kernel_rfl)) (fun _ _ _ h => h) (Or.inl ⟨by rfl, ?_⟩) ?_ ?_
  rotate_left
  · intro w'
    go_simp
    with_reducible rfl
  rotate_left
  · simp only [Act.put, List.setIfInBounds_toArray, List.set_cons_zero, List.set_cons_succ, i64_w, i32_w]
    rfl
  refine pure_ (i := 1) (N := some 14) (v := ?_) (a' := ?_) #[true, true, false, false, false, false, false, false, false, false, false, false, false, false, false, false, false, false, false, false, false, false, false] rfl rfl (any_of HT_.out (by kernel_rfl)) (fun _ _ _ h => h) (Or.inl ⟨by rfl, ?_⟩) ?_ ?_
  rotate_left
  · intro w'
    go_simp
    with_reducible rfl
  rotate_left
  · simp only [Act.put, List.setIfInBounds_toArray, List.set_cons_zero, List.set_cons_succ, i64_w, i32_w]
    rfl
  refine pure_ (i := 4) (N := some 17) (v := ?_) (a' := ?_) #[true, true, false, false, true, false, false, false, false, false, false, false, false, false, false, false, false, false, false, false, false, false, false] rfl rfl (any_of HT_.out (by kernel_rfl)) (fun _ _ _ h => h) (Or.inl ⟨by rfl, ?_⟩) ?_ ?_
  rotate_left
  · intro w'
    go_simp
    with_reducible rfl
  rotate_left
  · simp only [Act.put, List.setIfInBounds_toArray, List.set_cons_zero, List.set_cons_succ, i64_w, i32_w]
    rfl
  refine pure_ (i := 5) (N := some 18) (v := ?_) (a' := ?_) #[true, true, false, false, true, true, false, false, false, false, false, false, false, false, false, false, false, false, false, false, false, false, false] rfl rfl (any_of HT_.out (by kernel_rfl)) (fun _ _ _ h => h) (Or.inl ⟨by rfl, ?_⟩) ?_ ?_
  rotate_left
  · intro w'
    go_simp
    with_reducible rfl
  rotate_left
  · simp only [Act.put, List.setIfInBounds_toArray, List.set_cons_zero, List.set_cons_succ, i64_w, i32_w]
    rfl
  refine pure_ (i := 10) (N := some 23) (v := ?_) (a' := ?_) #[true, true, false, false, true, true, false, false, false, false, true, false, false, false, false, false, false, false, false, false, false, false, false] rfl rfl (any_of HT_.out (by kernel_rfl)) (fun _ _ _ h => h) (Or.inl ⟨by rfl, ?_⟩) ?_ ?_
  rotate_left
  · intro w'
    go_simp
    with_reducible rfl
  rotate_left
  · simp only [Act.put, List.setIfInBounds_toArray, List.set_cons_zero, List.set_cons_succ, i64_w, i32_w]
    rfl
  refine pure_ (i := 11) (N := some 24) (v := ?_) (a' := ?_) #[true, true, false, false, true, true, false, false, false, false, true, true, false, false, false, false, false, false, false, false, false, false, false] rfl rfl (any_of HT_.out (by kernel_rfl)) (fun _ _ _ h => h) (Or.inl ⟨by rfl, ?_⟩) ?_ ?_
  rotate_left
  · intro w'
    go_simp
    with_reducible rfl
  rotate_left
  · simp only [Act.put, List.setIfInBounds_toArray, List.set_cons_zero, List.set_cons_succ, i64_w, i32_w]
    rfl
  refine pure_ (i := 16) (N := some 29) (v := ?_) (a' := ?_) #[true, true, false, false, true, true, false, false, false, false, true, true, false, false, false, false, true, false, false, false, false, false, false] rfl rfl (any_of HT_.out (by kernel_rfl)) (fun _ _ _ h => h) (Or.inl ⟨by rfl, ?_⟩) ?_ ?_
  rotate_left
  · intro w'
    go_simp
    with_reducible rfl
  rotate_left
  · simp only [Act.put, List.setIfInBounds_toArray, List.set_cons_zero, List.set_cons_succ, i64_w, i32_w]
    rfl
  refine pure_ (i := 17) (N := some 30) (v := ?_) (a' := ?_) #[true, true, false, false, true, true, false, false, false, false, true, true, false, false, false, false, true, true, false, false, false, false, false] rfl rfl (any_of HT_.out (by kernel_rfl)) (fun _ _ _ h => h) (Or.inl ⟨by rfl, ?_⟩) ?_ ?_
  rotate_left
  · intro w'
    go_simp
    with_reducible rfl
  rotate_left
  · simp only [Act.put, List.setIfInBounds_toArray, List.set_cons_zero, List.set_cons_succ, i64_w, i32_w]
    rfl
  refine take_ (i := 2) (N := some 15) (v := ?_) (a' := ?_) #[true, true, true, false, true, true, false, false, false, false, true, true, false, false, false, false, true, true, false, false, false, false, false] rfl rfl (take_ofW HT_.out HW_.out (by kernel_rfl)) (fun _ _ _ h => h) (Or.inl ⟨by rfl, ?_⟩) hHeld ?_ ?_
  rotate_left
  · rintro w' ⟨s0, s1, s2, s3⟩
    go_simp
    with_reducible rfl
  rotate_left
  · simp only [Act.put, List.setIfInBounds_toArray, List.set_cons_zero, List.set_cons_succ, i64_w, i32_w]
    rfl
  refine pure_ (i := 3) (N := some 16) (v := ?_) (a' := ?_) #[true, true, true, true, true, true, false, false, false, false, true, true, false, false, false, false, true, true, false, false, false, false, false] rfl rfl (any_of HT_.out (by kernel_rfl)) (fun _ _ _ h => h) (Or.inl ⟨by rfl, ?_⟩) ?_ ?_
  rotate_left
  · intro w'
    go_simp
    with_reducible rfl
  rotate_left
  · simp only [Act.put, List.setIfInBounds_toArray, List.set_cons_zero, List.set_cons_succ, i64_w, i32_w]
    rfl
  refine take_ (i := 6) (N := some 19) (v := ?_) (a' := ?_) #[true, true, true, true, true, true, true, false, false, false, true, true, false, false, false, false, true, true, false, false, false, false, false] rfl rfl (take_ofW HT_.out HW_.out (by kernel_rfl)) (fun _ _ _ h => h) (Or.inl ⟨by rfl, ?_⟩) hHeld ?_ ?_
  rotate_left
  · rintro w' ⟨s0, s1, s2, s3⟩
    go_simp
    with_reducible rfl
  rotate_left
  · simp only [Act.put, List.setIfInBounds_toArray, List.set_cons_zero, List.set_cons_succ, i64_w, i32_w]
    rfl
  refine pure_ (i := 7) (N := some 20) (v := ?_) (a' := ?_) #[true, true, true, true, true, true, true, true, false, false, true, true, false, false, false, false, true, true, false, false, false, false, false] rfl rfl (any_of HT_.out (by kernel_rfl)) (fun _ _ _ h => h) (Or.inl ⟨by rfl, ?_⟩) ?_ ?_
  rotate_left
  · intro w'
    go_simp
    with_reducible rfl
  rotate_left
  · simp only [Act.put, List.setIfInBounds_toArray, List.set_cons_zero, List.set_cons_succ, i64_w, i32_w]
    rfl
  refine pure_ (i := 8) (N := some 21) (v := ?_) (a' := ?_) #[true, true, true, true, true, true, true, true, true, false, true, true, false, false, false, false, true, true, false, false, false, false, false] rfl rfl (any_of HT_.out (by kernel_rfl)) (fun _ _ _ h => h) (Or.inl ⟨by rfl, ?_⟩) ?_ ?_
  rotate_left
  · intro w'
    go_simp
    with_reducible rfl
  rotate_left
  · simp only [Act.put, List.setIfInBounds_toArray, List.set_cons_zero, List.set_cons_succ, i64_w, i32_w]
    rfl
  refine pure_ (i := 9) (N := some 22) (v := ?_) (a' := ?_) #[true, true, true, true, true, true, true, true, true, true, true, true, false, false, false, false, true, true, false, false, false, false, false] rfl rfl (any_of HT_.out (by kernel_rfl)) (fun _ _ _ h => h) (Or.inl ⟨by rfl, ?_⟩) ?_ ?_
  rotate_left
  · intro w'
    go_simp
    with_reducible rfl
  rotate_left
  · simp only [Act.put, List.setIfInBounds_toArray, List.set_cons_zero, List.set_cons_succ, i64_w, i32_w]
    rfl
  refine take_ (i := 12) (N := some 25) (v := ?_) (a' := ?_) #[true, true, true, true, true, true, true, true, true, true, true, true, true, false, false, false, true, true, false, false, false, false, false] rfl rfl (take_ofW HT_.out HW_.out (by kernel_rfl)) (fun _ _ _ h => h) (Or.inl ⟨by rfl, ?_⟩) hHeld ?_ ?_
  rotate_left
  · rintro w' ⟨s0, s1, s2, s3⟩
    go_simp
    with_reducible rfl
  rotate_left
  · simp only [Act.put, List.setIfInBounds_toArray, List.set_cons_zero, List.set_cons_succ, i64_w, i32_w]
    rfl
  refine pure_ (i := 13) (N := some 26) (v := ?_) (a' := ?_) #[true, true, true, true, true, true, true, true, true, true, true, true, true, true, false, false, true, true, false, false, false, false, false] rfl rfl (any_of HT_.out (by kernel_rfl)) (fun _ _ _ h => h) (Or.inl ⟨by rfl, ?_⟩) ?_ ?_
  rotate_left
  · intro w'
    go_simp
    with_reducible rfl
  rotate_left
  · simp only [Act.put, List.setIfInBounds_toArray, List.set_cons_zero, List.set_cons_succ, i64_w, i32_w]
    rfl
  refine pure_ (i := 14) (N := some 27) (v := ?_) (a' := ?_) #[true, true, true, true, true, true, true, true, true, true, true, true, true, true, true, false, true, true, false, false, false, false, false] rfl rfl (any_of HT_.out (by kernel_rfl)) (fun _ _ _ h => h) (Or.inl ⟨by rfl, ?_⟩) ?_ ?_
  rotate_left
  · intro w'
    go_simp
    with_reducible rfl
  rotate_left
  · simp only [Act.put, List.setIfInBounds_toArray, List.set_cons_zero, List.set_cons_succ, i64_w, i32_w]
    rfl
  refine pure_ (i := 15) (N := some 28) (v := ?_) (a' := ?_) #[true, true, true, true, true, true, true, true, true, true, true, true, true, true, true, true, true, true, false, false, false, false, false] rfl rfl (any_of HT_.out (by kernel_rfl)) (fun _ _ _ h => h) (Or.inl ⟨by rfl, ?_⟩) ?_ ?_
  rotate_left
  · intro w'
    go_simp
    with_reducible rfl
  rotate_left
  · simp only [Act.put, List.setIfInBounds_toArray, List.set_cons_zero, List.set_cons_succ, i64_w, i32_w]
    rfl
  refine take_ (i := 18) (N := some 31) (v := ?_) (a' := ?_) #[true, true, true, true, true, true, true, true, true, true, true, true, true, true, true, true, true, true, true, false, false, false, false] rfl rfl (take_ofW HT_.out HW_.out (by kernel_rfl)) (fun _ _ _ h => h) (Or.inl ⟨by rfl, ?_⟩) hHeld ?_ ?_
  rotate_left
  · rintro w' ⟨s0, s1, s2, s3⟩
    go_simp
    with_reducible rfl
  rotate_left
  · simp only [Act.put, List.setIfInBounds_toArray, List.set_cons_zero, List.set_cons_succ, i64_w, i32_w]
    rfl
  refine pure_ (i := 19) (N := some 32) (v := ?_) (a' := ?_) #[true, true, true, true, true, true, true, true, true, true, true, true, true, true, true, true, true, true, true, true, false, false, false] rfl rfl (any_of HT_.out (by kernel_rfl)) (fun _ _ _ h => h) (Or.inl ⟨by rfl, ?_⟩) ?_ ?_
  rotate_left
  · intro w'
    go_simp
    with_reducible rfl
  rotate_left
  · simp only [Act.put, List.setIfInBounds_toArray, List.set_cons_zero, List.set_cons_succ, i64_w, i32_w]
    rfl
  refine pure_ (i := 20) (N := some 33) (v := ?_) (a' := ?_) #[true, true, true, true, true, true, true, true, true, true, true, true, true, true, true, true, true, true, true, true, true, false, false] rfl rfl (any_of HT_.out (by kernel_rfl)) (fun _ _ _ h => h) (Or.inl ⟨by rfl, ?_⟩) ?_ ?_
  rotate_left
  · intro w'
    go_simp
    with_reducible rfl
  rotate_left
  · simp only [Act.put, List.setIfInBounds_toArray, List.set_cons_zero, List.set_cons_succ, i64_w, i32_w]
    rfl
  refine pure_ (i := 21) (N := some 34) (v := ?_) (a' := ?_) #[true, true, true, true, true, true, true, true, true, true, true, true, true, true, true, true, true, true, true, true, true, true, false] rfl rfl (any_of HT_.out (by kernel_rfl)) (fun _ _ _ h => h) (Or.inl ⟨by rfl, ?_⟩) ?_ ?_
  rotate_left
  · intro w'
    go_simp
    with_reducible rfl
  rotate_left
  · simp only [Act.put, List.setIfInBounds_toArray, List.set_cons_zero, List.set_cons_succ, i64_w, i32_w]
    rfl
  refine pure_ (i := 22) (N := some 5) (v := ?_) (a' := ?_) #[true, true, true, true, true, true, true, true, true, true, true, true, true, true, true, true, true, true, true, true, true, true, true] rfl rfl (any_of HT_.out (by kernel_rfl)) (fun _ _ _ h => h) (Or.inl ⟨by rfl, ?_⟩) ?_ ?_
  rotate_left
  · intro w'
    go_simp
    with_reducible rfl
  rotate_left
  · simp only [Act.put, List.setIfInBounds_toArray, List.set_cons_zero, List.set_cons_succ, i64_w, i32_w]
    rfl
  refine done_ (done_of HT_.out (by kernel_rfl)) ?_
  rw [HV.out]
  clear HV hHeld c0 c1 c2 c3
  go_wp2
  refine start_ (n := 6) (S := fun w' => True) (ds := []) #[false, false, false, false, false, false] (by kernel_rfl) rfl rfl trivial (fun hHeld => ?_)
  refine with_tabW R117.tab5 R117.bits5 (fun HT_ HW_ => ?_)
  refine pure_ (i := 0) (N := some 35) (v := ?_) (a' := ?_) #[true, false, false, false, false, false] rfl rfl (any_of HT_.out (by kernel_rfl)) (fun _ _ _ h => h) (Or.inl ⟨by rfl, ?_⟩) ?_ ?_
  rotate_left
  · intro w'
    go_simp
    with_reducible rfl
  rotate_left
  · simp only [Act.put, List.setIfInBounds_toArray, List.set_cons_zero, List.set_cons_succ, i64_w, i32_w]
    rfl
  refine pure_ (i := 1) (N := some 36) (v := ?_) (a' := ?_) #[true, true, false, false, false, false] rfl rfl (any_of HT_.out (by kernel_rfl)) (fun _ _ _ h => h) (Or.inl ⟨by rfl, ?_⟩) ?_ ?_
  rotate_left
  · intro w'
    go_simp
    with_reducible rfl
  rotate_left
  · simp only [Act.put, List.setIfInBounds_toArray, List.set_cons_zero, List.set_cons_succ, i64_w, i32_w]
    rfl
  refine pure_ (i := 2) (N := some 37) (v := ?_) (a' := ?_) #[true, true, true, false, false, false] rfl rfl (any_of HT_.out (by kernel_rfl)) (fun _ _ _ h => h) (Or.inl ⟨by rfl, ?_⟩) ?_ ?_
  rotate_left
  · intro w'
    go_simp
    with_reducible rfl
  rotate_left
  · simp only [Act.put, List.setIfInBounds_toArray, List.set_cons_zero, List.set_cons_succ, i64_w, i32_w]
    rfl
  refine pure_ (i := 3) (N := some 2) (v := ?_) (a' := ?_) #[true, true, true, true, false, false] rfl rfl (any_of HT_.out (by kernel_rfl)) (fun _ _ _ h => h) (Or.inl ⟨by rfl, ?_⟩) ?_ ?_
  rotate_left
  · intro w'
    go_simp
    with_reducible rfl
  rotate_left
  · simp only [Act.put, List.setIfInBounds_toArray, List.set_cons_zero, List.set_cons_succ, i64_w, i32_w]
    rfl
  refine pure_ (i := 4) (N := some 3) (v := ?_) (a' := ?_) #[true, true, true, true, true, false] rfl rfl (any_of HT_.out (by kernel_rfl)) (fun _ _ _ h => h) (Or.inl ⟨by rfl, ?_⟩) ?_ ?_
  rotate_left
  · intro w'
    go_simp
    with_reducible rfl
  rotate_left
  · simp only [Act.put, List.setIfInBounds_toArray, List.set_cons_zero, List.set_cons_succ, i64_w, i32_w]
    rfl
  refine pure_ (i := 5) (N := some 4) (v := ?_) (a' := ?_) #[true, true, true, true, true, true] rfl rfl (any_of HT_.out (by kernel_rfl)) (fun _ _ _ h => h) (Or.inl ⟨by rfl, ?_⟩) ?_ ?_
  rotate_left
  · intro w'
    go_simp
    with_reducible rfl
  rotate_left
  · simp only [Act.put, List.setIfInBounds_toArray, List.set_cons_zero, List.set_cons_succ, i64_w, i32_w]
    rfl
  refine done_ (done_of HT_.out (by kernel_rfl)) ?_
  go_wp2
  exact bodyPost_ret (v := .tuple #[.int .i32 xv, .slice A1 r.length (c - 4), .bool true]) (by simp [results, Tryz.results117, go_sem]) rfl ⟨A1, rfl, T1.out, bdrew (bdrew (Below.refl _ _))⟩
theorem readLengthS (A : Option Addr) (c : Nat) (l : List UInt8) (w : World) (hs : SB w A c l) :
    Calls Tryz.prog 114 #[.slice A l.length c] w fun e w' => ∃ A1 n1 c1, e = .returned (.tuple #[.int .i32 (readLen l).1, .slice A1 n1 c1, .bool (readLen l).2]) ∧ (4 ≤ l.length → n1 = l.length - 4 ∧ c1 = c - 4 ∧ ∀ wx, SB wx A c l → SB wx A1 c1 (l.drop 4)) ∧ (l.length < 4 → A1 = A ∧ n1 = l.length ∧ c1 = c) ∧ Below w.heap.size w w' := by
  by_cases h4 : l.length < 4
  · have hr : readLen l = (0, false) := by
      match l, h4 with
      | [], _ | [_], _ | [_, _], _ | [_, _, _], _ => rfl
    rw [hr]
    have HC := Lib.hid (readI32_short A c l w h4)
    have H4 := Lib.hid h4
    clear hs hr h4
    go_enter Tryz.func114, Tryz.ntmps114
    go_wp2_with fail
    refine HC.out.mono ?_
    rintro e w1 ⟨rfl, hb⟩
    go_wp2_with fail
    exact bodyPost_ret (v := .tuple #[.int .i32 0, .slice A l.length c, .bool false]) (by simp [results, Tryz.results114, go_sem]) rfl ⟨A, l.length, c, rfl, fun h => absurd h (by have := H4.out; omega), fun _ => ⟨rfl, rfl, rfl⟩, hb⟩
  · obtain ⟨b0, b1, b2, b3, r, rfl⟩ : ∃ b0 b1 b2 b3 r, l = b0 :: b1 :: b2 :: b3 :: r := by
      match l, h4 with
      | b0 :: b1 :: b2 :: b3 :: r, _ => exact ⟨b0, b1, b2, b3, r, rfl⟩
      | [], h => exact absurd (by simp) h
      | [_], h => exact absurd (by simp) h
      | [_, _], h => exact absurd (by simp) h
      | [_, _, _], h => exact absurd (by simp) h
    clear h4
    · skip
      have hc := readI32S A c b0 b1 b2 b3 r w hs
      have hr : readLen (b0 :: b1 :: b2 :: b3 :: r) = (wrap32 (leI [b0, b1, b2, b3]), decide (0 ≤ wrap32 (leI [b0, b1, b2, b3]))) := rfl
      rw [hr]
      obtain ⟨x, hx⟩ : ∃ x, x = wrap32 (leI [b0, b1, b2, b3]) := ⟨_, rfl⟩
      rw [← hx] at hc ⊢
      obtain ⟨q, hq⟩ : ∃ q, q = (b0 :: b1 :: b2 :: b3 :: r).length := ⟨_, rfl⟩
      have hq4 : r.length = q - 4 := by rw [hq]; simp
      rw [← hq] at hc ⊢
      have HC := Lib.hid hc
      have HQ4 := Lib.hid hq4
      have hge : 4 ≤ q := by rw [hq]; simp
      clear hs hx hc hr hq hq4
      by_cases h0 : x < 0
      all_goals
        go_enter Tryz.func114, Tryz.ntmps114
        go_wp2_with fail
        refine HC.out.mono ?_
        rintro e w1 ⟨A1, rfl, hs1, hb⟩
        have HS1 := Lib.hid hs1
        clear hs1
        go_wp2_with fail
        exact bodyPost_ret (v := .tuple #[.int .i32 x, .slice A1 r.length (c - 4), .bool (decide (0 ≤ x))]) (by simp [results, Tryz.results114, go_sem]; try omega) rfl ⟨A1, r.length, c - 4, rfl, fun _ => ⟨HQ4.out, rfl, HS1.out⟩, fun h => by omega, hb⟩
/-- ReadElement where there is an element. -/
theorem readElQ (A : Option Addr) (c : Nat) (l : List UInt8) (w : World) (hs0 : SB w A c l) (k : Nat) (hk : firstN l = some k) (hmax : l.length ≤ 140737488355328) :
    Calls Tryz.prog 128 #[.slice A l.length c] w fun e w' => ∃ A2 c2 A3 c3, e = .returned (.tuple #[.slice A2 k c2, .slice A3 (l.length - k) c3, .bool true]) ∧ (∀ wx, SB wx A c l → SB wx A2 c2 (l.take k) ∧ SB wx A3 c3 (l.drop k)) ∧ Below w.heap.size w w' := by
  match l, hs0, hmax, hk with
  | t :: r, hs0, hmax, hk =>
    simp only [firstN] at hk
    by_cases hn : (nmOf r).2 = true
    · rw [if_pos hn] at hk
      obtain ⟨nm, bl, rfl, hp, e1, e2⟩ := nm_split r hn
      by_cases hv : valIs (t.toNat : Int) ((nm ++ 0 :: bl).drop (nmOf (nm ++ 0 :: bl)).1.toNat) = true
      · rw [if_pos hv, e2, e1] at hk
        rw [e2] at hv
        obtain ⟨n, h1, h2⟩ := valLen_of_is hv
        rw [h1] at hk
        have hkk : k = nm.length + 2 + n := by
          have := Option.some.inj hk
          simp only [Int.toNat_natCast] at this
          omega
        refine (readElement_ok A c t nm bl n w hs0 (plain_ne' hp) h1 h2 hmax).mono ?_
        rintro e w' ⟨A2, c2, A3, c3, rfl, hss, hb⟩
        have ht : (t :: (nm ++ 0 :: bl)).take k = t :: (nm ++ 0 :: bl.take n) := by
          rw [hkk, show nm.length + 2 + n = nm.length + 1 + n + 1 from by omega, List.take_succ_cons]
          congr 1
          rw [List.take_append]
          rw [List.take_of_length_le (by omega), show nm.length + 1 + n - nm.length = n + 1 from by omega, List.take_succ_cons]
        have hd : (t :: (nm ++ 0 :: bl)).drop k = bl.drop n := by
          rw [hkk, show nm.length + 2 + n = nm.length + 1 + n + 1 from by omega, List.drop_succ_cons, List.drop_append]
          rw [List.drop_of_length_le (by omega), show nm.length + 1 + n - nm.length = n + 1 from by omega, List.drop_succ_cons]
          rfl
        refine ⟨A2, c2, A3, c3, ?_, fun wx h => by rw [ht, hd]; exact hss wx h, hb⟩
        rw [hkk, show (t :: (nm ++ 0 :: bl)).length - (nm.length + 2 + n) = bl.length - n from by simp; omega]
      · rw [if_neg hv] at hk; cases hk
    · rw [if_neg hn] at hk; cases hk
/-- What is no element. -/
theorem readElNo (A : Option Addr) (c : Nat) (l : List UInt8) (w : World) (hs0 : SB w A c l) (hk : firstN l = none) (hmax : l.length ≤ 140737488355328) :
    Calls Tryz.prog 128 #[.slice A l.length c] w fun e w' => ∃ A3 n3 c3, e = .returned (.tuple #[.slice none 0 0, .slice A3 n3 c3, .bool false]) ∧ Below w.heap.size w w' := by
  refine (readEl A c l w hs0 hmax).mono ?_
  rintro e w' ⟨⟨k, h, -⟩ | ⟨-, A3, n3, c3, rfl⟩, hb⟩
  · rw [hk] at h; cases h
  · exact ⟨A3, n3, c3, rfl, hb⟩
/-- 'names[1:]'. -/
theorem gs_tail (K : Option Addr) (kc : Nat) (n : Nat) (hn : n + 1 ≤ kc) :
    ∃ K' : Option Addr, (∀ W : World, (Instr.slice 49 (.slice K (n + 1) kc) (some (.int .i64 1)) none none).run Tryz.prog W = .ok (.slice K' n (kc - 1)) W) ∧
      ∀ (s : ByteArray) (l : List ByteArray), l.length = n → ∀ w : World, GS w K kc (strv (s :: l)) → GS w K' (kc - 1) (strv l) := by
  refine ⟨if kc = 1 then K else K.map (·.add 1), fun W => ?_, fun s l hl w h => ?_⟩
  · have hel : Tryz.prog.elem 49 = 9 := by simp [Program.elem, Tryz.underlying49]
    have hu : Tryz.prog.underlying 49 = some (.slice (Tryz.prog.elem 49)) := by rw [hel]; exact Tryz.underlying49
    have hi : (Tryz.prog.info? 9).map (·.size) = some 1 := by kernel_rfl
    obtain ⟨i0, hi0, hz⟩ := Option.map_eq_some_iff.1 hi
    have hr := run_slice_l (P := Tryz.prog) W 49 K (n + 1) kc hu .i64 (1 : Int) (by omega) (by omega)
    rw [hr, hel]
    simp [sizeOf, typeInfo, hi0, hz, sliced, Result.andThen]
  · refine ⟨by have := h.le; simp only [strv, List.map_cons, List.length_cons] at this ⊢; omega, by have := h.cap; omega, fun hp => ?_⟩
    obtain ⟨b, off, rfl, hcell⟩ := h.cells (by simp [strv])
    have hl2 : (strv l).length = n := by rw [strv_len, hl]
    have hle := h.le
    have hkc : ¬ kc = 1 := by simp only [strv, List.map_cons, List.length_cons, List.length_map] at hle hp; omega
    rw [if_neg hkc]
    have hadd : (⟨b, off, none⟩ : Addr).add 1 = ⟨b, off + 1, none⟩ := by unfold Addr.add; split <;> simp_all
    refine ⟨b, off + 1, by simp [hadd], fun j hj => ?_⟩
    have := hcell (j + 1) (by simp only [strv, List.map_cons, List.length_cons] at hj ⊢; omega)
    rw [show off + 1 + j = off + (j + 1) from by omega, this]
    simp [strv]
theorem gs_head {w : World} {K : Option Addr} {kc : Nat} {s : ByteArray} {l : List ByteArray} (h : GS w K kc (strv (s :: l))) : ∃ b off, K = some ⟨b, off, none⟩ ∧ w.cell? ⟨b, off, none⟩ = some (.string s) := by
  obtain ⟨b, off, rfl, hcell⟩ := h.cells (by simp [strv])
  exact ⟨b, off, rfl, by have := hcell 0 (by simp [strv]); simpa [strv] using this⟩
end Lk
end Go.Proofs.YtbpopaegfhcdpaaGreatDoor.X


/- Document.LookupErr along names, for all bytes. -/
set_option linter.unusedVariables false
set_option linter.unusedSimpArgs false
set_option maxRecDepth 100000
namespace Go.Proofs.YtbpopaegfhcdpaaGreatDoor.X
open Go.RowKit Go.Proofs.YtbpopaegfhcdpaaGreatDoorW.PrintLast
namespace Lk
open Sp Al Av Aw Ck Lo
def R69.T13 : Bool × List (List Nat × List Nat) := (true, [([], []), ([0], [0]), ([1], [1]), ([], []), ([3], [3]), ([4], [4]), ([2, 5], [2, 5])])
def R69.B13 : List Nat := [0, 1, 3, 0, 8, 24, 63]
theorem R69.tab13 : rtab .any (opsOf Tryz.f69 13) = R69.T13 := by kernel_rfl
theorem R69.bits13 : waitsOk R69.T13.2 R69.B13 = true := by kernel_rfl
def R69.T19 : Bool × List (List Nat × List Nat) := (true, [([], []), ([0], [0]), ([1, 1], [1]), ([], []), ([3], [3]), ([2, 4, 2], [2, 4]), ([5], [5]), ([6], [6]), ([6], [6]), ([], []), ([9, 7, 5, 0, 1, 2, 3, 4, 5, 6, 7, 9], [7, 9]), ([8, 10, 0, 1, 2, 3, 4, 5, 6, 7, 8, 9, 10], [8])])
def R69.B19 : List Nat := [0, 1, 3, 0, 8, 31, 63, 127, 127, 0, 767, 2047]
theorem R69.tab19 : rtab .any (opsOf Tryz.f69 19) = R69.T19 := by kernel_rfl
theorem R69.bits19 : waitsOk R69.T19.2 R69.B19 = true := by kernel_rfl
def R69.T24 : Bool × List (List Nat × List Nat) := (true, [([], []), ([0], [0]), ([1, 1], [1]), ([], []), ([3], [3]), ([2, 4, 2], [2, 4]), ([5], [5]), ([6], [6]), ([6], [6]), ([], []), ([9, 7, 5, 0, 1, 2, 3, 4, 5, 6, 7, 9], [7, 9]), ([8, 10, 0, 1, 2, 3, 4, 5, 6, 7, 8, 9, 10], [8])])
def R69.B24 : List Nat := [0, 1, 3, 0, 8, 31, 63, 127, 127, 0, 767, 2047]
theorem R69.tab24 : rtab .any (opsOf Tryz.f69 24) = R69.T24 := by kernel_rfl
theorem R69.bits24 : waitsOk R69.T24.2 R69.B24 = true := by kernel_rfl
theorem rndL {left : Int} {k q : Nat} (h1 : 1 < left) (h2 : left ≤ 2147483647) (h3 : k ≤ q) (h4 : q ≤ 5000) : wrap32 (k : Int) = k ∧ wrap32 (left - k) = left - k := by
  constructor <;> (unfold wrap32; omega)
theorem w32D {n : Int} (h0 : 0 ≤ n) (h1 : n ≤ 2147483647) : wrap32 (n - 4) = n - 4 := by unfold wrap32; omega
theorem w32I {n : Int} (h0 : -2147483648 ≤ n) (h1 : n ≤ 2147483647) : wrap32 n = n := by unfold wrap32; omega
/-- A box of two cells, laid behind a world. -/
structure Lf (wR : World) (g : Nat) (w' : World) : Prop where
  c0 : w'.cell? ⟨g, 0, none⟩ = some (.int .u8 0)
  k1 : w'.cell? ⟨g, 1, none⟩ = some (.slice none 0 0)
  f0 : w'.frozen? ⟨g, 0, none⟩ = false
  f1 : w'.frozen? ⟨g, 1, none⟩ = false
  ge : wR.heap.size ≤ g
  lt : g < w'.heap.size
  below : Below wR.heap.size wR w'
theorem Lf.of_block {wR w' : World} {g : Nat} {T : TypeId} (hblk : w'.heap[g]? = some (.cells #[.int .u8 0, .slice none 0 0] T (0, 0))) (hge : wR.heap.size ≤ g) (hb : Below wR.heap.size wR w') : Lf wR g w' where
  c0 := by simp [World.cell?, hblk]
  k1 := by simp [World.cell?, hblk]
  f0 := by simp [World.frozen?, hblk]
  f1 := by simp [World.frozen?, hblk]
  ge := hge
  lt := (Array.getElem?_eq_some_iff.1 hblk).1
  below := hb
theorem Lf.stored {wR w' : World} {g : Nat} (h : Lf wR g w') (x y : Value) (w7 : World) (hw : w7 = (w'.setCell ⟨g, 0, none⟩ x).setCell ⟨g, 1, none⟩ y) :
    w7.cell? ⟨g, 0, none⟩ = some x ∧ w7.cell? ⟨g, 1, none⟩ = some y ∧ g < w7.heap.size ∧ Below wR.heap.size wR w7 := by
  subst hw
  have e : (⟨g, 0, none⟩ : Addr) ≠ ⟨g, 1, none⟩ := by simp
  have e' : (⟨g, 1, none⟩ : Addr) ≠ ⟨g, 0, none⟩ := by simp
  refine ⟨?_, ?_, ?_, (h.below.setCell h.ge _).setCell h.ge _⟩
  · rw [World.cell?_setCell_other _ _ _ _ e']; exact World.cell?_setCell_same _ _ _ h.c0
  · exact World.cell?_setCell_same (u := .slice none 0 0) _ _ _ (by rw [World.cell?_setCell_other _ _ _ _ e]; exact h.k1)
  · simpa [World.setCell] using h.lt
theorem elemKey (A : Option Addr) (c : Nat) (k0 : UInt8) (nm bl : List UInt8) (w : World) (hs : SB w A c (k0 :: (nm ++ 0 :: bl))) (hn : plainB nm = true) (hmax : (k0 :: (nm ++ 0 :: bl)).length ≤ 140737488355328) :
    Calls Tryz.prog 133 #[.slice A (k0 :: (nm ++ 0 :: bl)).length c] w fun e w' => e = .returned (.string ⟨nm.toArray⟩) ∧ w = w' := by
  have HK := Lib.hid (keyErr A c k0 nm bl w hs hn hmax)
  obtain ⟨p, hp⟩ : ∃ p, p = (k0 :: (nm ++ 0 :: bl)).length := ⟨_, rfl⟩
  rw [← hp] at HK ⊢
  clear hs hn hmax hp
  go_enter Tryz.func133, Tryz.ntmps133
  go_wp2_with fail
  refine HK.out.mono ?_
  rintro e w1 ⟨rfl, rfl⟩
  go_wp2_with fail
  go_ret
  exact ⟨rfl, rfl⟩
/-- What a look-up along names gives. -/
def LkOk (a2 a3 : Addr) (ks : List ByteArray) (l : List UInt8) (A : Option Addr) (c : Nat) (K : Option Addr) (kc : Nat) (w : World) : Prop :=
  Calls Tryz.prog 69 #[.slice A l.length c, .slice K ks.length kc] w fun e w' => ∃ A1 c1 v, e = .returned (.tuple #[.agg #[.int .u8 (seek ks l).1, .slice A1 (seek ks l).2.1.length c1], v]) ∧ CodeL a2 a3 (seek ks l).2.2 v ∧ Same A c l A1 c1 (seek ks l).2.1 ∧ Below w.heap.size w w'
theorem same_nil (A : Option Addr) (c : Nat) (l : List UInt8) : Same A c l none 0 [] := fun wx _ => SB.nil wx
theorem sameT {A A1 A2 : Option Addr} {c c1 c2 : Nat} {l l1 l2 : List UInt8} (h : Same A c l A1 c1 l1) (k : Same A1 c1 l1 A2 c2 l2) : Same A c l A2 c2 l2 := fun wx s => k wx (h wx s)
theorem lk_nil (a1 a2 a3 : Addr) (l : List UInt8) (A : Option Addr) (c : Nat) (K : Option Addr) (kc : Nat) (w : World) (hS : SentD w a1 a2 a3) : LkOk a2 a3 [] l A c K kc w := by
  unfold LkOk
  have g3 := hS.e3
  obtain ⟨p, hp⟩ : ∃ p, p = l.length := ⟨_, rfl⟩
  rw [← hp]
  have HS0 := Lib.hid (same_nil A c l)
  have hl3 : 1 < w.heap.size := World.block_lt_of_cell? _ _ g3
  clear hS hp
  show Calls Tryz.prog 69 #[.slice A p c, .slice K 0 kc] w fun e w' => ∃ A1 c1 v, e = .returned (.tuple #[.agg #[.int .u8 0, .slice A1 0 c1], v]) ∧ CodeL a2 a3 8 v ∧ Same A c l A1 c1 [] ∧ Below w.heap.size w w'
  go_enter Tryz.func69, Tryz.ntmps69
  go_wp2_with fail
  go_region
  go_wp2_with fail
  exact bodyPost_ret (v := .tuple #[.agg #[.int .u8 0, .slice none 0 0], .iface 270 (.pointer (some a3))]) (by simp [results, Tryz.results69, go_sem]) rfl ⟨none, 0, _, rfl, .inr (.inr (.inl ⟨rfl, rfl⟩)), HS0.out, by exact bdrew (balloc (Below.refl _ _) (Nat.le_refl _) _)⟩
theorem read_parts {l : List UInt8} {nn : Int} (hr : readLen l = (nn, true)) : numOf l = (nn, true) ∧ 0 ≤ nn ∧ nn ≤ 2147483647 ∧ 4 ≤ l.length := by
  have h := read_num l
  rw [hr] at h
  obtain ⟨h1, h2⟩ := Prod.mk.inj h
  have h3 := h2.symm
  rw [Bool.and_eq_true] at h3
  have hb := num_bd l
  refine ⟨Prod.ext h1.symm h3.1, ?_, ?_, num_long l h3.1⟩
  · rw [h1]; exact of_decide_eq_true h3.2
  · rw [h1]; exact hb.2
theorem read_none {l : List UInt8} {nn : Int} (hr : readLen l = (nn, false)) : partsOf l = ([], false) := by
  have h := read_num l
  rw [hr] at h
  obtain ⟨h1, h2⟩ := Prod.mk.inj h
  refine partsOf_no (nn := (numOf l).1) (ok := (numOf l).2) rfl ?_
  rintro ⟨h3, h4⟩
  rw [h3, decide_eq_true h4] at h2
  cases h2
theorem lk_noread (a1 a2 a3 : Addr) (s : ByteArray) (r : List ByteArray) (l : List UInt8) (nn : Int) (A : Option Addr) (c : Nat) (K : Option Addr) (kc : Nat) (w : World) (hs : SB w A c l) (hr : readLen l = (nn, false)) (hkl : (s :: r).length ≤ 20) : LkOk a2 a3 (s :: r) l A c K kc w := by
  unfold LkOk
  rw [seek_bad (by unfold outOf; rw [read_none hr]; rfl)]
  obtain ⟨p, hp⟩ : ∃ p, p = l.length := ⟨_, rfl⟩
  have HL : Hid (∀ wx, Below w.heap.size w wx → Calls Tryz.prog 114 #[.slice A p c] wx fun e w' => ∃ A1 n1 c1, e = .returned (.tuple #[.int .i32 nn, .slice A1 n1 c1, .bool false]) ∧ Below wx.heap.size wx w') := Lib.hid (fun wx hx => by
    rw [hp]
    refine (readLength A c l wx (hs.keep hx)).mono ?_
    rintro e w' ⟨A1, n1, c1, rfl, -, -, hb⟩
    exact ⟨A1, n1, c1, by rw [hr], hb⟩)
  have HS0 := Lib.hid (same_nil A c l)
  rw [← hp]
  obtain ⟨n0, hn0⟩ : ∃ x, x = (s :: r).length := ⟨_, rfl⟩
  rw [← hn0] at hkl ⊢
  have d0 : decide ((n0 : Int) < 1) = false := decide_eq_false (by rw [hn0]; simp; omega)
  clear hs hr hp hn0
  show Calls Tryz.prog 69 #[.slice A p c, .slice K n0 kc] w fun e w' => ∃ A1 c1 v, e = .returned (.tuple #[.agg #[.int .u8 0, .slice A1 0 c1], v]) ∧ CodeL a2 a3 1 v ∧ Same A c l A1 c1 [] ∧ Below w.heap.size w w'
  go_enter Tryz.func69, Tryz.ntmps69
  go_wp2_with fail
  refine (HL.out _ (balloc (Below.refl _ _) (Nat.le_refl _) _)).mono ?_
  rintro e w1 ⟨A1, n1, c1, rfl, hb⟩
  have hb1 : Below (w.heap.size + 1) (w.alloc (.cells #[.int .u8 0, .slice none 0 0] 73)) w1 := by simpa using hb
  have HB1 := Lib.hid hb1
  have hz1 := boxs hb1
  clear hb hb1 HL
  go_wp2_with fail
  refine (newInsuf A A1 p c n1 c1 w1).mono ?_
  rintro e w2 ⟨rfl, hb2⟩
  have HB := HB1.out.trans (hb2.mono hz1)
  have q0 := boxc HB 0
  have q1 := boxc HB 1
  simp only [List.getElem?_cons_succ, List.getElem?_cons_zero] at q0 q1
  have f0 := boxf HB 0
  have f1 := boxf HB 1
  have hzz := boxs HB
  have hlt : w.heap.size < w2.heap.size := by omega
  have HBB := Lib.hid (boxb HB)
  clear hb2 HB HB1
  go_wp2_with fail
  exact bodyPost_ret (v := .tuple #[.agg #[.int .u8 0, .slice none 0 0], .iface 180 (.agg #[.slice A p c, .slice A1 n1 c1])]) (by simp [results, Tryz.results69, go_sem, q0, q1, hlt]) rfl ⟨none, 0, _, rfl, .inl (.inr (.inr ⟨rfl, _, _, _, _, _, _, rfl⟩)), HS0.out, by first | exact (HBB.out.setCell (Nat.le_refl _) _).setCell (Nat.le_refl _) _ | exact balloc ((HBB.out.setCell (Nat.le_refl _) _).setCell (Nat.le_refl _) _) (by simp [World.setCell]; omega) _⟩
set_option maxHeartbeats 8000000 in
theorem lk_loop (a1 a2 a3 : Addr) (s : ByteArray) (r : List ByteArray) (l : List UInt8) (nn : Int) (A : Option Addr) (c : Nat) (K : Option Addr) (kc : Nat) (w : World) (hs : SB w A c l) (hk : GS w K kc (strv (s :: r))) (hS : SentD w a1 a2 a3) (hl : l.length ≤ 5000) (hkl : (s :: r).length ≤ 20) (hn : narrow (s :: r) l = false) (hr : readLen l = (nn, true))
    (IH : ∀ (l' : List UInt8) (A' : Option Addr) (c' : Nat) (K' : Option Addr) (kc' : Nat) (w' : World), SB w' A' c' l' → GS w' K' kc' (strv r) → SentD w' a1 a2 a3 → l'.length ≤ 5000 → narrow r l' = false → LkOk a2 a3 r l' A' c' K' kc' w') : LkOk a2 a3 (s :: r) l A c K kc w := by
  unfold LkOk
  obtain ⟨hnum, h0, hmx, h4⟩ := read_parts hr
  obtain ⟨p, hp⟩ : ∃ p, p = l.length := ⟨_, rfl⟩
  obtain ⟨OUT, hOUT⟩ : ∃ x, x = outOf l s.toList := ⟨_, rfl⟩
  have hout : outP (pts (p + 1) (nn - 4) (l.drop 4)).1 (pts (p + 1) (nn - 4) (l.drop 4)).2.2 s.toList = OUT := by
    rw [hOUT]
    unfold outOf
    rw [partsOf_yes hnum h0, hp]
  have HL : Hid (∀ wx, Below w.heap.size w wx → Calls Tryz.prog 114 #[.slice A p c] wx fun e w' => ∃ A1 c1, e = .returned (.tuple #[.int .i32 nn, .slice A1 (p - 4) c1, .bool true]) ∧ Same A c l A1 c1 (l.drop 4) ∧ Below wx.heap.size wx w') := Lib.hid (fun wx hx => by
    rw [hp]
    refine (readLengthS A c l wx (hs.keep hx)).mono ?_
    rintro e w' ⟨A1, n1, c1, rfl, h5, -, hb⟩
    obtain ⟨rfl, rfl, h6⟩ := h5 h4
    exact ⟨A1, _, by rw [hr], h6, hb⟩)
  obtain ⟨kb, ko, rfl, hkc⟩ := gs_head hk
  have hkbl := World.block_lt_of_cell? _ _ hkc
  have g2 := hS.e2
  have HS0 := Lib.hid hs
  have HK0 := Lib.hid hk
  have HSD := Lib.hid hS
  have HIH := Lib.hid IH
  have HNR := Lib.hid hn
  have HOU := Lib.hid hOUT
  have HP := Lib.hid hp
  obtain ⟨n0, hn0⟩ : ∃ x, x = (s :: r).length := ⟨_, rfl⟩
  have HN0 := Lib.hid hn0
  have hn01 : 1 ≤ n0 := by rw [hn0]; simp
  rw [← hn0] at hkl
  rw [← hp, ← hn0]
  have d0 : decide ((n0 : Int) < 1) = false := decide_eq_false (by omega)
  have i4 : wrap32 (nn - 4) = nn - 4 := w32D h0 hmx
  have HD : Hid ((l.drop 4).length = p - 4 ∧ p ≤ 5000 ∧ 0 ≤ nn ∧ nn ≤ 2147483647 ∧ outP (pts (p + 1) (nn - 4) (l.drop 4)).1 (pts (p + 1) (nn - 4) (l.drop 4)).2.2 s.toList = OUT) := Lib.hid ⟨by rw [List.length_drop, hp], by omega, h0, hmx, hout⟩
  have hkb1 : w.cell? ⟨kb, ko, none⟩ = some (.string s) := hkc
  have hgl : 2 < w.heap.size := World.block_lt_of_cell? _ _ g2
  clear hs hk hS IH hn hOUT hp hn0 hl hnum h0 hmx h4 hout hr hkc
  obtain ⟨SK, hSK⟩ : ∃ x, x = seek (s :: r) l := ⟨_, rfl⟩
  rw [← hSK]
  have HSK := Lib.hid hSK
  clear hSK
  go_enter Tryz.func69, Tryz.ntmps69
  go_wp2_with fail
  refine (HL.out _ (balloc (Below.refl _ _) (Nat.le_refl _) _)).mono ?_
  rintro e w1 ⟨A1, c1, rfl, hs1, hb⟩
  have hb1 : Below (w.heap.size + 1) (w.alloc (.cells #[.int .u8 0, .slice none 0 0] 73)) w1 := by simpa using hb
  have HB1 := Lib.hid hb1
  have HS1 := Lib.hid hs1
  clear hb hb1 hs1 HL
  go_wp2_with fail
  go_loopw [6, 7] (fun a b wr => ∃ (left : Int) (q : Nat) (A2 : Option Addr) (c2 : Nat), a = .int .i32 left ∧ b = .slice A2 q c2 ∧ left ≤ 2147483647 ∧ q ≤ 5000 ∧ Hid (∃ rem f, q = rem.length ∧ Same A c l A2 c2 rem ∧ outP (pts (f + 1) left rem).1 (pts (f + 1) left rem).2.2 s.toList = OUT ∧ rem.length ≤ f) ∧ Hid (Below (w.heap.size + 1) (w.alloc (.cells #[.int .u8 0, .slice none 0 0] 73)) wr)) (fun a _ _ => (intOf a).toNat)
  case atStart =>
    have hD := HD.out
    refine ⟨nn - 4, p - 4, A1, c1, by rw [i4], rfl, by omega, by omega, Lib.hid ⟨l.drop 4, p, hD.1.symm, HS1.out, hD.2.2.2.2, by omega⟩, HB1⟩
  case round =>
    obtain ⟨left, q, A2, c2, rfl, rfl, hle, hq, ⟨rem, f, hqr, hs2, hot, hf⟩, HB2⟩ := hrel
    clear i4 d0
    have hz2 := boxs HB2.out
    have HB2b := Lib.hid (boxb HB2.out)
    have hsw := hs2 _ (HS0.out.keep HB2b.out)
    by_cases hlt : 1 < left
    · have d1 : decide (1 < left) = true := decide_eq_true hlt
      cases hfn : firstN rem with
      | none =>
        have HR := Lib.hid (readElNo A2 c2 rem wr hsw hfn (by omega))
        rw [← hqr] at HR
        have HOB : Hid (OUT = .bad) := Lib.hid (by rw [← hot, pts_none f left rem hlt hfn]; rfl)
        have HSN := Lib.hid (same_nil A c l)
        have e1 : wrap32 ((0 : Nat) : Int) = 0 := by decide +kernel
        have e2 : wrap32 (0 : Int) = 0 := by decide +kernel
        have e3 : wrap32 (left - 0) = left := by rw [Int.sub_zero]; exact w32I (by omega) hle
        have e4 : wrap32 left = left := w32I (by omega) hle
        clear hqr hs2 hot hf hsw hfn hlt
        go_wp2_with fail
        refine HR.out.mono ?_
        rintro e w2 ⟨A3, n3, c3, rfl, hb2⟩
        have HBB := Lib.hid (HB2.out.trans (hb2.mono hz2))
        have hz3 := boxs HBB.out
        clear hb2 HR
        go_wp2_with fail
        refine (newInsuf A A3 p c n3 c3 w2).mono ?_
        rintro e w3 ⟨rfl, hb3⟩
        have HB := HBB.out.trans (hb3.mono hz3)
        have q0 := boxc HB 0
        have q1 := boxc HB 1
        simp only [List.getElem?_cons_succ, List.getElem?_cons_zero] at q0 q1
        have f0 := boxf HB 0
        have f1 := boxf HB 1
        have hzz := boxs HB
        have hlt : w.heap.size < w3.heap.size := by omega
        have HBB9 := Lib.hid (boxb HB)
        clear hb3 HB HBB HB2 HB2b e1 e2 e3 e4 d1
        go_wp2_with fail
        have hSK : SK = (0, [], 1) := by rw [HSK.out]; exact seek_bad (by rw [← HOU.out, HOB.out])
        rw [hSK]
        exact bodyPost_ret (v := .tuple #[.agg #[.int .u8 0, .slice none 0 0], .iface 180 (.agg #[.slice A p c, .slice A3 n3 c3])]) (by simp [results, Tryz.results69, go_sem, q0, q1, hlt]) rfl ⟨none, 0, _, rfl, .inl (.inr (.inr ⟨rfl, _, _, _, _, _, _, rfl⟩)), HSN.out, by first | exact (HBB9.out.setCell (Nat.le_refl _) _).setCell (Nat.le_refl _) _ | exact balloc ((HBB9.out.setCell (Nat.le_refl _) _).setCell (Nat.le_refl _) _) (by simp [World.setCell]; omega) _⟩
      | some k =>
        obtain ⟨t, nm, v, htk, hpn, k2, kq, hpt, hval⟩ := first_parts rem k hfn
        have HR := Lib.hid (readElQ A2 c2 rem wr hsw k hfn (by omega))
        rw [← hqr] at HR
        obtain ⟨e1, e2⟩ := rndL hlt hle (by rw [hqr]; exact kq : k ≤ q) hq
        have hst := pts_step f left rem k hlt hfn
        rw [hpt] at hst
        rw [hst] at hot
        have hel : (t :: (nm ++ 0 :: v)).length = k := by rw [← htk, List.length_take]; omega
        have HX : Hid (q = rem.length ∧ Same A c l A2 c2 rem ∧ outP ((t, nm, v) :: (pts f (left - k) (rem.drop k)).1) (pts f (left - k) (rem.drop k)).2.2 s.toList = OUT ∧ rem.length ≤ f ∧ 2 ≤ k ∧ k ≤ rem.length ∧ 1 < left ∧ left ≤ 2147483647 ∧ q ≤ 5000 ∧ rem.take k = t :: (nm ++ 0 :: v) ∧ plainB nm = true ∧ (valIs (t.toNat : Int) v = true → valLen (t.toNat : Int) v = ((v.length : Int), true)) ∧ (t :: (nm ++ 0 :: v)).length = k) := Lib.hid ⟨hqr, hs2, hot, hf, k2, kq, hlt, hle, hq, htk, hpn, hval, hel⟩
        have hk0 : 0 < k := by omega
        clear hqr hs2 hot hf k2 kq hlt hle hq hpt hval hel hst hfn hsw htk hpn
        go_wp2_with fail
        refine HR.out.mono ?_
        rintro e w2 ⟨A3, c3, A4, c4, rfl, hss, hb2⟩
        have HBB := Lib.hid (HB2.out.trans (hb2.mono hz2))
        have hz3 := boxs HBB.out
        have HBBb := Lib.hid (boxb HBB.out)
        have hsmE : Same A c l A3 c3 (t :: (nm ++ 0 :: v)) := fun wx h => by have := (hss wx (HX.out.2.1 wx h)).1; rwa [HX.out.2.2.2.2.2.2.2.2.2.1] at this
        have hsmR : Same A c l A4 c4 (rem.drop k) := fun wx h => (hss wx (HX.out.2.1 wx h)).2
        have hsE2 := hsmE w2 (HS0.out.keep HBBb.out)
        have HSE := Lib.hid hsmE
        have HSR := Lib.hid hsmR
        obtain ⟨z, hz⟩ : ∃ z : ByteArray, z = ⟨nm.toArray⟩ := ⟨_, rfl⟩
        have HKB : Hid (∀ wx, Below w.heap.size w wx → Calls Tryz.prog 129 #[.slice A3 k c3] wx fun e w' => ∃ A5 n5 c5, e = .returned (.slice A5 n5 c5) ∧ (convert 22 9 (.slice A5 n5 c5)).run Tryz.prog w' = .ok (.string z) w' ∧ Below wx.heap.size wx w') := Lib.hid fun wx h => by
          have hx := Lo.keyBytes A3 c3 t nm v wx (hsmE wx (HS0.out.keep h)) HX.out.2.2.2.2.2.2.2.2.2.2.1 (by rw [HX.out.2.2.2.2.2.2.2.2.2.2.2.2]; have := HX.out; omega)
          rw [HX.out.2.2.2.2.2.2.2.2.2.2.2.2] at hx
          refine hx.mono ?_
          rintro e w' ⟨A5, c5, rfl, h5, rfl⟩
          exact ⟨A5, _, c5, rfl, by rw [hz]; exact str_of h5, Below.refl _ _⟩
        have hkb2 : w2.cell? ⟨kb, ko, none⟩ = some (.string s) := (HBBb.out.cell hkbl).trans hkb1
        have HZ := Lib.hid hz
        clear hss hb2 HR hsmE hsmR hz hsE2
        have hn00 : 0 < n0 := by omega
        by_cases hnm : nm = s.toList
        · have z1 : (z.toList == s.toList) = true := by rw [beq_iff_eq, HZ.out, toList_data]; exact hnm
          have z2 : (z.toList != s.toList) = false := by simpa using z1
          have HNM := Lib.hid hnm
          clear hnm
          go_wp2_with fail
          refine start_ (n := 7) (S := fun w' => w'.cell? ⟨kb, ko, none⟩ = some (.string s)) (ds := []) #[false, false, false, false, false, false, false] (by kernel_rfl) rfl rfl ((by exact hkb2)) (fun hHeld => ?_)
          refine with_tabW R69.tab13 R69.bits13 (fun HT_ HW_ => ?_)
          refine pure_ (i := 0) (N := some 55) (v := ?_) (a' := ?_) #[true, false, false, false, false, false, false] rfl rfl (any_of HT_.out (by kernel_rfl)) (fun _ _ _ h => h) (Or.inl ⟨by rfl, ?_⟩) ?_ ?_
          rotate_left
          · intro w'
            go_simp
            with_reducible rfl
          rotate_left
          · simp only [Act.put, List.setIfInBounds_toArray, List.set_cons_zero, List.set_cons_succ, i64_w, i32_w]
            rfl
          refine pure_ (i := 3) (N := some 58) (v := ?_) (a' := ?_) #[true, false, false, true, false, false, false] rfl rfl (any_of HT_.out (by kernel_rfl)) (fun _ _ _ h => h) (Or.inl ⟨by rfl, ?_⟩) ?_ ?_
          rotate_left
          · intro w'
            go_simp
            with_reducible rfl
          rotate_left
          · simp only [Act.put, List.setIfInBounds_toArray, List.set_cons_zero, List.set_cons_succ, i64_w, i32_w]
            rfl
          refine pure_ (i := 4) (N := some 59) (v := ?_) (a' := ?_) #[true, false, false, true, true, false, false] rfl rfl (any_of HT_.out (by kernel_rfl)) (fun _ _ _ h => h) (Or.inl ⟨by rfl, ?_⟩) ?_ ?_
          rotate_left
          · intro w'
            go_simp
            with_reducible rfl
          rotate_left
          · simp only [Act.put, List.setIfInBounds_toArray, List.set_cons_zero, List.set_cons_succ, i64_w, i32_w]
            rfl
          refine take_ (i := 5) (N := some 60) (v := ?_) (a' := ?_) #[true, false, false, true, true, true, false] rfl rfl (take_ofW HT_.out HW_.out (by kernel_rfl)) (fun _ _ _ h => h) (Or.inl ⟨by rfl, ?_⟩) hHeld ?_ ?_
          rotate_left
          · intro w' s0
            go_simp
            with_reducible rfl
          rotate_left
          · simp only [Act.put, List.setIfInBounds_toArray, List.set_cons_zero, List.set_cons_succ, i64_w, i32_w]
            rfl
          refine one_ (i := 1) (N := some 56) #[true, true, false, true, true, true, false] rfl rfl (one_of HT_.out (by kernel_rfl)) (by decide) (fun K hK => ?_)
          refine goes_ Tryz.func129 (by kernel_rfl) rfl #[.slice A3 k c3] (by rfl) rfl rfl (by simp only [List.map_toArray, List.map_cons, List.map_nil]; rfl) ?_
          with_reducible refine (HKB.out _ (bdrew HBBb.out)).mono ?_
          rintro e w3 ⟨A5, n5, c5, rfl, k5, hb3⟩
          refine ⟨_, rfl, ?_⟩
          refine hK.out _ _ (((hb3.cell (World.block_lt_of_cell? _ _ hHeld)).trans hHeld)) (fun hHeld => ?_)
          clear hK K
          refine norm_ (a' := ?_) ?_ ?_
          rotate_left
          · show Act.put _ (some 56) _ = _
            simp only [Act.put, List.setIfInBounds_toArray, List.set_cons_zero, List.set_cons_succ, i64_w, i32_w]
            rfl
          refine one_ (i := 2) (N := some 57) #[true, true, true, true, true, true, false] rfl rfl (one_of HT_.out (by kernel_rfl)) (by decide) (fun K hK => ?_)
          refine value_ (w1 := ?_) (v := ?_) (by rfl) rfl ?_ ?_
          rotate_left 2
          · go_simp
            constructor
            · rfl
            · rfl
          refine hK.out _ _ (hHeld) (fun hHeld => ?_)
          clear hK K
          refine norm_ (a' := ?_) ?_ ?_
          rotate_left
          · show Act.put _ (some 57) _ = _
            simp only [Act.put, List.setIfInBounds_toArray, List.set_cons_zero, List.set_cons_succ, i64_w, i32_w]
            rfl
          refine pure_ (i := 6) (N := some 61) (v := ?_) (a' := ?_) #[true, true, true, true, true, true, true] rfl rfl (any_of HT_.out (by kernel_rfl)) (fun _ _ _ h => h) (Or.inl ⟨by rfl, ?_⟩) ?_ ?_
          rotate_left
          · intro w'
            go_simp
            with_reducible rfl
          rotate_left
          · simp only [Act.put, List.setIfInBounds_toArray, List.set_cons_zero, List.set_cons_succ, i64_w, i32_w]
            rfl
          refine done_ (done_of HT_.out (by kernel_rfl)) ?_
          have HB3 := Lib.hid (HBB.out.trans ((bleft hb3).mono hz3))
          have hz33 := boxs HB3.out
          have HB3b := Lib.hid (boxb HB3.out)
          have hot2 : outOf l s.toList = .hit t v := by rw [← HOU.out, ← HX.out.2.2.1]; exact outP_hit HNM.out
          have HHIT := Lib.hid hot2
          clear hb3 k5 hHeld hkb2 hot2 z1 z2 HKB HBB HBBb HB2 HB2b
          obtain ⟨x1, x2, x3, x4, x5, x6, x7, x8, x9, x10, x11, x12, x13⟩ := HX.out
          have hk140 : (t :: (nm ++ 0 :: v)).length ≤ 140737488355328 := by rw [x13]; omega
          have hnv : v.length ≤ 5000 := by have h := x13; simp only [List.length_cons, List.length_append] at h; omega
          obtain ⟨nv, hnvv⟩ : ∃ x, x = v.length := ⟨_, rfl⟩
          have HNV := Lib.hid hnvv
          rcases r with _ | ⟨s2, r2⟩
          · have hn1 : n0 = 1 := HN0.out
            subst hn1
            cases hv : valIs (t.toNat : Int) v with
            | true =>
              have HV : Hid (∀ wx, Below w.heap.size w wx → Calls Tryz.prog 134 #[.slice A3 k c3] wx fun e w' => ∃ A5 c5, e = .returned (.tuple #[.agg #[.int .u8 (t.toNat : Int), .slice A5 nv c5], .nilIface]) ∧ Same A3 c3 (t :: (nm ++ 0 :: v)) A5 c5 v ∧ Below wx.heap.size wx w') := Lib.hid fun wx h => by
                have hx := valueErr A3 c3 t nm v wx (HSE.out wx (HS0.out.keep h)) x11 (x12 hv) hk140
                rw [x13, ← hnvv] at hx
                exact hx
              have hSK : SK = ((t.toNat : Int), v, 0) := by rw [HSK.out]; exact seek_one HHIT.out hv
              obtain ⟨tt, htt⟩ : ∃ x : Int, x = (t.toNat : Int) := ⟨_, rfl⟩
              rw [← htt] at HV hSK
              have HSKK := Lib.hid hSK
              clear hSK htt hv x1 x2 x3 x4 x5 x6 x7 x8 x9 x10 x11 x12 x13 hk140 hnv hnvv
              go_wp2_with fail
              refine (HV.out _ HB3b.out).mono ?_
              rintro e w4 ⟨A6, c6, rfl, hs6, hb4⟩
              have HB := HB3.out.trans (hb4.mono hz33)
              have q0 := boxc HB 0
              have q1 := boxc HB 1
              simp only [List.getElem?_cons_succ, List.getElem?_cons_zero] at q0 q1
              have f0 := boxf HB 0
              have f1 := boxf HB 1
              have hzz := boxs HB
              have hlt : w.heap.size < w4.heap.size := by omega
              have HBB9 := Lib.hid (boxb HB)
              have HS6 := Lib.hid hs6
              clear hb4 HB HB3 HB3b hs6 HV
              go_wp2_with fail
              rw [HSKK.out]
              exact bodyPost_ret (v := .tuple #[.agg #[.int .u8 tt, .slice A6 nv c6], .nilIface]) (by simp [results, Tryz.results69, go_sem, q0, q1, hlt]) rfl ⟨A6, c6, _, by rw [HNV.out], .inl (.inl ⟨rfl, rfl⟩), sameT HSE.out HS6.out, by first | exact (HBB9.out.setCell (Nat.le_refl _) _).setCell (Nat.le_refl _) _ | exact balloc ((HBB9.out.setCell (Nat.le_refl _) _).setCell (Nat.le_refl _) _) (by simp [World.setCell]; omega) _⟩
            | false =>
              have HV : Hid (∀ wx, Below w.heap.size w wx → Calls Tryz.prog 134 #[.slice A3 k c3] wx fun e w' => ∃ v6, e = .returned (.tuple #[.agg #[.int .u8 0, .slice none 0 0], v6]) ∧ CodeIs 1 v6 ∧ Below wx.heap.size wx w') := Lib.hid fun wx h => by
                have hx := valueErrNo A3 c3 t nm v wx (HSE.out wx (HS0.out.keep h)) x11 hv hk140
                rw [x13] at hx
                exact hx
              have hSK : SK = (0, [], 1) := by rw [HSK.out]; exact seek_cut HHIT.out (by rw [hv]; decide)
              have HSKK := Lib.hid hSK
              have HSN := Lib.hid (same_nil A c l)
              clear hSK hv x1 x2 x3 x4 x5 x6 x7 x8 x9 x10 x11 x12 x13 hk140 hnv hnvv
              go_wp2_with fail
              refine (HV.out _ HB3b.out).mono ?_
              rintro e w4 ⟨v6, rfl, hc6, hb4⟩
              have HB := HB3.out.trans (hb4.mono hz33)
              have q0 := boxc HB 0
              have q1 := boxc HB 1
              simp only [List.getElem?_cons_succ, List.getElem?_cons_zero] at q0 q1
              have f0 := boxf HB 0
              have f1 := boxf HB 1
              have hzz := boxs HB
              have hlt : w.heap.size < w4.heap.size := by omega
              have HBB9 := Lib.hid (boxb HB)
              have HC6 := Lib.hid hc6
              clear hb4 HB HB3 HB3b hc6 HV
              go_wp2_with fail
              rw [HSKK.out]
              exact bodyPost_ret (v := .tuple #[.agg #[.int .u8 0, .slice none 0 0], v6]) (by simp [results, Tryz.results69, go_sem, q0, q1, hlt]) rfl ⟨none, 0, _, rfl, .inl HC6.out, HSN.out, by first | exact (HBB9.out.setCell (Nat.le_refl _) _).setCell (Nat.le_refl _) _ | exact balloc ((HBB9.out.setCell (Nat.le_refl _) _).setCell (Nat.le_refl _) _) (by simp [World.setCell]; omega) _⟩
          · obtain ⟨n1, hn1⟩ : ∃ x, x = (s2 :: r2).length := ⟨_, rfl⟩
            have hn01' : n0 = n1 + 1 := by rw [HN0.out, hn1]; rfl
            have hn1p : 1 ≤ n1 := by rw [hn1]; simp
            have HN1 := Lib.hid hn1
            have d9 : decide (1 < (n0 : Int)) = true := decide_eq_true (by omega)
            obtain ⟨hvi, hnr⟩ := narrow_hit HHIT.out HNR.out
            have hkle : n1 + 1 ≤ kc := by have := HK0.out.le; simp only [strv_len, List.length_cons] at this hn1; omega
            obtain ⟨K', eK, sK⟩ := gs_tail (some ⟨kb, ko, none⟩) kc n1 hkle
            rw [← hn01'] at eK
            have hsE3 := HSE.out _ (HS0.out.keep HB3b.out)
            have HVL := Lib.hid (x12 hvi)
            have HSG := Lib.hid (fun wx (h : Below w.heap.size w wx) => sK s (s2 :: r2) hn1.symm wx (HK0.out.keep h))
            have hd01 : n0 = n1 + 1 := hn01'
            have HN01 := Lib.hid hd01
            clear sK hn01' hd01 hkle hn1p
            obtain ⟨eb, eo, rfl, hce⟩ := hsE3.cells (by simp)
            have hct : w3.cell? ⟨eb, eo, none⟩ = some (.int .u8 (t.toNat : Int)) := by have h := hce 0 (by simp); simpa using h
            clear hce hsE3
            have HREC : Hid (∀ (T : Int) (M : Nat), (t = 3 ∨ t = 4) → T = SK.1 → M = SK.2.1.length → ∀ A6 c6 wx, Same A c l A6 c6 v → Below w.heap.size w wx → Calls Tryz.prog 69 #[.slice A6 nv c6, .slice K' n1 (kc - 1)] wx fun e w' => ∃ A7 c7 v7, e = .returned (.tuple #[.agg #[.int .u8 T, .slice A7 M c7], v7]) ∧ CodeL a2 a3 SK.2.2 v7 ∧ Same A6 c6 v A7 c7 SK.2.1 ∧ Below wx.heap.size wx w') := Lib.hid fun T M ht hT hM A6 c6 wx hsm hbx => by
              have hx := HIH.out v A6 c6 K' (kc - 1) wx (hsm wx (HS0.out.keep hbx)) (HSG.out wx hbx) (HSD.out.keep hbx) hnv (hnr ht)
              unfold LkOk at hx
              have hSK : SK = seek (s2 :: r2) v := by rw [HSK.out]; exact seek_in HHIT.out hvi ht
              rw [← hSK, ← hT, ← hM, ← hnvv, ← hn1] at hx
              exact hx
            by_cases t3 : t = 3
            · subst t3
              have hrw := read_whole (t := 3) (by decide) HVL.out
              have HEV : Hid (∀ wx, Below w.heap.size w wx → Calls Tryz.prog 130 #[.slice (some ⟨eb, eo, none⟩) k c3] wx fun e w' => ∃ A5 c5, e = .returned (.agg #[.int .u8 3, .slice A5 nv c5]) ∧ Same A c l A5 c5 v ∧ Below wx.heap.size wx w') := Lib.hid fun wx h => by
                have hx := elemValueW (some ⟨eb, eo, none⟩) c3 3 nm v wx (HSE.out wx (HS0.out.keep h)) x11 HVL.out hk140
                rw [x13, ← hnvv] at hx
                refine hx.mono ?_
                rintro e w' ⟨⟨A5, c5, rfl, h5⟩, hb⟩
                exact ⟨A5, c5, rfl, sameT HSE.out h5, hb⟩
              have HVD : Hid (∀ A5 c5 wx, Same A c l A5 c5 v → Below w.heap.size w wx → Calls Tryz.prog 131 #[.agg #[.int .u8 3, .slice A5 nv c5]] wx fun e w' => ∃ A6 c6, e = .returned (.slice A6 nv c6) ∧ Same A c l A6 c6 v ∧ Below wx.heap.size wx w') := Lib.hid fun A5 c5 wx hsm h => by
                have hx := valueDocument A5 c5 v wx (hsm wx (HS0.out.keep h)) hrw.1 hrw.2 (by omega)
                rw [← hnvv] at hx
                refine hx.mono ?_
                rintro e w' ⟨⟨A6, c6, rfl, h6⟩, hb⟩
                exact ⟨A6, c6, rfl, sameT hsm h6, hb⟩
              obtain ⟨T, hT⟩ : ∃ x, x = SK.1 := ⟨_, rfl⟩
              obtain ⟨M, hM⟩ : ∃ x, x = SK.2.1.length := ⟨_, rfl⟩
              have HRC := Lib.hid (HREC.out T M (by decide) hT hM)
              have HT := Lib.hid hT
              have HM := Lib.hid hM
              have hct3 : w3.cell? ⟨eb, eo, none⟩ = some (.int .u8 3) := hct
              clear hrw hT hM hvi hnr x1 x2 x3 x4 x5 x6 x7 x8 x9 x10 x11 x12 x13 hk140 hnv hnvv hn1 HREC hct
              go_wp2_with fail
              refine start_ (n := 12) (S := fun w' => True) (ds := [10]) #[false, false, false, false, false, false, false, false, false, false, false, false] (by kernel_rfl) rfl rfl trivial (fun hHeld => ?_)
              refine with_tabW R69.tab19 R69.bits19 (fun HT_ HW_ => ?_)
              refine pure_ (i := 0) (N := some 78) (v := ?_) (a' := ?_) #[true, false, false, false, false, false, false, false, false, false, false, false] rfl rfl (any_of HT_.out (by kernel_rfl)) (fun _ _ _ h => h) (Or.inl ⟨by rfl, ?_⟩) ?_ ?_
              rotate_left
              · intro w'
                go_simp
                with_reducible rfl
              rotate_left
              · simp only [Act.put, List.setIfInBounds_toArray, List.set_cons_zero, List.set_cons_succ, i64_w, i32_w]
                rfl
              refine pure_ (i := 3) (N := some 81) (v := ?_) (a' := ?_) #[true, false, false, true, false, false, false, false, false, false, false, false] rfl rfl (any_of HT_.out (by kernel_rfl)) (fun _ _ _ h => h) (Or.inl ⟨by rfl, ?_⟩) ?_ ?_
              rotate_left
              · intro w'
                go_simp
                with_reducible rfl
              rotate_left
              · simp only [Act.put, List.setIfInBounds_toArray, List.set_cons_zero, List.set_cons_succ, i64_w, i32_w]
                rfl
              refine pure_ (i := 4) (N := some 82) (v := ?_) (a' := ?_) #[true, false, false, true, true, false, false, false, false, false, false, false] rfl rfl (any_of HT_.out (by kernel_rfl)) (fun _ _ _ h => h) (Or.inl ⟨by rfl, ?_⟩) ?_ ?_
              rotate_left
              · intro w'
                go_simp
                with_reducible rfl
              rotate_left
              · simp only [Act.put, List.setIfInBounds_toArray, List.set_cons_zero, List.set_cons_succ, i64_w, i32_w]
                rfl
              refine join_ (σ := Option Addr × Nat × Option Addr × Nat × Option Addr × Nat × Value × Nat) 2 #[true, true, true, true, true, true, true, true, true, true, false, false] (fun s => [(79, .agg #[.int .u8 3, .slice s.1 nv s.2.1]), (80, .slice s.2.2.1 nv s.2.2.2.1), (83, .tuple #[.agg #[.int .u8 T, .slice s.2.2.2.2.1 M s.2.2.2.2.2.1], s.2.2.2.2.2.2.1]), (77, .tuple #[.agg #[.int .u8 T, .slice s.2.2.2.2.1 M s.2.2.2.2.2.1], s.2.2.2.2.2.2.1]), (84, .agg #[.int .u8 T, .slice s.2.2.2.2.1 M s.2.2.2.2.2.1]), (85, s.2.2.2.2.2.2.1), (11, .pointer (some ⟨s.2.2.2.2.2.2.2, 0, none⟩))]) (fun s w' => Lf w3 s.2.2.2.2.2.2.2 w' ∧ Hid (CodeL a2 a3 SK.2.2 s.2.2.2.2.2.2.1 ∧ Same A c l s.2.2.2.2.1 s.2.2.2.2.2.1 SK.2.1)) ?_ ?_
              rotate_left
              · intro hCont
                refine two_ (i := 1) (j := 9) (Ni := some 79) (Nj := some 11) #[true, true, false, true, true, false, false, false, false, false, false, false] #[true, false, false, true, true, false, false, false, false, true, false, false] rfl rfl rfl rfl (two_of HT_.out (by kernel_rfl)) (by decide) (by decide) (fun K hK => ?_) (fun K hK => ?_)
                · skip
                  refine goes_ Tryz.func130 (by kernel_rfl) rfl #[.slice (some ⟨eb, eo, none⟩) k c3] (by rfl) rfl rfl (by simp only [List.map_toArray, List.map_cons, List.map_nil]; rfl) ?_
                  with_reducible refine (HEV.out _ (bdrew HB3b.out)).mono ?_
                  rintro e wA ⟨A5, c5, rfl, hs5, hbA⟩
                  refine ⟨_, rfl, ?_⟩
                  have hBA : Below w3.heap.size w3 wA := (bdrew (Below.refl _ _)).trans (hbA.mono (by simp))
                  have hzA := hBA.size
                  refine hK.out _ _ trivial (fun hHeld => ?_)
                  clear hK K
                  refine norm_ (a' := ?_) ?_ ?_
                  rotate_left
                  · show Act.put _ (some 79) _ = _
                    simp only [Act.put, List.setIfInBounds_toArray, List.set_cons_zero, List.set_cons_succ, i64_w, i32_w]
                    rfl
                  refine two_ (i := 2) (j := 9) (Ni := some 80) (Nj := some 11) #[true, true, true, true, true, false, false, false, false, false, false, false] #[true, true, false, true, true, false, false, false, false, true, false, false] rfl rfl rfl rfl (two_of HT_.out (by kernel_rfl)) (by decide) (by decide) (fun K hK => ?_) (fun K hK => ?_)
                  · skip
                    refine goes_ Tryz.func131 (by kernel_rfl) rfl #[.agg #[.int .u8 3, .slice A5 nv c5]] (by rfl) rfl rfl (by simp only [List.map_toArray, List.map_cons, List.map_nil]; rfl) ?_
                    with_reducible refine (HVD.out A5 c5 _ hs5 (HB3b.out.trans (hBA.mono (by omega)))).mono ?_
                    rintro e wB ⟨A6, c6, rfl, hs6, hbB⟩
                    refine ⟨_, rfl, ?_⟩
                    have hBB : Below w3.heap.size w3 wB := hBA.trans (hbB.mono (by first | omega | (simp; omega)))
                    have hzB := hBB.size
                    refine hK.out _ _ trivial (fun hHeld => ?_)
                    clear hK K
                    refine norm_ (a' := ?_) ?_ ?_
                    rotate_left
                    · show Act.put _ (some 80) _ = _
                      simp only [Act.put, List.setIfInBounds_toArray, List.set_cons_zero, List.set_cons_succ, i64_w, i32_w]
                      rfl
                    refine two_ (i := 5) (j := 9) (Ni := some 83) (Nj := some 11) #[true, true, true, true, true, true, false, false, false, false, false, false] #[true, true, true, true, true, false, false, false, false, true, false, false] rfl rfl rfl rfl (two_of HT_.out (by kernel_rfl)) (by decide) (by decide) (fun K hK => ?_) (fun K hK => ?_)
                    · skip
                      refine goes_ Tryz.func69 (by kernel_rfl) rfl #[.slice A6 nv c6, .slice K' n1 (kc - 1)] (by rfl) rfl rfl (by simp only [List.map_toArray, List.map_cons, List.map_nil]; rfl) ?_
                      with_reducible refine (HRC.out A6 c6 _ hs6 (HB3b.out.trans (hBB.mono (by omega)))).mono ?_
                      rintro e wC ⟨A7, c7, v7, rfl, hc7, hs7, hbC⟩
                      refine ⟨_, rfl, ?_⟩
                      have hBC : Below w3.heap.size w3 wC := hBB.trans (hbC.mono (by first | omega | (simp; omega)))
                      have hzC := hBC.size
                      refine hK.out _ _ trivial (fun hHeld => ?_)
                      clear hK K
                      refine norm_ (a' := ?_) ?_ ?_
                      rotate_left
                      · show Act.put _ (some 83) _ = _
                        simp only [Act.put, List.setIfInBounds_toArray, List.set_cons_zero, List.set_cons_succ, i64_w, i32_w]
                        rfl
                      refine pure_ (i := 6) (N := some 77) (v := ?_) (a' := ?_) #[true, true, true, true, true, true, true, false, false, false, false, false] rfl rfl (any_of HT_.out (by kernel_rfl)) (fun _ _ _ h => h) (Or.inl ⟨by rfl, ?_⟩) ?_ ?_
                      rotate_left
                      · intro w'
                        go_simp
                        with_reducible rfl
                      rotate_left
                      · simp only [Act.put, List.setIfInBounds_toArray, List.set_cons_zero, List.set_cons_succ, i64_w, i32_w]
                        rfl
                      refine pure_ (i := 7) (N := some 84) (v := ?_) (a' := ?_) #[true, true, true, true, true, true, true, true, false, false, false, false] rfl rfl (any_of HT_.out (by kernel_rfl)) (fun _ _ _ h => h) (Or.inl ⟨by rfl, ?_⟩) ?_ ?_
                      rotate_left
                      · intro w'
                        go_simp
                        with_reducible rfl
                      rotate_left
                      · simp only [Act.put, List.setIfInBounds_toArray, List.set_cons_zero, List.set_cons_succ, i64_w, i32_w]
                        rfl
                      refine pure_ (i := 8) (N := some 85) (v := ?_) (a' := ?_) #[true, true, true, true, true, true, true, true, true, false, false, false] rfl rfl (any_of HT_.out (by kernel_rfl)) (fun _ _ _ h => h) (Or.inl ⟨by rfl, ?_⟩) ?_ ?_
                      rotate_left
                      · intro w'
                        go_simp
                        with_reducible rfl
                      rotate_left
                      · simp only [Act.put, List.setIfInBounds_toArray, List.set_cons_zero, List.set_cons_succ, i64_w, i32_w]
                        rfl
                      refine one_ (i := 9) (N := some 11) #[true, true, true, true, true, true, true, true, true, true, false, false] rfl rfl (one_of HT_.out (by kernel_rfl)) (by decide) (fun K hK => ?_)
                      refine value_ (w1 := ?_) (v := ?_) (by rfl) rfl ?_ ?_
                      rotate_left 2
                      · go_simp
                        constructor
                        · rfl
                        · rfl
                      refine hK.out _ _ trivial (fun hHeld => ?_)
                      clear hK K
                      refine norm_ (a' := ?_) ?_ ?_
                      rotate_left
                      · show Act.put _ (some 11) _ = _
                        simp only [Act.put, List.setIfInBounds_toArray, List.set_cons_zero, List.set_cons_succ, i64_w, i32_w]
                        rfl
                      exact norm_ (by simp only [putAll, Act.put, List.setIfInBounds_toArray, List.set_cons_zero, List.set_cons_succ]) (hCont (A5, c5, A6, c6, A7, c7, v7, wC.heap.size) _ ⟨Lf.of_block (by exact heap_alloc_new wC _) (by show w3.heap.size ≤ wC.heap.size; omega) (balloc hBC hzC _), Lib.hid ⟨hc7, sameT hs6 hs7⟩⟩)
                    · skip
                      refine value_ (w1 := ?_) (v := ?_) (by rfl) rfl ?_ ?_
                      rotate_left 2
                      · go_simp
                        constructor
                        · rfl
                        · rfl
                      refine hK.out _ _ trivial (fun hHeld => ?_)
                      clear hK K
                      refine norm_ (a' := ?_) ?_ ?_
                      rotate_left
                      · show Act.put _ (some 11) _ = _
                        simp only [Act.put, List.setIfInBounds_toArray, List.set_cons_zero, List.set_cons_succ, i64_w, i32_w]
                        rfl
                      refine one_ (i := 5) (N := some 83) #[true, true, true, true, true, true, false, false, false, true, false, false] rfl rfl (one_of HT_.out (by kernel_rfl)) (by decide) (fun K hK => ?_)
                      refine goes_ Tryz.func69 (by kernel_rfl) rfl #[.slice A6 nv c6, .slice K' n1 (kc - 1)] (by rfl) rfl rfl (by simp only [List.map_toArray, List.map_cons, List.map_nil]; rfl) ?_
                      with_reducible refine (HRC.out A6 c6 _ hs6 (HB3b.out.trans ((balloc hBB hzB _).mono (by omega)))).mono ?_
                      rintro e wC ⟨A7, c7, v7, rfl, hc7, hs7, hbC⟩
                      refine ⟨_, rfl, ?_⟩
                      have hBC : Below w3.heap.size w3 wC := (balloc hBB hzB _).trans (hbC.mono (by first | omega | (simp; omega)))
                      have hzC := hBC.size
                      refine hK.out _ _ trivial (fun hHeld => ?_)
                      clear hK K
                      refine norm_ (a' := ?_) ?_ ?_
                      rotate_left
                      · show Act.put _ (some 83) _ = _
                        simp only [Act.put, List.setIfInBounds_toArray, List.set_cons_zero, List.set_cons_succ, i64_w, i32_w]
                        rfl
                      refine pure_ (i := 6) (N := some 77) (v := ?_) (a' := ?_) #[true, true, true, true, true, true, true, false, false, true, false, false] rfl rfl (any_of HT_.out (by kernel_rfl)) (fun _ _ _ h => h) (Or.inl ⟨by rfl, ?_⟩) ?_ ?_
                      rotate_left
                      · intro w'
                        go_simp
                        with_reducible rfl
                      rotate_left
                      · simp only [Act.put, List.setIfInBounds_toArray, List.set_cons_zero, List.set_cons_succ, i64_w, i32_w]
                        rfl
                      refine pure_ (i := 7) (N := some 84) (v := ?_) (a' := ?_) #[true, true, true, true, true, true, true, true, false, true, false, false] rfl rfl (any_of HT_.out (by kernel_rfl)) (fun _ _ _ h => h) (Or.inl ⟨by rfl, ?_⟩) ?_ ?_
                      rotate_left
                      · intro w'
                        go_simp
                        with_reducible rfl
                      rotate_left
                      · simp only [Act.put, List.setIfInBounds_toArray, List.set_cons_zero, List.set_cons_succ, i64_w, i32_w]
                        rfl
                      refine pure_ (i := 8) (N := some 85) (v := ?_) (a' := ?_) #[true, true, true, true, true, true, true, true, true, true, false, false] rfl rfl (any_of HT_.out (by kernel_rfl)) (fun _ _ _ h => h) (Or.inl ⟨by rfl, ?_⟩) ?_ ?_
                      rotate_left
                      · intro w'
                        go_simp
                        with_reducible rfl
                      rotate_left
                      · simp only [Act.put, List.setIfInBounds_toArray, List.set_cons_zero, List.set_cons_succ, i64_w, i32_w]
                        rfl
                      exact norm_ (by simp only [putAll, Act.put, List.setIfInBounds_toArray, List.set_cons_zero, List.set_cons_succ]) (hCont (A5, c5, A6, c6, A7, c7, v7, wB.heap.size) _ ⟨Lf.of_block (by rw [hbC.block wB.heap.size (by simp)]; exact heap_alloc_new wB _) (by show w3.heap.size ≤ wB.heap.size; omega) (hBC), Lib.hid ⟨hc7, sameT hs6 hs7⟩⟩)
                  · skip
                    refine value_ (w1 := ?_) (v := ?_) (by rfl) rfl ?_ ?_
                    rotate_left 2
                    · go_simp
                      constructor
                      · rfl
                      · rfl
                    refine hK.out _ _ trivial (fun hHeld => ?_)
                    clear hK K
                    refine norm_ (a' := ?_) ?_ ?_
                    rotate_left
                    · show Act.put _ (some 11) _ = _
                      simp only [Act.put, List.setIfInBounds_toArray, List.set_cons_zero, List.set_cons_succ, i64_w, i32_w]
                      rfl
                    refine one_ (i := 2) (N := some 80) #[true, true, true, true, true, false, false, false, false, true, false, false] rfl rfl (one_of HT_.out (by kernel_rfl)) (by decide) (fun K hK => ?_)
                    refine goes_ Tryz.func131 (by kernel_rfl) rfl #[.agg #[.int .u8 3, .slice A5 nv c5]] (by rfl) rfl rfl (by simp only [List.map_toArray, List.map_cons, List.map_nil]; rfl) ?_
                    with_reducible refine (HVD.out A5 c5 _ hs5 (HB3b.out.trans ((balloc hBA hzA _).mono (by omega)))).mono ?_
                    rintro e wB ⟨A6, c6, rfl, hs6, hbB⟩
                    refine ⟨_, rfl, ?_⟩
                    have hBB : Below w3.heap.size w3 wB := (balloc hBA hzA _).trans (hbB.mono (by first | omega | (simp; omega)))
                    have hzB := hBB.size
                    refine hK.out _ _ trivial (fun hHeld => ?_)
                    clear hK K
                    refine norm_ (a' := ?_) ?_ ?_
                    rotate_left
                    · show Act.put _ (some 80) _ = _
                      simp only [Act.put, List.setIfInBounds_toArray, List.set_cons_zero, List.set_cons_succ, i64_w, i32_w]
                      rfl
                    refine one_ (i := 5) (N := some 83) #[true, true, true, true, true, true, false, false, false, true, false, false] rfl rfl (one_of HT_.out (by kernel_rfl)) (by decide) (fun K hK => ?_)
                    refine goes_ Tryz.func69 (by kernel_rfl) rfl #[.slice A6 nv c6, .slice K' n1 (kc - 1)] (by rfl) rfl rfl (by simp only [List.map_toArray, List.map_cons, List.map_nil]; rfl) ?_
                    with_reducible refine (HRC.out A6 c6 _ hs6 (HB3b.out.trans (hBB.mono (by omega)))).mono ?_
                    rintro e wC ⟨A7, c7, v7, rfl, hc7, hs7, hbC⟩
                    refine ⟨_, rfl, ?_⟩
                    have hBC : Below w3.heap.size w3 wC := hBB.trans (hbC.mono (by first | omega | (simp; omega)))
                    have hzC := hBC.size
                    refine hK.out _ _ trivial (fun hHeld => ?_)
                    clear hK K
                    refine norm_ (a' := ?_) ?_ ?_
                    rotate_left
                    · show Act.put _ (some 83) _ = _
                      simp only [Act.put, List.setIfInBounds_toArray, List.set_cons_zero, List.set_cons_succ, i64_w, i32_w]
                      rfl
                    refine pure_ (i := 6) (N := some 77) (v := ?_) (a' := ?_) #[true, true, true, true, true, true, true, false, false, true, false, false] rfl rfl (any_of HT_.out (by kernel_rfl)) (fun _ _ _ h => h) (Or.inl ⟨by rfl, ?_⟩) ?_ ?_
                    rotate_left
                    · intro w'
                      go_simp
                      with_reducible rfl
                    rotate_left
                    · simp only [Act.put, List.setIfInBounds_toArray, List.set_cons_zero, List.set_cons_succ, i64_w, i32_w]
                      rfl
                    refine pure_ (i := 7) (N := some 84) (v := ?_) (a' := ?_) #[true, true, true, true, true, true, true, true, false, true, false, false] rfl rfl (any_of HT_.out (by kernel_rfl)) (fun _ _ _ h => h) (Or.inl ⟨by rfl, ?_⟩) ?_ ?_
                    rotate_left
                    · intro w'
                      go_simp
                      with_reducible rfl
                    rotate_left
                    · simp only [Act.put, List.setIfInBounds_toArray, List.set_cons_zero, List.set_cons_succ, i64_w, i32_w]
                      rfl
                    refine pure_ (i := 8) (N := some 85) (v := ?_) (a' := ?_) #[true, true, true, true, true, true, true, true, true, true, false, false] rfl rfl (any_of HT_.out (by kernel_rfl)) (fun _ _ _ h => h) (Or.inl ⟨by rfl, ?_⟩) ?_ ?_
                    rotate_left
                    · intro w'
                      go_simp
                      with_reducible rfl
                    rotate_left
                    · simp only [Act.put, List.setIfInBounds_toArray, List.set_cons_zero, List.set_cons_succ, i64_w, i32_w]
                      rfl
                    exact norm_ (by simp only [putAll, Act.put, List.setIfInBounds_toArray, List.set_cons_zero, List.set_cons_succ]) (hCont (A5, c5, A6, c6, A7, c7, v7, wA.heap.size) _ ⟨Lf.of_block (by rw [hbC.block wA.heap.size (by have := hbB.size; simp at this; omega), hbB.block wA.heap.size (by simp)]; exact heap_alloc_new wA _) (by show w3.heap.size ≤ wA.heap.size; omega) (hBC), Lib.hid ⟨hc7, sameT hs6 hs7⟩⟩)
                · skip
                  refine value_ (w1 := ?_) (v := ?_) (by rfl) rfl ?_ ?_
                  rotate_left 2
                  · go_simp
                    constructor
                    · rfl
                    · rfl
                  refine hK.out _ _ trivial (fun hHeld => ?_)
                  clear hK K
                  refine norm_ (a' := ?_) ?_ ?_
                  rotate_left
                  · show Act.put _ (some 11) _ = _
                    simp only [Act.put, List.setIfInBounds_toArray, List.set_cons_zero, List.set_cons_succ, i64_w, i32_w]
                    rfl
                  refine one_ (i := 1) (N := some 79) #[true, true, false, true, true, false, false, false, false, true, false, false] rfl rfl (one_of HT_.out (by kernel_rfl)) (by decide) (fun K hK => ?_)
                  refine goes_ Tryz.func130 (by kernel_rfl) rfl #[.slice (some ⟨eb, eo, none⟩) k c3] (by rfl) rfl rfl (by simp only [List.map_toArray, List.map_cons, List.map_nil]; rfl) ?_
                  with_reducible refine (HEV.out _ (bdrew (balloc HB3b.out (by omega) _))).mono ?_
                  rintro e wA ⟨A5, c5, rfl, hs5, hbA⟩
                  refine ⟨_, rfl, ?_⟩
                  have hBA : Below w3.heap.size w3 wA := (bdrew (balloc (Below.refl _ _) (Nat.le_refl _) _)).trans (hbA.mono (by simp))
                  have hzA := hBA.size
                  refine hK.out _ _ trivial (fun hHeld => ?_)
                  clear hK K
                  refine norm_ (a' := ?_) ?_ ?_
                  rotate_left
                  · show Act.put _ (some 79) _ = _
                    simp only [Act.put, List.setIfInBounds_toArray, List.set_cons_zero, List.set_cons_succ, i64_w, i32_w]
                    rfl
                  refine one_ (i := 2) (N := some 80) #[true, true, true, true, true, false, false, false, false, true, false, false] rfl rfl (one_of HT_.out (by kernel_rfl)) (by decide) (fun K hK => ?_)
                  refine goes_ Tryz.func131 (by kernel_rfl) rfl #[.agg #[.int .u8 3, .slice A5 nv c5]] (by rfl) rfl rfl (by simp only [List.map_toArray, List.map_cons, List.map_nil]; rfl) ?_
                  with_reducible refine (HVD.out A5 c5 _ hs5 (HB3b.out.trans (hBA.mono (by omega)))).mono ?_
                  rintro e wB ⟨A6, c6, rfl, hs6, hbB⟩
                  refine ⟨_, rfl, ?_⟩
                  have hBB : Below w3.heap.size w3 wB := hBA.trans (hbB.mono (by first | omega | (simp; omega)))
                  have hzB := hBB.size
                  refine hK.out _ _ trivial (fun hHeld => ?_)
                  clear hK K
                  refine norm_ (a' := ?_) ?_ ?_
                  rotate_left
                  · show Act.put _ (some 80) _ = _
                    simp only [Act.put, List.setIfInBounds_toArray, List.set_cons_zero, List.set_cons_succ, i64_w, i32_w]
                    rfl
                  refine one_ (i := 5) (N := some 83) #[true, true, true, true, true, true, false, false, false, true, false, false] rfl rfl (one_of HT_.out (by kernel_rfl)) (by decide) (fun K hK => ?_)
                  refine goes_ Tryz.func69 (by kernel_rfl) rfl #[.slice A6 nv c6, .slice K' n1 (kc - 1)] (by rfl) rfl rfl (by simp only [List.map_toArray, List.map_cons, List.map_nil]; rfl) ?_
                  with_reducible refine (HRC.out A6 c6 _ hs6 (HB3b.out.trans (hBB.mono (by omega)))).mono ?_
                  rintro e wC ⟨A7, c7, v7, rfl, hc7, hs7, hbC⟩
                  refine ⟨_, rfl, ?_⟩
                  have hBC : Below w3.heap.size w3 wC := hBB.trans (hbC.mono (by first | omega | (simp; omega)))
                  have hzC := hBC.size
                  refine hK.out _ _ trivial (fun hHeld => ?_)
                  clear hK K
                  refine norm_ (a' := ?_) ?_ ?_
                  rotate_left
                  · show Act.put _ (some 83) _ = _
                    simp only [Act.put, List.setIfInBounds_toArray, List.set_cons_zero, List.set_cons_succ, i64_w, i32_w]
                    rfl
                  refine pure_ (i := 6) (N := some 77) (v := ?_) (a' := ?_) #[true, true, true, true, true, true, true, false, false, true, false, false] rfl rfl (any_of HT_.out (by kernel_rfl)) (fun _ _ _ h => h) (Or.inl ⟨by rfl, ?_⟩) ?_ ?_
                  rotate_left
                  · intro w'
                    go_simp
                    with_reducible rfl
                  rotate_left
                  · simp only [Act.put, List.setIfInBounds_toArray, List.set_cons_zero, List.set_cons_succ, i64_w, i32_w]
                    rfl
                  refine pure_ (i := 7) (N := some 84) (v := ?_) (a' := ?_) #[true, true, true, true, true, true, true, true, false, true, false, false] rfl rfl (any_of HT_.out (by kernel_rfl)) (fun _ _ _ h => h) (Or.inl ⟨by rfl, ?_⟩) ?_ ?_
                  rotate_left
                  · intro w'
                    go_simp
                    with_reducible rfl
                  rotate_left
                  · simp only [Act.put, List.setIfInBounds_toArray, List.set_cons_zero, List.set_cons_succ, i64_w, i32_w]
                    rfl
                  refine pure_ (i := 8) (N := some 85) (v := ?_) (a' := ?_) #[true, true, true, true, true, true, true, true, true, true, false, false] rfl rfl (any_of HT_.out (by kernel_rfl)) (fun _ _ _ h => h) (Or.inl ⟨by rfl, ?_⟩) ?_ ?_
                  rotate_left
                  · intro w'
                    go_simp
                    with_reducible rfl
                  rotate_left
                  · simp only [Act.put, List.setIfInBounds_toArray, List.set_cons_zero, List.set_cons_succ, i64_w, i32_w]
                    rfl
                  exact norm_ (by simp only [putAll, Act.put, List.setIfInBounds_toArray, List.set_cons_zero, List.set_cons_succ]) (hCont (A5, c5, A6, c6, A7, c7, v7, w3.heap.size) _ ⟨Lf.of_block (by rw [hbC.block w3.heap.size (by first | omega | (simp; done) | (simp; omega) | (have := hbA.size; simp at this; omega) | (have := hbA.size; have := hbB.size; simp at *; omega)), hbB.block w3.heap.size (by first | omega | (simp; done) | (simp; omega) | (have := hbA.size; simp at this; omega) | (have := hbA.size; have := hbB.size; simp at *; omega)), hbA.block w3.heap.size (by simp)]; exact heap_alloc_new w3 _) (by show w3.heap.size ≤ w3.heap.size; omega) (hBC), Lib.hid ⟨hc7, sameT hs6 hs7⟩⟩)
              rintro ⟨A5, c5, A6, c6, A7, c7, v7, g⟩ w6 ⟨hLf, HCS⟩
              have RC0 := hLf.c0
              have RC1 := hLf.k1
              have RF0 := hLf.f0
              have RF1 := hLf.f1
              have HLF := Lib.hid hLf
              clear hLf
              refine norm_ (a' := ?_) ?_ ?_
              rotate_left
              · simp only [putAll, Act.put, List.setIfInBounds_toArray, List.set_cons_zero, List.set_cons_succ]
                rfl
              refine last_ (i := 10) (N := none) #[true, true, true, true, true, true, true, true, true, true, true, false] rfl rfl (one_of HT_.out (by kernel_rfl)) (by decide) (fun K hK => ?_)
              refine skip_ (w1 := ?_) (by rfl) rfl ?_ ?_
              rotate_left
              · go_simp
                rfl
              refine hK.out _ _ ?_
              clear hK K
              refine pure_ (i := 11) (N := some 12) (v := ?_) (a' := ?_) #[true, true, true, true, true, true, true, true, true, true, true, true] rfl rfl (any_of HT_.out (by kernel_rfl)) (fun _ _ _ h => h) (Or.inl ⟨by rfl, ?_⟩) ?_ ?_
              rotate_left
              · intro w'
                go_simp
                with_reducible rfl
              rotate_left
              · simp only [Act.put, List.setIfInBounds_toArray, List.set_cons_zero, List.set_cons_succ, i64_w, i32_w]
                rfl
              refine done_ (done_of HT_.out (by kernel_rfl)) ?_
              obtain ⟨w7, hw7⟩ : ∃ x, x = (w6.setCell ⟨g, 0, none⟩ (.int .u8 T)).setCell ⟨g, 1, none⟩ (.slice A7 M c7) := ⟨_, rfl⟩
              obtain ⟨g0, g1, hgl7, hb7⟩ := HLF.out.stored _ _ w7 hw7
              rw [← hw7]
              have HB := HB3.out.trans (hb7.mono hz33)
              have q0 := boxc HB 0
              have q1 := boxc HB 1
              simp only [List.getElem?_cons_succ, List.getElem?_cons_zero] at q0 q1
              have f0 := boxf HB 0
              have f1 := boxf HB 1
              have hzz := boxs HB
              have hlt : w.heap.size < w7.heap.size := by omega
              have HBB9 := Lib.hid (boxb HB)
              clear HB HB3 HB3b HLF RC0 RC1 RF0 RF1 hw7 hb7 HEV HVD HRC
              rcases HCS.out.1.nil_or with ⟨hc0, rfl⟩ | ⟨hcn, E, x, rfl⟩
              · have HC0 := Lib.hid hc0
                clear hc0
                go_wp2_with fail
                exact bodyPost_ret (v := .tuple #[.agg #[.int .u8 T, .slice A7 M c7], .nilIface]) (by simp [results, Tryz.results69, go_sem, q0, q1, hlt]) rfl ⟨A7, c7, _, by rw [HT.out, HM.out], HCS.out.1, HCS.out.2, by first | exact (HBB9.out.setCell (Nat.le_refl _) _).setCell (Nat.le_refl _) _ | exact balloc ((HBB9.out.setCell (Nat.le_refl _) _).setCell (Nat.le_refl _) _) (by simp [World.setCell]; omega) _⟩
              · have hz := seek_nz (s :: s2 :: r2) l (by rw [← HSK.out]; exact hcn)
                rw [← HSK.out] at hz
                have HZZ := Lib.hid hz
                have HSN := Lib.hid (same_nil A c l)
                clear hz hcn
                go_wp2_with fail
                exact bodyPost_ret (v := .tuple #[.agg #[.int .u8 0, .slice none 0 0], .iface E x]) (by simp [results, Tryz.results69, go_sem, q0, q1, hlt]) rfl ⟨none, 0, _, by rw [HZZ.out.1, HZZ.out.2]; rfl, HCS.out.1, by rw [HZZ.out.2]; exact HSN.out, by first | exact (HBB9.out.setCell (Nat.le_refl _) _).setCell (Nat.le_refl _) _ | exact balloc ((HBB9.out.setCell (Nat.le_refl _) _).setCell (Nat.le_refl _) _) (by simp [World.setCell]; omega) _⟩
            · by_cases t4 : t = 4
              · subst t4
                have hrw := read_whole (t := 4) (by decide) HVL.out
                have HEV : Hid (∀ wx, Below w.heap.size w wx → Calls Tryz.prog 130 #[.slice (some ⟨eb, eo, none⟩) k c3] wx fun e w' => ∃ A5 c5, e = .returned (.agg #[.int .u8 4, .slice A5 nv c5]) ∧ Same A c l A5 c5 v ∧ Below wx.heap.size wx w') := Lib.hid fun wx h => by
                  have hx := elemValueW (some ⟨eb, eo, none⟩) c3 4 nm v wx (HSE.out wx (HS0.out.keep h)) x11 HVL.out hk140
                  rw [x13, ← hnvv] at hx
                  refine hx.mono ?_
                  rintro e w' ⟨⟨A5, c5, rfl, h5⟩, hb⟩
                  exact ⟨A5, c5, rfl, sameT HSE.out h5, hb⟩
                have HVD : Hid (∀ A5 c5 wx, Same A c l A5 c5 v → Below w.heap.size w wx → Calls Tryz.prog 132 #[.agg #[.int .u8 4, .slice A5 nv c5]] wx fun e w' => ∃ A6 c6, e = .returned (.slice A6 nv c6) ∧ Same A c l A6 c6 v ∧ Below wx.heap.size wx w') := Lib.hid fun A5 c5 wx hsm h => by
                  have hx := valueArray A5 c5 v wx (hsm wx (HS0.out.keep h)) hrw.1 hrw.2 (by omega)
                  rw [← hnvv] at hx
                  refine hx.mono ?_
                  rintro e w' ⟨⟨A6, c6, rfl, h6⟩, hb⟩
                  exact ⟨A6, c6, rfl, sameT hsm h6, hb⟩
                obtain ⟨T, hT⟩ : ∃ x, x = SK.1 := ⟨_, rfl⟩
                obtain ⟨M, hM⟩ : ∃ x, x = SK.2.1.length := ⟨_, rfl⟩
                have HRC := Lib.hid (HREC.out T M (by decide) hT hM)
                have HT := Lib.hid hT
                have HM := Lib.hid hM
                have hct3 : w3.cell? ⟨eb, eo, none⟩ = some (.int .u8 4) := hct
                clear hrw hT hM hvi hnr x1 x2 x3 x4 x5 x6 x7 x8 x9 x10 x11 x12 x13 hk140 hnv hnvv hn1 HREC hct
                go_wp2_with fail
                refine start_ (n := 12) (S := fun w' => True) (ds := [10]) #[false, false, false, false, false, false, false, false, false, false, false, false] (by kernel_rfl) rfl rfl trivial (fun hHeld => ?_)
                refine with_tabW R69.tab24 R69.bits24 (fun HT_ HW_ => ?_)
                refine pure_ (i := 0) (N := some 94) (v := ?_) (a' := ?_) #[true, false, false, false, false, false, false, false, false, false, false, false] rfl rfl (any_of HT_.out (by kernel_rfl)) (fun _ _ _ h => h) (Or.inl ⟨by rfl, ?_⟩) ?_ ?_
                rotate_left
                · intro w'
                  go_simp
                  with_reducible rfl
                rotate_left
                · simp only [Act.put, List.setIfInBounds_toArray, List.set_cons_zero, List.set_cons_succ, i64_w, i32_w]
                  rfl
                refine pure_ (i := 3) (N := some 97) (v := ?_) (a' := ?_) #[true, false, false, true, false, false, false, false, false, false, false, false] rfl rfl (any_of HT_.out (by kernel_rfl)) (fun _ _ _ h => h) (Or.inl ⟨by rfl, ?_⟩) ?_ ?_
                rotate_left
                · intro w'
                  go_simp
                  with_reducible rfl
                rotate_left
                · simp only [Act.put, List.setIfInBounds_toArray, List.set_cons_zero, List.set_cons_succ, i64_w, i32_w]
                  rfl
                refine pure_ (i := 4) (N := some 98) (v := ?_) (a' := ?_) #[true, false, false, true, true, false, false, false, false, false, false, false] rfl rfl (any_of HT_.out (by kernel_rfl)) (fun _ _ _ h => h) (Or.inl ⟨by rfl, ?_⟩) ?_ ?_
                rotate_left
                · intro w'
                  go_simp
                  with_reducible rfl
                rotate_left
                · simp only [Act.put, List.setIfInBounds_toArray, List.set_cons_zero, List.set_cons_succ, i64_w, i32_w]
                  rfl
                refine join_ (σ := Option Addr × Nat × Option Addr × Nat × Option Addr × Nat × Value × Nat) 2 #[true, true, true, true, true, true, true, true, true, true, false, false] (fun s => [(95, .agg #[.int .u8 4, .slice s.1 nv s.2.1]), (96, .slice s.2.2.1 nv s.2.2.2.1), (99, .tuple #[.agg #[.int .u8 T, .slice s.2.2.2.2.1 M s.2.2.2.2.2.1], s.2.2.2.2.2.2.1]), (93, .tuple #[.agg #[.int .u8 T, .slice s.2.2.2.2.1 M s.2.2.2.2.2.1], s.2.2.2.2.2.2.1]), (100, .agg #[.int .u8 T, .slice s.2.2.2.2.1 M s.2.2.2.2.2.1]), (101, s.2.2.2.2.2.2.1), (13, .pointer (some ⟨s.2.2.2.2.2.2.2, 0, none⟩))]) (fun s w' => Lf w3 s.2.2.2.2.2.2.2 w' ∧ Hid (CodeL a2 a3 SK.2.2 s.2.2.2.2.2.2.1 ∧ Same A c l s.2.2.2.2.1 s.2.2.2.2.2.1 SK.2.1)) ?_ ?_
                rotate_left
                · intro hCont
                  refine two_ (i := 1) (j := 9) (Ni := some 95) (Nj := some 13) #[true, true, false, true, true, false, false, false, false, false, false, false] #[true, false, false, true, true, false, false, false, false, true, false, false] rfl rfl rfl rfl (two_of HT_.out (by kernel_rfl)) (by decide) (by decide) (fun K hK => ?_) (fun K hK => ?_)
                  · skip
                    refine goes_ Tryz.func130 (by kernel_rfl) rfl #[.slice (some ⟨eb, eo, none⟩) k c3] (by rfl) rfl rfl (by simp only [List.map_toArray, List.map_cons, List.map_nil]; rfl) ?_
                    with_reducible refine (HEV.out _ (bdrew HB3b.out)).mono ?_
                    rintro e wA ⟨A5, c5, rfl, hs5, hbA⟩
                    refine ⟨_, rfl, ?_⟩
                    have hBA : Below w3.heap.size w3 wA := (bdrew (Below.refl _ _)).trans (hbA.mono (by simp))
                    have hzA := hBA.size
                    refine hK.out _ _ trivial (fun hHeld => ?_)
                    clear hK K
                    refine norm_ (a' := ?_) ?_ ?_
                    rotate_left
                    · show Act.put _ (some 95) _ = _
                      simp only [Act.put, List.setIfInBounds_toArray, List.set_cons_zero, List.set_cons_succ, i64_w, i32_w]
                      rfl
                    refine two_ (i := 2) (j := 9) (Ni := some 96) (Nj := some 13) #[true, true, true, true, true, false, false, false, false, false, false, false] #[true, true, false, true, true, false, false, false, false, true, false, false] rfl rfl rfl rfl (two_of HT_.out (by kernel_rfl)) (by decide) (by decide) (fun K hK => ?_) (fun K hK => ?_)
                    · skip
                      refine goes_ Tryz.func132 (by kernel_rfl) rfl #[.agg #[.int .u8 4, .slice A5 nv c5]] (by rfl) rfl rfl (by simp only [List.map_toArray, List.map_cons, List.map_nil]; rfl) ?_
                      with_reducible refine (HVD.out A5 c5 _ hs5 (HB3b.out.trans (hBA.mono (by omega)))).mono ?_
                      rintro e wB ⟨A6, c6, rfl, hs6, hbB⟩
                      refine ⟨_, rfl, ?_⟩
                      have hBB : Below w3.heap.size w3 wB := hBA.trans (hbB.mono (by first | omega | (simp; omega)))
                      have hzB := hBB.size
                      refine hK.out _ _ trivial (fun hHeld => ?_)
                      clear hK K
                      refine norm_ (a' := ?_) ?_ ?_
                      rotate_left
                      · show Act.put _ (some 96) _ = _
                        simp only [Act.put, List.setIfInBounds_toArray, List.set_cons_zero, List.set_cons_succ, i64_w, i32_w]
                        rfl
                      refine two_ (i := 5) (j := 9) (Ni := some 99) (Nj := some 13) #[true, true, true, true, true, true, false, false, false, false, false, false] #[true, true, true, true, true, false, false, false, false, true, false, false] rfl rfl rfl rfl (two_of HT_.out (by kernel_rfl)) (by decide) (by decide) (fun K hK => ?_) (fun K hK => ?_)
                      · skip
                        refine goes_ Tryz.func69 (by kernel_rfl) rfl #[.slice A6 nv c6, .slice K' n1 (kc - 1)] (by rfl) rfl rfl (by simp only [List.map_toArray, List.map_cons, List.map_nil]; rfl) ?_
                        with_reducible refine (HRC.out A6 c6 _ hs6 (HB3b.out.trans (hBB.mono (by omega)))).mono ?_
                        rintro e wC ⟨A7, c7, v7, rfl, hc7, hs7, hbC⟩
                        refine ⟨_, rfl, ?_⟩
                        have hBC : Below w3.heap.size w3 wC := hBB.trans (hbC.mono (by first | omega | (simp; omega)))
                        have hzC := hBC.size
                        refine hK.out _ _ trivial (fun hHeld => ?_)
                        clear hK K
                        refine norm_ (a' := ?_) ?_ ?_
                        rotate_left
                        · show Act.put _ (some 99) _ = _
                          simp only [Act.put, List.setIfInBounds_toArray, List.set_cons_zero, List.set_cons_succ, i64_w, i32_w]
                          rfl
                        refine pure_ (i := 6) (N := some 93) (v := ?_) (a' := ?_) #[true, true, true, true, true, true, true, false, false, false, false, false] rfl rfl (any_of HT_.out (by kernel_rfl)) (fun _ _ _ h => h) (Or.inl ⟨by rfl, ?_⟩) ?_ ?_
                        rotate_left
                        · intro w'
                          go_simp
                          with_reducible rfl
                        rotate_left
                        · simp only [Act.put, List.setIfInBounds_toArray, List.set_cons_zero, List.set_cons_succ, i64_w, i32_w]
                          rfl
                        refine pure_ (i := 7) (N := some 100) (v := ?_) (a' := ?_) #[true, true, true, true, true, true, true, true, false, false, false, false] rfl rfl (any_of HT_.out (by kernel_rfl)) (fun _ _ _ h => h) (Or.inl ⟨by rfl, ?_⟩) ?_ ?_
                        rotate_left
                        · intro w'
                          go_simp
                          with_reducible rfl
                        rotate_left
                        · simp only [Act.put, List.setIfInBounds_toArray, List.set_cons_zero, List.set_cons_succ, i64_w, i32_w]
                          rfl
                        refine pure_ (i := 8) (N := some 101) (v := ?_) (a' := ?_) #[true, true, true, true, true, true, true, true, true, false, false, false] rfl rfl (any_of HT_.out (by kernel_rfl)) (fun _ _ _ h => h) (Or.inl ⟨by rfl, ?_⟩) ?_ ?_
                        rotate_left
                        · intro w'
                          go_simp
                          with_reducible rfl
                        rotate_left
                        · simp only [Act.put, List.setIfInBounds_toArray, List.set_cons_zero, List.set_cons_succ, i64_w, i32_w]
                          rfl
                        refine one_ (i := 9) (N := some 13) #[true, true, true, true, true, true, true, true, true, true, false, false] rfl rfl (one_of HT_.out (by kernel_rfl)) (by decide) (fun K hK => ?_)
                        refine value_ (w1 := ?_) (v := ?_) (by rfl) rfl ?_ ?_
                        rotate_left 2
                        · go_simp
                          constructor
                          · rfl
                          · rfl
                        refine hK.out _ _ trivial (fun hHeld => ?_)
                        clear hK K
                        refine norm_ (a' := ?_) ?_ ?_
                        rotate_left
                        · show Act.put _ (some 13) _ = _
                          simp only [Act.put, List.setIfInBounds_toArray, List.set_cons_zero, List.set_cons_succ, i64_w, i32_w]
                          rfl
                        exact norm_ (by simp only [putAll, Act.put, List.setIfInBounds_toArray, List.set_cons_zero, List.set_cons_succ]) (hCont (A5, c5, A6, c6, A7, c7, v7, wC.heap.size) _ ⟨Lf.of_block (by exact heap_alloc_new wC _) (by show w3.heap.size ≤ wC.heap.size; omega) (balloc hBC hzC _), Lib.hid ⟨hc7, sameT hs6 hs7⟩⟩)
                      · skip
                        refine value_ (w1 := ?_) (v := ?_) (by rfl) rfl ?_ ?_
                        rotate_left 2
                        · go_simp
                          constructor
                          · rfl
                          · rfl
                        refine hK.out _ _ trivial (fun hHeld => ?_)
                        clear hK K
                        refine norm_ (a' := ?_) ?_ ?_
                        rotate_left
                        · show Act.put _ (some 13) _ = _
                          simp only [Act.put, List.setIfInBounds_toArray, List.set_cons_zero, List.set_cons_succ, i64_w, i32_w]
                          rfl
                        refine one_ (i := 5) (N := some 99) #[true, true, true, true, true, true, false, false, false, true, false, false] rfl rfl (one_of HT_.out (by kernel_rfl)) (by decide) (fun K hK => ?_)
                        refine goes_ Tryz.func69 (by kernel_rfl) rfl #[.slice A6 nv c6, .slice K' n1 (kc - 1)] (by rfl) rfl rfl (by simp only [List.map_toArray, List.map_cons, List.map_nil]; rfl) ?_
                        with_reducible refine (HRC.out A6 c6 _ hs6 (HB3b.out.trans ((balloc hBB hzB _).mono (by omega)))).mono ?_
                        rintro e wC ⟨A7, c7, v7, rfl, hc7, hs7, hbC⟩
                        refine ⟨_, rfl, ?_⟩
                        have hBC : Below w3.heap.size w3 wC := (balloc hBB hzB _).trans (hbC.mono (by first | omega | (simp; omega)))
                        have hzC := hBC.size
                        refine hK.out _ _ trivial (fun hHeld => ?_)
                        clear hK K
                        refine norm_ (a' := ?_) ?_ ?_
                        rotate_left
                        · show Act.put _ (some 99) _ = _
                          simp only [Act.put, List.setIfInBounds_toArray, List.set_cons_zero, List.set_cons_succ, i64_w, i32_w]
                          rfl
                        refine pure_ (i := 6) (N := some 93) (v := ?_) (a' := ?_) #[true, true, true, true, true, true, true, false, false, true, false, false] rfl rfl (any_of HT_.out (by kernel_rfl)) (fun _ _ _ h => h) (Or.inl ⟨by rfl, ?_⟩) ?_ ?_
                        rotate_left
                        · intro w'
                          go_simp
                          with_reducible rfl
                        rotate_left
                        · simp only [Act.put, List.setIfInBounds_toArray, List.set_cons_zero, List.set_cons_succ, i64_w, i32_w]
                          rfl
                        refine pure_ (i := 7) (N := some 100) (v := ?_) (a' := ?_) #[true, true, true, true, true, true, true, true, false, true, false, false] rfl rfl (any_of HT_.out (by kernel_rfl)) (fun _ _ _ h => h) (Or.inl ⟨by rfl, ?_⟩) ?_ ?_
                        rotate_left
                        · intro w'
                          go_simp
                          with_reducible rfl
                        rotate_left
                        · simp only [Act.put, List.setIfInBounds_toArray, List.set_cons_zero, List.set_cons_succ, i64_w, i32_w]
                          rfl
                        refine pure_ (i := 8) (N := some 101) (v := ?_) (a' := ?_) #[true, true, true, true, true, true, true, true, true, true, false, false] rfl rfl (any_of HT_.out (by kernel_rfl)) (fun _ _ _ h => h) (Or.inl ⟨by rfl, ?_⟩) ?_ ?_
                        rotate_left
                        · intro w'
                          go_simp
                          with_reducible rfl
                        rotate_left
                        · simp only [Act.put, List.setIfInBounds_toArray, List.set_cons_zero, List.set_cons_succ, i64_w, i32_w]
                          rfl
                        exact norm_ (by simp only [putAll, Act.put, List.setIfInBounds_toArray, List.set_cons_zero, List.set_cons_succ]) (hCont (A5, c5, A6, c6, A7, c7, v7, wB.heap.size) _ ⟨Lf.of_block (by rw [hbC.block wB.heap.size (by simp)]; exact heap_alloc_new wB _) (by show w3.heap.size ≤ wB.heap.size; omega) (hBC), Lib.hid ⟨hc7, sameT hs6 hs7⟩⟩)
                    · skip
                      refine value_ (w1 := ?_) (v := ?_) (by rfl) rfl ?_ ?_
                      rotate_left 2
                      · go_simp
                        constructor
                        · rfl
                        · rfl
                      refine hK.out _ _ trivial (fun hHeld => ?_)
                      clear hK K
                      refine norm_ (a' := ?_) ?_ ?_
                      rotate_left
                      · show Act.put _ (some 13) _ = _
                        simp only [Act.put, List.setIfInBounds_toArray, List.set_cons_zero, List.set_cons_succ, i64_w, i32_w]
                        rfl
                      refine one_ (i := 2) (N := some 96) #[true, true, true, true, true, false, false, false, false, true, false, false] rfl rfl (one_of HT_.out (by kernel_rfl)) (by decide) (fun K hK => ?_)
                      refine goes_ Tryz.func132 (by kernel_rfl) rfl #[.agg #[.int .u8 4, .slice A5 nv c5]] (by rfl) rfl rfl (by simp only [List.map_toArray, List.map_cons, List.map_nil]; rfl) ?_
                      with_reducible refine (HVD.out A5 c5 _ hs5 (HB3b.out.trans ((balloc hBA hzA _).mono (by omega)))).mono ?_
                      rintro e wB ⟨A6, c6, rfl, hs6, hbB⟩
                      refine ⟨_, rfl, ?_⟩
                      have hBB : Below w3.heap.size w3 wB := (balloc hBA hzA _).trans (hbB.mono (by first | omega | (simp; omega)))
                      have hzB := hBB.size
                      refine hK.out _ _ trivial (fun hHeld => ?_)
                      clear hK K
                      refine norm_ (a' := ?_) ?_ ?_
                      rotate_left
                      · show Act.put _ (some 96) _ = _
                        simp only [Act.put, List.setIfInBounds_toArray, List.set_cons_zero, List.set_cons_succ, i64_w, i32_w]
                        rfl
                      refine one_ (i := 5) (N := some 99) #[true, true, true, true, true, true, false, false, false, true, false, false] rfl rfl (one_of HT_.out (by kernel_rfl)) (by decide) (fun K hK => ?_)
                      refine goes_ Tryz.func69 (by kernel_rfl) rfl #[.slice A6 nv c6, .slice K' n1 (kc - 1)] (by rfl) rfl rfl (by simp only [List.map_toArray, List.map_cons, List.map_nil]; rfl) ?_
                      with_reducible refine (HRC.out A6 c6 _ hs6 (HB3b.out.trans (hBB.mono (by omega)))).mono ?_
                      rintro e wC ⟨A7, c7, v7, rfl, hc7, hs7, hbC⟩
                      refine ⟨_, rfl, ?_⟩
                      have hBC : Below w3.heap.size w3 wC := hBB.trans (hbC.mono (by first | omega | (simp; omega)))
                      have hzC := hBC.size
                      refine hK.out _ _ trivial (fun hHeld => ?_)
                      clear hK K
                      refine norm_ (a' := ?_) ?_ ?_
                      rotate_left
                      · show Act.put _ (some 99) _ = _
                        simp only [Act.put, List.setIfInBounds_toArray, List.set_cons_zero, List.set_cons_succ, i64_w, i32_w]
                        rfl
                      refine pure_ (i := 6) (N := some 93) (v := ?_) (a' := ?_) #[true, true, true, true, true, true, true, false, false, true, false, false] rfl rfl (any_of HT_.out (by kernel_rfl)) (fun _ _ _ h => h) (Or.inl ⟨by rfl, ?_⟩) ?_ ?_
                      rotate_left
                      · intro w'
                        go_simp
                        with_reducible rfl
                      rotate_left
                      · simp only [Act.put, List.setIfInBounds_toArray, List.set_cons_zero, List.set_cons_succ, i64_w, i32_w]
                        rfl
                      refine pure_ (i := 7) (N := some 100) (v := ?_) (a' := ?_) #[true, true, true, true, true, true, true, true, false, true, false, false] rfl rfl (any_of HT_.out (by kernel_rfl)) (fun _ _ _ h => h) (Or.inl ⟨by rfl, ?_⟩) ?_ ?_
                      rotate_left
                      · intro w'
                        go_simp
                        with_reducible rfl
                      rotate_left
                      · simp only [Act.put, List.setIfInBounds_toArray, List.set_cons_zero, List.set_cons_succ, i64_w, i32_w]
                        rfl
                      refine pure_ (i := 8) (N := some 101) (v := ?_) (a' := ?_) #[true, true, true, true, true, true, true, true, true, true, false, false] rfl rfl (any_of HT_.out (by kernel_rfl)) (fun _ _ _ h => h) (Or.inl ⟨by rfl, ?_⟩) ?_ ?_
                      rotate_left
                      · intro w'
                        go_simp
                        with_reducible rfl
                      rotate_left
                      · simp only [Act.put, List.setIfInBounds_toArray, List.set_cons_zero, List.set_cons_succ, i64_w, i32_w]
                        rfl
                      exact norm_ (by simp only [putAll, Act.put, List.setIfInBounds_toArray, List.set_cons_zero, List.set_cons_succ]) (hCont (A5, c5, A6, c6, A7, c7, v7, wA.heap.size) _ ⟨Lf.of_block (by rw [hbC.block wA.heap.size (by have := hbB.size; simp at this; omega), hbB.block wA.heap.size (by simp)]; exact heap_alloc_new wA _) (by show w3.heap.size ≤ wA.heap.size; omega) (hBC), Lib.hid ⟨hc7, sameT hs6 hs7⟩⟩)
                  · skip
                    refine value_ (w1 := ?_) (v := ?_) (by rfl) rfl ?_ ?_
                    rotate_left 2
                    · go_simp
                      constructor
                      · rfl
                      · rfl
                    refine hK.out _ _ trivial (fun hHeld => ?_)
                    clear hK K
                    refine norm_ (a' := ?_) ?_ ?_
                    rotate_left
                    · show Act.put _ (some 13) _ = _
                      simp only [Act.put, List.setIfInBounds_toArray, List.set_cons_zero, List.set_cons_succ, i64_w, i32_w]
                      rfl
                    refine one_ (i := 1) (N := some 95) #[true, true, false, true, true, false, false, false, false, true, false, false] rfl rfl (one_of HT_.out (by kernel_rfl)) (by decide) (fun K hK => ?_)
                    refine goes_ Tryz.func130 (by kernel_rfl) rfl #[.slice (some ⟨eb, eo, none⟩) k c3] (by rfl) rfl rfl (by simp only [List.map_toArray, List.map_cons, List.map_nil]; rfl) ?_
                    with_reducible refine (HEV.out _ (bdrew (balloc HB3b.out (by omega) _))).mono ?_
                    rintro e wA ⟨A5, c5, rfl, hs5, hbA⟩
                    refine ⟨_, rfl, ?_⟩
                    have hBA : Below w3.heap.size w3 wA := (bdrew (balloc (Below.refl _ _) (Nat.le_refl _) _)).trans (hbA.mono (by simp))
                    have hzA := hBA.size
                    refine hK.out _ _ trivial (fun hHeld => ?_)
                    clear hK K
                    refine norm_ (a' := ?_) ?_ ?_
                    rotate_left
                    · show Act.put _ (some 95) _ = _
                      simp only [Act.put, List.setIfInBounds_toArray, List.set_cons_zero, List.set_cons_succ, i64_w, i32_w]
                      rfl
                    refine one_ (i := 2) (N := some 96) #[true, true, true, true, true, false, false, false, false, true, false, false] rfl rfl (one_of HT_.out (by kernel_rfl)) (by decide) (fun K hK => ?_)
                    refine goes_ Tryz.func132 (by kernel_rfl) rfl #[.agg #[.int .u8 4, .slice A5 nv c5]] (by rfl) rfl rfl (by simp only [List.map_toArray, List.map_cons, List.map_nil]; rfl) ?_
                    with_reducible refine (HVD.out A5 c5 _ hs5 (HB3b.out.trans (hBA.mono (by omega)))).mono ?_
                    rintro e wB ⟨A6, c6, rfl, hs6, hbB⟩
                    refine ⟨_, rfl, ?_⟩
                    have hBB : Below w3.heap.size w3 wB := hBA.trans (hbB.mono (by first | omega | (simp; omega)))
                    have hzB := hBB.size
                    refine hK.out _ _ trivial (fun hHeld => ?_)
                    clear hK K
                    refine norm_ (a' := ?_) ?_ ?_
                    rotate_left
                    · show Act.put _ (some 96) _ = _
                      simp only [Act.put, List.setIfInBounds_toArray, List.set_cons_zero, List.set_cons_succ, i64_w, i32_w]
                      rfl
                    refine one_ (i := 5) (N := some 99) #[true, true, true, true, true, true, false, false, false, true, false, false] rfl rfl (one_of HT_.out (by kernel_rfl)) (by decide) (fun K hK => ?_)
                    refine goes_ Tryz.func69 (by kernel_rfl) rfl #[.slice A6 nv c6, .slice K' n1 (kc - 1)] (by rfl) rfl rfl (by simp only [List.map_toArray, List.map_cons, List.map_nil]; rfl) ?_
                    with_reducible refine (HRC.out A6 c6 _ hs6 (HB3b.out.trans (hBB.mono (by omega)))).mono ?_
                    rintro e wC ⟨A7, c7, v7, rfl, hc7, hs7, hbC⟩
                    refine ⟨_, rfl, ?_⟩
                    have hBC : Below w3.heap.size w3 wC := hBB.trans (hbC.mono (by first | omega | (simp; omega)))
                    have hzC := hBC.size
                    refine hK.out _ _ trivial (fun hHeld => ?_)
                    clear hK K
                    refine norm_ (a' := ?_) ?_ ?_
                    rotate_left
                    · show Act.put _ (some 99) _ = _
                      simp only [Act.put, List.setIfInBounds_toArray, List.set_cons_zero, List.set_cons_succ, i64_w, i32_w]
                      rfl
                    refine pure_ (i := 6) (N := some 93) (v := ?_) (a' := ?_) #[true, true, true, true, true, true, true, false, false, true, false, false] rfl rfl (any_of HT_.out (by kernel_rfl)) (fun _ _ _ h => h) (Or.inl ⟨by rfl, ?_⟩) ?_ ?_
                    rotate_left
                    · intro w'
                      go_simp
                      with_reducible rfl
                    rotate_left
                    · simp only [Act.put, List.setIfInBounds_toArray, List.set_cons_zero, List.set_cons_succ, i64_w, i32_w]
                      rfl
                    refine pure_ (i := 7) (N := some 100) (v := ?_) (a' := ?_) #[true, true, true, true, true, true, true, true, false, true, false, false] rfl rfl (any_of HT_.out (by kernel_rfl)) (fun _ _ _ h => h) (Or.inl ⟨by rfl, ?_⟩) ?_ ?_
                    rotate_left
                    · intro w'
                      go_simp
                      with_reducible rfl
                    rotate_left
                    · simp only [Act.put, List.setIfInBounds_toArray, List.set_cons_zero, List.set_cons_succ, i64_w, i32_w]
                      rfl
                    refine pure_ (i := 8) (N := some 101) (v := ?_) (a' := ?_) #[true, true, true, true, true, true, true, true, true, true, false, false] rfl rfl (any_of HT_.out (by kernel_rfl)) (fun _ _ _ h => h) (Or.inl ⟨by rfl, ?_⟩) ?_ ?_
                    rotate_left
                    · intro w'
                      go_simp
                      with_reducible rfl
                    rotate_left
                    · simp only [Act.put, List.setIfInBounds_toArray, List.set_cons_zero, List.set_cons_succ, i64_w, i32_w]
                      rfl
                    exact norm_ (by simp only [putAll, Act.put, List.setIfInBounds_toArray, List.set_cons_zero, List.set_cons_succ]) (hCont (A5, c5, A6, c6, A7, c7, v7, w3.heap.size) _ ⟨Lf.of_block (by rw [hbC.block w3.heap.size (by first | omega | (simp; done) | (simp; omega) | (have := hbA.size; simp at this; omega) | (have := hbA.size; have := hbB.size; simp at *; omega)), hbB.block w3.heap.size (by first | omega | (simp; done) | (simp; omega) | (have := hbA.size; simp at this; omega) | (have := hbA.size; have := hbB.size; simp at *; omega)), hbA.block w3.heap.size (by simp)]; exact heap_alloc_new w3 _) (by show w3.heap.size ≤ w3.heap.size; omega) (hBC), Lib.hid ⟨hc7, sameT hs6 hs7⟩⟩)
                rintro ⟨A5, c5, A6, c6, A7, c7, v7, g⟩ w6 ⟨hLf, HCS⟩
                have RC0 := hLf.c0
                have RC1 := hLf.k1
                have RF0 := hLf.f0
                have RF1 := hLf.f1
                have HLF := Lib.hid hLf
                clear hLf
                refine norm_ (a' := ?_) ?_ ?_
                rotate_left
                · simp only [putAll, Act.put, List.setIfInBounds_toArray, List.set_cons_zero, List.set_cons_succ]
                  rfl
                refine last_ (i := 10) (N := none) #[true, true, true, true, true, true, true, true, true, true, true, false] rfl rfl (one_of HT_.out (by kernel_rfl)) (by decide) (fun K hK => ?_)
                refine skip_ (w1 := ?_) (by rfl) rfl ?_ ?_
                rotate_left
                · go_simp
                  rfl
                refine hK.out _ _ ?_
                clear hK K
                refine pure_ (i := 11) (N := some 14) (v := ?_) (a' := ?_) #[true, true, true, true, true, true, true, true, true, true, true, true] rfl rfl (any_of HT_.out (by kernel_rfl)) (fun _ _ _ h => h) (Or.inl ⟨by rfl, ?_⟩) ?_ ?_
                rotate_left
                · intro w'
                  go_simp
                  with_reducible rfl
                rotate_left
                · simp only [Act.put, List.setIfInBounds_toArray, List.set_cons_zero, List.set_cons_succ, i64_w, i32_w]
                  rfl
                refine done_ (done_of HT_.out (by kernel_rfl)) ?_
                obtain ⟨w7, hw7⟩ : ∃ x, x = (w6.setCell ⟨g, 0, none⟩ (.int .u8 T)).setCell ⟨g, 1, none⟩ (.slice A7 M c7) := ⟨_, rfl⟩
                obtain ⟨g0, g1, hgl7, hb7⟩ := HLF.out.stored _ _ w7 hw7
                rw [← hw7]
                have HB := HB3.out.trans (hb7.mono hz33)
                have q0 := boxc HB 0
                have q1 := boxc HB 1
                simp only [List.getElem?_cons_succ, List.getElem?_cons_zero] at q0 q1
                have f0 := boxf HB 0
                have f1 := boxf HB 1
                have hzz := boxs HB
                have hlt : w.heap.size < w7.heap.size := by omega
                have HBB9 := Lib.hid (boxb HB)
                clear HB HB3 HB3b HLF RC0 RC1 RF0 RF1 hw7 hb7 HEV HVD HRC
                rcases HCS.out.1.nil_or with ⟨hc0, rfl⟩ | ⟨hcn, E, x, rfl⟩
                · have HC0 := Lib.hid hc0
                  clear hc0
                  go_wp2_with fail
                  exact bodyPost_ret (v := .tuple #[.agg #[.int .u8 T, .slice A7 M c7], .nilIface]) (by simp [results, Tryz.results69, go_sem, q0, q1, hlt]) rfl ⟨A7, c7, _, by rw [HT.out, HM.out], HCS.out.1, HCS.out.2, by first | exact (HBB9.out.setCell (Nat.le_refl _) _).setCell (Nat.le_refl _) _ | exact balloc ((HBB9.out.setCell (Nat.le_refl _) _).setCell (Nat.le_refl _) _) (by simp [World.setCell]; omega) _⟩
                · have hz := seek_nz (s :: s2 :: r2) l (by rw [← HSK.out]; exact hcn)
                  rw [← HSK.out] at hz
                  have HZZ := Lib.hid hz
                  have HSN := Lib.hid (same_nil A c l)
                  clear hz hcn
                  go_wp2_with fail
                  exact bodyPost_ret (v := .tuple #[.agg #[.int .u8 0, .slice none 0 0], .iface E x]) (by simp [results, Tryz.results69, go_sem, q0, q1, hlt]) rfl ⟨none, 0, _, by rw [HZZ.out.1, HZZ.out.2]; rfl, HCS.out.1, by rw [HZZ.out.2]; exact HSN.out, by first | exact (HBB9.out.setCell (Nat.le_refl _) _).setCell (Nat.le_refl _) _ | exact balloc ((HBB9.out.setCell (Nat.le_refl _) _).setCell (Nat.le_refl _) _) (by simp [World.setCell]; omega) _⟩
              · have hSK : SK = (0, [], 10) := by rw [HSK.out]; exact seek_out HHIT.out hvi (by rintro (h | h) <;> contradiction)
                have HKY : Hid (∀ wx, Below w.heap.size w wx → Calls Tryz.prog 133 #[.slice (some ⟨eb, eo, none⟩) k c3] wx fun e w' => e = .returned (.string z) ∧ wx = w') := Lib.hid fun wx h => by
                  have hx := elemKey (some ⟨eb, eo, none⟩) c3 t nm v wx (HSE.out wx (HS0.out.keep h)) x11 hk140
                  rw [x13, ← HZ.out] at hx
                  exact hx
                obtain ⟨tt, htt⟩ : ∃ x : Int, x = (t.toNat : Int) := ⟨_, rfl⟩
                rw [← htt] at hct
                have y3 : (tt == 3) = false := by rw [beq_eq_false_iff_ne, htt]; intro h; exact t3 (UInt8.toNat_inj.1 (show t.toNat = (3 : UInt8).toNat from by show t.toNat = 3; omega))
                have y4 : (tt == 4) = false := by rw [beq_eq_false_iff_ne, htt]; intro h; exact t4 (UInt8.toNat_inj.1 (show t.toNat = (4 : UInt8).toNat from by show t.toNat = 4; omega))
                have HSKK := Lib.hid hSK
                have HSN := Lib.hid (same_nil A c l)
                clear hSK htt hvi hnr x1 x2 x3 x4 x5 x6 x7 x8 x9 x10 x11 x12 x13 hk140 hnv hnvv hn1 HREC eK t3 t4
                go_wp2_with fail
                refine (HKY.out _ HB3b.out).mono ?_
                rintro e w4 ⟨rfl, rfl⟩
                have HB := HB3.out
                have q0 := boxc HB 0
                have q1 := boxc HB 1
                simp only [List.getElem?_cons_succ, List.getElem?_cons_zero] at q0 q1
                have f0 := boxf HB 0
                have f1 := boxf HB 1
                have hzz := boxs HB
                have hlt : w.heap.size < w3.heap.size := by omega
                have HBB9 := Lib.hid (boxb HB)
                clear HB HB3 HB3b HKY
                go_wp2_with fail
                rw [HSKK.out]
                exact bodyPost_ret (v := .tuple #[.agg #[.int .u8 0, .slice none 0 0], .iface 188 (.agg #[.string z, .int .u8 tt])]) (by simp [results, Tryz.results69, go_sem, q0, q1, hlt]) rfl ⟨none, 0, _, rfl, .inr (.inr (.inr ⟨rfl, _, _, rfl⟩)), HSN.out, by first | exact (HBB9.out.setCell (Nat.le_refl _) _).setCell (Nat.le_refl _) _ | exact balloc ((HBB9.out.setCell (Nat.le_refl _) _).setCell (Nat.le_refl _) _) (by simp [World.setCell]; omega) _⟩
        · have z1 : (z.toList == s.toList) = false := by rw [beq_eq_false_iff_ne, HZ.out, toList_data]; exact hnm
          have z2 : (z.toList != s.toList) = true := by simpa using z1
          have HNM := Lib.hid hnm
          clear hnm
          go_wp2_with fail
          refine start_ (n := 7) (S := fun w' => w'.cell? ⟨kb, ko, none⟩ = some (.string s)) (ds := []) #[false, false, false, false, false, false, false] (by kernel_rfl) rfl rfl ((by exact hkb2)) (fun hHeld => ?_)
          refine with_tabW R69.tab13 R69.bits13 (fun HT_ HW_ => ?_)
          refine pure_ (i := 0) (N := some 55) (v := ?_) (a' := ?_) #[true, false, false, false, false, false, false] rfl rfl (any_of HT_.out (by kernel_rfl)) (fun _ _ _ h => h) (Or.inl ⟨by rfl, ?_⟩) ?_ ?_
          rotate_left
          · intro w'
            go_simp
            with_reducible rfl
          rotate_left
          · simp only [Act.put, List.setIfInBounds_toArray, List.set_cons_zero, List.set_cons_succ, i64_w, i32_w]
            rfl
          refine pure_ (i := 3) (N := some 58) (v := ?_) (a' := ?_) #[true, false, false, true, false, false, false] rfl rfl (any_of HT_.out (by kernel_rfl)) (fun _ _ _ h => h) (Or.inl ⟨by rfl, ?_⟩) ?_ ?_
          rotate_left
          · intro w'
            go_simp
            with_reducible rfl
          rotate_left
          · simp only [Act.put, List.setIfInBounds_toArray, List.set_cons_zero, List.set_cons_succ, i64_w, i32_w]
            rfl
          refine pure_ (i := 4) (N := some 59) (v := ?_) (a' := ?_) #[true, false, false, true, true, false, false] rfl rfl (any_of HT_.out (by kernel_rfl)) (fun _ _ _ h => h) (Or.inl ⟨by rfl, ?_⟩) ?_ ?_
          rotate_left
          · intro w'
            go_simp
            with_reducible rfl
          rotate_left
          · simp only [Act.put, List.setIfInBounds_toArray, List.set_cons_zero, List.set_cons_succ, i64_w, i32_w]
            rfl
          refine take_ (i := 5) (N := some 60) (v := ?_) (a' := ?_) #[true, false, false, true, true, true, false] rfl rfl (take_ofW HT_.out HW_.out (by kernel_rfl)) (fun _ _ _ h => h) (Or.inl ⟨by rfl, ?_⟩) hHeld ?_ ?_
          rotate_left
          · intro w' s0
            go_simp
            with_reducible rfl
          rotate_left
          · simp only [Act.put, List.setIfInBounds_toArray, List.set_cons_zero, List.set_cons_succ, i64_w, i32_w]
            rfl
          refine one_ (i := 1) (N := some 56) #[true, true, false, true, true, true, false] rfl rfl (one_of HT_.out (by kernel_rfl)) (by decide) (fun K hK => ?_)
          refine goes_ Tryz.func129 (by kernel_rfl) rfl #[.slice A3 k c3] (by rfl) rfl rfl (by simp only [List.map_toArray, List.map_cons, List.map_nil]; rfl) ?_
          with_reducible refine (HKB.out _ (bdrew HBBb.out)).mono ?_
          rintro e w3 ⟨A5, n5, c5, rfl, k5, hb3⟩
          refine ⟨_, rfl, ?_⟩
          refine hK.out _ _ (((hb3.cell (World.block_lt_of_cell? _ _ hHeld)).trans hHeld)) (fun hHeld => ?_)
          clear hK K
          refine norm_ (a' := ?_) ?_ ?_
          rotate_left
          · show Act.put _ (some 56) _ = _
            simp only [Act.put, List.setIfInBounds_toArray, List.set_cons_zero, List.set_cons_succ, i64_w, i32_w]
            rfl
          refine one_ (i := 2) (N := some 57) #[true, true, true, true, true, true, false] rfl rfl (one_of HT_.out (by kernel_rfl)) (by decide) (fun K hK => ?_)
          refine value_ (w1 := ?_) (v := ?_) (by rfl) rfl ?_ ?_
          rotate_left 2
          · go_simp
            constructor
            · rfl
            · rfl
          refine hK.out _ _ (hHeld) (fun hHeld => ?_)
          clear hK K
          refine norm_ (a' := ?_) ?_ ?_
          rotate_left
          · show Act.put _ (some 57) _ = _
            simp only [Act.put, List.setIfInBounds_toArray, List.set_cons_zero, List.set_cons_succ, i64_w, i32_w]
            rfl
          refine pure_ (i := 6) (N := some 61) (v := ?_) (a' := ?_) #[true, true, true, true, true, true, true] rfl rfl (any_of HT_.out (by kernel_rfl)) (fun _ _ _ h => h) (Or.inl ⟨by rfl, ?_⟩) ?_ ?_
          rotate_left
          · intro w'
            go_simp
            with_reducible rfl
          rotate_left
          · simp only [Act.put, List.setIfInBounds_toArray, List.set_cons_zero, List.set_cons_succ, i64_w, i32_w]
            rfl
          refine done_ (done_of HT_.out (by kernel_rfl)) ?_
          have HB3 := Lib.hid (HBB.out.trans ((bleft hb3).mono hz3))
          clear hb3 k5 hHeld hkb2
          go_wp2_with fail
          go_roundw
          case rel =>
            obtain ⟨x1, x2, x3, x4, x5, x6, x7, x8, x9, x10, x11, x12, x13⟩ := HX.out
            obtain ⟨f', rfl⟩ : ∃ f', f = f' + 1 := ⟨f - 1, by omega⟩
            have e9 := (rndL x7 x8 (by omega : k ≤ q) x9).2
            refine ⟨left - k, q - k, A4, c4, by first | rfl | rw [e9] | simp, rfl, by omega, by omega, Lib.hid ⟨rem.drop k, f', by rw [List.length_drop]; omega, HSR.out, ?_, by rw [List.length_drop]; omega⟩, HB3⟩
            rw [outP_other HNM.out] at x3
            exact x3
          case measure =>
            have hm := meas1 HX.out.2.2.2.2.2.2.1 HX.out.2.2.2.2.1
            have e9 := (rndL HX.out.2.2.2.2.2.2.1 HX.out.2.2.2.2.2.2.2.1 (by have := HX.out; omega : k ≤ q) HX.out.2.2.2.2.2.2.2.2.1).2
            first | exact hm | (show (wrap32 (left - k)).toNat < left.toNat; rw [e9]; exact hm) | simpa [intOf] using hm
    · have d1 : decide (1 < left) = false := decide_eq_false hlt
      have HOB : Hid (OUT = .no) := Lib.hid (by rw [← hot, pts_end f left rem hlt]; rfl)
      have HSN := Lib.hid (same_nil A c l)
      have g2r : wr.cell? ⟨2, 0, none⟩ = some (.iface 270 (.pointer (some a2))) := (HB2b.out.cell hgl).trans g2
      have hgr : 2 < wr.heap.size := World.block_lt_of_cell? _ _ g2r
      have hgn : 2 ≠ w.heap.size := by omega
      have HB := HB2.out
      have q0 := boxc HB 0
      have q1 := boxc HB 1
      simp only [List.getElem?_cons_succ, List.getElem?_cons_zero] at q0 q1
      have f0 := boxf HB 0
      have f1 := boxf HB 1
      have hzz := boxs HB
      have hlt : w.heap.size < wr.heap.size := by omega
      have HBB9 := Lib.hid (boxb HB)
      clear hqr hs2 hot hf hsw HB
      go_wp2_with fail
      go_region
      go_wp2_with fail
      have hSK : SK = (0, [], 7) := by rw [HSK.out]; exact seek_no (by rw [← HOU.out, HOB.out])
      rw [hSK]
      exact bodyPost_ret (v := .tuple #[.agg #[.int .u8 0, .slice none 0 0], .iface 270 (.pointer (some a2))]) (by simp [results, Tryz.results69, go_sem, q0, q1, hlt]) rfl ⟨none, 0, _, rfl, .inr (.inl ⟨rfl, rfl⟩), HSN.out, by first | exact bdrew ((HBB9.out.setCell (Nat.le_refl _) _).setCell (Nat.le_refl _) _) | exact (bdrew HBB9.out).setCell (Nat.le_refl _) _ |>.setCell (Nat.le_refl _) _⟩
end Lk
end Go.Proofs.YtbpopaegfhcdpaaGreatDoor.X


/- Look-ups along names through impl, for all bytes. -/
set_option linter.unusedVariables false
set_option linter.unusedSimpArgs false
set_option maxRecDepth 100000
namespace Go.Proofs.YtbpopaegfhcdpaaGreatDoor.X
open Go.RowKit Go.Proofs.YtbpopaegfhcdpaaGreatDoorW.PrintLast
namespace Lk
open Sp Al Av Aw Ck Lo
theorem lookupAll (a1 a2 a3 : Addr) : ∀ (ks : List ByteArray) (l : List UInt8) (A : Option Addr) (c : Nat) (K : Option Addr) (kc : Nat) (w : World), SB w A c l → GS w K kc (strv ks) → SentD w a1 a2 a3 → l.length ≤ 5000 → ks.length ≤ 20 → narrow ks l = false → LkOk a2 a3 ks l A c K kc w
  | [], l, A, c, K, kc, w, hs, hk, hS, hl, hkl, hn => lk_nil a1 a2 a3 l A c K kc w hS
  | s :: r, l, A, c, K, kc, w, hs, hk, hS, hl, hkl, hn => by
    obtain ⟨⟨nn, ok⟩, hr⟩ : ∃ x, readLen l = x := ⟨_, rfl⟩
    cases ok with
    | false => exact lk_noread a1 a2 a3 s r l nn A c K kc w hs hr hkl
    | true => exact lk_loop a1 a2 a3 s r l nn A c K kc w hs hk hS hl hkl hn hr (fun l' A' c' K' kc' w' h1 h2 h3 h4 h5 => lookupAll a1 a2 a3 r l' A' c' K' kc' w' h1 h2 h3 h4 (by simp at hkl; omega) h5)
theorem outP_ok : ∀ (P : List Pt) (ok : Bool) (s : List UInt8) (t : UInt8) (v : List UInt8), (∀ p ∈ P, p.2.2.length ≤ 5000) → outP P ok s = .hit t v → v.length ≤ 5000
  | [], ok, s, t, v, hP, h => by rw [outP_nil] at h; split at h <;> cases h
  | p :: r, ok, s, t, v, hP, h => by
    by_cases hp : p.2.1 = s
    · rw [outP_hit hp] at h
      injection h with h1 h2
      rw [← h2]
      exact hP p List.mem_cons_self
    · rw [outP_other hp] at h
      exact outP_ok r ok s t v (fun p hp => hP p (List.mem_cons_of_mem _ hp)) h
theorem pts_le : ∀ (f : Nat) (left : Int) (rem : List UInt8), ∀ p ∈ (pts f left rem).1, p.2.2.length ≤ rem.length
  | 0, left, rem, p, hp => by simp [pts] at hp
  | f + 1, left, rem, p, hp => by
    by_cases hlt : 1 < left
    · cases hfn : firstN rem with
      | none => rw [pts_none f left rem hlt hfn] at hp; simp at hp
      | some k =>
        rw [pts_step f left rem k hlt hfn] at hp
        rcases List.mem_cons.1 hp with rfl | hp
        · show ((rem.take k).drop _).length ≤ _
          rw [List.length_drop, List.length_take]
          omega
        · have := pts_le f _ _ p hp
          rw [List.length_drop] at this
          omega
    · rw [pts_end f left rem hlt] at hp; simp at hp
theorem parts_le (l : List UInt8) : ∀ p ∈ (partsOf l).1, p.2.2.length ≤ l.length := by
  intro p hp
  unfold partsOf at hp
  split at hp
  · have := pts_le _ _ _ p hp
    rw [List.length_drop] at this
    omega
  · simp at hp
/-- What a look-up finds is short, and its kind a byte. -/
theorem seek_bd : ∀ (ks : List ByteArray) (l : List UInt8), l.length ≤ 5000 → (seek ks l).2.1.length ≤ 5000 ∧ 0 ≤ (seek ks l).1 ∧ (seek ks l).1 ≤ 255
  | [], l, hl => ⟨by simp [seek], by simp [seek], by simp [seek]⟩
  | s :: r, l, hl => by
    cases ho : outOf l s.toList with
    | no => rw [seek_no ho]; simp
    | bad => rw [seek_bad ho]; simp
    | hit t v =>
      have hv5 : v.length ≤ 5000 := outP_ok _ _ _ t v (fun p hp => Nat.le_trans (parts_le l p hp) hl) ho
      have htb : t.toNat ≤ 255 := by have := t.toNat_lt; omega
      by_cases hv : valIs (t.toNat : Int) v = true
      · match r with
        | [] => rw [seek_one ho hv]; exact ⟨hv5, by show (0 : Int) ≤ (t.toNat : Int); omega, by show (t.toNat : Int) ≤ 255; omega⟩
        | s2 :: r2 =>
          by_cases ht : t = 3 ∨ t = 4
          · rw [seek_in ho hv ht]; exact seek_bd (s2 :: r2) v hv5
          · rw [seek_out ho hv ht]; simp
      · rw [seek_cut ho hv]; simp
set_option maxHeartbeats 1000000 in
theorem implLookupA (a1 a2 a3 : Addr) (ks : List ByteArray) (l : List UInt8) (A : Option Addr) (c : Nat) (K : Option Addr) (kc : Nat) (w : World) (hs : SB w A c l) (hk : GS w K kc (strv ks)) (hS : SentD w a1 a2 a3) (hl : l.length ≤ 5000) (hkl : ks.length ≤ 20) (hn : narrow ks l = false) :
    Calls Tryz.prog 24 #[.slice A l.length c, .slice K ks.length kc] w fun e w' => ∃ A1 c1, e = .returned (.tuple #[.agg #[.int .i64 (seek ks l).1, .slice A1 (seek ks l).2.1.length c1], .int .i64 (seek ks l).2.2]) ∧ SB w' A1 c1 (seek ks l).2.1 ∧ Below w.heap.size w w' := by
  have HK := Lib.hid (fun wx (h : Below w.heap.size w wx) => lookupAll a1 a2 a3 ks l A c K kc wx (hs.keep h) (hk.keep h) (hS.keep h) hl hkl hn)
  unfold LkOk at HK
  obtain ⟨hb1, hb2, hb3⟩ := seek_bd ks l hl
  have HS0 := Lib.hid hs
  have HSD := Lib.hid hS
  obtain ⟨p, hp⟩ : ∃ x, x = l.length := ⟨_, rfl⟩
  obtain ⟨n0, hn0⟩ : ∃ x, x = ks.length := ⟨_, rfl⟩
  obtain ⟨SK, hSK⟩ : ∃ x, x = seek ks l := ⟨_, rfl⟩
  rw [← hSK] at HK hb1 hb2 hb3 ⊢
  obtain ⟨T, hT⟩ : ∃ x, x = SK.1 := ⟨_, rfl⟩
  obtain ⟨V, hV⟩ : ∃ x, x = SK.2.1 := ⟨_, rfl⟩
  obtain ⟨CC, hCC⟩ : ∃ x, x = SK.2.2 := ⟨_, rfl⟩
  obtain ⟨M, hM⟩ : ∃ x, x = V.length := ⟨_, rfl⟩
  rw [← hp, ← hn0, ← hT, ← hV, ← hCC, ← hM] at HK
  rw [← hV, ← hM] at hb1
  rw [← hT] at hb2 hb3
  rw [← hp, ← hn0, ← hT, ← hV, ← hCC, ← hM]
  have HO : Hid (∀ A1 c1 wx, SB wx A1 c1 V → Calls Tryz.prog 70 #[.agg #[.int .u8 T, .slice A1 M c1]] wx fun e w' => ∃ A3 c3, e = .returned (.agg #[.int .i64 T, .slice A3 M c3]) ∧ SB w' A3 c3 V ∧ (∀ a, A3 = some a → wx.heap.size ≤ a.block) ∧ Below wx.heap.size wx w') := Lib.hid fun A1 c1 wx h => by
    have hx := A2.implRaw A1 c1 V T wx h hb2 hb3 (by omega)
    rw [← hM] at hx
    exact hx
  clear hs hk hS hl hkl hn hb1 hb2 hb3 hp hn0 hSK hT hV hCC hM
  go_enter Tryz.func24, Tryz.ntmps24
  go_wp2_with fail
  refine (HK.out _ (balloc (Below.refl _ _) (Nat.le_refl _) _)).mono ?_
  rintro e w1 ⟨A1, c1, v1, rfl, hcd, hsm, hb⟩
  have hb1 : Below (w.heap.size + 1) (w.alloc (.cells #[.int .i64 0, .slice none 0 0] 32)) w1 := by simpa using hb
  have HS1 := Lib.hid (hsm _ (HS0.out.keep (boxb hb1)))
  have HCD := Lib.hid hcd
  have hz1 := boxs hb1
  clear hb HK hsm hcd
  go_wp2_with fail
  refine (HO.out A1 c1 _ (HS1.out.alloc _)).mono ?_
  rintro e w2 ⟨A3, c3, rfl, hs3, hn3, hb2⟩
  have hb2' : Below w1.heap.size w1 w2 := (balloc (Below.refl _ _) (Nat.le_refl _) _).trans (hb2.mono (by simp))
  have hX := hb1.trans (hb2'.mono hz1)
  have HN3 : Hid (∀ a, A3 = some a → a.block ≠ w.heap.size) := Lib.hid fun a ha => by have h := hn3 a ha; simp at h; omega
  have HS3 := Lib.hid hs3
  have HX := Lib.hid hX
  clear hb2 hb2' hb1 HS1 hs3 hn3 HO hX
  go_wp2_with fail
  refine (codeL HCD.out w2 (HSD.out.keep (boxb HX.out))).mono ?_
  rintro e w3 ⟨rfl, hb3⟩
  have hY := HX.out.trans (hb3.mono (boxs HX.out))
  have q0 := boxc hY 0
  have q1 := boxc hY 1
  simp only [List.getElem?_cons_succ, List.getElem?_cons_zero] at q0 q1
  have f0 := boxf hY 0
  have f1 := boxf hY 1
  have hz3 := boxs hY
  have hlt : w.heap.size < w3.heap.size := by omega
  have HB := Lib.hid (boxb hY)
  have HS33 := Lib.hid (HS3.out.keep hb3)
  clear hY hb3 HS3 HX
  go_wp2_with fail
  exact bodyPost_ret (v := .tuple #[.agg #[.int .i64 T, .slice A3 M c3], .int .i64 CC]) (by simp [results, Tryz.results24, go_sem, q0, q1]) rfl ⟨A3, c3, rfl, (HS33.out.far HN3.out _).far HN3.out _, (HB.out.setCell (Nat.le_refl _) _).setCell (Nat.le_refl _) _⟩
set_option maxHeartbeats 1000000 in
theorem docLookup (a1 a2 a3 : Addr) (ks : List ByteArray) (l : List UInt8) (A : Option Addr) (c : Nat) (K : Option Addr) (kc : Nat) (w : World) (hs : SB w A c l) (hk : GS w K kc (strv ks)) (hS : SentD w a1 a2 a3) (hl : l.length ≤ 5000) (hkl : ks.length ≤ 20) (hn : narrow ks l = false) :
    Calls Tryz.prog 72 #[.slice A l.length c, .slice K ks.length kc] w fun e w' => ∃ A1 c1, e = .returned (.agg #[.int .u8 (seek ks l).1, .slice A1 (seek ks l).2.1.length c1]) ∧ Same A c l A1 c1 (seek ks l).2.1 ∧ Below w.heap.size w w' := by
  have HK := Lib.hid (fun wx (h : Below w.heap.size w wx) => lookupAll a1 a2 a3 ks l A c K kc wx (hs.keep h) (hk.keep h) (hS.keep h) hl hkl hn)
  unfold LkOk at HK
  obtain ⟨p, hp⟩ : ∃ x, x = l.length := ⟨_, rfl⟩
  obtain ⟨n0, hn0⟩ : ∃ x, x = ks.length := ⟨_, rfl⟩
  obtain ⟨SK, hSK⟩ : ∃ x, x = seek ks l := ⟨_, rfl⟩
  rw [← hSK] at HK ⊢
  obtain ⟨T, hT⟩ : ∃ x, x = SK.1 := ⟨_, rfl⟩
  obtain ⟨V, hV⟩ : ∃ x, x = SK.2.1 := ⟨_, rfl⟩
  obtain ⟨M, hM⟩ : ∃ x, x = V.length := ⟨_, rfl⟩
  rw [← hp, ← hn0, ← hT, ← hV, ← hM] at HK
  rw [← hp, ← hn0, ← hT, ← hV, ← hM]
  clear hs hk hS hl hkl hn hp hn0 hSK hT hV hM
  go_enter Tryz.func72, Tryz.ntmps72
  go_wp2_with fail
  refine (HK.out _ (balloc (Below.refl _ _) (Nat.le_refl _) _)).mono ?_
  rintro e w1 ⟨A1, c1, v1, rfl, hcd, hsm, hb⟩
  have hY : Below (w.heap.size + 1) (w.alloc (.cells #[.int .u8 0, .slice none 0 0] 73)) w1 := by simpa using hb
  have q0 := boxc hY 0
  have q1 := boxc hY 1
  simp only [List.getElem?_cons_succ, List.getElem?_cons_zero] at q0 q1
  have f0 := boxf hY 0
  have f1 := boxf hY 1
  have hz3 := boxs hY
  have hlt : w.heap.size < w1.heap.size := by omega
  have HB := Lib.hid (boxb hY)
  have HSM := Lib.hid hsm
  clear hY hb hsm hcd HK
  go_wp2_with fail
  exact bodyPost_ret (v := .agg #[.int .u8 T, .slice A1 M c1]) (by simp [results, Tryz.results72, go_sem, q0, q1, hlt]) rfl ⟨A1, c1, rfl, HSM.out, by first | exact (HB.out.setCell (Nat.le_refl _) _).setCell (Nat.le_refl _) _ | exact ((balloc HB.out (Nat.le_of_lt hlt) _).setCell (Nat.le_refl _) _).setCell (Nat.le_refl _) _ | exact balloc ((HB.out.setCell (Nat.le_refl _) _).setCell (Nat.le_refl _) _) (by simp [World.setCell]; omega) _⟩
set_option maxHeartbeats 1000000 in
theorem implLookupPlain (a1 a2 a3 : Addr) (ks : List ByteArray) (l : List UInt8) (A : Option Addr) (c : Nat) (K : Option Addr) (kc : Nat) (w : World) (hs : SB w A c l) (hk : GS w K kc (strv ks)) (hS : SentD w a1 a2 a3) (hl : l.length ≤ 5000) (hkl : ks.length ≤ 20) (hn : narrow ks l = false) :
    Calls Tryz.prog 25 #[.slice A l.length c, .slice K ks.length kc] w fun e w' => ∃ A1 c1, e = .returned (.agg #[.int .i64 (seek ks l).1, .slice A1 (seek ks l).2.1.length c1]) ∧ SB w' A1 c1 (seek ks l).2.1 ∧ Below w.heap.size w w' := by
  have HK := Lib.hid (fun wx (h : Below w.heap.size w wx) => docLookup a1 a2 a3 ks l A c K kc wx (hs.keep h) (hk.keep h) (hS.keep h) hl hkl hn)
  obtain ⟨hb1, hb2, hb3⟩ := seek_bd ks l hl
  have HS0 := Lib.hid hs
  obtain ⟨p, hp⟩ : ∃ x, x = l.length := ⟨_, rfl⟩
  obtain ⟨n0, hn0⟩ : ∃ x, x = ks.length := ⟨_, rfl⟩
  obtain ⟨SK, hSK⟩ : ∃ x, x = seek ks l := ⟨_, rfl⟩
  rw [← hSK] at HK hb1 hb2 hb3 ⊢
  obtain ⟨T, hT⟩ : ∃ x, x = SK.1 := ⟨_, rfl⟩
  obtain ⟨V, hV⟩ : ∃ x, x = SK.2.1 := ⟨_, rfl⟩
  obtain ⟨M, hM⟩ : ∃ x, x = V.length := ⟨_, rfl⟩
  rw [← hp, ← hn0, ← hT, ← hV, ← hM] at HK
  rw [← hV, ← hM] at hb1
  rw [← hT] at hb2 hb3
  rw [← hp, ← hn0, ← hT, ← hV, ← hM]
  have HO : Hid (∀ A1 c1 wx, SB wx A1 c1 V → Calls Tryz.prog 70 #[.agg #[.int .u8 T, .slice A1 M c1]] wx fun e w' => ∃ A3 c3, e = .returned (.agg #[.int .i64 T, .slice A3 M c3]) ∧ SB w' A3 c3 V ∧ (∀ a, A3 = some a → wx.heap.size ≤ a.block) ∧ Below wx.heap.size wx w') := Lib.hid fun A1 c1 wx h => by
    have hx := A2.implRaw A1 c1 V T wx h hb2 hb3 (by omega)
    rw [← hM] at hx
    exact hx
  clear hs hk hS hl hkl hn hb1 hb2 hb3 hp hn0 hSK hT hV hM
  go_enter Tryz.func25, Tryz.ntmps25
  go_wp2_with fail
  refine (HK.out _ (balloc (Below.refl _ _) (Nat.le_refl _) _)).mono ?_
  rintro e w1 ⟨A1, c1, rfl, hsm, hb⟩
  have hb1 : Below (w.heap.size + 1) (w.alloc (.cells #[.int .i64 0, .slice none 0 0] 32)) w1 := by simpa using hb
  have HS1 := Lib.hid (hsm _ (HS0.out.keep (boxb hb1)))
  have hz1 := boxs hb1
  clear hb HK hsm
  go_wp2_with fail
  refine (HO.out A1 c1 _ HS1.out).mono ?_
  rintro e w2 ⟨A3, c3, rfl, hs3, hn3, hb2⟩
  have hY := hb1.trans (hb2.mono hz1)
  have HN3 : Hid (∀ a, A3 = some a → a.block ≠ w.heap.size) := Lib.hid fun a ha => by have h := hn3 a ha; omega
  have HS3 := Lib.hid hs3
  have q0 := boxc hY 0
  have q1 := boxc hY 1
  simp only [List.getElem?_cons_succ, List.getElem?_cons_zero] at q0 q1
  have f0 := boxf hY 0
  have f1 := boxf hY 1
  have hz3 := boxs hY
  have hlt : w.heap.size < w2.heap.size := by omega
  have HB := Lib.hid (boxb hY)
  clear hb2 hb1 HS1 hs3 hn3 HO hY
  go_wp2_with fail
  exact bodyPost_ret (v := .agg #[.int .i64 T, .slice A3 M c3]) (by simp [results, Tryz.results25, go_sem, q0, q1]) rfl ⟨A3, c3, rfl, (HS3.out.far HN3.out _).far HN3.out _, (HB.out.setCell (Nat.le_refl _) _).setCell (Nat.le_refl _) _⟩
end Lk
end Go.Proofs.YtbpopaegfhcdpaaGreatDoor.X


/- spec.DocNarrow and spec.DocSeek for all bytes and names. -/
set_option linter.unusedVariables false
set_option linter.unusedSimpArgs false
set_option maxRecDepth 100000
namespace Go.Proofs.YtbpopaegfhcdpaaGreatDoor.X
open Go.RowKit Go.Proofs.YtbpopaegfhcdpaaGreatDoorW.PrintLast
namespace Lk
open Sp Al Av Aw Ck
def R22.T5 : Bool × List (List Nat × List Nat) := (true, [([], []), ([], []), ([0, 1], [0, 1]), ([2], [2]), ([3], [3]), ([], []), ([5], [5]), ([6], [6]), ([4, 7], [4, 7])])
def R22.B5 : List Nat := [0, 0, 3, 7, 15, 0, 32, 96, 255]
theorem R22.tab5 : rtab .any (opsOf Tryz.f22 5) = R22.T5 := by kernel_rfl
theorem R22.bits5 : waitsOk R22.T5.2 R22.B5 = true := by kernel_rfl
def R22.T11 : Bool × List (List Nat × List Nat) := (true, [([], []), ([0], [0]), ([], []), ([2], [2]), ([1, 3], [1, 3]), ([4, 4, 0, 1, 2, 3, 4], [4])])
def R22.B11 : List Nat := [0, 1, 0, 4, 15, 31]
theorem R22.tab11 : rtab .any (opsOf Tryz.f22 11) = R22.T11 := by kernel_rfl
theorem R22.bits11 : waitsOk R22.T11.2 R22.B11 = true := by kernel_rfl
theorem nar_no {s : ByteArray} {r : List ByteArray} {l : List UInt8} (h : outOf l s.toList = .no) : narrow (s :: r) l = false := by simp only [narrow, h]; split <;> rfl
theorem nar_bad {s : ByteArray} {r : List ByteArray} {l : List UInt8} (h : outOf l s.toList = .bad) : narrow (s :: r) l = false := by simp only [narrow, h]; split <;> rfl
theorem nar_cut {s s2 : ByteArray} {r : List ByteArray} {l v : List UInt8} {t : UInt8} (h : outOf l s.toList = .hit t v) (hv : ¬ valIs (t.toNat : Int) v = true) : narrow (s :: s2 :: r) l = true := by
  rw [narrow, h, if_neg (by simp)]
  simp only [if_neg hv]
theorem nar_in {s s2 : ByteArray} {r : List ByteArray} {l v : List UInt8} {t : UInt8} (h : outOf l s.toList = .hit t v) (hv : valIs (t.toNat : Int) v = true) (ht : t = 3 ∨ t = 4) : narrow (s :: s2 :: r) l = narrow (s2 :: r) v := by
  rw [narrow, h, if_neg (by simp)]
  simp only [if_pos hv, if_pos ht]
theorem nar_out {s s2 : ByteArray} {r : List ByteArray} {l v : List UInt8} {t : UInt8} (h : outOf l s.toList = .hit t v) (hv : valIs (t.toNat : Int) v = true) (ht : ¬ (t = 3 ∨ t = 4)) : narrow (s :: s2 :: r) l = false := by
  rw [narrow, h, if_neg (by simp)]
  simp only [if_pos hv, if_neg ht]
theorem nar_short {ks : List ByteArray} {l : List UInt8} (h : ks.length ≤ 1) : narrow ks l = false := by
  match ks, h with
  | [], _ => rfl
  | [s], _ => rw [narrow, if_pos (by rfl)]
theorem outP_at {P : List Pt} {ok : Bool} {s : List UInt8} {i : Nat} (hi : i < P.length) (h : ¬ P[i].2.1 = s) : outP (P.drop i) ok s = outP (P.drop (i + 1)) ok s := by
  rw [List.drop_eq_getElem_cons hi, outP_other h]
theorem outP_is {P : List Pt} {ok : Bool} {s : List UInt8} {i : Nat} (hi : i < P.length) (h : P[i].2.1 = s) : outP (P.drop i) ok s = .hit P[i].1 P[i].2.2 := by
  rw [List.drop_eq_getElem_cons hi, outP_hit h]
theorem w64i (i : Nat) (h : i ≤ 5000) : wrap64 ((i : Int) + 1) = (i : Int) + 1 := by unfold wrap64; omega
theorem measN {n i : Nat} (h : i < n) : n - (i + 1) < n - i := by omega
theorem ne_of {z : Int} {t : UInt8} {d : UInt8} (hz : z = (t.toNat : Int)) (h : ¬ t = d) : (z != (d.toNat : Int)) = true := by
  rw [bne_iff_ne, hz]
  intro he
  exact h (UInt8.toNat_inj.1 (by omega))
theorem SB.notR {W : World} {A : Option Addr} {c : Nat} {l : List UInt8} (hs : SB W A c l) (hp : 0 < l.length) {g : Nat} (h : ∀ o k, W.cell? ⟨g, o, none⟩ ≠ some (.int .u8 k)) : ∀ a, A = some a → a.block ≠ g := by
  obtain ⟨b, off, rfl, hc⟩ := hs.cells hp
  rintro a ha e
  injection ha with ha
  subst ha
  have h0 := hc 0 hp
  have e' : b = g := e
  subst e'
  exact h _ _ h0
theorem SB.farR {W : World} {A : Option Addr} {c : Nat} {l : List UInt8} (hs : SB W A c l) {g : Nat} (h : ∀ o k, W.cell? ⟨g, o, none⟩ ≠ some (.int .u8 k)) (u v : Value) : SB ((W.setCell ⟨g, 0, none⟩ u).setCell ⟨g, 1, none⟩ v) A c l := by
  rcases Nat.eq_zero_or_pos l.length with hl | hl
  · have : l = [] := List.eq_nil_of_length_eq_zero hl
    subst this
    exact ⟨hs.le, hs.cap, fun h => absurd h (Nat.lt_irrefl 0)⟩
  · have hn := SB.notR hs hl h
    exact (hs.far hn _).far hn _

set_option maxHeartbeats 4000000 in
theorem narrow_short (ks : List ByteArray) (l : List UInt8) (A : Option Addr) (c : Nat) (K : Option Addr) (kc : Nat) (w : World) (hs : SB w A c l) (hl : l.length ≤ 5000) (hkl : ks.length ≤ 1) :
    Calls Tryz.prog 22 #[.slice A l.length c, .slice K ks.length kc] w fun e w' => e = .returned (.bool (narrow ks l)) ∧ Below w.heap.size w w' := by
  rw [nar_short hkl]
  have HP := Lib.hid (docPartsA A c l w hs hl)
  obtain ⟨p, hp⟩ : ∃ x, x = l.length := ⟨_, rfl⟩
  obtain ⟨n0, hn0⟩ : ∃ x, x = ks.length := ⟨_, rfl⟩
  rw [← hp] at HP
  rw [← hn0] at hkl
  rw [← hp, ← hn0]
  have d1 : decide (1 < (n0 : Int)) = false := decide_eq_false (by omega)
  have d2 : ¬ (1 < n0) := by omega
  clear hs hl hp hn0 hkl
  go_enter Tryz.func22, Tryz.ntmps22
  go_wp2_with fail
  refine HP.out.mono ?_
  rintro e w2 ⟨⟨v, n, A2, q, c2, xs, rfl, ho, hn5, hps, hnl⟩, hb2⟩
  obtain ⟨Av, cv, rfl⟩ := ho.form
  have HB2 := Lib.hid hb2
  clear hb2 ho hps hnl HP
  go_wp2_with fail
  go_loopw [8] (fun a wr => a = .int .i64 (0 : Nat) ∧ Hid (Below w.heap.size w wr)) (fun _ _ => 0)
  case atStart => exact ⟨rfl, HB2⟩
  case round =>
    obtain ⟨rfl, HBr⟩ := hrel
    go_wp2_with fail
    all_goals
      go_ret
      exact ⟨rfl, HBr.out⟩
set_option maxHeartbeats 8000000 in
theorem narrow_long (s s2 : ByteArray) (r2 : List ByteArray) (l : List UInt8) (A : Option Addr) (c : Nat) (K : Option Addr) (kc : Nat) (w : World) (hs : SB w A c l) (hk : GS w K kc (strv (s :: s2 :: r2))) (hl : l.length ≤ 5000) (hkl : (s :: s2 :: r2).length ≤ 20)
    (IH : ∀ (l' : List UInt8) (A' : Option Addr) (c' : Nat) (K' : Option Addr) (kc' : Nat) (w' : World), SB w' A' c' l' → GS w' K' kc' (strv (s2 :: r2)) → l'.length ≤ 5000 → Calls Tryz.prog 22 #[.slice A' l'.length c', .slice K' (s2 :: r2).length kc'] w' fun e w'' => e = .returned (.bool (narrow (s2 :: r2) l')) ∧ Below w'.heap.size w' w'') :
    Calls Tryz.prog 22 #[.slice A l.length c, .slice K (s :: s2 :: r2).length kc] w fun e w' => e = .returned (.bool (narrow (s :: s2 :: r2) l)) ∧ Below w.heap.size w w' := by
  have HP := Lib.hid (docPartsA A c l w hs hl)
  obtain ⟨kb, ko, rfl, hkc⟩ := gs_head hk
  have hkbl := World.block_lt_of_cell? _ _ hkc
  obtain ⟨p, hp⟩ : ∃ x, x = l.length := ⟨_, rfl⟩
  obtain ⟨PS, hPS⟩ : ∃ x, x = partsOf l := ⟨_, rfl⟩
  rw [← hp, ← hPS] at HP
  obtain ⟨n1, hn1⟩ : ∃ x, x = (s2 :: r2).length := ⟨_, rfl⟩
  obtain ⟨n0, hn0⟩ : ∃ x, x = (s :: s2 :: r2).length := ⟨_, rfl⟩
  have hn01 : n0 = n1 + 1 := by rw [hn0, hn1]; rfl
  have hn1p : 1 ≤ n1 := by rw [hn1]; simp
  have d1 : decide (1 < (n0 : Int)) = true := decide_eq_true (by omega)
  have d2 : 1 < n0 := by omega
  have d3 : 0 < n0 := by omega
  have hkle : n1 + 1 ≤ kc := by have := hk.le; simp only [strv_len, List.length_cons] at this hn1; omega
  obtain ⟨K', eK, sK⟩ := gs_tail (some ⟨kb, ko, none⟩) kc n1 hkle
  rw [← hn01] at eK
  have HSG := Lib.hid (fun wx (h : Below w.heap.size w wx) => sK s (s2 :: r2) hn1.symm wx (hk.keep h))
  obtain ⟨OUT, hOUT⟩ : ∃ x, x = outOf l s.toList := ⟨_, rfl⟩
  have HOU := Lib.hid hOUT
  obtain ⟨NB, hNB⟩ : ∃ x, x = narrow (s :: s2 :: r2) l := ⟨_, rfl⟩
  have HNB := Lib.hid hNB
  have HIH := Lib.hid IH
  have HN1 := Lib.hid hn1
  have HI0 : Hid (outP (PS.1.drop 0) PS.2 s.toList = OUT) := Lib.hid (by rw [hOUT, hPS]; rfl)
  rw [← hp, ← hn0, ← hNB]
  clear hs hk hl hkl hp hPS hn0 hn1 hn01 hn1p hkle sK hOUT hNB IH
  go_enter Tryz.func22, Tryz.ntmps22
  go_wp2_with fail
  refine HP.out.mono ?_
  rintro e w2 ⟨⟨v, n, A2, q, c2, xs, rfl, ho, hn5, hps, hnl⟩, hb2⟩
  obtain ⟨Av, cv, rfl⟩ := ho.form
  have hkb1' : w2.cell? ⟨kb, ko, none⟩ = some (.string s) := (hb2.cell hkbl).trans hkc
  have hkbl' := World.block_lt_of_cell? _ _ hkb1'
  have HB2 := Lib.hid hb2
  have HO := Lib.hid ho
  have HPC := Lib.hid hps
  have HNL := Lib.hid hnl
  clear hb2 ho hps hnl HP hkc
  go_wp2_with fail
  go_loopw [8] (fun a wr => ∃ i : Nat, i ≤ n ∧ a = .int .i64 i ∧ Hid (outP (PS.1.drop i) PS.2 s.toList = OUT) ∧ Hid (Below w2.heap.size w2 wr)) (fun a _ => n - (intOf a).toNat)
  case atStart => exact ⟨0, Nat.zero_le _, rfl, HI0, Lib.hid (Below.refl _ _)⟩
  case round =>
    obtain ⟨i, hi, rfl, HV, HBr⟩ := hrel
    by_cases hlt : i < n
    · skip
      obtain ⟨g, c9, hv9, hg9, hnc, hcc, hcells⟩ := (HO.out.keep HBr.out).cells (by omega)
      obtain ⟨rfl, rfl⟩ : Av = some ⟨g, 0, none⟩ ∧ cv = c9 := by simpa using hv9
      have hiT : i < PS.1.length := by rw [← HNL.out]; exact hlt
      obtain ⟨cs, hpc, hat⟩ := PtsC.at HPC.out i hiT
      obtain ⟨pt, hpt⟩ : ∃ x, x = PS.1[i]'hiT := ⟨_, rfl⟩
      rw [← hpt] at hpc
      obtain ⟨B2, d2, B3, n3, d3, rfl, hsv, hv5⟩ := hpc
      have HG := Lib.hid (fun wx (h : Below w.heap.size w wx) => docGood B2 B3 d2 n3 d3 pt.2.2 ⟨pt.2.1.toArray⟩ (pt.1.toNat : Int) wx (hsv.keep h) hv5)
      obtain ⟨z0, hz0⟩ : ∃ s : ByteArray, s = ⟨pt.2.1.toArray⟩ := ⟨_, rfl⟩
      obtain ⟨z1, hz1⟩ : ∃ x : Int, x = (pt.1.toNat : Int) := ⟨_, rfl⟩
      obtain ⟨z2, hz2⟩ : ∃ x : Nat, x = pt.2.2.length := ⟨_, rfl⟩
      obtain ⟨vb, hvb⟩ : ∃ x : Bool, x = valIs (pt.1.toNat : Int) pt.2.2 := ⟨_, rfl⟩
      rw [← hvb, ← hz0, ← hz1, ← hz2] at HG
      rw [← hz0, ← hz1, ← hz2] at hat
      have HVB := Lib.hid hvb
      have HZ0 := Lib.hid hz0
      have HZ1 := Lib.hid hz1
      have HZ2 := Lib.hid hz2
      have HSV := Lib.hid hsv
      have HV5 := Lib.hid hv5
      have HPT : Hid (∃ h : i < PS.1.length, pt = PS.1[i]'h) := Lib.hid ⟨hiT, hpt⟩
      clear hz0 hz1 hz2 hvb hsv hv5 hpt
      have k0 := hcells (4 * i + 0) _ (hat 0 (by omega))
      have k1 := hcells (4 * i + 1) _ (hat 1 (by omega))
      have k2 := hcells (4 * i + 2) _ (hat 2 (by omega))
      have k3 := hcells (4 * i + 3) _ (hat 3 (by omega))
      rw [Nat.mul_comm 4 i] at k0 k1 k2 k3
      have k0' : wr.cell? ⟨g, i * 4, none⟩ = some (.string z0) := k0
      have hkr : wr.cell? ⟨kb, ko, none⟩ = some (.string s) := (HBr.out.cell hkbl').trans hkb1'
      have hgl : g < wr.heap.size := World.block_lt_of_cell? _ _ k0'
      clear hv9 hcells hat hiT k0
      by_cases hnm : pt.2.1 = s.toList
      · have y1 : (z0.toList == s.toList) = true := by rw [beq_iff_eq, HZ0.out, toList_data]; exact hnm
        have y2 : (z0.toList != s.toList) = false := by simpa using y1
        have HHIT : Hid (outOf l s.toList = .hit pt.1 pt.2.2) := Lib.hid (by
          obtain ⟨hiT, hpt⟩ := HPT.out
          rw [← HOU.out, ← HV.out, hpt]
          exact outP_is hiT (by rw [← hpt]; exact hnm))
        clear hnm
        go_wp2_with fail
        refine start_ (n := 9) (S := fun w' => w'.cell? ⟨g, i * 4, none⟩ = some (.string z0) ∧ w'.cell? ⟨kb, ko, none⟩ = some (.string s)) (ds := []) #[false, false, false, false, false, false, false, false, false] (by kernel_rfl) rfl rfl ⟨k0', hkr⟩ (fun hHeld => ?_)
        refine with_tabW R22.tab5 R22.bits5 (fun HT_ HW_ => ?_)
        refine pure_ (i := 0) (N := some 27) (v := ?_) (a' := ?_) #[true, false, false, false, false, false, false, false, false] rfl rfl (any_of HT_.out (by kernel_rfl)) (fun _ _ _ h => h) (Or.inl ⟨by rfl, ?_⟩) ?_ ?_
        rotate_left
        · intro w'
          go_simp
          with_reducible rfl
        rotate_left
        · simp only [Act.put, List.setIfInBounds_toArray, List.set_cons_zero, List.set_cons_succ, i64_w, i32_w]
          rfl
        refine pure_ (i := 1) (N := some 28) (v := ?_) (a' := ?_) #[true, true, false, false, false, false, false, false, false] rfl rfl (any_of HT_.out (by kernel_rfl)) (fun _ _ _ h => h) (Or.inl ⟨by rfl, ?_⟩) ?_ ?_
        rotate_left
        · intro w'
          go_simp
          with_reducible rfl
        rotate_left
        · simp only [Act.put, List.setIfInBounds_toArray, List.set_cons_zero, List.set_cons_succ, i64_w, i32_w]
          rfl
        refine pure_ (i := 2) (N := some 29) (v := ?_) (a' := ?_) #[true, true, true, false, false, false, false, false, false] rfl rfl (any_of HT_.out (by kernel_rfl)) (fun _ _ _ h => h) (Or.inl ⟨by rfl, ?_⟩) ?_ ?_
        rotate_left
        · intro w'
          go_simp
          with_reducible rfl
        rotate_left
        · simp only [Act.put, List.setIfInBounds_toArray, List.set_cons_zero, List.set_cons_succ, i64_w, i32_w]
          rfl
        refine pure_ (i := 3) (N := some 30) (v := ?_) (a' := ?_) #[true, true, true, true, false, false, false, false, false] rfl rfl (any_of HT_.out (by kernel_rfl)) (fun _ _ _ h => h) (Or.inl ⟨by rfl, ?_⟩) ?_ ?_
        rotate_left
        · intro w'
          go_simp
          with_reducible rfl
        rotate_left
        · simp only [Act.put, List.setIfInBounds_toArray, List.set_cons_zero, List.set_cons_succ, i64_w, i32_w]
          rfl
        refine pure_ (i := 5) (N := some 32) (v := ?_) (a' := ?_) #[true, true, true, true, false, true, false, false, false] rfl rfl (any_of HT_.out (by kernel_rfl)) (fun _ _ _ h => h) (Or.inl ⟨by rfl, ?_⟩) ?_ ?_
        rotate_left
        · intro w'
          go_simp
          with_reducible rfl
        rotate_left
        · simp only [Act.put, List.setIfInBounds_toArray, List.set_cons_zero, List.set_cons_succ, i64_w, i32_w]
          rfl
        refine pure_ (i := 6) (N := some 33) (v := ?_) (a' := ?_) #[true, true, true, true, false, true, true, false, false] rfl rfl (any_of HT_.out (by kernel_rfl)) (fun _ _ _ h => h) (Or.inl ⟨by rfl, ?_⟩) ?_ ?_
        rotate_left
        · intro w'
          go_simp
          with_reducible rfl
        rotate_left
        · simp only [Act.put, List.setIfInBounds_toArray, List.set_cons_zero, List.set_cons_succ, i64_w, i32_w]
          rfl
        refine take_ (i := 4) (N := some 31) (v := ?_) (a' := ?_) #[true, true, true, true, true, true, true, false, false] rfl rfl (take_ofW HT_.out HW_.out (by kernel_rfl)) (fun _ _ _ h => h) (Or.inl ⟨by rfl, ?_⟩) hHeld ?_ ?_
        rotate_left
        · rintro w' ⟨s0, s1⟩
          go_simp
          with_reducible rfl
        rotate_left
        · simp only [Act.put, List.setIfInBounds_toArray, List.set_cons_zero, List.set_cons_succ, i64_w, i32_w]
          rfl
        refine take_ (i := 7) (N := some 34) (v := ?_) (a' := ?_) #[true, true, true, true, true, true, true, true, false] rfl rfl (take_ofW HT_.out HW_.out (by kernel_rfl)) (fun _ _ _ h => h) (Or.inl ⟨by rfl, ?_⟩) hHeld ?_ ?_
        rotate_left
        · rintro w' ⟨s0, s1⟩
          go_simp
          with_reducible rfl
        rotate_left
        · simp only [Act.put, List.setIfInBounds_toArray, List.set_cons_zero, List.set_cons_succ, i64_w, i32_w]
          rfl
        refine pure_ (i := 8) (N := some 35) (v := ?_) (a' := ?_) #[true, true, true, true, true, true, true, true, true] rfl rfl (any_of HT_.out (by kernel_rfl)) (fun _ _ _ h => h) (Or.inl ⟨by rfl, ?_⟩) ?_ ?_
        rotate_left
        · intro w'
          go_simp
          with_reducible rfl
        rotate_left
        · simp only [Act.put, List.setIfInBounds_toArray, List.set_cons_zero, List.set_cons_succ, i64_w, i32_w]
          rfl
        refine done_ (done_of HT_.out (by kernel_rfl)) ?_
        clear hHeld
        go_wp2_with fail
        refine (HG.out _ ?_).mono ?_
        · first | exact bdrew (balloc (bthen HB2.out HBr.out) (bthen HB2.out HBr.out).size _) | exact balloc (bdrew (bthen HB2.out HBr.out)) (bthen HB2.out HBr.out).size _
        rintro e w4 ⟨rfl, hb4⟩
        have hbx : Below (wr.heap.size + 1) (wr.alloc (.cells #[.int .i64 z1, .slice B2 z2 d2] 32)) w4 := by first | simpa using bleft hb4 | simpa using hb4
        have q0 := boxc hbx 0
        have q1 := boxc hbx 1
        simp only [List.getElem?_cons_succ, List.getElem?_cons_zero] at q0 q1
        have hz4 := boxs hbx
        have hlt4 : wr.heap.size < w4.heap.size := by omega
        have HB4 := Lib.hid ((bthen HB2.out HBr.out).trans ((boxb hbx).mono (bthen HB2.out HBr.out).size))
        clear hb4 hbx HG k0' k1 k2 k3 y1 y2 hkr
        cases vb with
        | false =>
          have hNB : NB = true := by rw [HNB.out]; exact nar_cut HHIT.out (by rw [← HVB.out]; simp)
          have HNN := Lib.hid hNB
          clear hNB
          go_wp2_with fail
          go_ret
          exact ⟨by rw [HNN.out]; rfl, HB4.out⟩
        | true =>
          by_cases ht : pt.1 = 3 ∨ pt.1 = 4
          · have hNB : NB = narrow (s2 :: r2) pt.2.2 := by rw [HNB.out]; exact nar_in HHIT.out (by rw [← HVB.out]) ht
            have HREC : Hid (∀ wx, Below w.heap.size w wx → Calls Tryz.prog 22 #[.slice B2 z2 d2, .slice K' n1 (kc - 1)] wx fun e w' => e = .returned (.bool NB) ∧ Below wx.heap.size wx w') := Lib.hid fun wx hbx => by
              have hx := HIH.out pt.2.2 B2 d2 K' (kc - 1) wx (HSV.out.keep hbx) (HSG.out wx hbx) HV5.out
              rw [← hNB, ← HZ2.out, ← HN1.out] at hx
              exact hx
            clear hNB
            rcases ht with ht | ht
            · have hz : z1 = 3 := by rw [HZ1.out, ht]; rfl
              subst hz
              clear ht
              go_wp2_with fail
              refine start_ (n := 6) (S := fun w' => w'.cell? ⟨wr.heap.size, 1, none⟩ = some (.slice B2 z2 d2)) (ds := []) #[false, false, false, false, false, false] (by kernel_rfl) rfl rfl ((by exact q1)) (fun hHeld => ?_)
              refine with_tabW R22.tab11 R22.bits11 (fun HT_ HW_ => ?_)
              refine pure_ (i := 0) (N := some 55) (v := ?_) (a' := ?_) #[true, false, false, false, false, false] rfl rfl (any_of HT_.out (by kernel_rfl)) (fun _ _ _ h => h) (Or.inl ⟨by rfl, ?_⟩) ?_ ?_
              rotate_left
              · intro w'
                go_simp
                with_reducible rfl
              rotate_left
              · simp only [Act.put, List.setIfInBounds_toArray, List.set_cons_zero, List.set_cons_succ, i64_w, i32_w]
                rfl
              refine pure_ (i := 2) (N := some 57) (v := ?_) (a' := ?_) #[true, false, true, false, false, false] rfl rfl (any_of HT_.out (by kernel_rfl)) (fun _ _ _ h => h) (Or.inl ⟨by rfl, ?_⟩) ?_ ?_
              rotate_left
              · intro w'
                go_simp
                with_reducible rfl
              rotate_left
              · simp only [Act.put, List.setIfInBounds_toArray, List.set_cons_zero, List.set_cons_succ, i64_w, i32_w]
                rfl
              refine pure_ (i := 3) (N := some 58) (v := ?_) (a' := ?_) #[true, false, true, true, false, false] rfl rfl (any_of HT_.out (by kernel_rfl)) (fun _ _ _ h => h) (Or.inl ⟨by rfl, ?_⟩) ?_ ?_
              rotate_left
              · intro w'
                go_simp
                with_reducible rfl
              rotate_left
              · simp only [Act.put, List.setIfInBounds_toArray, List.set_cons_zero, List.set_cons_succ, i64_w, i32_w]
                rfl
              refine take_ (i := 1) (N := some 56) (v := ?_) (a' := ?_) #[true, true, true, true, false, false] rfl rfl (take_ofW HT_.out HW_.out (by kernel_rfl)) (fun _ _ _ h => h) (Or.inl ⟨by rfl, ?_⟩) hHeld ?_ ?_
              rotate_left
              · intro w' s0
                go_simp
                with_reducible rfl
              rotate_left
              · simp only [Act.put, List.setIfInBounds_toArray, List.set_cons_zero, List.set_cons_succ, i64_w, i32_w]
                rfl
              refine one_ (i := 4) (N := some 59) #[true, true, true, true, true, false] rfl rfl (one_of HT_.out (by kernel_rfl)) (by decide) (fun K hK => ?_)
              refine goes_ Tryz.func22 (by kernel_rfl) rfl #[.slice B2 z2 d2, .slice K' n1 (kc - 1)] (by rfl) rfl rfl (by simp only [List.map_toArray, List.map_cons, List.map_nil]; rfl) ?_
              with_reducible refine (HREC.out _ (bdrew HB4.out)).mono ?_
              rintro e w5 ⟨rfl, hb5⟩
              refine ⟨_, rfl, ?_⟩
              refine hK.out _ _ (((hb5.cell (World.block_lt_of_cell? _ _ hHeld)).trans hHeld)) (fun hHeld => ?_)
              clear hK K
              refine norm_ (a' := ?_) ?_ ?_
              rotate_left
              · show Act.put _ (some 59) _ = _
                simp only [Act.put, List.setIfInBounds_toArray, List.set_cons_zero, List.set_cons_succ, i64_w, i32_w]
                rfl
              refine pure_ (i := 5) (N := some 4) (v := ?_) (a' := ?_) #[true, true, true, true, true, true] rfl rfl (any_of HT_.out (by kernel_rfl)) (fun _ _ _ h => h) (Or.inl ⟨by rfl, ?_⟩) ?_ ?_
              rotate_left
              · intro w'
                go_simp
                with_reducible rfl
              rotate_left
              · simp only [Act.put, List.setIfInBounds_toArray, List.set_cons_zero, List.set_cons_succ, i64_w, i32_w]
                rfl
              refine done_ (done_of HT_.out (by kernel_rfl)) ?_
              have HB5 := Lib.hid (HB4.out.trans ((bleft hb5).mono HB4.out.size))
              clear hb5 hHeld
              go_wp2_with fail
              go_ret
              exact ⟨rfl, HB5.out⟩
            · have hz : z1 = 4 := by rw [HZ1.out, ht]; rfl
              subst hz
              clear ht
              go_wp2_with fail
              refine start_ (n := 6) (S := fun w' => w'.cell? ⟨wr.heap.size, 1, none⟩ = some (.slice B2 z2 d2)) (ds := []) #[false, false, false, false, false, false] (by kernel_rfl) rfl rfl ((by exact q1)) (fun hHeld => ?_)
              refine with_tabW R22.tab11 R22.bits11 (fun HT_ HW_ => ?_)
              refine pure_ (i := 0) (N := some 55) (v := ?_) (a' := ?_) #[true, false, false, false, false, false] rfl rfl (any_of HT_.out (by kernel_rfl)) (fun _ _ _ h => h) (Or.inl ⟨by rfl, ?_⟩) ?_ ?_
              rotate_left
              · intro w'
                go_simp
                with_reducible rfl
              rotate_left
              · simp only [Act.put, List.setIfInBounds_toArray, List.set_cons_zero, List.set_cons_succ, i64_w, i32_w]
                rfl
              refine pure_ (i := 2) (N := some 57) (v := ?_) (a' := ?_) #[true, false, true, false, false, false] rfl rfl (any_of HT_.out (by kernel_rfl)) (fun _ _ _ h => h) (Or.inl ⟨by rfl, ?_⟩) ?_ ?_
              rotate_left
              · intro w'
                go_simp
                with_reducible rfl
              rotate_left
              · simp only [Act.put, List.setIfInBounds_toArray, List.set_cons_zero, List.set_cons_succ, i64_w, i32_w]
                rfl
              refine pure_ (i := 3) (N := some 58) (v := ?_) (a' := ?_) #[true, false, true, true, false, false] rfl rfl (any_of HT_.out (by kernel_rfl)) (fun _ _ _ h => h) (Or.inl ⟨by rfl, ?_⟩) ?_ ?_
              rotate_left
              · intro w'
                go_simp
                with_reducible rfl
              rotate_left
              · simp only [Act.put, List.setIfInBounds_toArray, List.set_cons_zero, List.set_cons_succ, i64_w, i32_w]
                rfl
              refine take_ (i := 1) (N := some 56) (v := ?_) (a' := ?_) #[true, true, true, true, false, false] rfl rfl (take_ofW HT_.out HW_.out (by kernel_rfl)) (fun _ _ _ h => h) (Or.inl ⟨by rfl, ?_⟩) hHeld ?_ ?_
              rotate_left
              · intro w' s0
                go_simp
                with_reducible rfl
              rotate_left
              · simp only [Act.put, List.setIfInBounds_toArray, List.set_cons_zero, List.set_cons_succ, i64_w, i32_w]
                rfl
              refine one_ (i := 4) (N := some 59) #[true, true, true, true, true, false] rfl rfl (one_of HT_.out (by kernel_rfl)) (by decide) (fun K hK => ?_)
              refine goes_ Tryz.func22 (by kernel_rfl) rfl #[.slice B2 z2 d2, .slice K' n1 (kc - 1)] (by rfl) rfl rfl (by simp only [List.map_toArray, List.map_cons, List.map_nil]; rfl) ?_
              with_reducible refine (HREC.out _ (bdrew HB4.out)).mono ?_
              rintro e w5 ⟨rfl, hb5⟩
              refine ⟨_, rfl, ?_⟩
              refine hK.out _ _ (((hb5.cell (World.block_lt_of_cell? _ _ hHeld)).trans hHeld)) (fun hHeld => ?_)
              clear hK K
              refine norm_ (a' := ?_) ?_ ?_
              rotate_left
              · show Act.put _ (some 59) _ = _
                simp only [Act.put, List.setIfInBounds_toArray, List.set_cons_zero, List.set_cons_succ, i64_w, i32_w]
                rfl
              refine pure_ (i := 5) (N := some 4) (v := ?_) (a' := ?_) #[true, true, true, true, true, true] rfl rfl (any_of HT_.out (by kernel_rfl)) (fun _ _ _ h => h) (Or.inl ⟨by rfl, ?_⟩) ?_ ?_
              rotate_left
              · intro w'
                go_simp
                with_reducible rfl
              rotate_left
              · simp only [Act.put, List.setIfInBounds_toArray, List.set_cons_zero, List.set_cons_succ, i64_w, i32_w]
                rfl
              refine done_ (done_of HT_.out (by kernel_rfl)) ?_
              have HB5 := Lib.hid (HB4.out.trans ((bleft hb5).mono HB4.out.size))
              clear hb5 hHeld
              go_wp2_with fail
              go_ret
              exact ⟨rfl, HB5.out⟩
          · have hNB : NB = false := by rw [HNB.out]; exact nar_out HHIT.out (by rw [← HVB.out]) ht
            have y3 : (z1 != 3) = true := ne_of (d := 3) HZ1.out (fun h => ht (.inl h))
            have y4 : (z1 != 4) = true := ne_of (d := 4) HZ1.out (fun h => ht (.inr h))
            have HNN := Lib.hid hNB
            clear hNB ht
            go_wp2_with fail
            go_ret
            exact ⟨by rw [HNN.out]; rfl, HB4.out⟩
      · have y1 : (z0.toList == s.toList) = false := by rw [beq_eq_false_iff_ne, HZ0.out, toList_data]; exact hnm
        have y2 : (z0.toList != s.toList) = true := by simpa using y1
        have HV2 : Hid (outP (PS.1.drop (i + 1)) PS.2 s.toList = OUT) := Lib.hid (by
          obtain ⟨hiT, hpt⟩ := HPT.out
          rw [← HV.out]
          exact (outP_at hiT (by rw [← hpt]; exact hnm)).symm)
        have HI : Hid (wrap64 ((i : Int) + 1) = (i : Int) + 1) := Lib.hid (w64i i (by omega))
        clear hnm
        go_wp2_with fail
        refine start_ (n := 9) (S := fun w' => w'.cell? ⟨g, i * 4, none⟩ = some (.string z0) ∧ w'.cell? ⟨kb, ko, none⟩ = some (.string s)) (ds := []) #[false, false, false, false, false, false, false, false, false] (by kernel_rfl) rfl rfl ⟨k0', hkr⟩ (fun hHeld => ?_)
        refine with_tabW R22.tab5 R22.bits5 (fun HT_ HW_ => ?_)
        refine pure_ (i := 0) (N := some 27) (v := ?_) (a' := ?_) #[true, false, false, false, false, false, false, false, false] rfl rfl (any_of HT_.out (by kernel_rfl)) (fun _ _ _ h => h) (Or.inl ⟨by rfl, ?_⟩) ?_ ?_
        rotate_left
        · intro w'
          go_simp
          with_reducible rfl
        rotate_left
        · simp only [Act.put, List.setIfInBounds_toArray, List.set_cons_zero, List.set_cons_succ, i64_w, i32_w]
          rfl
        refine pure_ (i := 1) (N := some 28) (v := ?_) (a' := ?_) #[true, true, false, false, false, false, false, false, false] rfl rfl (any_of HT_.out (by kernel_rfl)) (fun _ _ _ h => h) (Or.inl ⟨by rfl, ?_⟩) ?_ ?_
        rotate_left
        · intro w'
          go_simp
          with_reducible rfl
        rotate_left
        · simp only [Act.put, List.setIfInBounds_toArray, List.set_cons_zero, List.set_cons_succ, i64_w, i32_w]
          rfl
        refine pure_ (i := 2) (N := some 29) (v := ?_) (a' := ?_) #[true, true, true, false, false, false, false, false, false] rfl rfl (any_of HT_.out (by kernel_rfl)) (fun _ _ _ h => h) (Or.inl ⟨by rfl, ?_⟩) ?_ ?_
        rotate_left
        · intro w'
          go_simp
          with_reducible rfl
        rotate_left
        · simp only [Act.put, List.setIfInBounds_toArray, List.set_cons_zero, List.set_cons_succ, i64_w, i32_w]
          rfl
        refine pure_ (i := 3) (N := some 30) (v := ?_) (a' := ?_) #[true, true, true, true, false, false, false, false, false] rfl rfl (any_of HT_.out (by kernel_rfl)) (fun _ _ _ h => h) (Or.inl ⟨by rfl, ?_⟩) ?_ ?_
        rotate_left
        · intro w'
          go_simp
          with_reducible rfl
        rotate_left
        · simp only [Act.put, List.setIfInBounds_toArray, List.set_cons_zero, List.set_cons_succ, i64_w, i32_w]
          rfl
        refine pure_ (i := 5) (N := some 32) (v := ?_) (a' := ?_) #[true, true, true, true, false, true, false, false, false] rfl rfl (any_of HT_.out (by kernel_rfl)) (fun _ _ _ h => h) (Or.inl ⟨by rfl, ?_⟩) ?_ ?_
        rotate_left
        · intro w'
          go_simp
          with_reducible rfl
        rotate_left
        · simp only [Act.put, List.setIfInBounds_toArray, List.set_cons_zero, List.set_cons_succ, i64_w, i32_w]
          rfl
        refine pure_ (i := 6) (N := some 33) (v := ?_) (a' := ?_) #[true, true, true, true, false, true, true, false, false] rfl rfl (any_of HT_.out (by kernel_rfl)) (fun _ _ _ h => h) (Or.inl ⟨by rfl, ?_⟩) ?_ ?_
        rotate_left
        · intro w'
          go_simp
          with_reducible rfl
        rotate_left
        · simp only [Act.put, List.setIfInBounds_toArray, List.set_cons_zero, List.set_cons_succ, i64_w, i32_w]
          rfl
        refine take_ (i := 4) (N := some 31) (v := ?_) (a' := ?_) #[true, true, true, true, true, true, true, false, false] rfl rfl (take_ofW HT_.out HW_.out (by kernel_rfl)) (fun _ _ _ h => h) (Or.inl ⟨by rfl, ?_⟩) hHeld ?_ ?_
        rotate_left
        · rintro w' ⟨s0, s1⟩
          go_simp
          with_reducible rfl
        rotate_left
        · simp only [Act.put, List.setIfInBounds_toArray, List.set_cons_zero, List.set_cons_succ, i64_w, i32_w]
          rfl
        refine take_ (i := 7) (N := some 34) (v := ?_) (a' := ?_) #[true, true, true, true, true, true, true, true, false] rfl rfl (take_ofW HT_.out HW_.out (by kernel_rfl)) (fun _ _ _ h => h) (Or.inl ⟨by rfl, ?_⟩) hHeld ?_ ?_
        rotate_left
        · rintro w' ⟨s0, s1⟩
          go_simp
          with_reducible rfl
        rotate_left
        · simp only [Act.put, List.setIfInBounds_toArray, List.set_cons_zero, List.set_cons_succ, i64_w, i32_w]
          rfl
        refine pure_ (i := 8) (N := some 35) (v := ?_) (a' := ?_) #[true, true, true, true, true, true, true, true, true] rfl rfl (any_of HT_.out (by kernel_rfl)) (fun _ _ _ h => h) (Or.inl ⟨by rfl, ?_⟩) ?_ ?_
        rotate_left
        · intro w'
          go_simp
          with_reducible rfl
        rotate_left
        · simp only [Act.put, List.setIfInBounds_toArray, List.set_cons_zero, List.set_cons_succ, i64_w, i32_w]
          rfl
        refine done_ (done_of HT_.out (by kernel_rfl)) ?_
        clear hHeld
        go_wp2_with fail
        go_roundw
        case rel => exact ⟨i + 1, by omega, by first | rfl | (rw [HI.out]; simp), HV2, Lib.hid (bdrew HBr.out)⟩
        case measure => first | (rw [HI.out]; simp [intOf]; omega) | (simp [intOf]; omega)
    · obtain rfl : i = n := by omega
      have hNB : NB = false := by
        rw [HNB.out]
        have h := HV.out
        rw [HNL.out, List.drop_length, outP_nil] at h
        cases hok : PS.2 with
        | true => rw [hok, if_pos rfl] at h; exact nar_no (by rw [← HOU.out, ← h])
        | false => rw [hok, if_neg (by simp)] at h; exact nar_bad (by rw [← HOU.out, ← h])
      have HNN := Lib.hid hNB
      clear hNB hlt hi
      go_wp2_with fail
      go_ret
      exact ⟨by rw [HNN.out]; rfl, bthen HB2.out HBr.out⟩
theorem docNarrow : ∀ (ks : List ByteArray) (l : List UInt8) (A : Option Addr) (c : Nat) (K : Option Addr) (kc : Nat) (w : World), SB w A c l → GS w K kc (strv ks) → l.length ≤ 5000 → ks.length ≤ 20 →
    Calls Tryz.prog 22 #[.slice A l.length c, .slice K ks.length kc] w fun e w' => e = .returned (.bool (narrow ks l)) ∧ Below w.heap.size w w'
  | [], l, A, c, K, kc, w, hs, hk, hl, hkl => narrow_short [] l A c K kc w hs hl (by simp)
  | [s], l, A, c, K, kc, w, hs, hk, hl, hkl => narrow_short [s] l A c K kc w hs hl (by simp)
  | s :: s2 :: r2, l, A, c, K, kc, w, hs, hk, hl, hkl => narrow_long s s2 r2 l A c K kc w hs hk hl hkl (fun l' A' c' K' kc' w' h1 h2 h3 => docNarrow (s2 :: r2) l' A' c' K' kc' w' h1 h2 h3 (by simp only [List.length_cons] at hkl ⊢; omega))
end Lk
end Go.Proofs.YtbpopaegfhcdpaaGreatDoor.X


/- spec.DocSeek for all bytes and names. -/
set_option linter.unusedVariables false
set_option linter.unusedSimpArgs false
set_option maxRecDepth 100000
namespace Go.Proofs.YtbpopaegfhcdpaaGreatDoor.X
open Go.RowKit Go.Proofs.YtbpopaegfhcdpaaGreatDoorW.PrintLast
namespace Lk
open Sp Al Av Aw Ck
def R23.T7 : Bool × List (List Nat × List Nat) := (true, [([], []), ([], []), ([0, 1], [0, 1]), ([2], [2]), ([3], [3]), ([], []), ([5], [5]), ([6], [6]), ([4, 7], [4, 7])])
def R23.B7 : List Nat := [0, 0, 3, 7, 15, 0, 32, 96, 255]
theorem R23.tab7 : rtab .any (opsOf Tryz.f23 7) = R23.T7 := by kernel_rfl
theorem R23.bits7 : waitsOk R23.T7.2 R23.B7 = true := by kernel_rfl
def R23.T15 : Bool × List (List Nat × List Nat) := (true, [([], []), ([0], [0]), ([], []), ([2], [2]), ([1, 3], [1, 3]), ([4], [4]), ([4], [4]), ([5, 4, 0, 1, 2, 3, 4, 5, 6], [5]), ([6, 7, 0, 1, 2, 3, 4, 5, 6, 7], [6])])
def R23.B15 : List Nat := [0, 1, 0, 4, 15, 31, 31, 127, 255]
theorem R23.tab15 : rtab .any (opsOf Tryz.f23 15) = R23.T15 := by kernel_rfl
theorem R23.bits15 : waitsOk R23.T15.2 R23.B15 = true := by kernel_rfl
theorem SB.unbox {w : World} {A : Option Addr} {c : Nat} {l : List UInt8} {t : TypeId} (hs : SB (w.alloc (.cells #[.int .i64 0, .slice none 0 0] t)) A c l) : SB w A c l := by
  rcases Nat.eq_zero_or_pos l.length with hl | hl
  · have : l = [] := List.eq_nil_of_length_eq_zero hl
    subst this
    exact ⟨hs.le, hs.cap, fun h => absurd h (Nat.lt_irrefl 0)⟩
  · have hn := SB.notR hs hl (g := w.heap.size) (fun o k h => by
      rw [World.cell?_alloc_new] at h
      match o with
      | 0 => simp at h
      | 1 => simp at h
      | o + 2 => simp at h)
    obtain ⟨b, off, rfl, hc⟩ := hs.cells hl
    have hb := hn _ rfl
    refine ⟨hs.le, hs.cap, fun _ => ⟨b, off, rfl, fun j hj => ?_⟩⟩
    have h := hc j hj
    have h2 := World.cell?_alloc_old w (.cells #[.int .i64 0, .slice none 0 0] t) (a := ⟨b, off + j, none⟩) hb
    rw [h2] at h
    exact h
theorem PtsC.unbox {w : World} {t : TypeId} : ∀ {P : List Pt} {xs : List Value}, PtsC (w.alloc (.cells #[.int .i64 0, .slice none 0 0] t)) P xs → PtsC w P xs
  | [], xs, h => h
  | p :: r, xs, ⟨cs, ys, e, ⟨A2, c2, A3, n3, c3, h1, h2, h3⟩, hr⟩ => ⟨cs, ys, e, ⟨A2, c2, A3, n3, c3, h1, SB.unbox h2, h3⟩, PtsC.unbox hr⟩

theorem seek_nil (l : List UInt8) (A : Option Addr) (c : Nat) (K : Option Addr) (kc : Nat) (w : World) :
    Calls Tryz.prog 23 #[.slice A l.length c, .slice K 0 kc] w fun e w' => (∃ A1 c1, e = .returned (.tuple #[.agg #[.int .i64 (seek [] l).1, .slice A1 (seek [] l).2.1.length c1], .int .i64 (seek [] l).2.2]) ∧ SB w' A1 c1 (seek [] l).2.1) ∧ Below w.heap.size w w' := by
  obtain ⟨p, hp⟩ : ∃ x, x = l.length := ⟨_, rfl⟩
  rw [← hp]
  clear hp
  show Calls Tryz.prog 23 #[.slice A p c, .slice K 0 kc] w fun e w' => (∃ A1 c1, e = .returned (.tuple #[.agg #[.int .i64 0, .slice A1 0 c1], .int .i64 8]) ∧ SB w' A1 c1 []) ∧ Below w.heap.size w w'
  go_enter Tryz.func23, Tryz.ntmps23
  go_wp2_with fail
  exact bodyPost_ret (v := .tuple #[.agg #[.int .i64 0, .slice none 0 0], .int .i64 8]) (by simp [results, Tryz.results23, go_sem]) rfl ⟨⟨none, 0, rfl, SB.nil _⟩, by first | exact balloc (Below.refl _ _) (Nat.le_refl _) _ | exact ((balloc (Below.refl _ _) (Nat.le_refl _) _).setCell (Nat.le_refl _) _).setCell (Nat.le_refl _) _⟩
set_option maxHeartbeats 8000000 in
theorem seek_long (s : ByteArray) (r : List ByteArray) (l : List UInt8) (A : Option Addr) (c : Nat) (K : Option Addr) (kc : Nat) (w : World) (hs : SB w A c l) (hk : GS w K kc (strv (s :: r))) (hl : l.length ≤ 5000) (hkl : (s :: r).length ≤ 20)
    (IH : ∀ (l' : List UInt8) (A' : Option Addr) (c' : Nat) (K' : Option Addr) (kc' : Nat) (w' : World), SB w' A' c' l' → GS w' K' kc' (strv r) → l'.length ≤ 5000 → Calls Tryz.prog 23 #[.slice A' l'.length c', .slice K' r.length kc'] w' fun e w'' => (∃ A1 c1, e = .returned (.tuple #[.agg #[.int .i64 (seek r l').1, .slice A1 (seek r l').2.1.length c1], .int .i64 (seek r l').2.2]) ∧ SB w'' A1 c1 (seek r l').2.1) ∧ Below w'.heap.size w' w'') :
    Calls Tryz.prog 23 #[.slice A l.length c, .slice K (s :: r).length kc] w fun e w' => (∃ A1 c1, e = .returned (.tuple #[.agg #[.int .i64 (seek (s :: r) l).1, .slice A1 (seek (s :: r) l).2.1.length c1], .int .i64 (seek (s :: r) l).2.2]) ∧ SB w' A1 c1 (seek (s :: r) l).2.1) ∧ Below w.heap.size w w' := by
  obtain ⟨p, hp⟩ : ∃ x, x = l.length := ⟨_, rfl⟩
  obtain ⟨PS, hPS⟩ : ∃ x, x = partsOf l := ⟨_, rfl⟩
  have HP : Hid (Calls Tryz.prog 67 #[.slice A p c] (w.alloc (.cells #[.int .i64 0, .slice none 0 0] 32)) fun e w' => (∃ v n A2 q c2 xs, e = .returned (.tuple #[v, .slice A2 q c2, .bool PS.2]) ∧ ON 123 4 w' (w.alloc (.cells #[.int .i64 0, .slice none 0 0] 32)).heap.size v n xs ∧ n ≤ 5000 ∧ PtsC w PS.1 xs ∧ n = PS.1.length) ∧ Below (w.alloc (.cells #[.int .i64 0, .slice none 0 0] 32)).heap.size (w.alloc (.cells #[.int .i64 0, .slice none 0 0] 32)) w') := Lib.hid (by
    rw [hp, hPS]
    refine (docPartsA A c l _ (hs.alloc _) hl).mono ?_
    rintro e w' ⟨⟨v, n, A2, q, c2, xs, h1, h2, h3, h4, h5⟩, hb⟩
    exact ⟨⟨v, n, A2, q, c2, xs, h1, h2, h3, PtsC.unbox h4, h5⟩, hb⟩)
  obtain ⟨kb, ko, rfl, hkc⟩ := gs_head hk
  have hkbl := World.block_lt_of_cell? _ _ hkc
  obtain ⟨n0, hn0⟩ : ∃ x, x = (s :: r).length := ⟨_, rfl⟩
  have HN0 := Lib.hid hn0
  have hn01 : 1 ≤ n0 := by rw [hn0]; simp
  have d0 : ((n0 : Int) == 0) = false := by rw [beq_eq_false_iff_ne]; omega
  have d3 : 0 < n0 := by omega
  have d4 : ¬ n0 = 0 := by omega
  have HK0 := Lib.hid hk
  obtain ⟨OUT, hOUT⟩ : ∃ x, x = outOf l s.toList := ⟨_, rfl⟩
  have HOU := Lib.hid hOUT
  obtain ⟨SK, hSK⟩ : ∃ x, x = seek (s :: r) l := ⟨_, rfl⟩
  have HSK := Lib.hid hSK
  have HIH := Lib.hid IH
  have HI0 : Hid (outP (PS.1.drop 0) PS.2 s.toList = OUT) := Lib.hid (by rw [hOUT, hPS]; rfl)
  rw [← hp, ← hn0, ← hSK]
  clear hs hk hl hkl hp hPS hn0 hn01 hOUT hSK IH
  go_enter Tryz.func23, Tryz.ntmps23
  go_wp2_with fail
  refine HP.out.mono ?_
  rintro e w2 ⟨⟨v, n, A2, q, c2, xs, rfl, ho, hn5, hps, hnl⟩, hb⟩
  have hX2 : Below (w.heap.size + 1) (w.alloc (.cells #[.int .i64 0, .slice none 0 0] 32)) w2 := by simpa using hb
  obtain ⟨Av, cv, rfl⟩ := ho.form
  have hb2 := boxb hX2
  have hkb1' : w2.cell? ⟨kb, ko, none⟩ = some (.string s) := (hb2.cell hkbl).trans hkc
  have hkbl' := World.block_lt_of_cell? _ _ hkb1'
  have HB2 := Lib.hid hb2
  have HX2 := Lib.hid hX2
  have HO := Lib.hid ho
  have HPC := Lib.hid hps
  have HNL := Lib.hid hnl
  have hz2 := boxs hX2
  clear hb hb2 ho hps hnl HP hkc hX2
  go_wp2_with fail
  go_loopw [9] (fun a wr => ∃ i : Nat, i ≤ n ∧ a = .int .i64 i ∧ Hid (outP (PS.1.drop i) PS.2 s.toList = OUT) ∧ Hid (Below w2.heap.size w2 wr)) (fun a _ => n - (intOf a).toNat)
  case atStart => exact ⟨0, Nat.zero_le _, rfl, HI0, Lib.hid (Below.refl _ _)⟩
  case round =>
    obtain ⟨i, hi, rfl, HV, HBr⟩ := hrel
    clear d0 d4
    by_cases hlt : i < n
    · skip
      obtain ⟨g, c9, hv9, hg9, hnc, hcc, hcells⟩ := (HO.out.keep HBr.out).cells (by omega)
      obtain ⟨rfl, rfl⟩ : Av = some ⟨g, 0, none⟩ ∧ cv = c9 := by simpa using hv9
      have hiT : i < PS.1.length := by rw [← HNL.out]; exact hlt
      obtain ⟨cs, hpc, hat⟩ := PtsC.at HPC.out i hiT
      obtain ⟨pt, hpt⟩ : ∃ x, x = PS.1[i]'hiT := ⟨_, rfl⟩
      rw [← hpt] at hpc
      obtain ⟨B2, d2, B3, n3, d3, rfl, hsv, hv5⟩ := hpc
      have HG := Lib.hid (fun wx (h : Below w.heap.size w wx) => docGood B2 B3 d2 n3 d3 pt.2.2 ⟨pt.2.1.toArray⟩ (pt.1.toNat : Int) wx (hsv.keep h) hv5)
      obtain ⟨z0, hz0⟩ : ∃ s : ByteArray, s = ⟨pt.2.1.toArray⟩ := ⟨_, rfl⟩
      obtain ⟨z1, hz1⟩ : ∃ x : Int, x = (pt.1.toNat : Int) := ⟨_, rfl⟩
      obtain ⟨z2, hz2⟩ : ∃ x : Nat, x = pt.2.2.length := ⟨_, rfl⟩
      obtain ⟨vb, hvb⟩ : ∃ x : Bool, x = valIs (pt.1.toNat : Int) pt.2.2 := ⟨_, rfl⟩
      rw [← hvb, ← hz0, ← hz1, ← hz2] at HG
      rw [← hz0, ← hz1, ← hz2] at hat
      have HVB := Lib.hid hvb
      have HZ0 := Lib.hid hz0
      have HZ1 := Lib.hid hz1
      have HZ2 := Lib.hid hz2
      have HSV := Lib.hid hsv
      have HV5 := Lib.hid hv5
      have HPT : Hid (∃ h : i < PS.1.length, pt = PS.1[i]'h) := Lib.hid ⟨hiT, hpt⟩
      clear hz0 hz1 hz2 hvb hsv hv5 hpt
      have k0 := hcells (4 * i + 0) _ (hat 0 (by omega))
      have k1 := hcells (4 * i + 1) _ (hat 1 (by omega))
      have k2 := hcells (4 * i + 2) _ (hat 2 (by omega))
      have k3 := hcells (4 * i + 3) _ (hat 3 (by omega))
      rw [Nat.mul_comm 4 i] at k0 k1 k2 k3
      have k0' : wr.cell? ⟨g, i * 4, none⟩ = some (.string z0) := k0
      have hkr : wr.cell? ⟨kb, ko, none⟩ = some (.string s) := (HBr.out.cell hkbl').trans hkb1'
      have hgl : g < wr.heap.size := World.block_lt_of_cell? _ _ k0'
      clear hv9 hcells hat hiT k0
      by_cases hnm : pt.2.1 = s.toList
      · have y1 : (z0.toList == s.toList) = true := by rw [beq_iff_eq, HZ0.out, toList_data]; exact hnm
        have y2 : (z0.toList != s.toList) = false := by simpa using y1
        have HHIT : Hid (outOf l s.toList = .hit pt.1 pt.2.2) := Lib.hid (by
          obtain ⟨hiT, hpt⟩ := HPT.out
          rw [← HOU.out, ← HV.out, hpt]
          exact outP_is hiT (by rw [← hpt]; exact hnm))
        clear hnm
        go_wp2_with fail
        refine start_ (n := 9) (S := fun w' => w'.cell? ⟨g, i * 4, none⟩ = some (.string z0) ∧ w'.cell? ⟨kb, ko, none⟩ = some (.string s)) (ds := []) #[false, false, false, false, false, false, false, false, false] (by kernel_rfl) rfl rfl ⟨k0', hkr⟩ (fun hHeld => ?_)
        refine with_tabW R23.tab7 R23.bits7 (fun HT_ HW_ => ?_)
        refine pure_ (i := 0) (N := some 27) (v := ?_) (a' := ?_) #[true, false, false, false, false, false, false, false, false] rfl rfl (any_of HT_.out (by kernel_rfl)) (fun _ _ _ h => h) (Or.inl ⟨by rfl, ?_⟩) ?_ ?_
        rotate_left
        · intro w'
          go_simp
          with_reducible rfl
        rotate_left
        · simp only [Act.put, List.setIfInBounds_toArray, List.set_cons_zero, List.set_cons_succ, i64_w, i32_w]
          rfl
        refine pure_ (i := 1) (N := some 28) (v := ?_) (a' := ?_) #[true, true, false, false, false, false, false, false, false] rfl rfl (any_of HT_.out (by kernel_rfl)) (fun _ _ _ h => h) (Or.inl ⟨by rfl, ?_⟩) ?_ ?_
        rotate_left
        · intro w'
          go_simp
          with_reducible rfl
        rotate_left
        · simp only [Act.put, List.setIfInBounds_toArray, List.set_cons_zero, List.set_cons_succ, i64_w, i32_w]
          rfl
        refine pure_ (i := 2) (N := some 29) (v := ?_) (a' := ?_) #[true, true, true, false, false, false, false, false, false] rfl rfl (any_of HT_.out (by kernel_rfl)) (fun _ _ _ h => h) (Or.inl ⟨by rfl, ?_⟩) ?_ ?_
        rotate_left
        · intro w'
          go_simp
          with_reducible rfl
        rotate_left
        · simp only [Act.put, List.setIfInBounds_toArray, List.set_cons_zero, List.set_cons_succ, i64_w, i32_w]
          rfl
        refine pure_ (i := 3) (N := some 30) (v := ?_) (a' := ?_) #[true, true, true, true, false, false, false, false, false] rfl rfl (any_of HT_.out (by kernel_rfl)) (fun _ _ _ h => h) (Or.inl ⟨by rfl, ?_⟩) ?_ ?_
        rotate_left
        · intro w'
          go_simp
          with_reducible rfl
        rotate_left
        · simp only [Act.put, List.setIfInBounds_toArray, List.set_cons_zero, List.set_cons_succ, i64_w, i32_w]
          rfl
        refine pure_ (i := 5) (N := some 32) (v := ?_) (a' := ?_) #[true, true, true, true, false, true, false, false, false] rfl rfl (any_of HT_.out (by kernel_rfl)) (fun _ _ _ h => h) (Or.inl ⟨by rfl, ?_⟩) ?_ ?_
        rotate_left
        · intro w'
          go_simp
          with_reducible rfl
        rotate_left
        · simp only [Act.put, List.setIfInBounds_toArray, List.set_cons_zero, List.set_cons_succ, i64_w, i32_w]
          rfl
        refine pure_ (i := 6) (N := some 33) (v := ?_) (a' := ?_) #[true, true, true, true, false, true, true, false, false] rfl rfl (any_of HT_.out (by kernel_rfl)) (fun _ _ _ h => h) (Or.inl ⟨by rfl, ?_⟩) ?_ ?_
        rotate_left
        · intro w'
          go_simp
          with_reducible rfl
        rotate_left
        · simp only [Act.put, List.setIfInBounds_toArray, List.set_cons_zero, List.set_cons_succ, i64_w, i32_w]
          rfl
        refine take_ (i := 4) (N := some 31) (v := ?_) (a' := ?_) #[true, true, true, true, true, true, true, false, false] rfl rfl (take_ofW HT_.out HW_.out (by kernel_rfl)) (fun _ _ _ h => h) (Or.inl ⟨by rfl, ?_⟩) hHeld ?_ ?_
        rotate_left
        · rintro w' ⟨s0, s1⟩
          go_simp
          with_reducible rfl
        rotate_left
        · simp only [Act.put, List.setIfInBounds_toArray, List.set_cons_zero, List.set_cons_succ, i64_w, i32_w]
          rfl
        refine take_ (i := 7) (N := some 34) (v := ?_) (a' := ?_) #[true, true, true, true, true, true, true, true, false] rfl rfl (take_ofW HT_.out HW_.out (by kernel_rfl)) (fun _ _ _ h => h) (Or.inl ⟨by rfl, ?_⟩) hHeld ?_ ?_
        rotate_left
        · rintro w' ⟨s0, s1⟩
          go_simp
          with_reducible rfl
        rotate_left
        · simp only [Act.put, List.setIfInBounds_toArray, List.set_cons_zero, List.set_cons_succ, i64_w, i32_w]
          rfl
        refine pure_ (i := 8) (N := some 35) (v := ?_) (a' := ?_) #[true, true, true, true, true, true, true, true, true] rfl rfl (any_of HT_.out (by kernel_rfl)) (fun _ _ _ h => h) (Or.inl ⟨by rfl, ?_⟩) ?_ ?_
        rotate_left
        · intro w'
          go_simp
          with_reducible rfl
        rotate_left
        · simp only [Act.put, List.setIfInBounds_toArray, List.set_cons_zero, List.set_cons_succ, i64_w, i32_w]
          rfl
        refine done_ (done_of HT_.out (by kernel_rfl)) ?_
        clear hHeld
        go_wp2_with fail
        refine (HG.out _ ?_).mono ?_
        · first | exact bdrew (balloc (bthen HB2.out HBr.out) (bthen HB2.out HBr.out).size _) | exact balloc (bdrew (bthen HB2.out HBr.out)) (bthen HB2.out HBr.out).size _
        rintro e w4 ⟨rfl, hb4⟩
        have hbx : Below (wr.heap.size + 1) (wr.alloc (.cells #[.int .i64 z1, .slice B2 z2 d2] 32)) w4 := by first | simpa using bleft hb4 | simpa using hb4
        have r0 := boxc hbx 0
        have r1 := boxc hbx 1
        simp only [List.getElem?_cons_succ, List.getElem?_cons_zero] at r0 r1
        have hz4 := boxs hbx
        have hlt4 : wr.heap.size < w4.heap.size := by omega
        have hwr : w.heap.size < wr.heap.size := by have := HBr.out.size; omega
        have HX := HX2.out.trans ((HBr.out.trans ((boxb hbx).mono HBr.out.size)).mono hz2)
        have HXX := Lib.hid HX
        clear hb4 hbx HG k0' k1 k2 k3 y1 y2 hkr
        cases vb with
        | false =>
          have hcut : ¬ valIs (pt.1.toNat : Int) pt.2.2 = true := by rw [← HVB.out]; simp
          have hSK : SK = (0, [], 1) := by rw [HSK.out]; exact seek_cut HHIT.out hcut
          have HSKK := Lib.hid hSK
          clear hSK
          have q0 := boxc HX 0
          have q1 := boxc HX 1
          simp only [List.getElem?_cons_succ, List.getElem?_cons_zero] at q0 q1
          have f0 := boxf HX 0
          have f1 := boxf HX 1
          have hzz := boxs HX
          have hltw : w.heap.size < w4.heap.size := by omega
          have HBB := Lib.hid (boxb HX)
          clear HX
          go_wp2_with fail
          rw [HSKK.out]
          exact bodyPost_ret (v := .tuple #[.agg #[.int .i64 0, .slice none 0 0], .int .i64 1]) (by simp [results, Tryz.results23, go_sem, q0, q1, hltw]) rfl ⟨⟨none, 0, rfl, SB.nil _⟩, by first | exact (HBB.out.setCell (Nat.le_refl _) _).setCell (Nat.le_refl _) _ | exact balloc ((HBB.out.setCell (Nat.le_refl _) _).setCell (Nat.le_refl _) _) (by simp [World.setCell]; omega) _⟩
        | true =>
          have hvi : valIs (pt.1.toNat : Int) pt.2.2 = true := by rw [← HVB.out]
          rcases r with _ | ⟨s2, r2⟩
          · have hn1 : n0 = 1 := HN0.out
            subst hn1
            have hSK : SK = ((pt.1.toNat : Int), pt.2.2, 0) := by rw [HSK.out]; exact seek_one HHIT.out hvi
            have HSKK := Lib.hid hSK
            clear hSK hvi
            have q0 := boxc HX 0
            have q1 := boxc HX 1
            simp only [List.getElem?_cons_succ, List.getElem?_cons_zero] at q0 q1
            have f0 := boxf HX 0
            have f1 := boxf HX 1
            have hzz := boxs HX
            have hltw : w.heap.size < w4.heap.size := by omega
            have HBB := Lib.hid (boxb HX)
            clear HX
            go_wp2_with fail
            rw [HSKK.out]
            exact bodyPost_ret (v := .tuple #[.agg #[.int .i64 z1, .slice B2 z2 d2], .int .i64 0]) (by simp [results, Tryz.results23, go_sem, q0, q1, hltw]) rfl ⟨⟨B2, d2, by rw [HZ1.out, HZ2.out], HSV.out.keep (by first | exact (HBB.out.setCell (Nat.le_refl _) _).setCell (Nat.le_refl _) _ | exact balloc ((HBB.out.setCell (Nat.le_refl _) _).setCell (Nat.le_refl _) _) (by simp [World.setCell]; omega) _)⟩, by first | exact (HBB.out.setCell (Nat.le_refl _) _).setCell (Nat.le_refl _) _ | exact balloc ((HBB.out.setCell (Nat.le_refl _) _).setCell (Nat.le_refl _) _) (by simp [World.setCell]; omega) _⟩
          · obtain ⟨n1, hn1⟩ : ∃ x, x = (s2 :: r2).length := ⟨_, rfl⟩
            have hn01 : n0 = n1 + 1 := by rw [HN0.out, hn1]; rfl
            have hn1p : 1 ≤ n1 := by rw [hn1]; simp
            have HN1 := Lib.hid hn1
            have e1 : ((n0 : Int) == 1) = false := by rw [beq_eq_false_iff_ne]; omega
            have e2 : ¬ n0 = 1 := by omega
            have hkle : n1 + 1 ≤ kc := by have := HK0.out.le; simp only [strv_len, List.length_cons] at this hn1; omega
            obtain ⟨K', eK, sK⟩ := gs_tail (some ⟨kb, ko, none⟩) kc n1 hkle
            rw [← hn01] at eK
            have HSG := Lib.hid (fun wx (h : Below w.heap.size w wx) => sK s (s2 :: r2) hn1.symm wx (HK0.out.keep h))
            clear sK hn01 hn1p hkle
            by_cases ht : pt.1 = 3 ∨ pt.1 = 4
            · have hSK : SK = seek (s2 :: r2) pt.2.2 := by rw [HSK.out]; exact seek_in HHIT.out hvi ht
              obtain ⟨T, hT⟩ : ∃ x, x = SK.1 := ⟨_, rfl⟩
              obtain ⟨V, hV⟩ : ∃ x, x = SK.2.1 := ⟨_, rfl⟩
              obtain ⟨CC, hCC⟩ : ∃ x, x = SK.2.2 := ⟨_, rfl⟩
              obtain ⟨M, hM⟩ : ∃ x, x = V.length := ⟨_, rfl⟩
              have HREC : Hid (∀ wx, Below w.heap.size w wx → Calls Tryz.prog 23 #[.slice B2 z2 d2, .slice K' n1 (kc - 1)] wx fun e w' => (∃ A1 c1, e = .returned (.tuple #[.agg #[.int .i64 T, .slice A1 M c1], .int .i64 CC]) ∧ SB w' A1 c1 V) ∧ Below wx.heap.size wx w') := Lib.hid fun wx hbx => by
                have hx := HIH.out pt.2.2 B2 d2 K' (kc - 1) wx (HSV.out.keep hbx) (HSG.out wx hbx) HV5.out
                rw [← hSK, ← hT, ← hV, ← hCC, ← hM, ← HZ2.out, ← HN1.out] at hx
                exact hx
              have HT : Hid (T = SK.1 ∧ V = SK.2.1 ∧ CC = SK.2.2 ∧ M = V.length) := Lib.hid ⟨hT, hV, hCC, hM⟩
              have HBw := Lib.hid (boxb HX)
              clear hSK hT hV hCC hM HX hvi hn1
              rcases ht with ht | ht
              · have hz : z1 = 3 := by rw [HZ1.out, ht]; rfl
                subst hz
                clear ht
                go_wp2_with fail
                refine start_ (n := 9) (S := fun w' => w'.cell? ⟨wr.heap.size, 1, none⟩ = some (.slice B2 z2 d2)) (ds := [7]) #[false, false, false, false, false, false, false, false, false] (by kernel_rfl) rfl rfl ((by exact r1)) (fun hHeld => ?_)
                refine with_tabW R23.tab15 R23.bits15 (fun HT_ HW_ => ?_)
                refine pure_ (i := 0) (N := some 61) (v := ?_) (a' := ?_) #[true, false, false, false, false, false, false, false, false] rfl rfl (any_of HT_.out (by kernel_rfl)) (fun _ _ _ h => h) (Or.inl ⟨by rfl, ?_⟩) ?_ ?_
                rotate_left
                · intro w'
                  go_simp
                  with_reducible rfl
                rotate_left
                · simp only [Act.put, List.setIfInBounds_toArray, List.set_cons_zero, List.set_cons_succ, i64_w, i32_w]
                  rfl
                refine pure_ (i := 2) (N := some 63) (v := ?_) (a' := ?_) #[true, false, true, false, false, false, false, false, false] rfl rfl (any_of HT_.out (by kernel_rfl)) (fun _ _ _ h => h) (Or.inl ⟨by rfl, ?_⟩) ?_ ?_
                rotate_left
                · intro w'
                  go_simp
                  with_reducible rfl
                rotate_left
                · simp only [Act.put, List.setIfInBounds_toArray, List.set_cons_zero, List.set_cons_succ, i64_w, i32_w]
                  rfl
                refine pure_ (i := 3) (N := some 64) (v := ?_) (a' := ?_) #[true, false, true, true, false, false, false, false, false] rfl rfl (any_of HT_.out (by kernel_rfl)) (fun _ _ _ h => h) (Or.inl ⟨by rfl, ?_⟩) ?_ ?_
                rotate_left
                · intro w'
                  go_simp
                  with_reducible rfl
                rotate_left
                · simp only [Act.put, List.setIfInBounds_toArray, List.set_cons_zero, List.set_cons_succ, i64_w, i32_w]
                  rfl
                refine take_ (i := 1) (N := some 62) (v := ?_) (a' := ?_) #[true, true, true, true, false, false, false, false, false] rfl rfl (take_ofW HT_.out HW_.out (by kernel_rfl)) (fun _ _ _ h => h) (Or.inl ⟨by rfl, ?_⟩) hHeld ?_ ?_
                rotate_left
                · intro w' s0
                  go_simp
                  with_reducible rfl
                rotate_left
                · simp only [Act.put, List.setIfInBounds_toArray, List.set_cons_zero, List.set_cons_succ, i64_w, i32_w]
                  rfl
                refine one_ (i := 4) (N := some 65) #[true, true, true, true, true, false, false, false, false] rfl rfl (one_of HT_.out (by kernel_rfl)) (by decide) (fun K hK => ?_)
                refine goes_ Tryz.func23 (by kernel_rfl) rfl #[.slice B2 z2 d2, .slice K' n1 (kc - 1)] (by rfl) rfl rfl (by simp only [List.map_toArray, List.map_cons, List.map_nil]; rfl) ?_
                with_reducible refine (HREC.out _ (bdrew HBw.out)).mono ?_
                rintro e w5 ⟨⟨A6, c6, rfl, hs6⟩, hb5⟩
                refine ⟨_, rfl, ?_⟩
                have hX5 := HXX.out.trans ((bleft hb5).mono (by have := boxs HXX.out; exact this))
                have q0 := boxc hX5 0
                have q1 := boxc hX5 1
                simp only [List.getElem?_cons_succ, List.getElem?_cons_zero] at q0 q1
                have f0 := boxf hX5 0
                have f1 := boxf hX5 1
                have hzz := boxs hX5
                have hltw : w.heap.size < w5.heap.size := by omega
                have HBB := Lib.hid (boxb hX5)
                have HX5 := Lib.hid hX5
                have HS6 := Lib.hid hs6
                refine hK.out _ _ (((hb5.cell (World.block_lt_of_cell? _ _ hHeld)).trans hHeld)) (fun hHeld => ?_)
                clear hK K
                refine norm_ (a' := ?_) ?_ ?_
                rotate_left
                · show Act.put _ (some 65) _ = _
                  simp only [Act.put, List.setIfInBounds_toArray, List.set_cons_zero, List.set_cons_succ, i64_w, i32_w]
                  rfl
                refine pure_ (i := 5) (N := some 66) (v := ?_) (a' := ?_) #[true, true, true, true, true, true, false, false, false] rfl rfl (any_of HT_.out (by kernel_rfl)) (fun _ _ _ h => h) (Or.inl ⟨by rfl, ?_⟩) ?_ ?_
                rotate_left
                · intro w'
                  go_simp
                  with_reducible rfl
                rotate_left
                · simp only [Act.put, List.setIfInBounds_toArray, List.set_cons_zero, List.set_cons_succ, i64_w, i32_w]
                  rfl
                refine pure_ (i := 6) (N := some 67) (v := ?_) (a' := ?_) #[true, true, true, true, true, true, true, false, false] rfl rfl (any_of HT_.out (by kernel_rfl)) (fun _ _ _ h => h) (Or.inl ⟨by rfl, ?_⟩) ?_ ?_
                rotate_left
                · intro w'
                  go_simp
                  with_reducible rfl
                rotate_left
                · simp only [Act.put, List.setIfInBounds_toArray, List.set_cons_zero, List.set_cons_succ, i64_w, i32_w]
                  rfl
                refine last_ (i := 7) (N := none) #[true, true, true, true, true, true, true, true, false] rfl rfl (one_of HT_.out (by kernel_rfl)) (by decide) (fun K hK => ?_)
                refine skip_ (w1 := ?_) (by rfl) rfl ?_ ?_
                rotate_left
                · go_simp
                  rfl
                refine hK.out _ _ ?_
                clear hK K
                refine pure_ (i := 8) (N := some 5) (v := ?_) (a' := ?_) #[true, true, true, true, true, true, true, true, true] rfl rfl (any_of HT_.out (by kernel_rfl)) (fun _ _ _ h => h) (Or.inl ⟨by rfl, ?_⟩) ?_ ?_
                rotate_left
                · intro w'
                  go_simp
                  with_reducible rfl
                rotate_left
                · simp only [Act.put, List.setIfInBounds_toArray, List.set_cons_zero, List.set_cons_succ, i64_w, i32_w]
                  rfl
                refine done_ (done_of HT_.out (by kernel_rfl)) ?_
                clear hb5 hX5 hs6
                go_wp2_with fail
                obtain ⟨t1, t2, t3, t4⟩ := HT.out
                exact bodyPost_ret (v := .tuple #[.agg #[.int .i64 T, .slice A6 M c6], .int .i64 CC]) (by simp [results, Tryz.results23, go_sem, q0, q1, hltw]) rfl ⟨⟨A6, c6, by rw [← t1, ← t2, ← t3, ← t4], by
                  rw [← t2]
                  refine SB.farR HS6.out (fun o k h => ?_) _ _
                  have h2 := boxc HX5.out o
                  rw [h2] at h
                  match o with
                  | 0 => simp at h
                  | 1 => simp at h
                  | o + 2 => simp at h⟩, by first | exact (HBB.out.setCell (Nat.le_refl _) _).setCell (Nat.le_refl _) _ | exact balloc ((HBB.out.setCell (Nat.le_refl _) _).setCell (Nat.le_refl _) _) (by simp [World.setCell]; omega) _⟩
              · have hz : z1 = 4 := by rw [HZ1.out, ht]; rfl
                subst hz
                clear ht
                go_wp2_with fail
                refine start_ (n := 9) (S := fun w' => w'.cell? ⟨wr.heap.size, 1, none⟩ = some (.slice B2 z2 d2)) (ds := [7]) #[false, false, false, false, false, false, false, false, false] (by kernel_rfl) rfl rfl ((by exact r1)) (fun hHeld => ?_)
                refine with_tabW R23.tab15 R23.bits15 (fun HT_ HW_ => ?_)
                refine pure_ (i := 0) (N := some 61) (v := ?_) (a' := ?_) #[true, false, false, false, false, false, false, false, false] rfl rfl (any_of HT_.out (by kernel_rfl)) (fun _ _ _ h => h) (Or.inl ⟨by rfl, ?_⟩) ?_ ?_
                rotate_left
                · intro w'
                  go_simp
                  with_reducible rfl
                rotate_left
                · simp only [Act.put, List.setIfInBounds_toArray, List.set_cons_zero, List.set_cons_succ, i64_w, i32_w]
                  rfl
                refine pure_ (i := 2) (N := some 63) (v := ?_) (a' := ?_) #[true, false, true, false, false, false, false, false, false] rfl rfl (any_of HT_.out (by kernel_rfl)) (fun _ _ _ h => h) (Or.inl ⟨by rfl, ?_⟩) ?_ ?_
                rotate_left
                · intro w'
                  go_simp
                  with_reducible rfl
                rotate_left
                · simp only [Act.put, List.setIfInBounds_toArray, List.set_cons_zero, List.set_cons_succ, i64_w, i32_w]
                  rfl
                refine pure_ (i := 3) (N := some 64) (v := ?_) (a' := ?_) #[true, false, true, true, false, false, false, false, false] rfl rfl (any_of HT_.out (by kernel_rfl)) (fun _ _ _ h => h) (Or.inl ⟨by rfl, ?_⟩) ?_ ?_
                rotate_left
                · intro w'
                  go_simp
                  with_reducible rfl
                rotate_left
                · simp only [Act.put, List.setIfInBounds_toArray, List.set_cons_zero, List.set_cons_succ, i64_w, i32_w]
                  rfl
                refine take_ (i := 1) (N := some 62) (v := ?_) (a' := ?_) #[true, true, true, true, false, false, false, false, false] rfl rfl (take_ofW HT_.out HW_.out (by kernel_rfl)) (fun _ _ _ h => h) (Or.inl ⟨by rfl, ?_⟩) hHeld ?_ ?_
                rotate_left
                · intro w' s0
                  go_simp
                  with_reducible rfl
                rotate_left
                · simp only [Act.put, List.setIfInBounds_toArray, List.set_cons_zero, List.set_cons_succ, i64_w, i32_w]
                  rfl
                refine one_ (i := 4) (N := some 65) #[true, true, true, true, true, false, false, false, false] rfl rfl (one_of HT_.out (by kernel_rfl)) (by decide) (fun K hK => ?_)
                refine goes_ Tryz.func23 (by kernel_rfl) rfl #[.slice B2 z2 d2, .slice K' n1 (kc - 1)] (by rfl) rfl rfl (by simp only [List.map_toArray, List.map_cons, List.map_nil]; rfl) ?_
                with_reducible refine (HREC.out _ (bdrew HBw.out)).mono ?_
                rintro e w5 ⟨⟨A6, c6, rfl, hs6⟩, hb5⟩
                refine ⟨_, rfl, ?_⟩
                have hX5 := HXX.out.trans ((bleft hb5).mono (by have := boxs HXX.out; exact this))
                have q0 := boxc hX5 0
                have q1 := boxc hX5 1
                simp only [List.getElem?_cons_succ, List.getElem?_cons_zero] at q0 q1
                have f0 := boxf hX5 0
                have f1 := boxf hX5 1
                have hzz := boxs hX5
                have hltw : w.heap.size < w5.heap.size := by omega
                have HBB := Lib.hid (boxb hX5)
                have HX5 := Lib.hid hX5
                have HS6 := Lib.hid hs6
                refine hK.out _ _ (((hb5.cell (World.block_lt_of_cell? _ _ hHeld)).trans hHeld)) (fun hHeld => ?_)
                clear hK K
                refine norm_ (a' := ?_) ?_ ?_
                rotate_left
                · show Act.put _ (some 65) _ = _
                  simp only [Act.put, List.setIfInBounds_toArray, List.set_cons_zero, List.set_cons_succ, i64_w, i32_w]
                  rfl
                refine pure_ (i := 5) (N := some 66) (v := ?_) (a' := ?_) #[true, true, true, true, true, true, false, false, false] rfl rfl (any_of HT_.out (by kernel_rfl)) (fun _ _ _ h => h) (Or.inl ⟨by rfl, ?_⟩) ?_ ?_
                rotate_left
                · intro w'
                  go_simp
                  with_reducible rfl
                rotate_left
                · simp only [Act.put, List.setIfInBounds_toArray, List.set_cons_zero, List.set_cons_succ, i64_w, i32_w]
                  rfl
                refine pure_ (i := 6) (N := some 67) (v := ?_) (a' := ?_) #[true, true, true, true, true, true, true, false, false] rfl rfl (any_of HT_.out (by kernel_rfl)) (fun _ _ _ h => h) (Or.inl ⟨by rfl, ?_⟩) ?_ ?_
                rotate_left
                · intro w'
                  go_simp
                  with_reducible rfl
                rotate_left
                · simp only [Act.put, List.setIfInBounds_toArray, List.set_cons_zero, List.set_cons_succ, i64_w, i32_w]
                  rfl
                refine last_ (i := 7) (N := none) #[true, true, true, true, true, true, true, true, false] rfl rfl (one_of HT_.out (by kernel_rfl)) (by decide) (fun K hK => ?_)
                refine skip_ (w1 := ?_) (by rfl) rfl ?_ ?_
                rotate_left
                · go_simp
                  rfl
                refine hK.out _ _ ?_
                clear hK K
                refine pure_ (i := 8) (N := some 5) (v := ?_) (a' := ?_) #[true, true, true, true, true, true, true, true, true] rfl rfl (any_of HT_.out (by kernel_rfl)) (fun _ _ _ h => h) (Or.inl ⟨by rfl, ?_⟩) ?_ ?_
                rotate_left
                · intro w'
                  go_simp
                  with_reducible rfl
                rotate_left
                · simp only [Act.put, List.setIfInBounds_toArray, List.set_cons_zero, List.set_cons_succ, i64_w, i32_w]
                  rfl
                refine done_ (done_of HT_.out (by kernel_rfl)) ?_
                clear hb5 hX5 hs6
                go_wp2_with fail
                obtain ⟨t1, t2, t3, t4⟩ := HT.out
                exact bodyPost_ret (v := .tuple #[.agg #[.int .i64 T, .slice A6 M c6], .int .i64 CC]) (by simp [results, Tryz.results23, go_sem, q0, q1, hltw]) rfl ⟨⟨A6, c6, by rw [← t1, ← t2, ← t3, ← t4], by
                  rw [← t2]
                  refine SB.farR HS6.out (fun o k h => ?_) _ _
                  have h2 := boxc HX5.out o
                  rw [h2] at h
                  match o with
                  | 0 => simp at h
                  | 1 => simp at h
                  | o + 2 => simp at h⟩, by first | exact (HBB.out.setCell (Nat.le_refl _) _).setCell (Nat.le_refl _) _ | exact balloc ((HBB.out.setCell (Nat.le_refl _) _).setCell (Nat.le_refl _) _) (by simp [World.setCell]; omega) _⟩
            · have y3 : (z1 != 3) = true := ne_of (d := 3) HZ1.out (fun h => ht (.inl h))
              have y4 : (z1 != 4) = true := ne_of (d := 4) HZ1.out (fun h => ht (.inr h))
              have hSK : SK = (0, [], 10) := by rw [HSK.out]; exact seek_out HHIT.out hvi ht
              have HSKK := Lib.hid hSK
              clear hSK
              have q0 := boxc HX 0
              have q1 := boxc HX 1
              simp only [List.getElem?_cons_succ, List.getElem?_cons_zero] at q0 q1
              have f0 := boxf HX 0
              have f1 := boxf HX 1
              have hzz := boxs HX
              have hltw : w.heap.size < w4.heap.size := by omega
              have HBB := Lib.hid (boxb HX)
              clear HX
              go_wp2_with fail
              rw [HSKK.out]
              exact bodyPost_ret (v := .tuple #[.agg #[.int .i64 0, .slice none 0 0], .int .i64 10]) (by simp [results, Tryz.results23, go_sem, q0, q1, hltw]) rfl ⟨⟨none, 0, rfl, SB.nil _⟩, by first | exact (HBB.out.setCell (Nat.le_refl _) _).setCell (Nat.le_refl _) _ | exact balloc ((HBB.out.setCell (Nat.le_refl _) _).setCell (Nat.le_refl _) _) (by simp [World.setCell]; omega) _⟩
      · have y1 : (z0.toList == s.toList) = false := by rw [beq_eq_false_iff_ne, HZ0.out, toList_data]; exact hnm
        have y2 : (z0.toList != s.toList) = true := by simpa using y1
        have HV2 : Hid (outP (PS.1.drop (i + 1)) PS.2 s.toList = OUT) := Lib.hid (by
          obtain ⟨hiT, hpt⟩ := HPT.out
          rw [← HV.out]
          exact (outP_at hiT (by rw [← hpt]; exact hnm)).symm)
        have HI : Hid (wrap64 ((i : Int) + 1) = (i : Int) + 1) := Lib.hid (w64i i (by omega))
        clear hnm
        go_wp2_with fail
        refine start_ (n := 9) (S := fun w' => w'.cell? ⟨g, i * 4, none⟩ = some (.string z0) ∧ w'.cell? ⟨kb, ko, none⟩ = some (.string s)) (ds := []) #[false, false, false, false, false, false, false, false, false] (by kernel_rfl) rfl rfl ⟨k0', hkr⟩ (fun hHeld => ?_)
        refine with_tabW R23.tab7 R23.bits7 (fun HT_ HW_ => ?_)
        refine pure_ (i := 0) (N := some 27) (v := ?_) (a' := ?_) #[true, false, false, false, false, false, false, false, false] rfl rfl (any_of HT_.out (by kernel_rfl)) (fun _ _ _ h => h) (Or.inl ⟨by rfl, ?_⟩) ?_ ?_
        rotate_left
        · intro w'
          go_simp
          with_reducible rfl
        rotate_left
        · simp only [Act.put, List.setIfInBounds_toArray, List.set_cons_zero, List.set_cons_succ, i64_w, i32_w]
          rfl
        refine pure_ (i := 1) (N := some 28) (v := ?_) (a' := ?_) #[true, true, false, false, false, false, false, false, false] rfl rfl (any_of HT_.out (by kernel_rfl)) (fun _ _ _ h => h) (Or.inl ⟨by rfl, ?_⟩) ?_ ?_
        rotate_left
        · intro w'
          go_simp
          with_reducible rfl
        rotate_left
        · simp only [Act.put, List.setIfInBounds_toArray, List.set_cons_zero, List.set_cons_succ, i64_w, i32_w]
          rfl
        refine pure_ (i := 2) (N := some 29) (v := ?_) (a' := ?_) #[true, true, true, false, false, false, false, false, false] rfl rfl (any_of HT_.out (by kernel_rfl)) (fun _ _ _ h => h) (Or.inl ⟨by rfl, ?_⟩) ?_ ?_
        rotate_left
        · intro w'
          go_simp
          with_reducible rfl
        rotate_left
        · simp only [Act.put, List.setIfInBounds_toArray, List.set_cons_zero, List.set_cons_succ, i64_w, i32_w]
          rfl
        refine pure_ (i := 3) (N := some 30) (v := ?_) (a' := ?_) #[true, true, true, true, false, false, false, false, false] rfl rfl (any_of HT_.out (by kernel_rfl)) (fun _ _ _ h => h) (Or.inl ⟨by rfl, ?_⟩) ?_ ?_
        rotate_left
        · intro w'
          go_simp
          with_reducible rfl
        rotate_left
        · simp only [Act.put, List.setIfInBounds_toArray, List.set_cons_zero, List.set_cons_succ, i64_w, i32_w]
          rfl
        refine pure_ (i := 5) (N := some 32) (v := ?_) (a' := ?_) #[true, true, true, true, false, true, false, false, false] rfl rfl (any_of HT_.out (by kernel_rfl)) (fun _ _ _ h => h) (Or.inl ⟨by rfl, ?_⟩) ?_ ?_
        rotate_left
        · intro w'
          go_simp
          with_reducible rfl
        rotate_left
        · simp only [Act.put, List.setIfInBounds_toArray, List.set_cons_zero, List.set_cons_succ, i64_w, i32_w]
          rfl
        refine pure_ (i := 6) (N := some 33) (v := ?_) (a' := ?_) #[true, true, true, true, false, true, true, false, false] rfl rfl (any_of HT_.out (by kernel_rfl)) (fun _ _ _ h => h) (Or.inl ⟨by rfl, ?_⟩) ?_ ?_
        rotate_left
        · intro w'
          go_simp
          with_reducible rfl
        rotate_left
        · simp only [Act.put, List.setIfInBounds_toArray, List.set_cons_zero, List.set_cons_succ, i64_w, i32_w]
          rfl
        refine take_ (i := 4) (N := some 31) (v := ?_) (a' := ?_) #[true, true, true, true, true, true, true, false, false] rfl rfl (take_ofW HT_.out HW_.out (by kernel_rfl)) (fun _ _ _ h => h) (Or.inl ⟨by rfl, ?_⟩) hHeld ?_ ?_
        rotate_left
        · rintro w' ⟨s0, s1⟩
          go_simp
          with_reducible rfl
        rotate_left
        · simp only [Act.put, List.setIfInBounds_toArray, List.set_cons_zero, List.set_cons_succ, i64_w, i32_w]
          rfl
        refine take_ (i := 7) (N := some 34) (v := ?_) (a' := ?_) #[true, true, true, true, true, true, true, true, false] rfl rfl (take_ofW HT_.out HW_.out (by kernel_rfl)) (fun _ _ _ h => h) (Or.inl ⟨by rfl, ?_⟩) hHeld ?_ ?_
        rotate_left
        · rintro w' ⟨s0, s1⟩
          go_simp
          with_reducible rfl
        rotate_left
        · simp only [Act.put, List.setIfInBounds_toArray, List.set_cons_zero, List.set_cons_succ, i64_w, i32_w]
          rfl
        refine pure_ (i := 8) (N := some 35) (v := ?_) (a' := ?_) #[true, true, true, true, true, true, true, true, true] rfl rfl (any_of HT_.out (by kernel_rfl)) (fun _ _ _ h => h) (Or.inl ⟨by rfl, ?_⟩) ?_ ?_
        rotate_left
        · intro w'
          go_simp
          with_reducible rfl
        rotate_left
        · simp only [Act.put, List.setIfInBounds_toArray, List.set_cons_zero, List.set_cons_succ, i64_w, i32_w]
          rfl
        refine done_ (done_of HT_.out (by kernel_rfl)) ?_
        clear hHeld
        go_wp2_with fail
        go_roundw
        case rel => exact ⟨i + 1, by omega, by first | rfl | (rw [HI.out]; simp), HV2, Lib.hid (bdrew HBr.out)⟩
        case measure => first | (rw [HI.out]; simp [intOf]; omega) | (simp [intOf]; omega)
    · obtain rfl : i = n := by omega
      have h := HV.out
      rw [HNL.out, List.drop_length, outP_nil] at h
      have HX := HX2.out.trans (HBr.out.mono hz2)
      obtain ⟨ok, hok⟩ : ∃ x, x = PS.2 := ⟨_, rfl⟩
      rw [← hok] at h ⊢
      clear hlt hi hok
      cases ok with
      | true =>
        rw [if_pos rfl] at h
        have hSK : SK = (0, [], 7) := by rw [HSK.out]; exact seek_no (by rw [← HOU.out, ← h])
        have HSKK := Lib.hid hSK
        clear hSK
        have q0 := boxc HX 0
        have q1 := boxc HX 1
        simp only [List.getElem?_cons_succ, List.getElem?_cons_zero] at q0 q1
        have f0 := boxf HX 0
        have f1 := boxf HX 1
        have hzz := boxs HX
        have hltw : w.heap.size < wr.heap.size := by omega
        have HBB := Lib.hid (boxb HX)
        clear HX
        go_wp2_with fail
        rw [HSKK.out]
        exact bodyPost_ret (v := .tuple #[.agg #[.int .i64 0, .slice none 0 0], .int .i64 7]) (by simp [results, Tryz.results23, go_sem, q0, q1, hltw]) rfl ⟨⟨none, 0, rfl, SB.nil _⟩, by first | exact (HBB.out.setCell (Nat.le_refl _) _).setCell (Nat.le_refl _) _ | exact balloc ((HBB.out.setCell (Nat.le_refl _) _).setCell (Nat.le_refl _) _) (by simp [World.setCell]; omega) _⟩
      | false =>
        rw [if_neg (by simp)] at h
        have hSK : SK = (0, [], 1) := by rw [HSK.out]; exact seek_bad (by rw [← HOU.out, ← h])
        have HSKK := Lib.hid hSK
        clear hSK
        have q0 := boxc HX 0
        have q1 := boxc HX 1
        simp only [List.getElem?_cons_succ, List.getElem?_cons_zero] at q0 q1
        have f0 := boxf HX 0
        have f1 := boxf HX 1
        have hzz := boxs HX
        have hltw : w.heap.size < wr.heap.size := by omega
        have HBB := Lib.hid (boxb HX)
        clear HX
        go_wp2_with fail
        rw [HSKK.out]
        exact bodyPost_ret (v := .tuple #[.agg #[.int .i64 0, .slice none 0 0], .int .i64 1]) (by simp [results, Tryz.results23, go_sem, q0, q1, hltw]) rfl ⟨⟨none, 0, rfl, SB.nil _⟩, by first | exact (HBB.out.setCell (Nat.le_refl _) _).setCell (Nat.le_refl _) _ | exact balloc ((HBB.out.setCell (Nat.le_refl _) _).setCell (Nat.le_refl _) _) (by simp [World.setCell]; omega) _⟩
theorem docSeek : ∀ (ks : List ByteArray) (l : List UInt8) (A : Option Addr) (c : Nat) (K : Option Addr) (kc : Nat) (w : World), SB w A c l → GS w K kc (strv ks) → l.length ≤ 5000 → ks.length ≤ 20 →
    Calls Tryz.prog 23 #[.slice A l.length c, .slice K ks.length kc] w fun e w' => (∃ A1 c1, e = .returned (.tuple #[.agg #[.int .i64 (seek ks l).1, .slice A1 (seek ks l).2.1.length c1], .int .i64 (seek ks l).2.2]) ∧ SB w' A1 c1 (seek ks l).2.1) ∧ Below w.heap.size w w'
  | [], l, A, c, K, kc, w, hs, hk, hl, hkl => seek_nil l A c K kc w
  | s :: r, l, A, c, K, kc, w, hs, hk, hl, hkl => seek_long s r l A c K kc w hs hk hl hkl (fun l' A' c' K' kc' w' h1 h2 h3 => docSeek r l' A' c' K' kc' w' h1 h2 h3 (by simp only [List.length_cons] at hkl; omega))
end Lk
end Go.Proofs.YtbpopaegfhcdpaaGreatDoor.X


