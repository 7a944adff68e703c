/- impl.FromReader and impl.ArrayFromReader, for all bytes. -/
import Derived.Test.YtfhbnlbdmfjhlaaGreatDoorRdC
import Derived.Test.YtfhbnlbdmfjhlaaGreatDoorSpanP
set_option linter.unusedVariables false
set_option linter.unusedSimpArgs false
set_option maxRecDepth 100000
namespace Go.Proofs.YtfhbnlbdmfjhlaaGreatDoor.X
open Go.RowKit
namespace Rd
open Sp
/-- Whether a reader of some bytes gives a document. -/
def RdOk (L : List UInt8) : Bool := (numOf L).2 && (decide (5 ≤ (numOf L).1) && (decide ((numOf L).1 ≤ L.length) && decide (L[((numOf L).1 - 1).toNat]? = some 0)))
theorem list4 (L : List UInt8) (h : 4 ≤ L.length) : ∃ b0 b1 b2 b3 R, L = b0 :: b1 :: b2 :: b3 :: R := by
  match L, h with
  | b0 :: b1 :: b2 :: b3 :: R, _ => exact ⟨b0, b1, b2, b3, R, rfl⟩
  | [], h => exact absurd h (by simp)
  | [_], h => exact absurd h (by simp)
  | [_, _], h => exact absurd h (by simp)
  | [_, _, _], h => exact absurd h (by simp)
theorem newBuf (w0 W : World) (B : Nat) (L : List UInt8) (hE : IoErrs w0) (hB : w0.heap.size ≤ B) (hb : Below w0.heap.size w0 W) (hR : Rdr w0 W B L 0) (hmax : (numOf L).1 ≤ 20000) :
    Calls Tryz.prog 58 #[.iface 63 (.pointer (some ⟨B, 0, none⟩))] W fun e w' => ((RdOk L = true ∧ ∃ A c, e = .returned (.tuple #[.slice A (numOf L).1.toNat c, .nilIface]) ∧ SB w' A c (L.take (numOf L).1.toNat)) ∨ (RdOk L = false ∧ ∃ t v, e = .returned (.tuple #[.slice none 0 0, .iface t v]))) ∧ Below w0.heap.size w0 w' := by
  rcases Nat.lt_or_ge L.length 4 with h4 | h4
  · refine (nbShort w0 W B L hE hB hb hR h4).mono ?_
    rintro e w' ⟨t, v, rfl, h⟩
    exact ⟨.inr ⟨by unfold RdOk; rw [num_short L h4]; rfl, t, v, rfl⟩, h⟩
  · obtain ⟨b0, b1, b2, b3, R, hL⟩ := list4 L h4
    have hn : numOf L = (wrap32 (leI [b0, b1, b2, b3]), true) := by rw [hL]; rfl
    obtain ⟨x, hx⟩ : ∃ x, x = wrap32 (leI [b0, b1, b2, b3]) := ⟨_, rfl⟩
    rw [← hx] at hn
    rw [hn] at hmax
    have hok : RdOk L = (decide (5 ≤ x) && (decide (x ≤ (L.length : Int)) && decide (L[(x - 1).toNat]? = some 0))) := by unfold RdOk; rw [hn]; simp
    rw [hok, hn]
    rcases Int.lt_or_le x 5 with h5 | h5
    · refine (nbLow w0 W B L R b0 b1 b2 b3 hL hB hb hR (by rw [← hx]; exact h5)).mono ?_
      rintro e w' ⟨t, v, rfl, h⟩
      exact ⟨.inr ⟨by rw [decide_eq_false (by omega)]; rfl, t, v, rfl⟩, h⟩
    · obtain ⟨r, hr⟩ : ∃ r : Nat, x = (r : Int) + 5 := ⟨(x - 5).toNat, by omega⟩
      have hmax' : (r : Int) + 5 ≤ 20000 := by rw [← hr]; exact hmax
      rcases Nat.lt_or_ge L.length (r + 5) with h6 | h6
      · refine (nbBig w0 W B L R b0 b1 b2 b3 hL hE hB hb hR r (by rw [← hx, hr]) (by omega) h6).mono ?_
        rintro e w' ⟨t, v, rfl, h⟩
        exact ⟨.inr ⟨by rw [decide_eq_false (p := x ≤ (L.length : Int)) (by omega)]; simp, t, v, rfl⟩, h⟩
      · have hRl : R.length = L.length - 4 := by rw [hL]; simp
        have hlt : r < R.length := by omega
        have hsplit : R = R.take r ++ R[r] :: R.drop (r + 1) := by
          rw [← List.drop_eq_getElem_cons hlt, List.take_append_drop]
        have hrl : r = (R.take r).length := by rw [List.length_take]; omega
        have hidx : L[(x - 1).toNat]? = some R[r] := by
          have e : (x - 1).toNat = r + 4 := by omega
          rw [e, hL]
          simp [hlt]
        have htake : b0 :: b1 :: b2 :: b3 :: (R.take r ++ [R[r]]) = L.take x.toNat := by
          have e : x.toNat = r + 1 + 4 := by omega
          rw [e, hL]
          simp only [List.take_succ_cons]
          rw [List.take_succ_eq_append_getElem hlt]
        by_cases hz : R[r] = 0
        · refine (nbGood w0 W B L R b0 b1 b2 b3 hL (R.take r) (R.drop (r + 1)) R[r] hsplit hB hb hR r (by rw [← hx, hr]) (by omega) hrl hz).mono ?_
          rintro e w' ⟨A, c, rfl, hs, h⟩
          refine ⟨.inl ⟨?_, A, c, ?_, ?_⟩, h⟩
          · rw [decide_eq_true h5, decide_eq_true (p := x ≤ (L.length : Int)) (by omega), decide_eq_true (by rw [hidx, hz])]; rfl
          · show Ending.returned (.tuple #[.slice A (r + 5) c, .nilIface]) = Ending.returned (.tuple #[.slice A x.toNat c, .nilIface])
            rw [show x.toNat = r + 5 from by omega]
          · rw [← htake]; exact hs
        · refine (nbLast w0 W B L R b0 b1 b2 b3 hL (R.take r) (R.drop (r + 1)) R[r] hsplit hB hb hR r (by rw [← hx, hr]) (by omega) hrl hz).mono ?_
          rintro e w' ⟨t, v, rfl, h⟩
          refine ⟨.inr ⟨?_, t, v, rfl⟩, h⟩
          rw [decide_eq_false (p := L[(x - 1).toNat]? = some 0) (by rw [hidx]; intro h; exact hz (Option.some.inj h))]; simp
end Rd
end Go.Proofs.YtfhbnlbdmfjhlaaGreatDoor.X
