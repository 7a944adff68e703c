/- Lists of texts as arguments; the laws' tests of their sizes give an answer. -/
import Derived.Test.YtfpnhlfmnoikhabDoorGen
import Derived.Test.YtfpnhlfmnoikhabDoorPFnExtPointersx1
set_option linter.unusedVariables false
set_option linter.unusedSimpArgs false
set_option maxRecDepth 100000
namespace Go.Proofs.YtfpnhlfmnoikhabDoor.X
open Go.RowKit Go.Proofs.YtfpnhlfmnoikhabDoorW.PrintWords
open Go.Proofs.YtfpnhlfmnoikhabDoor.PFnExtPointers
def strv (l : List ByteArray) : List Value := l.map .string
theorem strv_len (l : List ByteArray) : (strv l).length = l.length := by simp [strv]
theorem strv_one (l : List ByteArray) : ∀ u ∈ strv l, u.oneCell' = true := by
  intro u hu
  simp only [strv, List.mem_map] at hu
  obtain ⟨x, _, rfl⟩ := hu
  rfl
theorem wrap_in (x : Int) (h0 : 0 ≤ x) (h1 : x ≤ 9223372036854775806) : wrap64 (x + 1) = x + 1 := by unfold wrap64; omega
theorem fits_loop (l : List ByteArray) (hl : l.length ≤ 9223372036854775806) : ∀ m i : Nat, i ≤ l.length → l.length - i = m → ∃ k r, laws_zzFits2.l0 k l (l.length : Int) (i : Int) = some r
  | 0, i, hi, hm => ⟨1, true, by rw [laws_zzFits2.l0, if_neg (by omega)]⟩
  | m + 1, i, hi, hm => by
    obtain ⟨k, r, h⟩ := fits_loop l hl m (i + 1) (by omega) (by omega)
    by_cases hs : ((rdOf ByteArray.empty l (i : Int)).size : Int) > 2147483647
    · exact ⟨1, false, by rw [laws_zzFits2.l0, if_pos (by omega), if_pos (by omega), if_pos (by omega), if_pos hs]⟩
    · refine ⟨k + 1, r, ?_⟩
      rw [laws_zzFits2.l0, if_pos (by omega), if_pos (by omega), if_pos (by omega), if_neg hs, wrap_in _ (by omega) (by omega)]
      exact h
theorem fits_f (l : List ByteArray) : ∃ k r, laws_zzFits2.f k l = some r := by
  by_cases h : (l.length : Int) > 2147483647
  · exact ⟨0, false, by rw [laws_zzFits2.f, if_pos h]⟩
  · obtain ⟨k, r, e⟩ := fits_loop l (by omega) _ 0 (Nat.zero_le _) rfl
    exact ⟨k, r, by rw [laws_zzFits2.f, if_neg h]; exact e⟩
theorem plain_inner (xs : List (List ByteArray)) (n9 : Int) (l : List ByteArray) (hl : l.length ≤ 9223372036854775806) (hz : ∃ k r, laws_extPlain.l0 k xs (xs.length : Int) (wrap64 (n9 + 1)) = some r) :
    ∀ m i : Nat, i ≤ l.length → l.length - i = m → ∃ k r, laws_extPlain.l1 k xs (xs.length : Int) n9 l (l.length : Int) (i : Int) = some r
  | 0, i, hi, hm => by
    obtain ⟨k, r, h⟩ := hz
    exact ⟨k + 1, r, by rw [laws_extPlain.l1, if_neg (by omega)]; exact h⟩
  | m + 1, i, hi, hm => by
    obtain ⟨k, r, h⟩ := plain_inner xs n9 l hl hz m (i + 1) (by omega) (by omega)
    by_cases hs : ((rdOf ByteArray.empty l (i : Int)).size : Int) > 300
    · exact ⟨1, false, by rw [laws_extPlain.l1, if_pos (by omega), if_pos (by omega), if_pos (by omega), if_pos hs]⟩
    · refine ⟨k + 1, r, ?_⟩
      rw [laws_extPlain.l1, if_pos (by omega), if_pos (by omega), if_pos (by omega), if_neg hs, wrap_in _ (by omega) (by omega)]
      exact h
theorem plain_loop (xs : List (List ByteArray)) (hx : xs.length ≤ 9223372036854775806) : ∀ m i : Nat, i ≤ xs.length → xs.length - i = m → ∃ k r, laws_extPlain.l0 k xs (xs.length : Int) (i : Int) = some r
  | 0, i, hi, hm => ⟨1, true, by rw [laws_extPlain.l0, if_neg (by omega)]⟩
  | m + 1, i, hi, hm => by
    have ih := plain_loop xs hx m (i + 1) (by omega) (by omega)
    rw [show ((i + 1 : Nat) : Int) = (i : Int) + 1 from by omega, ← wrap_in (i : Int) (by omega) (by omega)] at ih
    by_cases hs : ((rd_L1 xs (i : Int)).length : Int) > 6
    · exact ⟨1, false, by rw [laws_extPlain.l0, if_pos (by omega), if_pos (by omega), if_pos (by omega), if_pos hs]⟩
    · obtain ⟨k, r, h⟩ := plain_inner xs (i : Int) (rd_L1 xs (i : Int)) (by omega) ih _ 0 (Nat.zero_le _) rfl
      refine ⟨k + 1, r, ?_⟩
      rw [laws_extPlain.l0, if_pos (by omega), if_pos (by omega), if_pos (by omega), if_neg hs]
      exact h
theorem plain_f (xs : List (List ByteArray)) (hx : xs.length ≤ 9223372036854775806) : ∃ k r, laws_extPlain.f k xs = some r := plain_loop xs hx _ 0 (Nat.zero_le _) rfl
/-- The print's word for a slice of texts. -/
theorem kd_strs {w : World} {A : Option Addr} {c : Nat} {l : List ByteArray} (h : GS w A c (strv l)) : Kd.C Kd.string w A l.length l := by
  have hlen := strv_len l
  refine ⟨rfl, by have := h.len; omega, fun hp => ?_⟩
  obtain ⟨ad, hA, hc⟩ := gs_src h (by omega)
  refine ⟨ad, hA, fun j p hj => ⟨[.string p], rfl, rfl, fun i u hi => ?_⟩⟩
  match i, hi with
  | 0, hi =>
    obtain rfl : Value.string p = u := by simpa using hi
    have := hc j (.string p) (by simp [strv, hj])
    simpa [Kd.string, Kd.scalar] using this
  | i + 1, hi => simp at hi
theorem kd_two {w : World} {A1 A2 : Option Addr} {c1 c2 : Nat} {l1 l2 : List ByteArray} (h1 : GS w A1 c1 (strv l1)) (h2 : GS w A2 c2 (strv l2)) :
    Kd.C (Kd.slice 9 Kd.string) (w.alloc (.cells #[.slice A1 l1.length c1, .slice A2 l2.length c2] 26)) (some ⟨w.heap.size, 0, none⟩) 2 [l1, l2] := by
  have e1 := strv_len l1
  have e2 := strv_len l2
  have k1 := h1.le
  have k2 := h2.le
  refine ⟨rfl, by omega, fun _ => ⟨_, rfl, fun j p hj => ?_⟩⟩
  match j, hj with
  | 0, hj =>
    obtain rfl : l1 = p := by simpa using hj
    refine ⟨[.slice A1 l1.length c1], rfl, ⟨A1, c1, rfl, by omega, kd_strs (h1.alloc _)⟩, fun i u hi => ?_⟩
    match i, hi with
    | 0, hi => 
      obtain rfl : Value.slice A1 l1.length c1 = u := by simpa using hi
      simp [Addr.add, Kd.slice, go_sem]
    | i + 1, hi => simp at hi
  | 1, hj =>
    obtain rfl : l2 = p := by simpa using hj
    refine ⟨[.slice A2 l2.length c2], rfl, ⟨A2, c2, rfl, by omega, kd_strs (h2.alloc _)⟩, fun i u hi => ?_⟩
    match i, hi with
    | 0, hi => 
      obtain rfl : Value.slice A2 l2.length c2 = u := by simpa using hi
      simp [Addr.add, Kd.slice, go_sem]
    | i + 1, hi => simp at hi
  | j + 2, hj => simp at hj
theorem fits2 (A : Option Addr) (c : Nat) (l : List ByteArray) (w : World) (h : GS w A c (strv l)) : Calls Tryd.prog 7 #[.slice A l.length c] w fun e w' => ∃ b, e = .returned (.bool b) ∧ Below w.heap.size w w' := by
  obtain ⟨k, r, hf⟩ := fits_f l
  refine (laws_zzFits2.calls k A c l r w (kd_strs h) (by have := h.le; rw [strv_len] at this; exact this) hf).mono ?_
  rintro e w' ⟨rfl, hd⟩
  exact ⟨r, rfl, hd.below⟩
theorem plain2 (A1 A2 : Option Addr) (c1 c2 : Nat) (l1 l2 : List ByteArray) (w : World) (h1 : GS w A1 c1 (strv l1)) (h2 : GS w A2 c2 (strv l2)) :
    Calls Tryd.prog 8 #[.slice (some ⟨w.heap.size, 0, none⟩) 2 2] (w.alloc (.cells #[.slice A1 l1.length c1, .slice A2 l2.length c2] 26)) fun e w' => ∃ b, e = .returned (.bool b) ∧ Below w.heap.size w w' := by
  obtain ⟨k, r, hf⟩ := plain_f [l1, l2] (by simp)
  refine (laws_extPlain.calls k _ 2 [l1, l2] r _ (kd_two h1 h2) (by simp) hf).mono ?_
  rintro e w' ⟨rfl, hd⟩
  exact ⟨r, rfl, (balloc (Below.refl _ w) (Nat.le_refl _) _).trans (hd.below.mono (by simp))⟩
end Go.Proofs.YtfpnhlfmnoikhabDoor.X
