/- Words for the members of a pointer, and what an identifier's text gives. -/
import Derived.Test.YtfpnhlfmnoikhabDoorObj
import Derived.Test.YtfpnhlfmnoikhabDoorOid2
set_option linter.unusedVariables false
set_option linter.unusedSimpArgs false
set_option maxRecDepth 100000
namespace Go.Proofs.YtfpnhlfmnoikhabDoor.X
open Go.RowKit
theorem newErr (s : ByteArray) (w : World) : Calls Tryd.prog 22 #[.string s] w fun e w' => ∃ p, e = .returned (.iface 67 p) ∧ Below w.heap.size w w' := by
  go_enter Tryd.func22, Tryd.ntmps22
  go_wp2
  go_ret
  exact ⟨_, rfl, balloc (Below.refl _ _) (Nat.le_refl _) _⟩
/-- What the law finds laid: no identifier, and the two errors. -/
structure Ids (w : World) : Prop where
  zero : ∀ j, j < 12 → w.cell? ⟨0, j, none⟩ = some (.int .u8 0)
  bad : ∃ T x, w.cell? ⟨1, 0, none⟩ = some (.iface T x)
  len : ∃ ev, w.cell? ⟨2, 0, none⟩ = some ev
theorem Ids.keep {w w1 : World} (h : Ids w) (hb : Below w.heap.size w w1) : Ids w1 := by
  obtain ⟨T, x, h1⟩ := h.bad
  obtain ⟨ev, h2⟩ := h.len
  exact ⟨fun j hj => (hb.cell (World.block_lt_of_cell? w _ (h.zero j hj))).trans (h.zero j hj), ⟨T, x, (hb.cell (World.block_lt_of_cell? w _ h1)).trans h1⟩, ⟨ev, (hb.cell (World.block_lt_of_cell? w _ h2)).trans h2⟩⟩
/-- Twelve bytes as a value. -/
def idA (f : Nat → Int) : Value := .agg #[.int .u8 (f 0), .int .u8 (f 1), .int .u8 (f 2), .int .u8 (f 3), .int .u8 (f 4), .int .u8 (f 5), .int .u8 (f 6), .int .u8 (f 7), .int .u8 (f 8), .int .u8 (f 9), .int .u8 (f 10), .int .u8 (f 11)]
def OidOut (s : ByteArray) (w : World) (e : Ending) (w' : World) : Prop := ∃ f v, e = .returned (.tuple #[idA f, v]) ∧ (match unhex s with | some b => v = .nilIface ∧ b.length = 12 ∧ (∀ j, f j = ((b.getD j 0).toNat : Int)) | none => ∃ T p, v = .iface T p) ∧ Below w.heap.size w w'
theorem oid_any (s : ByteArray) (w : World) (hs : s.size ≤ 140737488351232) (h : Ids w) : Calls Tryd.prog 12 #[.string s] w (OidOut s w) := by
  obtain ⟨hz, ⟨T, x, ce⟩, ⟨ev, hE⟩⟩ := h
  by_cases h24 : s.size = 24
  · have hlen : s.data.toList.length = 24 := by rw [Array.length_toList]; exact h24
    obtain ⟨⟨b, out⟩, hD⟩ : ∃ D, Go.Lib.Hx.decode s.data.toList = D := ⟨_, rfl⟩
    cases out with
    | ok =>
      have hb := decode_len 12 _ (by omega) b hD
      have hu : unhex s = some b := by unfold unhex; rw [if_pos h24, hD]
      match b, hb with
      | [b0, b1, b2, b3, b4, b5, b6, b7, b8, b9, b10, b11], _ =>
        refine (oid_ok s w h24 ev hE b0 b1 b2 b3 b4 b5 b6 b7 b8 b9 b10 b11 hD).mono ?_
        rintro e w' ⟨rfl, hb⟩
        exact ⟨fun j => ((([b0, b1, b2, b3, b4, b5, b6, b7, b8, b9, b10, b11] : List UInt8).getD j 0).toNat : Int), .nilIface, rfl, by rw [hu]; exact ⟨rfl, rfl, fun j => rfl⟩, hb⟩
    | bad ch =>
      have hu : unhex s = none := by unfold unhex; rw [if_pos h24, hD]
      refine (oid_bad s w h24 ev hE b ch hD (hz 0 (by omega)) (hz 1 (by omega)) (hz 2 (by omega)) (hz 3 (by omega)) (hz 4 (by omega)) (hz 5 (by omega)) (hz 6 (by omega)) (hz 7 (by omega)) (hz 8 (by omega)) (hz 9 (by omega)) (hz 10 (by omega)) (hz 11 (by omega))).mono ?_
      rintro e w' ⟨rfl, hb⟩
      exact ⟨fun _ => 0, _, rfl, by rw [hu]; exact ⟨_, _, rfl⟩, hb⟩
    | odd => exact absurd hD (decode_even 12 _ (by omega) b)
  · have hu : unhex s = none := by unfold unhex; rw [if_neg h24]
    refine (oid_short s w hs h24 T x (hz 0 (by omega)) (hz 1 (by omega)) (hz 2 (by omega)) (hz 3 (by omega)) (hz 4 (by omega)) (hz 5 (by omega)) (hz 6 (by omega)) (hz 7 (by omega)) (hz 8 (by omega)) (hz 9 (by omega)) (hz 10 (by omega)) (hz 11 (by omega)) ce).mono ?_
    rintro e w' ⟨rfl, hb⟩
    exact ⟨fun _ => 0, _, rfl, by rw [hu]; exact ⟨_, _, rfl⟩, hb⟩
/-- What the package reads: the members in their order. -/
def parse : List (ByteArray × ByteArray) → Option ByteArray → Option (List UInt8) → Option (ByteArray × List UInt8)
  | [], some s, some b => some (s, b)
  | [], _, _ => none
  | (k, t) :: r, os, ob => if k = REF then (if os.isSome then none else parse r (some t) ob) else if k = IDN then (if ob.isSome then none else match unhex t with | none => none | some b => parse r os (some b)) else none
theorem id_ne : ¬ IDN = REF := by decide
/-- Both set: anything more is refused. -/
theorem parse_full (s : ByteArray) (b : List UInt8) : ∀ r : List (ByteArray × ByteArray), r ≠ [] → parse r (some s) (some b) = none
  | [], h => absurd rfl h
  | (k, t) :: r, _ => by
    simp only [parse]
    split <;> simp
theorem parse_two : ∀ ks ts : List ByteArray, ks.length = ts.length → parse (ks.zip ts) none none = pointerP ks ts
  | [], [], _ => rfl
  | [a], [x], _ => by
    simp only [List.zip_cons_cons, List.zip_nil_right, parse, pointerP, pairP]
    by_cases h1 : a = REF
    · simp [h1]
    · by_cases h2 : a = IDN
      · simp only [h1, h2, if_true, if_false]
        cases unhex x <;> simp [id_ne]
      · simp [h1, h2]
  | [a, b], [x, y], _ => by
    simp only [List.zip_cons_cons, List.zip_nil_right, parse, pointerP, pairP]
    by_cases h1 : a = REF
    · subst h1
      have h0 : ¬ REF = IDN := by decide
      by_cases h2 : b = IDN
      · subst h2
        simp only [id_ne, h0, if_false, and_self, if_true]
        cases hu : unhex y <;> simp [hu]
      · by_cases h3 : b = REF
        · simp [h3, h0]
        · simp [h2, h3, h0]
    · by_cases h2 : a = IDN
      · subst h2
        by_cases h3 : b = REF
        · subst h3
          simp only [id_ne, if_false, false_and, if_true, and_self]
          cases hu : unhex x <;> simp [hu]
        · by_cases h4 : b = IDN
          · subst h4
            simp only [id_ne, if_false, false_and, if_true, and_false]
            cases hu : unhex x <;> simp
          · simp only [id_ne, h3, h4, if_false, false_and, if_true, and_false]
            cases hu : unhex x <;> simp
      · simp [h1, h2]
  | a :: b :: d :: r, x :: y :: z :: q, _ => by
    have hr : (d, z) :: r.zip q ≠ [] := by simp
    have hp : pointerP (a :: b :: d :: r) (x :: y :: z :: q) = none := by simp [pointerP, pairP]
    rw [hp, List.zip_cons_cons, List.zip_cons_cons, List.zip_cons_cons]
    obtain ⟨R, hR⟩ : ∃ R, R = (d, z) :: r.zip q := ⟨_, rfl⟩
    rw [← hR] at hr ⊢
    simp only [parse]
    by_cases h1 : a = REF
    · simp only [h1, if_true, Option.isSome_none, Bool.false_eq_true, if_false]
      by_cases h2 : b = REF
      · simp [h2]
      · by_cases h3 : b = IDN
        · simp only [h2, h3, if_true, if_false]
          cases hu : unhex y with
          | none => simp [id_ne]
          | some l => simp [id_ne, parse_full _ _ R hr]
        · simp [h2, h3]
    · by_cases h2 : a = IDN
      · simp only [h1, h2, if_true, if_false, Option.isSome_none, Bool.false_eq_true]
        cases hu : unhex x with
        | none => simp [id_ne]
        | some l =>
          by_cases h3 : b = REF
          · simp [h3, id_ne, parse_full _ _ R hr]
          · by_cases h4 : b = IDN
            · simp [h4, id_ne]
            · simp [h3, h4, id_ne]
      · simp [h1, h2]
end Go.Proofs.YtfpnhlfmnoikhabDoor.X
