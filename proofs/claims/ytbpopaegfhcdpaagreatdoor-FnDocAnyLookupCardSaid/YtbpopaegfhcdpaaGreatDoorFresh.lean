/- Words for laws: contracts that give fresh bytes, as slices; texts out of bytes. -/
import Derived.Test.YtbpopaegfhcdpaaGreatDoorWords
set_option linter.unusedVariables false
set_option linter.unusedSimpArgs false
set_option maxRecDepth 100000
namespace Go.Proofs.YtbpopaegfhcdpaaGreatDoor.X
open Go.RowKit
/-- A slice of bytes that is the call's own. -/
def FB (base : Nat) (l : List UInt8) (v : Value) (w' : World) : Prop := ∃ A c, v = .slice A l.length c ∧ SB w' A c l ∧ OB 5 w' base (.slice A l.length c) l
theorem OB.fb {w : World} {base : Nat} {v : Value} {l : List UInt8} (h : OB 5 w base v l) : ∃ A c, v = .slice A l.length c ∧ SB w A c l ∧ OB 5 w base (.slice A l.length c) l := by
  obtain ⟨A, c, rfl, hs, -⟩ := h.sb
  exact ⟨A, c, rfl, hs, h⟩
/-- What a call gives that makes bytes. -/
theorem fresh_of {n : Nat} {args : Array Value} {w : World} {l : List UInt8} (h : Calls Tryz.prog n args w (After fun v1 w1 => OB 5 w1 w.heap.size v1 l ∧ Below w.heap.size w w1)) :
    Calls Tryz.prog n args w fun e w' => ∃ A c, e = .returned (.slice A l.length c) ∧ SB w' A c l ∧ OB 5 w' w.heap.size (.slice A l.length c) l ∧ Below w.heap.size w w' := by
  refine h.mono ?_
  rintro e w1 ⟨v1, rfl, ho, hb⟩
  obtain ⟨A, c, rfl, hs, -⟩ := ho.sb
  exact ⟨A, c, rfl, hs, ho, hb⟩
/-- A cell of another block was written. -/
theorem SB.far {w : World} {A : Option Addr} {c : Nat} {l : List UInt8} (h : SB w A c l) {b o : Nat} (hA : ∀ a, A = some a → a.block ≠ b) (v : Value) : SB (w.setCell ⟨b, o, none⟩ v) A c l :=
  ⟨h.le, h.cap, fun hl => by
    obtain ⟨g, off, e, hc⟩ := h.cells hl
    refine ⟨g, off, e, fun j hj => ?_⟩
    rw [World.cell?_setCell_other _ _ _ _ (fun e2 => hA _ e (by injection e2 with e3; exact e3.symm))]
    exact hc j hj⟩
theorem SB.far2 {w : World} {A : Option Addr} {c : Nat} {l : List UInt8} (h : SB w A c l) {b o : Nat} (hA : 0 < l.length → ∀ a, A = some a → a.block ≠ b) (v : Value) : SB (w.setCell ⟨b, o, none⟩ v) A c l :=
  ⟨h.le, h.cap, fun hl => by
    obtain ⟨g, off, e, hc⟩ := h.cells hl
    refine ⟨g, off, e, fun j hj => ?_⟩
    rw [World.cell?_setCell_other _ _ _ _ (fun e2 => hA hl _ e (by injection e2 with e3; exact e3.symm))]
    exact hc j hj⟩
theorem SB.block {w : World} {A : Option Addr} {c : Nat} {l : List UInt8} (h : SB w A c l) (hl : 0 < l.length) : ∀ a, A = some a → a.block < w.heap.size := by
  obtain ⟨g, off, e, hc⟩ := h.cells hl
  intro a ha
  rw [e] at ha
  injection ha with ha
  subst ha
  exact World.block_lt_of_cell? w _ (hc 0 hl)
theorem OB.newer {E : TypeId} {w : World} {base n c : Nat} {A : Option Addr} {l : List UInt8} (h : OB E w base (.slice A n c) l) : ∀ a, A = some a → base ≤ a.block := by
  obtain ⟨A', c', e, -, hb⟩ := h.sb
  injection e with e1 _ _
  subst e1
  exact fun a ha => (hb a ha).1
theorem str_app (a b : List UInt8) : (⟨(a ++ b).toArray⟩ : ByteArray) = (⟨a.toArray⟩ : ByteArray) ++ (⟨b.toArray⟩ : ByteArray) := by
  apply ByteArray.ext
  rw [ByteArray.data_append]
  simp
theorem str_size (a : List UInt8) : (⟨a.toArray⟩ : ByteArray).size = a.length := by simp [ByteArray.size]
theorem bleft {B : Nat} {W w1 : World} (h : Below B W.drew w1) : Below B W w1 := bdrew_left h
/-- A later world behind a later world. -/
theorem bthen {W w1 w2 : World} (h : Below W.heap.size W w1) (k : Below w1.heap.size w1 w2) : Below W.heap.size W w2 := h.trans (k.mono h.size)
theorem str_of {A : Option Addr} {c : Nat} {l : List UInt8} {w : World} (h : SB w A c l) : (convert 22 9 (.slice A l.length c)).run Tryz.prog w = .ok (.string ⟨l.toArray⟩) w :=
  run_string Tryz.underlying22 Tryz.underlying5 Tryz.underlying9 w A c l h
end Go.Proofs.YtbpopaegfhcdpaaGreatDoor.X
