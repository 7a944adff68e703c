/- impl.Equal and impl.EqualValue. -/
import Derived.Test.YtfhbnlbdmfjhlaaGreatDoorRv
import Derived.Test.YtfhbnlbdmfjhlaaGreatDoorBytes
import Derived.Test.YtfhbnlbdmfjhlaaGreatDoorElem
import Derived.Test.YtfhbnlbdmfjhlaaGreatDoorWLast
import Derived.Test.YtfhbnlbdmfjhlaaGreatDoorWTab
import Derived.Outline
set_option linter.unusedVariables false
set_option linter.unusedSimpArgs false
set_option maxRecDepth 100000
namespace Go.Proofs.YtfhbnlbdmfjhlaaGreatDoor.X
open Go.RowKit Go.Proofs.YtfhbnlbdmfjhlaaGreatDoorW.PrintLast
namespace Eq2

theorem implCore (A : Option Addr) (n c : Nat) (k : Int) (w : World) (h0 : 0 ≤ k) (h1 : k ≤ 255) :
    Calls Tryz.prog 21 #[.agg #[.int .i64 k, .slice A n c]] w fun e w' => e = .returned (.agg #[.int .u8 k, .slice A n c]) ∧ Below w.heap.size w w' := by
  have hw : k % 256 = k := by omega
  go_enter Tryz.func21, Tryz.ntmps21
  go_wp2_with fail
  exact bodyPost_ret (v := .agg #[.int .u8 k, .slice A n c]) (by simp [results, Tryz.results21, go_sem, hw]) rfl ⟨rfl, by exact balloc (balloc (Below.refl _ _) (Nat.le_refl _) _) (by simp) _⟩
theorem valEqual (A B : Option Addr) (c d : Nat) (l m : List UInt8) (k k' : Int) (w : World) (hs : SB w A c l) (ht : SB w B d m) :
    Calls Tryz.prog 22 #[.agg #[.int .u8 k, .slice A l.length c], .agg #[.int .u8 k', .slice B m.length d]] w fun e w' => e = .returned (.bool (decide (k = k') && decide (l = m))) ∧ Below w.heap.size w w' := by
  have HE := Lib.hid (fun wx (h : Below w.heap.size w wx) => bytesEqual A c l B d m wx (hs.keep h) (ht.keep h))
  obtain ⟨p, hp⟩ : ∃ p, p = l.length := ⟨_, rfl⟩
  obtain ⟨q, hq⟩ : ∃ p, p = m.length := ⟨_, rfl⟩
  rw [← hp, ← hq] at HE ⊢
  obtain ⟨z, hz⟩ : ∃ z, z = decide (l = m) := ⟨_, rfl⟩
  rw [← hz] at HE ⊢
  clear hs ht hp hq hz
  by_cases h : k = k'
  · subst h
    have e1 : (k != k) = false := by simp
    go_enter Tryz.func22, Tryz.ntmps22
    go_wp2_with fail
    refine (HE.out _ (by exact balloc (balloc (Below.refl _ _) (Nat.le_refl _) _) (by simp) _)).mono ?_
    rintro e w1 ⟨rfl, rfl⟩
    go_wp2_with fail
    go_ret
    exact ⟨by simp, by exact balloc (balloc (Below.refl _ _) (Nat.le_refl _) _) (by simp) _⟩
  · have e1 : (k != k') = true := by simpa using h
    have e2 : decide (k = k') = false := decide_eq_false h
    rw [e2]
    clear h
    go_enter Tryz.func22, Tryz.ntmps22
    go_wp2_with fail
    go_ret
    exact ⟨by simp, by exact balloc (balloc (Below.refl _ _) (Nat.le_refl _) _) (by simp) _⟩
/-- Two boxes that hold two raw values. -/
structure Two (w wr : World) (k k' : Int) (A B : Option Addr) (n c m d : Nat) : Prop where
  below : Below w.heap.size w wr
  b0 : wr.heap[w.heap.size]? = some (.cells #[.int .i64 k, .slice A n c] 24 (0, 0))
  b1 : wr.heap[w.heap.size + 1]? = some (.cells #[.int .i64 k', .slice B m d] 24 (0, 0))
theorem Two.lt {w wr : World} {k k' : Int} {A B : Option Addr} {n c m d : Nat} (h : Two w wr k k' A B n c m d) : w.heap.size + 1 < wr.heap.size := (Array.getElem?_eq_some_iff.1 h.b1).1
theorem Two.keep {w wr w1 : World} {k k' : Int} {A B : Option Addr} {n c m d : Nat} (h : Two w wr k k' A B n c m d) (hb : Below wr.heap.size wr w1) : Two w w1 k k' A B n c m d :=
  ⟨bthen h.below hb, (hb.block _ (by have := h.lt; omega)).trans h.b0, (hb.block _ h.lt).trans h.b1⟩
theorem Two.drew {w wr : World} {k k' : Int} {A B : Option Addr} {n c m d : Nat} (h : Two w wr k k' A B n c m d) : Two w wr.drew k k' A B n c m d := h.keep (bdrew (Below.refl _ _))
theorem Two.start (w : World) (k k' : Int) (A B : Option Addr) (n c m d : Nat) : Two w ((w.alloc (.cells #[.int .i64 k, .slice A n c] 24)).alloc (.cells #[.int .i64 k', .slice B m d] 24)) k k' A B n c m d := by
  obtain ⟨w1, hw1⟩ : ∃ w1, w1 = w.alloc (.cells #[.int .i64 k, .slice A n c] 24) := ⟨_, rfl⟩
  have hz : w1.heap.size = w.heap.size + 1 := by rw [hw1]; simp
  have hn : w1.heap[w.heap.size]? = some (.cells #[.int .i64 k, .slice A n c] 24 (0, 0)) := by rw [hw1]; exact heap_alloc_new w _
  have hb1 : Below w.heap.size w w1 := by rw [hw1]; exact balloc (Below.refl _ _) (Nat.le_refl _) _
  rw [← hw1]
  clear hw1
  have hA : Below w1.heap.size w1 (w1.alloc (.cells #[.int .i64 k', .slice B m d] 24)) := balloc (Below.refl _ _) (Nat.le_refl _) _
  have h1 := hA.block w.heap.size (by omega)
  have h2 := heap_alloc_new w1 (.cells #[.int .i64 k', .slice B m d] 24)
  rw [hz] at h2
  exact ⟨bthen hb1 hA, h1.trans hn, h2⟩
theorem Two.cells {w wr : World} {k k' : Int} {A B : Option Addr} {n c m d : Nat} (h : Two w wr k k' A B n c m d) :
    wr.cell? ⟨w.heap.size, 0, none⟩ = some (.int .i64 k) ∧ wr.cell? ⟨w.heap.size, 1, none⟩ = some (.slice A n c) ∧ wr.cell? ⟨w.heap.size + 1, 0, none⟩ = some (.int .i64 k') ∧ wr.cell? ⟨w.heap.size + 1, 1, none⟩ = some (.slice B m d) := by
  obtain ⟨h1, h2, h3⟩ := h
  exact ⟨by simp only [World.cell?, h2]; rfl, by simp only [World.cell?, h2]; rfl, by simp only [World.cell?, h3]; rfl, by simp only [World.cell?, h3]; rfl⟩
set_option maxHeartbeats 4000000 in
theorem implEqual (A B : Option Addr) (c d : Nat) (l m : List UInt8) (k k' : Int) (w : World) (hs : SB w A c l) (ht : SB w B d m) (h0 : 0 ≤ k) (h1 : k ≤ 255) (h2 : 0 ≤ k') (h3 : k' ≤ 255) :
    Calls Tryz.prog 10 #[.agg #[.int .i64 k, .slice A l.length c], .agg #[.int .i64 k', .slice B m.length d]] w fun e w' => e = .returned (.bool (decide (k = k') && decide (l = m))) ∧ Below w.heap.size w w' := by
  have HE : Hid (∀ wx, Below w.heap.size w wx → Calls Tryz.prog 22 #[.agg #[.int .u8 k, .slice A l.length c], .agg #[.int .u8 k', .slice B m.length d]] wx fun e w' => e = .returned (.bool (decide (k = k') && decide (l = m))) ∧ Below w.heap.size w w') := Lib.hid fun wx h => (valEqual A B c d l m k k' wx (hs.keep h) (ht.keep h)).mono fun e w' ⟨a, b⟩ => ⟨a, bthen h b⟩
  have HA : Hid (∀ wx, Two w wx k k' A B l.length c m.length d → Calls Tryz.prog 21 #[.agg #[.int .i64 k, .slice A l.length c]] wx fun e w' => e = .returned (.agg #[.int .u8 k, .slice A l.length c]) ∧ Hid (Two w w' k k' A B l.length c m.length d)) := Lib.hid fun wx h => (implCore A l.length c k wx h0 h1).mono fun e w' ⟨a, b⟩ => ⟨a, Lib.hid (h.keep b)⟩
  have HB : Hid (∀ wx, Two w wx k k' A B l.length c m.length d → Calls Tryz.prog 21 #[.agg #[.int .i64 k', .slice B m.length d]] wx fun e w' => e = .returned (.agg #[.int .u8 k', .slice B m.length d]) ∧ Hid (Two w w' k k' A B l.length c m.length d)) := Lib.hid fun wx h => (implCore B m.length d k' wx h2 h3).mono fun e w' ⟨a, b⟩ => ⟨a, Lib.hid (h.keep b)⟩
  obtain ⟨z, hz⟩ : ∃ z, z = (decide (k = k') && decide (l = m)) := ⟨_, rfl⟩
  obtain ⟨p, hp⟩ : ∃ p, p = l.length := ⟨_, rfl⟩
  obtain ⟨q, hq⟩ : ∃ p, p = m.length := ⟨_, rfl⟩
  rw [← hz, ← hp, ← hq] at HE
  rw [← hp, ← hq] at HA HB
  rw [← hz, ← hp, ← hq]
  clear hs ht h0 h1 h2 h3 hp hq hz
  have HT := Lib.hid (Two.start w k k' A B p c q d)
  go_enter Tryz.func10, Tryz.ntmps10
  go_wp2_with fail
  go_region_with (first
    | (refine (HA.out _ (by first | exact HT.out.drew | exact HT.out)).mono ?_; rintro e wa ⟨rfl, HTa⟩; obtain ⟨x0, x1, x2, x3⟩ := HTa.out.cells)
    | (refine (HB.out _ (by first | exact HT.out.drew | exact HT.out)).mono ?_; rintro e wa ⟨rfl, HTa⟩; obtain ⟨x0, x1, x2, x3⟩ := HTa.out.cells)
    | (refine (HB.out _ (by first | exact HTa.out | exact HTa.out.drew)).mono ?_; rintro e wb ⟨rfl, HTb⟩; obtain ⟨y0, y1, y2, y3⟩ := HTb.out.cells)
    | (refine (HA.out _ (by first | exact HTa.out | exact HTa.out.drew)).mono ?_; rintro e wb ⟨rfl, HTb⟩; obtain ⟨y0, y1, y2, y3⟩ := HTb.out.cells)
    | (refine (HE.out _ (by first | exact HTb.out.below | exact HTb.out.drew.below)).mono ?_; rintro e wc ⟨rfl, hbc⟩))
  all_goals
    clear HT HA HB HE
    go_wp2_with fail
    go_ret
    exact ⟨rfl, hbc⟩
end Eq2
end Go.Proofs.YtfhbnlbdmfjhlaaGreatDoor.X
