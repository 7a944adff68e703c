/- Contract of CompareKey, at an element and a name that are plain. -/
import Derived.Test.YtfpnhlfmnoikhaaDoc2
import Derived.Test.YtfpnhlfmnoikhaaBytes
set_option linter.unusedVariables false
set_option linter.unusedSimpArgs false
namespace Go.Proofs.Ytfpnhlfmnoikhaa.X
open Go.RowKit

theorem index_plain (nm r : List UInt8) (h : plainB nm = true) : Lib.indexByte (nm ++ 0 :: r) ((0 : Int).toNat.toUInt8) = nm.length := by
  have e : ((0 : Int).toNat.toUInt8) = 0 := rfl
  rw [e]
  induction nm with
  | nil => simp [Lib.indexByte]
  | cons x l ih =>
    simp only [plainB, List.all_cons, Bool.and_eq_true, decide_eq_true_eq] at h
    have hx : (x == 0) = false := by
      simp only [beq_eq_false_iff_ne, ne_eq]
      intro hx; exact h.1 (by rw [hx]; rfl)
    have := ih (by simpa [plainB] using h.2)
    simp only [List.cons_append, Lib.indexByte, hx, this, List.length_cons]
    have e2 : (((l.length : Int)) == -1) = false := by simp
    simp [e2]
theorem index_none (m : List UInt8) (h : plainB m = true) : Lib.indexByte m ((0 : Int).toNat.toUInt8) = -1 := by
  have e : ((0 : Int).toNat.toUInt8) = 0 := rfl
  rw [e]
  induction m with
  | nil => rfl
  | cons x l ih =>
    simp only [plainB, List.all_cons, Bool.and_eq_true, decide_eq_true_eq] at h
    have hx : (x == 0) = false := by
      simp only [beq_eq_false_iff_ne, ne_eq]
      intro hx; exact h.1 (by rw [hx]; rfl)
    have := ih (by simpa [plainB] using h.2)
    simp [Lib.indexByte, hx, this]

set_option maxHeartbeats 1600000 in
theorem elemCompareKey (A : Option Addr) (c : Nat) (k0 : UInt8) (nm r : List UInt8) (B : Option Addr) (d : Nat) (m : List UInt8) (w : World) (hs : SB w A c (k0 :: (nm ++ 0 :: r))) (ht : SB w B d m) (hn : plainB nm = true) (hm : plainB m = true) :
    Calls Try.prog 37 #[.slice A (k0 :: (nm ++ 0 :: r)).length c, .slice B m.length d] w fun e w' => e = .returned (.bool (decide (nm = m))) ∧ w = w' := by
  have t2 : SB w (A.map fun x : Addr => (⟨x.block, x.off + 1, none⟩ : Addr)) (c - 1) nm := by
    have hle := hs.le
    have hcap := hs.cap
    simp only [List.length_cons, List.length_append] at hle
    refine ⟨by omega, by omega, fun hp => ?_⟩
    obtain ⟨b, off, rfl, hc⟩ := hs.cells (by simp)
    refine ⟨b, off + 1, rfl, fun j hj => ?_⟩
    have h := hc (j + 1) (by simp; omega)
    rw [show off + 1 + j = off + (j + 1) from by omega, h]
    simp [hj]
  obtain ⟨l, hl⟩ : ∃ l, l = k0 :: (nm ++ 0 :: r) := ⟨_, rfl⟩
  rw [← hl] at hs ⊢
  have h2 : nm.length + 2 ≤ l.length := by rw [hl]; simp
  have hd1 : l.drop 1 = nm ++ 0 :: r := by rw [hl]; rfl
  have hidx := index_plain nm r hn
  rw [← hd1] at hidx
  have hidm := index_none m hm
  have hle := hs.le
  have hcap := hs.cap
  obtain ⟨q, hq⟩ : ∃ q, q = nm.length := ⟨_, rfl⟩
  rw [← hq] at h2 hidx
  obtain ⟨A1, e1, s1⟩ := SB.from_ (P := Try.prog) Try.underlying58 rfl rfl .i64 A c l 1 (by omega) hs.le
  have e1' : ∀ W : World, (Instr.slice 58 (.slice A l.length c) (some (.int .i64 1)) none none).run Try.prog W = .ok (.slice A1 (l.drop 1).length (c - 1)) W := fun W => by rw [List.length_drop]; exact e1 W
  have t1 := s1 w hs
  have hqm : ((q : Int) == -1) = false := by simp only [beq_eq_false_iff_ne, ne_eq]; omega
  have hlt : ¬ ((l.length : Int) < 2) := by omega
  clear e1 s1 hl hd1 hn hm
  obtain ⟨l1, hl1⟩ : ∃ x, x = l.drop 1 := ⟨_, rfl⟩
  rw [← hl1] at e1' t1 hidx
  clear hl1
  go_enter Try.func37, Try.ntmps37
  go_wp2_with fail
  refine (bytesIndexByte A1 (c - 1) l1 0 _ t1).mono ?_
  rintro e w1 ⟨rfl, rfl⟩
  rw [hidx]
  go_wp2_with fail
  refine (bytesIndexByte B d m 0 _ ht).mono ?_
  rintro e w1 ⟨rfl, rfl⟩
  rw [hidm]
  go_wp2_with fail
  refine (bytesEqual _ (c - 1) nm B d m _ t2 ht).mono ?_
  rintro e w1 ⟨rfl, rfl⟩
  go_wp2_with fail
  go_ret
  exact ⟨rfl, rfl⟩
theorem compareKey (A : Option Addr) (c : Nat) (k0 : UInt8) (nm r : List UInt8) (B : Option Addr) (d : Nat) (m : List UInt8) (w : World) (hs : SB w A c (k0 :: (nm ++ 0 :: r))) (ht : SB w B d m) (hn : plainB nm = true) (hm : plainB m = true) :
    Calls Try.prog 18 #[.slice A (k0 :: (nm ++ 0 :: r)).length c, .slice B m.length d] w fun e w' => e = .returned (.bool (decide (nm = m))) ∧ w = w' := by
  have h := elemCompareKey A c k0 nm r B d m w hs ht hn hm
  obtain ⟨l, hl⟩ : ∃ l, l = k0 :: (nm ++ 0 :: r) := ⟨_, rfl⟩
  rw [← hl] at h ⊢
  clear hs hl
  go_enter Try.func18, Try.ntmps18
  go_wp2_with fail
  refine h.mono ?_
  rintro e w1 ⟨rfl, rfl⟩
  go_wp2_with fail
  go_ret
  exact ⟨rfl, rfl⟩
end Go.Proofs.Ytfpnhlfmnoikhaa.X
