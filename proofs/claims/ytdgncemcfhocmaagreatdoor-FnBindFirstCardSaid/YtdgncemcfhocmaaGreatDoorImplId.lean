/- impl.id of twelve bytes. (out of XAppE) -/
import Derived.Test.YtdgncemcfhocmaaGreatDoorWords
import Derived.Test.YtdgncemcfhocmaaGreatDoorWLast
import Derived.Test.YtdgncemcfhocmaaGreatDoorWTab
import Derived.Laws.CopyOwn
set_option linter.unusedVariables false
set_option linter.unusedSimpArgs false
set_option maxRecDepth 100000
namespace Go.Proofs.YtdgncemcfhocmaaGreatDoor.X
open Go.RowKit Go.Proofs.YtdgncemcfhocmaaGreatDoorW.PrintLast
namespace Ap

theorem sizeU8 : (Tryz.prog.info? 5).map (·.size) = some 1 := by kernel_rfl
def oid12 (m : List UInt8) : Value := .agg (byv m).toArray
theorem oid_split {m : List UInt8} (hm : m.length = 12) : ∃ b0 b1 b2 b3 b4 b5 b6 b7 b8 b9 b10 b11 : UInt8, m = [b0, b1, b2, b3, b4, b5, b6, b7, b8, b9, b10, b11] := by
  match m, hm with
  | [b0, b1, b2, b3, b4, b5, b6, b7, b8, b9, b10, b11], _ => exact ⟨_, _, _, _, _, _, _, _, _, _, _, _, rfl⟩
theorem set12 (w : World) (B t : Nat) (c0 c1 c2 c3 c4 c5 c6 c7 c8 c9 c10 c11 : Value) (h : w.heap[B]? = some (.cells #[c0, c1, c2, c3, c4, c5, c6, c7, c8, c9, c10, c11] t (0, 0))) : ((((((((((((w.setCell ⟨B, 0, none⟩ c0).setCell ⟨B, 1, none⟩ c1).setCell ⟨B, 2, none⟩ c2).setCell ⟨B, 3, none⟩ c3).setCell ⟨B, 4, none⟩ c4).setCell ⟨B, 5, none⟩ c5).setCell ⟨B, 6, none⟩ c6).setCell ⟨B, 7, none⟩ c7).setCell ⟨B, 8, none⟩ c8).setCell ⟨B, 9, none⟩ c9).setCell ⟨B, 10, none⟩ c10).setCell ⟨B, 11, none⟩ c11).heap[B]? = some (.cells #[c0, c1, c2, c3, c4, c5, c6, c7, c8, c9, c10, c11] t (0, 0)) := by
  have h0 := heap_setCell_same _ B 0 _ _ c0 h
  have h1 := heap_setCell_same _ B 1 _ _ c1 h0
  have h2 := heap_setCell_same _ B 2 _ _ c2 h1
  have h3 := heap_setCell_same _ B 3 _ _ c3 h2
  have h4 := heap_setCell_same _ B 4 _ _ c4 h3
  have h5 := heap_setCell_same _ B 5 _ _ c5 h4
  have h6 := heap_setCell_same _ B 6 _ _ c6 h5
  have h7 := heap_setCell_same _ B 7 _ _ c7 h6
  have h8 := heap_setCell_same _ B 8 _ _ c8 h7
  have h9 := heap_setCell_same _ B 9 _ _ c9 h8
  have h10 := heap_setCell_same _ B 10 _ _ c10 h9
  have h11 := heap_setCell_same _ B 11 _ _ c11 h10
  simpa using h11
theorem implId (A : Option Addr) (c : Nat) (m : List UInt8) (w : World) (hs : SB w A c m) (hm : m.length = 12) :
    Calls Tryz.prog 51 #[.slice A m.length c] w fun e w' => e = .returned (oid12 m) ∧ Below w.heap.size w w' := by
  rw [hm]
  obtain ⟨b, off, rfl, hc⟩ := hs.cells (by omega)
  have HSRC : Hid (∀ j v, (byv m)[j]? = some v → (w.alloc (.cells #[.int .u8 0, .int .u8 0, .int .u8 0, .int .u8 0, .int .u8 0, .int .u8 0, .int .u8 0, .int .u8 0, .int .u8 0, .int .u8 0, .int .u8 0, .int .u8 0] 97)).cell? ((⟨b, off, none⟩ : Addr).add j) = some v) := Lib.hid fun j v hj => by
    have hj2 : j < m.length := by
      have := (List.getElem?_eq_some_iff.1 hj).1
      simpa [byv] using this
    have e : (⟨b, off, none⟩ : Addr).add j = ⟨b, off + j, none⟩ := by unfold Addr.add; split <;> simp_all
    rw [e]
    have h1 := hc j hj2
    have h2 := ((balloc (Below.refl w.heap.size w) (Nat.le_refl _) (.cells #[.int .u8 0, .int .u8 0, .int .u8 0, .int .u8 0, .int .u8 0, .int .u8 0, .int .u8 0, .int .u8 0, .int .u8 0, .int .u8 0, .int .u8 0, .int .u8 0] 97)).cell (World.block_lt_of_cell? _ _ h1)).trans h1
    rw [h2]
    have h3 : (byv m)[j]? = some (.int .u8 ((m[j]).toNat : Int)) := by simp [byv, hj2]
    exact h3.symm.trans hj
  have HLEN : Hid ((byv m).length = 12) := Lib.hid (by simp [byv, hm])
  have HONE : Hid (∀ v ∈ byv m, v.oneCell' = true) := Lib.hid (byv_one _)
  have HNEW : Hid ((w.alloc (.cells #[.int .u8 0, .int .u8 0, .int .u8 0, .int .u8 0, .int .u8 0, .int .u8 0, .int .u8 0, .int .u8 0, .int .u8 0, .int .u8 0, .int .u8 0, .int .u8 0] 97)).heap[w.heap.size]? = some (.cells ([.int .u8 0, .int .u8 0, .int .u8 0, .int .u8 0, .int .u8 0, .int .u8 0, .int .u8 0, .int .u8 0, .int .u8 0, .int .u8 0, .int .u8 0, .int .u8 0] : List Value).toArray 97 (0, 0))) := Lib.hid (heap_alloc_new w _)
  obtain ⟨b0, b1, b2, b3, b4, b5, b6, b7, b8, b9, b10, b11, hmb⟩ := oid_split hm
  have e1 : oid12 m = .agg #[.int .u8 b0.toNat, .int .u8 b1.toNat, .int .u8 b2.toNat, .int .u8 b3.toNat, .int .u8 b4.toNat, .int .u8 b5.toNat, .int .u8 b6.toNat, .int .u8 b7.toNat, .int .u8 b8.toNat, .int .u8 b9.toNat, .int .u8 b10.toNat, .int .u8 b11.toNat] := by rw [hmb]; rfl
  have HBV : Hid (byv m = [.int .u8 b0.toNat, .int .u8 b1.toNat, .int .u8 b2.toNat, .int .u8 b3.toNat, .int .u8 b4.toNat, .int .u8 b5.toNat, .int .u8 b6.toNat, .int .u8 b7.toNat, .int .u8 b8.toNat, .int .u8 b9.toNat, .int .u8 b10.toNat, .int .u8 b11.toNat]) := Lib.hid (by rw [hmb]; rfl)
  rw [e1]
  clear hc hs hm hmb e1
  go_enter Tryz.func51, Tryz.ntmps51
  go_wp2_with (first | (refine wpList_copy_splice rfl (.tmp 3) (.tmp 4) 23 23 rfl 5 Tryz.underlying23 sizeU8 (some ⟨w.heap.size, 0, none⟩) (some ⟨b, off, none⟩) 12 12 12 c rfl rfl w.heap.size 0 [.int .u8 0, .int .u8 0, .int .u8 0, .int .u8 0, .int .u8 0, .int .u8 0, .int .u8 0, .int .u8 0, .int .u8 0, .int .u8 0, .int .u8 0, .int .u8 0] 97 HNEW.out (byv m) (by rw [HLEN.out]; rfl) (fun _ => ⟨rfl, _, rfl, HSRC.out⟩) (by rw [HLEN.out]; decide) HONE.out w.heap.size w (balloc (Below.refl _ _) (Nat.le_refl _) _) (Nat.le_refl _) ?_) | fail)
  intro w2 hg2 hb2
  have hx2 : w2.heap[w.heap.size]? = some (.cells #[.int .u8 b0.toNat, .int .u8 b1.toNat, .int .u8 b2.toNat, .int .u8 b3.toNat, .int .u8 b4.toNat, .int .u8 b5.toNat, .int .u8 b6.toNat, .int .u8 b7.toNat, .int .u8 b8.toNat, .int .u8 b9.toNat, .int .u8 b10.toNat, .int .u8 b11.toNat] 97 (0, 0)) := by
    have h := hg2.out
    rw [HBV.out] at h
    simpa [splice] using h
  have hlt2 : w.heap.size < w2.heap.size := (Array.getElem?_eq_some_iff.1 hx2).1
  have p0 : w2.cell? ⟨w.heap.size, 0, none⟩ = some (.int .u8 b0.toNat) := by simp only [World.cell?, hx2]; rfl
  have z0 : w2.frozen? ⟨w.heap.size, 0, none⟩ = false := by simp only [World.frozen?, hx2]; rfl
  have p1 : w2.cell? ⟨w.heap.size, 1, none⟩ = some (.int .u8 b1.toNat) := by simp only [World.cell?, hx2]; rfl
  have z1 : w2.frozen? ⟨w.heap.size, 1, none⟩ = false := by simp only [World.frozen?, hx2]; rfl
  have p2 : w2.cell? ⟨w.heap.size, 2, none⟩ = some (.int .u8 b2.toNat) := by simp only [World.cell?, hx2]; rfl
  have z2 : w2.frozen? ⟨w.heap.size, 2, none⟩ = false := by simp only [World.frozen?, hx2]; rfl
  have p3 : w2.cell? ⟨w.heap.size, 3, none⟩ = some (.int .u8 b3.toNat) := by simp only [World.cell?, hx2]; rfl
  have z3 : w2.frozen? ⟨w.heap.size, 3, none⟩ = false := by simp only [World.frozen?, hx2]; rfl
  have p4 : w2.cell? ⟨w.heap.size, 4, none⟩ = some (.int .u8 b4.toNat) := by simp only [World.cell?, hx2]; rfl
  have z4 : w2.frozen? ⟨w.heap.size, 4, none⟩ = false := by simp only [World.frozen?, hx2]; rfl
  have p5 : w2.cell? ⟨w.heap.size, 5, none⟩ = some (.int .u8 b5.toNat) := by simp only [World.cell?, hx2]; rfl
  have z5 : w2.frozen? ⟨w.heap.size, 5, none⟩ = false := by simp only [World.frozen?, hx2]; rfl
  have p6 : w2.cell? ⟨w.heap.size, 6, none⟩ = some (.int .u8 b6.toNat) := by simp only [World.cell?, hx2]; rfl
  have z6 : w2.frozen? ⟨w.heap.size, 6, none⟩ = false := by simp only [World.frozen?, hx2]; rfl
  have p7 : w2.cell? ⟨w.heap.size, 7, none⟩ = some (.int .u8 b7.toNat) := by simp only [World.cell?, hx2]; rfl
  have z7 : w2.frozen? ⟨w.heap.size, 7, none⟩ = false := by simp only [World.frozen?, hx2]; rfl
  have p8 : w2.cell? ⟨w.heap.size, 8, none⟩ = some (.int .u8 b8.toNat) := by simp only [World.cell?, hx2]; rfl
  have z8 : w2.frozen? ⟨w.heap.size, 8, none⟩ = false := by simp only [World.frozen?, hx2]; rfl
  have p9 : w2.cell? ⟨w.heap.size, 9, none⟩ = some (.int .u8 b9.toNat) := by simp only [World.cell?, hx2]; rfl
  have z9 : w2.frozen? ⟨w.heap.size, 9, none⟩ = false := by simp only [World.frozen?, hx2]; rfl
  have p10 : w2.cell? ⟨w.heap.size, 10, none⟩ = some (.int .u8 b10.toNat) := by simp only [World.cell?, hx2]; rfl
  have z10 : w2.frozen? ⟨w.heap.size, 10, none⟩ = false := by simp only [World.frozen?, hx2]; rfl
  have p11 : w2.cell? ⟨w.heap.size, 11, none⟩ = some (.int .u8 b11.toNat) := by simp only [World.cell?, hx2]; rfl
  have z11 : w2.frozen? ⟨w.heap.size, 11, none⟩ = false := by simp only [World.frozen?, hx2]; rfl
  have HX2 := Lib.hid hx2
  have HB2 := Lib.hid hb2
  clear hg2 hx2 hb2 HSRC HLEN HONE HNEW HBV
  go_wp2_with fail
  have hb2 := HB2.out
  have hbig : Below w.heap.size w ((((((((((((w2.setCell ⟨w.heap.size, 0, none⟩ (.int .u8 b0.toNat)).setCell ⟨w.heap.size, 1, none⟩ (.int .u8 b1.toNat)).setCell ⟨w.heap.size, 2, none⟩ (.int .u8 b2.toNat)).setCell ⟨w.heap.size, 3, none⟩ (.int .u8 b3.toNat)).setCell ⟨w.heap.size, 4, none⟩ (.int .u8 b4.toNat)).setCell ⟨w.heap.size, 5, none⟩ (.int .u8 b5.toNat)).setCell ⟨w.heap.size, 6, none⟩ (.int .u8 b6.toNat)).setCell ⟨w.heap.size, 7, none⟩ (.int .u8 b7.toNat)).setCell ⟨w.heap.size, 8, none⟩ (.int .u8 b8.toNat)).setCell ⟨w.heap.size, 9, none⟩ (.int .u8 b9.toNat)).setCell ⟨w.heap.size, 10, none⟩ (.int .u8 b10.toNat)).setCell ⟨w.heap.size, 11, none⟩ (.int .u8 b11.toNat)) := ((((((((((((hb2.setCell (Nat.le_refl _) _).setCell (Nat.le_refl _) _).setCell (Nat.le_refl _) _).setCell (Nat.le_refl _) _).setCell (Nat.le_refl _) _).setCell (Nat.le_refl _) _).setCell (Nat.le_refl _) _).setCell (Nat.le_refl _) _).setCell (Nat.le_refl _) _).setCell (Nat.le_refl _) _).setCell (Nat.le_refl _) _).setCell (Nat.le_refl _) _)
  have hx9' := set12 w2 w.heap.size _ _ _ _ _ _ _ _ _ _ _ _ _ HX2.out
  generalize hw9 : ((((((((((((w2.setCell ⟨w.heap.size, 0, none⟩ (.int .u8 b0.toNat)).setCell ⟨w.heap.size, 1, none⟩ (.int .u8 b1.toNat)).setCell ⟨w.heap.size, 2, none⟩ (.int .u8 b2.toNat)).setCell ⟨w.heap.size, 3, none⟩ (.int .u8 b3.toNat)).setCell ⟨w.heap.size, 4, none⟩ (.int .u8 b4.toNat)).setCell ⟨w.heap.size, 5, none⟩ (.int .u8 b5.toNat)).setCell ⟨w.heap.size, 6, none⟩ (.int .u8 b6.toNat)).setCell ⟨w.heap.size, 7, none⟩ (.int .u8 b7.toNat)).setCell ⟨w.heap.size, 8, none⟩ (.int .u8 b8.toNat)).setCell ⟨w.heap.size, 9, none⟩ (.int .u8 b9.toNat)).setCell ⟨w.heap.size, 10, none⟩ (.int .u8 b10.toNat)).setCell ⟨w.heap.size, 11, none⟩ (.int .u8 b11.toNat)) = w9 at hbig hx9' ⊢
  have t0 : w9.cell? ⟨w.heap.size, 0, none⟩ = some (.int .u8 b0.toNat) := by simp only [World.cell?, hx9']; rfl
  have t1 : w9.cell? ⟨w.heap.size, 1, none⟩ = some (.int .u8 b1.toNat) := by simp only [World.cell?, hx9']; rfl
  have t2 : w9.cell? ⟨w.heap.size, 2, none⟩ = some (.int .u8 b2.toNat) := by simp only [World.cell?, hx9']; rfl
  have t3 : w9.cell? ⟨w.heap.size, 3, none⟩ = some (.int .u8 b3.toNat) := by simp only [World.cell?, hx9']; rfl
  have t4 : w9.cell? ⟨w.heap.size, 4, none⟩ = some (.int .u8 b4.toNat) := by simp only [World.cell?, hx9']; rfl
  have t5 : w9.cell? ⟨w.heap.size, 5, none⟩ = some (.int .u8 b5.toNat) := by simp only [World.cell?, hx9']; rfl
  have t6 : w9.cell? ⟨w.heap.size, 6, none⟩ = some (.int .u8 b6.toNat) := by simp only [World.cell?, hx9']; rfl
  have t7 : w9.cell? ⟨w.heap.size, 7, none⟩ = some (.int .u8 b7.toNat) := by simp only [World.cell?, hx9']; rfl
  have t8 : w9.cell? ⟨w.heap.size, 8, none⟩ = some (.int .u8 b8.toNat) := by simp only [World.cell?, hx9']; rfl
  have t9 : w9.cell? ⟨w.heap.size, 9, none⟩ = some (.int .u8 b9.toNat) := by simp only [World.cell?, hx9']; rfl
  have t10 : w9.cell? ⟨w.heap.size, 10, none⟩ = some (.int .u8 b10.toNat) := by simp only [World.cell?, hx9']; rfl
  have t11 : w9.cell? ⟨w.heap.size, 11, none⟩ = some (.int .u8 b11.toNat) := by simp only [World.cell?, hx9']; rfl
  exact bodyPost_ret (v := .agg #[.int .u8 b0.toNat, .int .u8 b1.toNat, .int .u8 b2.toNat, .int .u8 b3.toNat, .int .u8 b4.toNat, .int .u8 b5.toNat, .int .u8 b6.toNat, .int .u8 b7.toNat, .int .u8 b8.toNat, .int .u8 b9.toNat, .int .u8 b10.toNat, .int .u8 b11.toNat]) (by simp [results, Tryz.results51, go_sem, t0, t1, t2, t3, t4, t5, t6, t7, t8, t9, t10, t11]) rfl ⟨rfl, hbig⟩
end Ap
end Go.Proofs.YtdgncemcfhocmaaGreatDoor.X
