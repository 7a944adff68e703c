/- The builder of documents, with one element of 32 bits. -/
import Derived.Test.YtohfgfbfohkkkaaGreatDoorAwA
import Derived.Test.YtohfgfbfohkkkaaGreatDoorGen
set_option linter.unusedVariables false
set_option linter.unusedSimpArgs false
set_option maxRecDepth 100000
namespace Go.Proofs.YtohfgfbfohkkkaaGreatDoor.X
open Go.RowKit Go.Proofs.YtohfgfbfohkkkaaGreatDoorW.PrintLast
namespace Aw

theorem infoI : (Tryz.prog.info? 21).map (fun i => (i.zero, i.size, i.bytes)) = some (some (.int .i32 0), 1, 4) := by kernel_rfl
theorem set_grown (w : World) (b o : Nat) (x : Value) : w.grownBy (w.setCell ⟨b, o, none⟩ x) (some b) := by
  have h := (Below.refl 0 w).setCell (p := ⟨b, o, none⟩) (Nat.zero_le _) x
  exact ⟨h.os, h.tape, h.output, h.size, fun i hi hne => heap_setCell_other w ⟨b, o, none⟩ i x (fun e => hne (by rw [e]))⟩
theorem OB.far {w : World} {base : Nat} {v : Value} {l : List UInt8} {E : TypeId} (h : OB E w base v l) {b o : Nat} (hb : b < base) (x : Value) : OB E (w.setCell ⟨b, o, none⟩ x) base v l :=
  h.other (set_grown w b o x) (by
    cases e : v.ownBlock with
    | none => exact .inl rfl
    | some k =>
      refine .inr fun e2 => ?_
      injection e2 with e2
      have := (h.lt k e).1
      omega)
theorem OG.far {w : World} {base : Nat} {v : Value} {l : List Value} {E : TypeId} (h : OG E w base v l) {b o : Nat} (hb : b < base) (x : Value) : OG E (w.setCell ⟨b, o, none⟩ x) base v l :=
  h.other (set_grown w b o x) (by
    cases e : v.ownBlock with
    | none => exact .inl rfl
    | some k =>
      refine .inr fun e2 => ?_
      injection e2 with e2
      have := (h.lt k e).1
      omega)
/-- Rows of two kinds of elements lie apart. -/
theorem apart {E E' : TypeId} {w : World} {b b' : Nat} {v v' : Value} {l : List UInt8} {l' : List Value} (hE : E ≠ E') (h : OB E w b v l) (h' : OG E' w b' v' l') : v'.ownBlock = none ∨ v'.ownBlock ≠ v.ownBlock := by
  rcases h'.1.2 with ⟨rfl, -⟩ | ⟨g', cap', cur', rfl, -, hg', -⟩
  · exact .inl rfl
  · refine .inr ?_
    rcases h.1.2 with ⟨rfl, -⟩ | ⟨g, cap, cur, rfl, -, hg, -⟩
    · simp [Value.ownBlock]
    · intro e
      have e' : g' = g := by simpa [Value.ownBlock] using e
      subst e'
      rw [hg] at hg'
      simp at hg'
      exact hE hg'.2
/-- A builder with its bytes, whose document begins at 0. -/
def Bld (w : World) (base B : Nat) (l : List UInt8) : Prop :=
  ∃ A c Ai ci, w.heap[B]? = some (.cells #[.slice A l.length c, .slice Ai 1 ci] 142 (0, 0)) ∧ OB 5 w base (.slice A l.length c) l ∧ OG 21 w base (.slice Ai 1 ci) [.int .i32 0]
theorem newBuilder (w : World) :
    Calls Tryz.prog 30 #[] w fun e w' => e = .returned (.pointer (some ⟨w.heap.size, 0, none⟩)) ∧ Bld w' (w.heap.size + 1) w.heap.size [0, 0, 0, 0] ∧ Below w.heap.size w w' := by
  have HD : Hid (∀ W : World, w.heap.size + 1 ≤ W.heap.size → Calls Tryz.prog 81 #[.slice none 0 0] W fun e w1 => ∃ v1, e = .returned (.tuple #[.int .i32 0, v1]) ∧ App (E := 5) W (w.heap.size + 1) (.slice none 0 0) [0, 0, 0, 0] v1 w1) := Lib.hid fun W h => docStart W _ _ [] (OB.nil _ _) h (by simp)
  have HB : Hid (Below w.heap.size w (w.alloc (.cells #[.slice none 0 0, .slice none 0 0] 142))) := Lib.hid (balloc (Below.refl _ _) (Nat.le_refl _) _)
  go_enter Tryz.func30, Tryz.ntmps30
  go_wp2_with fail
  have hstart : Calls Tryz.prog 74 #[.pointer (some ⟨w.heap.size, 0, none⟩)] (w.alloc (.cells #[.slice none 0 0, .slice none 0 0] 142)) fun e w' => e = .returned (.pointer (some ⟨w.heap.size, 0, none⟩)) ∧ Bld w' (w.heap.size + 1) w.heap.size [0, 0, 0, 0] ∧ Below w.heap.size w w' := by
    go_enter Tryz.func74, Tryz.ntmps74
    go_wp2_with fail
    refine (HD.out _ (by simp)).mono ?_
    rintro e w2 ⟨v2, rfl, hap⟩
    have hb2 : Below (w.heap.size + 1) (w.alloc (.cells #[.slice none 0 0, .slice none 0 0] 142)) w2 := hap.kept (OB.nil _ _) (by simp)
    have q0 := boxc hb2 0
    have q1 := boxc hb2 1
    simp only [List.getElem?_cons_succ, List.getElem?_cons_zero] at q0 q1
    have f0 := boxf hb2 0
    have f1 := boxf hb2 1
    have hz2 := boxs hb2
    have hlt : w.heap.size < w2.heap.size := by omega
    have ho2 := hap.own
    obtain ⟨A2, c2, rfl, hs2, -⟩ := ho2.sb
    have HO2 := Lib.hid ho2
    have HB2 := Lib.hid hb2
    clear hap hb2 hs2 ho2
    go_wp2_with (first | (refine wp_appG (E := 21) (.tmp 19) (.tmp 21) 140 rfl rfl (.int .i32 0) 4 infoI rfl Tryz.underlying140 _ (w.heap.size + 1) (.slice none 0 0) [] _ _ [.int .i32 0] rfl rfl ?a1 ?a2 ?a3 ?a4 ?a5 ?a6 ?_) | fail)
    case a1 => exact OG.nil _ _
    case a2 =>
      have h := GS.lit_ (E := 21) (w2.setCell ⟨w.heap.size, 0, none⟩ (.slice A2 4 c2)) [.int .i32 0] [.int .i32 0] rfl (by simp) 1 rfl
      simpa using h
    case a3 => simp; omega
    case a4 => simp [Value.oneCell']
    case a5 => simp
    case a6 => simp
    intro v3 w3 h3
    have ho3 : OG 21 w3 (w.heap.size + 1) v3 [.int .i32 0] := h3.own
    have hfr := h3.fresh
    obtain ⟨Ai, ci, rfl, -, -⟩ := ho3.sb
    have hbx2 : w2.heap[w.heap.size]? = some (.cells #[.slice none 0 0, .slice none 0 0] 142 (0, 0)) := (HB2.out.block _ (Nat.lt_succ_self _)).trans (heap_alloc_new w _)
    have hbx3 : (w2.setCell ⟨w.heap.size, 0, none⟩ (.slice A2 4 c2)).heap[w.heap.size]? = some (.cells #[.slice A2 4 c2, .slice none 0 0] 142 (0, 0)) := by simpa using heap_setCell_same w2 w.heap.size 0 _ _ (.slice A2 4 c2) hbx2
    obtain ⟨W2, hW2⟩ : ∃ W2, W2 = w2.setCell ⟨w.heap.size, 0, none⟩ (.slice A2 4 c2) := ⟨_, rfl⟩
    have hzW : W2.heap.size = w2.heap.size := by rw [hW2]; simp
    have hoW : OB 5 W2 (w.heap.size + 1) (.slice A2 4 c2) [0, 0, 0, 0] := by rw [hW2]; exact OB.far HO2.out (Nat.lt_succ_self _) _
    have hbW : Below w.heap.size w W2 := by rw [hW2]; exact ((boxb HB2.out).setCell (Nat.le_refl _) _)
    rw [← hW2] at hfr hbx3
    have hfr2 : Below W2.heap.size W2 w3 := (balloc (Below.refl _ _) (Nat.le_refl _) _).trans (hfr.mono (by simp))
    have ho4 := hoW.keep hfr2
    have hbx4 : w3.heap[w.heap.size]? = some (.cells #[.slice A2 4 c2, .slice none 0 0] 142 (0, 0)) := (hfr2.block _ (by omega)).trans hbx3
    have hz3 := hfr2.size
    have q3 : w3.cell? ⟨w.heap.size, 1, none⟩ = some (.slice none 0 0) := by simp only [World.cell?, hbx4]; rfl
    have f3 : w3.frozen? ⟨w.heap.size, 1, none⟩ = false := by simp only [World.frozen?, hbx4]; rfl
    have hlt3 : w.heap.size < w3.heap.size := by omega
    have HX4 := Lib.hid hbx4
    have HO4 := Lib.hid ho4
    have HG3 := Lib.hid ho3
    have HB3 : Hid (Below w.heap.size w w3) := Lib.hid (hbW.trans (hfr2.mono (by omega)))
    clear q0 q1 f0 f1 hz2 hlt HO2 HB2 h3 ho3 hfr hbx2 hbx3 hzW hoW hbW hfr2 ho4 hbx4 hz3 hW2 HD HB
    go_wp2_with fail
    go_ret
    exact ⟨rfl, ⟨A2, c2, Ai, ci, by simpa using heap_setCell_same w3 w.heap.size 1 _ _ (.slice Ai 1 ci) HX4.out, OB.far HO4.out (Nat.lt_succ_self _) _, OG.far HG3.out (Nat.lt_succ_self _) _⟩, HB3.out.setCell (Nat.le_refl _) _⟩
  refine hstart.mono ?_
  rintro e w1 ⟨rfl, h1, h2⟩
  have H1 := Lib.hid h1
  have H2 := Lib.hid h2
  clear hstart h1 h2 HD HB
  go_wp2_with fail
  go_ret
  exact ⟨rfl, H1.out, H2.out⟩
end Aw
end Go.Proofs.YtohfgfbfohkkkaaGreatDoor.X
