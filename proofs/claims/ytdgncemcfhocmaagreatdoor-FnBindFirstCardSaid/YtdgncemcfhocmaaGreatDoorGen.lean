/- Words: slices whose elements are one cell each (numbers, texts, pointers). No conditions: plain lemmas. -/
import Derived.Test.YtdgncemcfhocmaaGreatDoorWords
import Derived.Laws.CopyOwn
set_option linter.unusedVariables false
set_option linter.unusedSimpArgs false
set_option maxRecDepth 100000
namespace Go.Proofs.YtdgncemcfhocmaaGreatDoor.X
open Go.RowKit
/-- A slice that is read: its address, its capacity, its values. -/
structure GS (w : World) (A : Option Addr) (c : Nat) (l : List Value) : Prop where
  le : l.length ≤ c
  cap : c ≤ 9223372036854775807
  cells : 0 < l.length → ∃ b off, A = some ⟨b, off, none⟩ ∧ ∀ j, (h : j < l.length) → w.cell? ⟨b, off + j, none⟩ = some l[j]

theorem GS.len {w : World} {A : Option Addr} {c : Nat} {l : List Value} (h : GS w A c l) : l.length ≤ 9223372036854775807 := Nat.le_trans h.le h.cap
theorem GS.keep {w w1 : World} {A : Option Addr} {c : Nat} {l : List Value} (h : GS w A c l) (hb : Below w.heap.size w w1) : GS w1 A c l :=
  ⟨h.le, h.cap, fun hl => by
    obtain ⟨b, off, e, hc⟩ := h.cells hl
    exact ⟨b, off, e, fun j hj => (hb.cell (World.block_lt_of_cell? w _ (hc j hj))).trans (hc j hj)⟩⟩
theorem GS.keepB {w w1 : World} {B : Nat} {A : Option Addr} {c : Nat} {l : List Value} (h : GS w A c l) (hb : Below B w w1) (hB : w.heap.size = B) : GS w1 A c l := by subst hB; exact h.keep hb
theorem GS.alloc {w : World} {A : Option Addr} {c : Nat} {l : List Value} (h : GS w A c l) (o : Obj) : GS (w.alloc o) A c l := h.keep ((Below.refl _ _).alloc (Nat.le_refl _) o)
theorem GS.drewN {w : World} {A : Option Addr} {c : Nat} {l : List Value} (h : GS w A c l) (n : Nat) : GS (w.drewN n) A c l := h.keep (bdrewN (Below.refl _ _) n)
theorem GS.drew {w : World} {A : Option Addr} {c : Nat} {l : List Value} (h : GS w A c l) : GS w.drew A c l := h.keep (bdrew (Below.refl _ _))
theorem GS.nil (w : World) : GS w none 0 [] := ⟨Nat.le_refl _, by omega, fun h => absurd h (Nat.lt_irrefl 0)⟩
theorem GS.empty (w : World) (A : Option Addr) (c : Nat) (hc : c ≤ 9223372036854775807) : GS w A c [] := ⟨Nat.zero_le _, hc, fun h => absurd h (Nat.lt_irrefl 0)⟩
/-! ### Values of the call's own -/
section
variable (E : TypeId)
/-- A slice in a block of its own, from block 'base' on. -/
def OG (w : World) (base : Nat) (v : Value) (l : List Value) : Prop := w.ownsRow base E 1 v l.length l ∧ l.length ≤ 9223372036854775807
variable {E}
theorem OG.nil (w : World) (base : Nat) : OG E w base (.slice none 0 0) [] := ⟨⟨by simp, .inl ⟨rfl, rfl⟩⟩, by simp⟩
theorem OG.sb {w : World} {base : Nat} {v : Value} {l : List Value} (h : OG E w base v l) : ∃ A c, v = .slice A l.length c ∧ GS w A c l ∧ (∀ a, A = some a → base ≤ a.block ∧ a.block < w.heap.size) := by
  obtain ⟨h, hl⟩ := h
  rcases h.2 with ⟨rfl, h0⟩ | ⟨g, cap, cur, rfl, hb, hg, hn, hm, hs, ht⟩
  · refine ⟨none, 0, by rw [h0], ?_, fun a ha => by cases ha⟩
    have : l = [] := List.eq_nil_of_length_eq_zero h0
    subst this
    exact GS.nil w
  · refine ⟨_, cap, rfl, ⟨hn, by simp only [maxLen] at hm; omega, fun hp => ⟨g, 0, rfl, fun j hj => ?_⟩⟩, fun a ha => ?_⟩
    · have := h.cells (g := g) rfl j _ (List.getElem?_eq_getElem hj)
      unfold Addr.add at this
      split at this
      · rename_i h0; subst h0; simpa using this
      · simpa using this
    · cases ha
      exact h.lt g rfl
theorem OG.keep {w w1 : World} {base : Nat} {v : Value} {l : List Value} (h : OG E w base v l) (hb : Below w.heap.size w w1) : OG E w1 base v l :=
  ⟨h.1.kept (row := none) ⟨hb.os, hb.tape, hb.output, hb.size, fun i hi _ => hb.block i hi⟩ (by cases v.ownBlock <;> simp), h.2⟩
theorem OG.alloc {w : World} {base : Nat} {v : Value} {l : List Value} (h : OG E w base v l) (o : Obj) : OG E (w.alloc o) base v l := h.keep ((Below.refl _ _).alloc (Nat.le_refl _) o)
theorem OG.drewN {w : World} {base : Nat} {v : Value} {l : List Value} (h : OG E w base v l) (n : Nat) : OG E (w.drewN n) base v l := h.keep (bdrewN (Below.refl _ _) n)
/-- Another row was written. -/
theorem OG.other {w w1 : World} {base : Nat} {v : Value} {l : List Value} (h : OG E w base v l) {row : Option Nat} (hg : w.grownBy w1 row) (hne : v.ownBlock = none ∨ v.ownBlock ≠ row) : OG E w1 base v l := ⟨h.1.kept hg hne, h.2⟩
theorem OG.mono {w : World} {base base' : Nat} {v : Value} {l : List Value} (h : OG E w base v l) (hb : base' ≤ base) : OG E w base' v l := by
  obtain ⟨⟨h1, h2⟩, hl⟩ := h
  refine ⟨⟨h1, ?_⟩, hl⟩
  rcases h2 with h2 | ⟨g, cap, cur, e, hg, r⟩
  · exact .inl h2
  · exact .inr ⟨g, cap, cur, e, Nat.le_trans hb hg, r⟩
theorem OG.lt {w : World} {base : Nat} {v : Value} {l : List Value} (h : OG E w base v l) : ∀ k, v.ownBlock = some k → base ≤ k ∧ k < w.heap.size := h.1.lt
/-- A slice's literal, as the walk lays it. -/
theorem OG.lit (w : World) (base : Nat) (hb : base ≤ w.heap.size) (l : List Value) (hl : l.length ≤ 9223372036854775807) : OG E (w.alloc (.cells l.toArray E)) base (.slice (some ⟨w.heap.size, 0, none⟩) l.length l.length) l := by
  have h := World.ownsRow_lit (base := base) (e := E) (size := 1) w l.toArray l.length hb (by simpa [maxLen] using hl) (by simp)
  exact ⟨by simpa using h, hl⟩
theorem GS.lit (w : World) (l : List Value) (hl : l.length ≤ 9223372036854775807) : GS (w.alloc (.cells l.toArray E)) (some ⟨w.heap.size, 0, none⟩) l.length l := by
  obtain ⟨A, c, hv, h, _⟩ := (OG.lit (E := E) w 0 (Nat.zero_le _) l hl).sb
  cases hv
  exact h

theorem GS.lit_ (w : World) (l : List Value) (cs : List Value) (h : cs = l) (hl : l.length ≤ 9223372036854775807) (n : Nat) (hn : n = l.length) : GS (w.alloc (.cells cs.toArray E)) (some ⟨w.heap.size, 0, none⟩) n l := by subst hn; rw [h]; exact GS.lit w l hl
theorem OG.lit_ (w : World) (base : Nat) (hb : base ≤ w.heap.size) (l : List Value) (cs : List Value) (h : cs = l) (hl : l.length ≤ 9223372036854775807) (n : Nat) (hn : n = l.length) : OG E (w.alloc (.cells cs.toArray E)) base (.slice (some ⟨w.heap.size, 0, none⟩) n n) l := by subst hn; rw [h]; exact OG.lit w base hb l hl
/-- What an append leaves: the row, longer; every other row as it was. -/
structure AppG (W : World) (base : Nat) (v0 : Value) (l : List Value) (v1 : Value) (w1 : World) : Prop where
  own : OG E w1 base v1 l
  grown : W.grownBy w1 v0.ownBlock
  at_ : v1.ownBlock = v0.ownBlock ∨ ∃ b, v1.ownBlock = some b ∧ W.heap.size ≤ b

theorem AppG.below {W w0 w1 : World} {base : Nat} {v0 v1 : Value} {l l0 : List Value} (h : AppG (E := E) W base v0 l v1 w1) (h0 : OG E W base v0 l0) (hb : Below base w0 W) (hB : base ≤ W.heap.size) : Below base w0 w1 :=
  bgrown hb hB h.grown (fun k hk => (h0.lt k hk).1)

/-- Something was made ahead of the append. -/
theorem AppG.pre {W W1 w1 : World} {base : Nat} {v0 v1 : Value} {l : List Value} (h : AppG (E := E) W1 base v0 l v1 w1) (hb : Below W.heap.size W W1) : AppG (E := E) W base v0 l v1 w1 :=
  ⟨h.own, World.grownBy.trans ⟨hb.os, hb.tape, hb.output, hb.size, fun i hi _ => hb.block i hi⟩ h.grown, by
    rcases h.at_ with h | ⟨b, h, hb2⟩
    · exact .inl h
    · exact .inr ⟨b, h, Nat.le_trans hb.size hb2⟩⟩
theorem AppG.post {W w1 w2 : World} {base : Nat} {v0 v1 : Value} {l : List Value} (h : AppG (E := E) W base v0 l v1 w1) (hb : Below w1.heap.size w1 w2) : AppG (E := E) W base v0 l v1 w2 :=
  ⟨h.own.keep hb, World.grownBy.trans h.grown ⟨hb.os, hb.tape, hb.output, hb.size, fun i hi _ => hb.block i hi⟩, h.at_⟩
/-- One append behind the other. -/
theorem AppG.trans {W w1 w2 : World} {base : Nat} {v0 v1 v2 : Value} {l l2 : List Value} (h : AppG (E := E) W base v0 l v1 w1) (k : AppG (E := E) w1 base v1 l2 v2 w2) : AppG (E := E) W base v0 l2 v2 w2 := by
  have hs := h.grown.size
  refine ⟨k.own, ⟨k.grown.os.trans h.grown.os, k.grown.tape.trans h.grown.tape, k.grown.output.trans h.grown.output, Nat.le_trans hs k.grown.size, fun i hi hne => ?_⟩, ?_⟩
  · refine (k.grown.block i (Nat.lt_of_lt_of_le hi hs) ?_).trans (h.grown.block i hi hne)
    rcases h.at_ with e | ⟨b, e, hb⟩
    · rw [e]; exact hne
    · rw [e]
      intro hh
      injection hh with hh
      omega
  · rcases k.at_ with e | ⟨b, e, hb⟩
    · rw [e]; exact h.at_
    · exact .inr ⟨b, e, Nat.le_trans hs hb⟩
theorem AppG.refl {W : World} {base : Nat} {v : Value} {l : List Value} (h : OG E W base v l) : AppG (E := E) W base v l v W := ⟨h, World.grownBy.refl W _, .inl rfl⟩
theorem AppG.size {W w1 : World} {base : Nat} {v0 v1 : Value} {l : List Value} (h : AppG (E := E) W base v0 l v1 w1) : W.heap.size ≤ w1.heap.size := h.grown.size
/-- From nil on nothing that was there is written. -/
theorem AppG.fresh {W w1 : World} {base : Nat} {v1 : Value} {l : List Value} (h : AppG (E := E) W base (.slice none 0 0) l v1 w1) : Below W.heap.size W w1 :=
  ⟨h.grown.os, h.grown.tape, h.grown.output, h.grown.size, fun i hi => h.grown.block i hi (by simp [Value.ownBlock])⟩
/-- What lies below the base is as it was. -/
theorem AppG.kept {W w1 : World} {base : Nat} {v0 v1 : Value} {l l0 : List Value} (h : AppG (E := E) W base v0 l v1 w1) (h0 : OG E W base v0 l0) (hB : base ≤ W.heap.size) : Below base W w1 :=
  bgrown (Below.refl _ _) hB h.grown (fun k hk => (h0.lt k hk).1)

section
variable {P : Program} {ops : Array Oper} {rest : List Oper} {o : Oper} {a : Act} {Q : Exit → Act → World → Prop}
/-- 'append(v, xs...)', v a row of the call's own (nil let in), xs any slice of bytes. -/
theorem appG_run (t : TypeId) (z : Value) (bs : Nat) (hinfo : (P.info? E).map (fun i => (i.zero, i.size, i.bytes)) = some (some z, 1, bs)) (hzc : z.cells = #[z]) (ht : P.underlying t = some (.slice E)) (ty : TypeId)
    (W : World) (base : Nat) (v : Value) (l : List Value) (A : Option Addr) (c : Nat) (l2 : List Value) (HO : OG E W base v l) (HR : GS W A c l2) (hbase : base ≤ W.heap.size) (h1c : ∀ u ∈ l2, u.oneCell' = true) (hl : l.length + l2.length ≤ 140737488355328) (hlb : (l.length + l2.length) * bs ≤ 140737488355328) :
    ∃ v1 w1, (Builtin.append_ #[t, t] ty #[v, .slice A l2.length c]).run P W = .ok v1 w1 ∧ AppG (E := E) W base v (l ++ l2) v1 w1 := by
  obtain ⟨i0, hi, hzz⟩ := Option.map_eq_some_iff.1 hinfo
  simp only [Prod.mk.injEq] at hzz
  obtain ⟨hz0, hz1, hz2⟩ := hzz
  rcases Nat.eq_zero_or_pos l2.length with h0 | h0
  · have e2 : l2 = [] := List.eq_nil_of_length_eq_zero h0
    subst e2
    refine ⟨v, W, ?_, by simpa using HO, World.grownBy.refl W _, .inl rfl⟩
    rcases HO.1.2 with ⟨rfl, hn⟩ | ⟨g, cap, cur, rfl, _, _, hnc, _⟩
    · cases A <;> simp [Builtin.append_, run_underlying ht, sizeOf, typeInfo, hi, Builtin.lenOf, Builtin.firstCells, loadCells, loadCellsFrom]
    · cases A <;> simp [Builtin.append_, run_underlying ht, sizeOf, typeInfo, hi, Builtin.lenOf, Builtin.firstCells, hnc, storeCells, loadCells, loadCellsFrom]
  · obtain ⟨b, off, rfl, hcell⟩ := HR.cells h0
    have hcells : ∀ j u, l2[j]? = some u → W.cell? ((⟨b, off, none⟩ : Addr).add j) = some u := by
      intro j u hu
      have hj : j < l2.length := by
        rcases Nat.lt_or_ge j l2.length with h | h
        · exact h
        · simp [List.getElem?_eq_none h] at hu
      rw [List.getElem?_eq_getElem hj] at hu
      cases hu
      have hadd : (⟨b, off, none⟩ : Addr).add j = ⟨b, off + j, none⟩ := by unfold Addr.add; split <;> simp_all
      rw [hadd]
      exact hcell j hj
    obtain ⟨v1, w1, hr, h2, h3, _, h5⟩ := run_append_own_at (P := P) W base t ty E i0 z 1 bs ht hi hz0 hz1 hz2 (by rw [hzc]; rfl) (by omega) v l.length l HO.1 ⟨b, off, none⟩ l2.length c l2 (by simp) hcells
      h1c (by simp only [maxLen]; omega) hlb hbase
    refine ⟨v1, w1, hr, ⟨by rw [List.length_append]; exact h2, by rw [List.length_append]; omega⟩, h3, ?_⟩
    rcases h5 with h5 | h5
    · exact .inl h5
    · exact .inr ⟨_, h5, Nat.le_refl _⟩
theorem wp_appG (s x : Operand) (t : TypeId) (hgd : o.guard = none) (ho : o.op = .call { callee := .builtin .append, args := #[s, x], argTypes := #[t, t] })
    (z : Value) (bs : Nat) (hinfo : (P.info? E).map (fun i => (i.zero, i.size, i.bytes)) = some (some z, 1, bs)) (hzc : z.cells = #[z]) (ht : P.underlying t = some (.slice E))
    (W : World) (base : Nat) (v : Value) (l : List Value) (A : Option Addr) (c : Nat) (l2 : List Value) (hs : a.eval s = v) (hx : a.eval x = .slice A l2.length c) (HO : OG E W base v l) (HR : GS W A c l2) (hbase : base ≤ W.heap.size) (h1c : ∀ u ∈ l2, u.oneCell' = true) (hl : l.length + l2.length ≤ 140737488355328) (hlb : (l.length + l2.length) * bs ≤ 140737488355328)
    (h : ∀ v1 w1, AppG (E := E) W base v (l ++ l2) v1 w1 → wpList P ops Q rest (a.put o.dst v1) w1) : wpList P ops Q (o :: rest) a W := by
  obtain ⟨v1, w1, hr, hap⟩ := appG_run t z bs hinfo hzc ht o.type W base v l A c l2 HO HR hbase h1c hl hlb
  refine wpList_plain hgd fun K hK => ?_
  unfold Oper.wp execOp
  simp only [ho, resolve, invoke, builtin, Sem.run_bind, Sem.run_pure, Result.andThen_ok, List.map_toArray, List.map_cons, List.map_nil, hs, hx, hr]
  exact hK _ _ (h v1 w1 hap)
/-- The same inside a region that draws its order. -/
theorem appG_step {oi : Oper} {N : Option Tmp} {K : Act → World → Prop} (s x : Operand) (t : TypeId) (hw : Region.wanted oi (yielded ops a.tmps) = true) (hN : oi.dst = N) (ho : oi.op = .call { callee := .builtin .append, args := #[s, x], argTypes := #[t, t] })
    (z : Value) (bs : Nat) (hinfo : (P.info? E).map (fun i => (i.zero, i.size, i.bytes)) = some (some z, 1, bs)) (hzc : z.cells = #[z]) (ht : P.underlying t = some (.slice E))
    (W : World) (base : Nat) (v : Value) (l : List Value) (A : Option Addr) (c : Nat) (l2 : List Value) (hs : a.eval s = v) (hx : a.eval x = .slice A l2.length c) (HO : OG E W base v l) (HR : GS W A c l2) (hbase : base ≤ W.heap.size) (h1c : ∀ u ∈ l2, u.oneCell' = true) (hl : l.length + l2.length ≤ 140737488355328) (hlb : (l.length + l2.length) * bs ≤ 140737488355328)
    (h : ∀ v1 w1, AppG (E := E) W base v (l ++ l2) v1 w1 → K (a.put N v1) w1) : if Region.wanted oi (yielded ops a.tmps) = true then Oper.wp P oi a W K Q else K (a.put N undef) W := by
  obtain ⟨v1, w1, hr, hap⟩ := appG_run t z bs hinfo hzc ht oi.type W base v l A c l2 HO HR hbase h1c hl hlb
  rw [if_pos hw]
  subst hN
  unfold Oper.wp execOp
  simp only [ho, resolve, invoke, builtin, Sem.run_bind, Sem.run_pure, Result.andThen_ok, List.map_toArray, List.map_cons, List.map_nil, hs, hx, hr]
  exact h v1 w1 hap
end
end
section
variable {E : TypeId}
/-- 'make([]T, n, c)'. -/
theorem OG.made (w : World) (base : Nat) (hb : base ≤ w.heap.size) (z : Value) (n : Nat) (hn : n ≤ 9223372036854775807) : OG E (w.alloc (.cells (madeCells #[z] n) E)) base (.slice (some ⟨w.heap.size, 0, none⟩) 0 n) [] := by
  refine ⟨⟨by simp, .inr ⟨w.heap.size, n, madeCells #[z] n, by simp, hb, heap_alloc_new w _, Nat.zero_le _, by simp only [maxLen]; omega, by simp [madeCells], by simp⟩⟩, by simp⟩
/-- A cell of another block was written. -/
theorem GS.far {w : World} {A : Option Addr} {c : Nat} {l : List Value} (h : GS w A c l) {b o : Nat} (hA : ∀ a, A = some a → a.block ≠ b) (v : Value) : GS (w.setCell ⟨b, o, none⟩ v) A c l :=
  ⟨h.le, h.cap, fun hl => by
    obtain ⟨g, off, e, hc⟩ := h.cells hl
    refine ⟨g, off, e, fun j hj => ?_⟩
    rw [World.cell?_setCell_other _ _ _ _ (fun e2 => hA _ e (by injection e2 with e3; exact e3.symm))]
    exact hc j hj⟩
theorem gs_src {w : World} {A : Option Addr} {c : Nat} {l : List Value} (h : GS w A c l) (hp : 0 < l.length) : ∃ ad, A = some ad ∧ ∀ j v, l[j]? = some v → w.cell? (ad.add j) = some v := by
  obtain ⟨b, off, rfl, hc⟩ := h.cells hp
  refine ⟨_, rfl, fun j v hj => ?_⟩
  have hj2 : j < l.length := by
    rcases Nat.lt_or_ge j l.length with h | h
    · exact h
    · rw [List.getElem?_eq_none h] at hj; cases hj
  rw [List.getElem?_eq_getElem hj2] at hj
  cases hj
  have hadd : (⟨b, off, none⟩ : Addr).add j = ⟨b, off + j, none⟩ := by unfold Addr.add; split <;> simp_all
  rw [hadd]
  exact hc j hj2
theorem gs_row {w : World} {g : Nat} {l : List Value} {fr : Nat × Nat} (hg : w.heap[g]? = some (.cells l.toArray E fr)) (hl : l.length ≤ 9223372036854775807) : GS w (some ⟨g, 0, none⟩) l.length l :=
  ⟨Nat.le_refl _, hl, fun _ => ⟨g, 0, rfl, fun j hj => by simp [World.cell?, hg, hj]⟩⟩
/-- A row known whole. -/
theorem OG.row {w : World} {base g n : Nat} {t : TypeId} {l : List Value} (hb : base ≤ g) (hg : w.heap[g]? = some (.cells l.toArray E (0, 0))) (hn : n = l.length) (hl : l.length ≤ 9223372036854775807) : OG E w base (.slice (some ⟨g, 0, none⟩) n n) l := by
  subst hn
  exact ⟨⟨by simp, .inr ⟨g, l.length, l.toArray, rfl, hb, hg, Nat.le_refl _, by simp only [maxLen]; omega, by simp, by simp⟩⟩, hl⟩
end
end Go.Proofs.YtdgncemcfhocmaaGreatDoor.X
