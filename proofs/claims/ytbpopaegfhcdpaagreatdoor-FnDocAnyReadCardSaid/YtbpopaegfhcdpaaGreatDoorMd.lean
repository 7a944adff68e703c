/- Put together, without what nothing reaches: Gen, Str, LkR, Le, RdrA. -/
import Derived.Test.YtbpopaegfhcdpaaGreatDoorMa
import Derived.Laws.CopyOwn
import Derived.Test.YtbpopaegfhcdpaaGreatDoorWc
import Derived.Shelf.Bin.LEUint32
import Derived.Shelf.Bin.LEUint64
import Derived.Shelf.Bin.LEPutUint32
import Derived.Shelf.Lay
import Derived.Ground.MnProg
import Derived.Test.YtbpopaegfhcdpaaGreatDoorWa
/- Words: slices whose elements are one cell each (numbers, texts, pointers). No conditions: plain lemmas. -/
set_option linter.unusedVariables false
set_option linter.unusedSimpArgs false
set_option maxRecDepth 100000
namespace Go.Proofs.YtbpopaegfhcdpaaGreatDoor.X
open Go.RowKit
/-- A slice that is read: its address, its capacity, its values. -/
structure GS (w : World) (A : Option Addr) (c : Nat) (l : List Value) : Prop where
  le : l.length ≤ c
  cap : c ≤ 9223372036854775807
  cells : 0 < l.length → ∃ b off, A = some ⟨b, off, none⟩ ∧ ∀ j, (h : j < l.length) → w.cell? ⟨b, off + j, none⟩ = some l[j]

theorem GS.len {w : World} {A : Option Addr} {c : Nat} {l : List Value} (h : GS w A c l) : l.length ≤ 9223372036854775807 := Nat.le_trans h.le h.cap
theorem GS.keep {w w1 : World} {A : Option Addr} {c : Nat} {l : List Value} (h : GS w A c l) (hb : Below w.heap.size w w1) : GS w1 A c l :=
  ⟨h.le, h.cap, fun hl => by
    obtain ⟨b, off, e, hc⟩ := h.cells hl
    exact ⟨b, off, e, fun j hj => (hb.cell (World.block_lt_of_cell? w _ (hc j hj))).trans (hc j hj)⟩⟩
theorem GS.alloc {w : World} {A : Option Addr} {c : Nat} {l : List Value} (h : GS w A c l) (o : Obj) : GS (w.alloc o) A c l := h.keep ((Below.refl _ _).alloc (Nat.le_refl _) o)
theorem GS.drewN {w : World} {A : Option Addr} {c : Nat} {l : List Value} (h : GS w A c l) (n : Nat) : GS (w.drewN n) A c l := h.keep (bdrewN (Below.refl _ _) n)
theorem GS.drew {w : World} {A : Option Addr} {c : Nat} {l : List Value} (h : GS w A c l) : GS w.drew A c l := h.keep (bdrew (Below.refl _ _))
theorem GS.nil (w : World) : GS w none 0 [] := ⟨Nat.le_refl _, by omega, fun h => absurd h (Nat.lt_irrefl 0)⟩
theorem GS.empty (w : World) (A : Option Addr) (c : Nat) (hc : c ≤ 9223372036854775807) : GS w A c [] := ⟨Nat.zero_le _, hc, fun h => absurd h (Nat.lt_irrefl 0)⟩
/-! ### Values of the call's own -/
section
variable (E : TypeId)
/-- A slice in a block of its own, from block 'base' on. -/
def OG (w : World) (base : Nat) (v : Value) (l : List Value) : Prop := w.ownsRow base E 1 v l.length l ∧ l.length ≤ 9223372036854775807
variable {E}
theorem OG.nil (w : World) (base : Nat) : OG E w base (.slice none 0 0) [] := ⟨⟨by simp, .inl ⟨rfl, rfl⟩⟩, by simp⟩
theorem OG.sb {w : World} {base : Nat} {v : Value} {l : List Value} (h : OG E w base v l) : ∃ A c, v = .slice A l.length c ∧ GS w A c l ∧ (∀ a, A = some a → base ≤ a.block ∧ a.block < w.heap.size) := by
  obtain ⟨h, hl⟩ := h
  rcases h.2 with ⟨rfl, h0⟩ | ⟨g, cap, cur, rfl, hb, hg, hn, hm, hs, ht⟩
  · refine ⟨none, 0, by rw [h0], ?_, fun a ha => by cases ha⟩
    have : l = [] := List.eq_nil_of_length_eq_zero h0
    subst this
    exact GS.nil w
  · refine ⟨_, cap, rfl, ⟨hn, by simp only [maxLen] at hm; omega, fun hp => ⟨g, 0, rfl, fun j hj => ?_⟩⟩, fun a ha => ?_⟩
    · have := h.cells (g := g) rfl j _ (List.getElem?_eq_getElem hj)
      unfold Addr.add at this
      split at this
      · rename_i h0; subst h0; simpa using this
      · simpa using this
    · cases ha
      exact h.lt g rfl
theorem OG.keep {w w1 : World} {base : Nat} {v : Value} {l : List Value} (h : OG E w base v l) (hb : Below w.heap.size w w1) : OG E w1 base v l :=
  ⟨h.1.kept (row := none) ⟨hb.os, hb.tape, hb.output, hb.size, fun i hi _ => hb.block i hi⟩ (by cases v.ownBlock <;> simp), h.2⟩
theorem OG.alloc {w : World} {base : Nat} {v : Value} {l : List Value} (h : OG E w base v l) (o : Obj) : OG E (w.alloc o) base v l := h.keep ((Below.refl _ _).alloc (Nat.le_refl _) o)
theorem OG.drewN {w : World} {base : Nat} {v : Value} {l : List Value} (h : OG E w base v l) (n : Nat) : OG E (w.drewN n) base v l := h.keep (bdrewN (Below.refl _ _) n)
/-- Another row was written. -/
theorem OG.other {w w1 : World} {base : Nat} {v : Value} {l : List Value} (h : OG E w base v l) {row : Option Nat} (hg : w.grownBy w1 row) (hne : v.ownBlock = none ∨ v.ownBlock ≠ row) : OG E w1 base v l := ⟨h.1.kept hg hne, h.2⟩
theorem OG.mono {w : World} {base base' : Nat} {v : Value} {l : List Value} (h : OG E w base v l) (hb : base' ≤ base) : OG E w base' v l := by
  obtain ⟨⟨h1, h2⟩, hl⟩ := h
  refine ⟨⟨h1, ?_⟩, hl⟩
  rcases h2 with h2 | ⟨g, cap, cur, e, hg, r⟩
  · exact .inl h2
  · exact .inr ⟨g, cap, cur, e, Nat.le_trans hb hg, r⟩
theorem OG.lt {w : World} {base : Nat} {v : Value} {l : List Value} (h : OG E w base v l) : ∀ k, v.ownBlock = some k → base ≤ k ∧ k < w.heap.size := h.1.lt
/-- A slice's literal, as the walk lays it. -/
theorem OG.lit (w : World) (base : Nat) (hb : base ≤ w.heap.size) (l : List Value) (hl : l.length ≤ 9223372036854775807) : OG E (w.alloc (.cells l.toArray E)) base (.slice (some ⟨w.heap.size, 0, none⟩) l.length l.length) l := by
  have h := World.ownsRow_lit (base := base) (e := E) (size := 1) w l.toArray l.length hb (by simpa [maxLen] using hl) (by simp)
  exact ⟨by simpa using h, hl⟩
theorem GS.lit (w : World) (l : List Value) (hl : l.length ≤ 9223372036854775807) : GS (w.alloc (.cells l.toArray E)) (some ⟨w.heap.size, 0, none⟩) l.length l := by
  obtain ⟨A, c, hv, h, _⟩ := (OG.lit (E := E) w 0 (Nat.zero_le _) l hl).sb
  cases hv
  exact h

theorem GS.lit_ (w : World) (l : List Value) (cs : List Value) (h : cs = l) (hl : l.length ≤ 9223372036854775807) (n : Nat) (hn : n = l.length) : GS (w.alloc (.cells cs.toArray E)) (some ⟨w.heap.size, 0, none⟩) n l := by subst hn; rw [h]; exact GS.lit w l hl
theorem OG.lit_ (w : World) (base : Nat) (hb : base ≤ w.heap.size) (l : List Value) (cs : List Value) (h : cs = l) (hl : l.length ≤ 9223372036854775807) (n : Nat) (hn : n = l.length) : OG E (w.alloc (.cells cs.toArray E)) base (.slice (some ⟨w.heap.size, 0, none⟩) n n) l := by subst hn; rw [h]; exact OG.lit w base hb l hl
/-- What an append leaves: the row, longer; every other row as it was. -/
structure AppG (W : World) (base : Nat) (v0 : Value) (l : List Value) (v1 : Value) (w1 : World) : Prop where
  own : OG E w1 base v1 l
  grown : W.grownBy w1 v0.ownBlock
  at_ : v1.ownBlock = v0.ownBlock ∨ ∃ b, v1.ownBlock = some b ∧ W.heap.size ≤ b

theorem AppG.below {W w0 w1 : World} {base : Nat} {v0 v1 : Value} {l l0 : List Value} (h : AppG (E := E) W base v0 l v1 w1) (h0 : OG E W base v0 l0) (hb : Below base w0 W) (hB : base ≤ W.heap.size) : Below base w0 w1 :=
  bgrown hb hB h.grown (fun k hk => (h0.lt k hk).1)

/-- Something was made ahead of the append. -/
theorem AppG.pre {W W1 w1 : World} {base : Nat} {v0 v1 : Value} {l : List Value} (h : AppG (E := E) W1 base v0 l v1 w1) (hb : Below W.heap.size W W1) : AppG (E := E) W base v0 l v1 w1 :=
  ⟨h.own, World.grownBy.trans ⟨hb.os, hb.tape, hb.output, hb.size, fun i hi _ => hb.block i hi⟩ h.grown, by
    rcases h.at_ with h | ⟨b, h, hb2⟩
    · exact .inl h
    · exact .inr ⟨b, h, Nat.le_trans hb.size hb2⟩⟩
theorem AppG.post {W w1 w2 : World} {base : Nat} {v0 v1 : Value} {l : List Value} (h : AppG (E := E) W base v0 l v1 w1) (hb : Below w1.heap.size w1 w2) : AppG (E := E) W base v0 l v1 w2 :=
  ⟨h.own.keep hb, World.grownBy.trans h.grown ⟨hb.os, hb.tape, hb.output, hb.size, fun i hi _ => hb.block i hi⟩, h.at_⟩
/-- One append behind the other. -/
theorem AppG.trans {W w1 w2 : World} {base : Nat} {v0 v1 v2 : Value} {l l2 : List Value} (h : AppG (E := E) W base v0 l v1 w1) (k : AppG (E := E) w1 base v1 l2 v2 w2) : AppG (E := E) W base v0 l2 v2 w2 := by
  have hs := h.grown.size
  refine ⟨k.own, ⟨k.grown.os.trans h.grown.os, k.grown.tape.trans h.grown.tape, k.grown.output.trans h.grown.output, Nat.le_trans hs k.grown.size, fun i hi hne => ?_⟩, ?_⟩
  · refine (k.grown.block i (Nat.lt_of_lt_of_le hi hs) ?_).trans (h.grown.block i hi hne)
    rcases h.at_ with e | ⟨b, e, hb⟩
    · rw [e]; exact hne
    · rw [e]
      intro hh
      injection hh with hh
      omega
  · rcases k.at_ with e | ⟨b, e, hb⟩
    · rw [e]; exact h.at_
    · exact .inr ⟨b, e, Nat.le_trans hs hb⟩
theorem AppG.refl {W : World} {base : Nat} {v : Value} {l : List Value} (h : OG E W base v l) : AppG (E := E) W base v l v W := ⟨h, World.grownBy.refl W _, .inl rfl⟩
theorem AppG.size {W w1 : World} {base : Nat} {v0 v1 : Value} {l : List Value} (h : AppG (E := E) W base v0 l v1 w1) : W.heap.size ≤ w1.heap.size := h.grown.size
/-- From nil on nothing that was there is written. -/
theorem AppG.fresh {W w1 : World} {base : Nat} {v1 : Value} {l : List Value} (h : AppG (E := E) W base (.slice none 0 0) l v1 w1) : Below W.heap.size W w1 :=
  ⟨h.grown.os, h.grown.tape, h.grown.output, h.grown.size, fun i hi => h.grown.block i hi (by simp [Value.ownBlock])⟩
/-- What lies below the base is as it was. -/
theorem AppG.kept {W w1 : World} {base : Nat} {v0 v1 : Value} {l l0 : List Value} (h : AppG (E := E) W base v0 l v1 w1) (h0 : OG E W base v0 l0) (hB : base ≤ W.heap.size) : Below base W w1 :=
  bgrown (Below.refl _ _) hB h.grown (fun k hk => (h0.lt k hk).1)

section
variable {P : Program} {ops : Array Oper} {rest : List Oper} {o : Oper} {a : Act} {Q : Exit → Act → World → Prop}
/-- 'append(v, xs...)', v a row of the call's own (nil let in), xs any slice of bytes. -/
theorem appG_run (t : TypeId) (z : Value) (bs : Nat) (hinfo : (P.info? E).map (fun i => (i.zero, i.size, i.bytes)) = some (some z, 1, bs)) (hzc : z.cells = #[z]) (ht : P.underlying t = some (.slice E)) (ty : TypeId)
    (W : World) (base : Nat) (v : Value) (l : List Value) (A : Option Addr) (c : Nat) (l2 : List Value) (HO : OG E W base v l) (HR : GS W A c l2) (hbase : base ≤ W.heap.size) (h1c : ∀ u ∈ l2, u.oneCell' = true) (hl : l.length + l2.length ≤ 140737488355328) (hlb : (l.length + l2.length) * bs ≤ 140737488355328) :
    ∃ v1 w1, (Builtin.append_ #[t, t] ty #[v, .slice A l2.length c]).run P W = .ok v1 w1 ∧ AppG (E := E) W base v (l ++ l2) v1 w1 := by
  obtain ⟨i0, hi, hzz⟩ := Option.map_eq_some_iff.1 hinfo
  simp only [Prod.mk.injEq] at hzz
  obtain ⟨hz0, hz1, hz2⟩ := hzz
  rcases Nat.eq_zero_or_pos l2.length with h0 | h0
  · have e2 : l2 = [] := List.eq_nil_of_length_eq_zero h0
    subst e2
    refine ⟨v, W, ?_, by simpa using HO, World.grownBy.refl W _, .inl rfl⟩
    rcases HO.1.2 with ⟨rfl, hn⟩ | ⟨g, cap, cur, rfl, _, _, hnc, _⟩
    · cases A <;> simp [Builtin.append_, run_underlying ht, sizeOf, typeInfo, hi, Builtin.lenOf, Builtin.firstCells, loadCells, loadCellsFrom]
    · cases A <;> simp [Builtin.append_, run_underlying ht, sizeOf, typeInfo, hi, Builtin.lenOf, Builtin.firstCells, hnc, storeCells, loadCells, loadCellsFrom]
  · obtain ⟨b, off, rfl, hcell⟩ := HR.cells h0
    have hcells : ∀ j u, l2[j]? = some u → W.cell? ((⟨b, off, none⟩ : Addr).add j) = some u := by
      intro j u hu
      have hj : j < l2.length := by
        rcases Nat.lt_or_ge j l2.length with h | h
        · exact h
        · simp [List.getElem?_eq_none h] at hu
      rw [List.getElem?_eq_getElem hj] at hu
      cases hu
      have hadd : (⟨b, off, none⟩ : Addr).add j = ⟨b, off + j, none⟩ := by unfold Addr.add; split <;> simp_all
      rw [hadd]
      exact hcell j hj
    obtain ⟨v1, w1, hr, h2, h3, _, h5⟩ := run_append_own_at (P := P) W base t ty E i0 z 1 bs ht hi hz0 hz1 hz2 (by rw [hzc]; rfl) (by omega) v l.length l HO.1 ⟨b, off, none⟩ l2.length c l2 (by simp) hcells
      h1c (by simp only [maxLen]; omega) hlb hbase
    refine ⟨v1, w1, hr, ⟨by rw [List.length_append]; exact h2, by rw [List.length_append]; omega⟩, h3, ?_⟩
    rcases h5 with h5 | h5
    · exact .inl h5
    · exact .inr ⟨_, h5, Nat.le_refl _⟩
theorem wp_appG (s x : Operand) (t : TypeId) (hgd : o.guard = none) (ho : o.op = .call { callee := .builtin .append, args := #[s, x], argTypes := #[t, t] })
    (z : Value) (bs : Nat) (hinfo : (P.info? E).map (fun i => (i.zero, i.size, i.bytes)) = some (some z, 1, bs)) (hzc : z.cells = #[z]) (ht : P.underlying t = some (.slice E))
    (W : World) (base : Nat) (v : Value) (l : List Value) (A : Option Addr) (c : Nat) (l2 : List Value) (hs : a.eval s = v) (hx : a.eval x = .slice A l2.length c) (HO : OG E W base v l) (HR : GS W A c l2) (hbase : base ≤ W.heap.size) (h1c : ∀ u ∈ l2, u.oneCell' = true) (hl : l.length + l2.length ≤ 140737488355328) (hlb : (l.length + l2.length) * bs ≤ 140737488355328)
    (h : ∀ v1 w1, AppG (E := E) W base v (l ++ l2) v1 w1 → wpList P ops Q rest (a.put o.dst v1) w1) : wpList P ops Q (o :: rest) a W := by
  obtain ⟨v1, w1, hr, hap⟩ := appG_run t z bs hinfo hzc ht o.type W base v l A c l2 HO HR hbase h1c hl hlb
  refine wpList_plain hgd fun K hK => ?_
  unfold Oper.wp execOp
  simp only [ho, resolve, invoke, builtin, Sem.run_bind, Sem.run_pure, Result.andThen_ok, List.map_toArray, List.map_cons, List.map_nil, hs, hx, hr]
  exact hK _ _ (h v1 w1 hap)
end
end
section
variable {E : TypeId}
/-- A cell of another block was written. -/
theorem GS.far {w : World} {A : Option Addr} {c : Nat} {l : List Value} (h : GS w A c l) {b o : Nat} (hA : ∀ a, A = some a → a.block ≠ b) (v : Value) : GS (w.setCell ⟨b, o, none⟩ v) A c l :=
  ⟨h.le, h.cap, fun hl => by
    obtain ⟨g, off, e, hc⟩ := h.cells hl
    refine ⟨g, off, e, fun j hj => ?_⟩
    rw [World.cell?_setCell_other _ _ _ _ (fun e2 => hA _ e (by injection e2 with e3; exact e3.symm))]
    exact hc j hj⟩
/-- A row known whole. -/
theorem OG.row {w : World} {base g n : Nat} {t : TypeId} {l : List Value} (hb : base ≤ g) (hg : w.heap[g]? = some (.cells l.toArray E (0, 0))) (hn : n = l.length) (hl : l.length ≤ 9223372036854775807) : OG E w base (.slice (some ⟨g, 0, none⟩) n n) l := by
  subst hn
  exact ⟨⟨by simp, .inr ⟨g, l.length, l.toArray, rfl, hb, hg, Nat.le_refl _, by simp only [maxLen]; omega, by simp, by simp⟩⟩, hl⟩
end
end Go.Proofs.YtbpopaegfhcdpaaGreatDoor.X


/- Lists of texts as arguments; the laws' tests of their sizes give an answer. -/
set_option linter.unusedVariables false
set_option linter.unusedSimpArgs false
set_option maxRecDepth 100000
namespace Go.Proofs.YtbpopaegfhcdpaaGreatDoor.X
open Go.RowKit Go.Proofs.YtbpopaegfhcdpaaGreatDoorW.PrintWords
open Go.Proofs.YtbpopaegfhcdpaaGreatDoor.PFnDocAnyLookup
end Go.Proofs.YtbpopaegfhcdpaaGreatDoor.X


/- ReadLength and ReadElement, their slices told in every world; the rest of a list of texts. -/
set_option linter.unusedVariables false
set_option linter.unusedSimpArgs false
set_option maxRecDepth 100000
namespace Go.Proofs.YtbpopaegfhcdpaaGreatDoor.X
open Go.RowKit Go.Proofs.YtbpopaegfhcdpaaGreatDoorW.PrintLast
namespace Lk
open Sp Al Av Aw Ck
def R117.T4 : Bool × List (List Nat × List Nat) := (true, [([], []), ([0], [0]), ([1], [1]), ([2], [2]), ([], []), ([4], [4]), ([5], [5]), ([6], [6]), ([7], [7]), ([3, 8], [3, 8]), ([], []), ([10], [10]), ([11], [11]), ([12], [12]), ([13], [13]), ([9, 14], [9, 14]), ([], []), ([16], [16]), ([17], [17]), ([18], [18]), ([19], [19]), ([15, 20], [15, 20]), ([21, 0, 1, 2, 3, 4, 5, 6, 7, 8, 9, 10, 11, 12, 13, 14, 15, 16, 17, 18, 19, 20, 21], [21])])
def R117.B4 : List Nat := [0, 1, 3, 7, 0, 16, 48, 112, 240, 511, 0, 1024, 3072, 7168, 15360, 32767, 0, 65536, 196608, 458752, 983040, 2097151, 4194303]
theorem R117.tab4 : rtab .any (opsOf Tryz.f117 4) = R117.T4 := by kernel_rfl
theorem R117.bits4 : waitsOk R117.T4.2 R117.B4 = true := by kernel_rfl
def R117.T5 : Bool × List (List Nat × List Nat) := (true, [([], []), ([], []), ([1], [1]), ([0, 0], [0]), ([2, 3, 0, 1, 2, 3], [2]), ([4, 0, 1, 2, 3, 4], [])])
def R117.B5 : List Nat := [0, 0, 2, 1, 15, 31]
theorem R117.tab5 : rtab .any (opsOf Tryz.f117 5) = R117.T5 := by kernel_rfl
theorem R117.bits5 : waitsOk R117.T5.2 R117.B5 = true := by kernel_rfl
set_option maxHeartbeats 1600000 in
theorem readI32S (A : Option Addr) (c : Nat) (b0 b1 b2 b3 : UInt8) (r : List UInt8) (w : World) (hs : SB w A c (b0 :: b1 :: b2 :: b3 :: r)) :
    Calls Tryz.prog 117 #[.slice A (b0 :: b1 :: b2 :: b3 :: r).length c] w fun e w' => ∃ A1, e = .returned (.tuple #[.int .i32 (wrap32 (leI [b0, b1, b2, b3])), .slice A1 r.length (c - 4), .bool true]) ∧ (∀ wx, SB wx A c (b0 :: b1 :: b2 :: b3 :: r) → SB wx A1 (c - 4) r) ∧ Below w.heap.size w w' := by
  obtain ⟨A1, e1, s1⟩ := SB.from_ (P := Tryz.prog) Tryz.underlying22 rfl rfl .i64 A c (b0 :: b1 :: b2 :: b3 :: r) 4 (by simp) hs.le
  have e1' : ∀ W : World, (Instr.slice 22 (.slice A (b0 :: b1 :: b2 :: b3 :: r).length c) (some (.int .i64 4)) none none).run Tryz.prog W = .ok (.slice A1 r.length (c - 4)) W := fun W => by have h := e1 W; rw [show (b0 :: b1 :: b2 :: b3 :: r).length - 4 = r.length from by simp] at h; exact h
  have T1 : Hid (∀ wx, SB wx A c (b0 :: b1 :: b2 :: b3 :: r) → SB wx A1 (c - 4) r) := Lib.hid s1
  have hcap : r.length + 4 ≤ c := by have := hs.le; simpa using this
  have hlen9 : c ≤ 9223372036854775807 := hs.cap
  obtain ⟨b, off, rfl, hc⟩ := hs.cells (by simp)
  have c0 : w.cell? ⟨b, off, none⟩ = some (.int .u8 b0.toNat) := by have h := hc 0 (by simp); exact h
  have c1 : w.cell? ⟨b, off + 1, none⟩ = some (.int .u8 b1.toNat) := by have h := hc 1 (by simp); exact h
  have c2 : w.cell? ⟨b, off + 2, none⟩ = some (.int .u8 b2.toNat) := by have h := hc 2 (by simp); exact h
  have c3 : w.cell? ⟨b, off + 3, none⟩ = some (.int .u8 b3.toNat) := by have h := hc 3 (by simp); exact h
  have hv : bits .or .i32 (bits .or .i32 (bits .or .i32 (wrap32 (b0.toNat : Int)) (wrap32 ((wrap32 (b1.toNat : Int)) * 256))) (wrap32 ((wrap32 (b2.toNat : Int)) * 65536))) (wrap32 ((wrap32 (b3.toNat : Int)) * 16777216)) = wrap32 (leI [b0, b1, b2, b3]) := by
    have hb0 : b0.toNat < 256 := b0.toNat_lt
    have hb1 : b1.toNat < 256 := b1.toNat_lt
    have hb2 : b2.toNat < 256 := b2.toNat_lt
    have hb3 : b3.toNat < 256 := b3.toNat_lt
    have h := or4_val b0.toNat b1.toNat b2.toNat b3.toNat hb0 hb1 hb2 hb3
    rw [h]
    congr 1
    simp only [leI]
    omega
  obtain ⟨x0, h0⟩ : ∃ x, x = (b0.toNat : Int) := ⟨_, rfl⟩
  rw [← h0] at c0 hv
  obtain ⟨x1, h1⟩ : ∃ x, x = (b1.toNat : Int) := ⟨_, rfl⟩
  rw [← h1] at c1 hv
  obtain ⟨x2, h2⟩ : ∃ x, x = (b2.toNat : Int) := ⟨_, rfl⟩
  rw [← h2] at c2 hv
  obtain ⟨x3, h3⟩ : ∃ x, x = (b3.toNat : Int) := ⟨_, rfl⟩
  rw [← h3] at c3 hv
  obtain ⟨xv, hxv⟩ : ∃ x, x = wrap32 (leI [b0, b1, b2, b3]) := ⟨_, rfl⟩
  rw [← hxv] at hv ⊢
  have HV := Lib.hid hv
  obtain ⟨q, hq⟩ : ∃ x, x = (b0 :: b1 :: b2 :: b3 :: r).length := ⟨_, rfl⟩
  have hq4 : 4 ≤ q := by rw [hq]; simp
  rw [← hq] at e1' ⊢
  clear hq hs hc hv hxv e1 s1 h0 h1 h2 h3
  go_enter Tryz.func117, Tryz.ntmps117
  go_wp2
  have g0 : 0 < q := by omega
  have g1 : (1 : Int) < q := by omega
  have g2 : (2 : Int) < q := by omega
  have g3 : (3 : Int) < q := by omega
  refine start_ (n := 23) (S := fun w' => w'.cell? ⟨b, off, none⟩ = some (.int .u8 x0) ∧ w'.cell? ⟨b, off + 1, none⟩ = some (.int .u8 x1) ∧ w'.cell? ⟨b, off + 2, none⟩ = some (.int .u8 x2) ∧ w'.cell? ⟨b, off + 3, none⟩ = some (.int .u8 x3)) (ds := []) #[false, false, false, false, false, false, false, false, false, false, false, false, false, false, false, false, false, false, false, false, false, false, false] (by kernel_rfl) rfl rfl ⟨(by go_simp), (by go_simp), (by go_simp), (by go_simp)⟩ (fun hHeld => ?_)
  refine with_tabW R117.tab4 R117.bits4 (fun HT_ HW_ => ?_)
  refine pure_ (i := 0) (N := some 13) (v := ?_) (a' := ?_) #[true, false, false, false, false, false, false, false, false, false, false, false, false, false, false, false, false, false, false, false, false, false, false] rfl rfl (any_of HT_.out (by kernel_rfl)) (fun _ _ _ h => h) (Or.inl ⟨by rfl, ?_⟩) ?_ ?_
  rotate_left
  · intro w'
    go_simp
    with_reducible rfl
  rotate_left
  · simp only [Act.put, List.setIfInBounds_toArray, List.set_cons_zero, List.set_cons_succ, i64_w, i32_w]
    rfl
  refine pure_ (i := 1) (N := some 14) (v := ?_) (a' := ?_) #[true, true, false, false, false, false, false, false, false, false, false, false, false, false, false, false, false, false, false, false, false, false, false] rfl rfl (any_of HT_.out (by kernel_rfl)) (fun _ _ _ h => h) (Or.inl ⟨by rfl, ?_⟩) ?_ ?_
  rotate_left
  · intro w'
    go_simp
    with_reducible rfl
  rotate_left
  · simp only [Act.put, List.setIfInBounds_toArray, List.set_cons_zero, List.set_cons_succ, i64_w, i32_w]
    rfl
  refine pure_ (i := 4) (N := some 17) (v := ?_) (a' := ?_) #[true, true, false, false, true, false, false, false, false, false, false, false, false, false, false, false, false, false, false, false, false, false, false] rfl rfl (any_of HT_.out (by kernel_rfl)) (fun _ _ _ h => h) (Or.inl ⟨by rfl, ?_⟩) ?_ ?_
  rotate_left
  · intro w'
    go_simp
    with_reducible rfl
  rotate_left
  · simp only [Act.put, List.setIfInBounds_toArray, List.set_cons_zero, List.set_cons_succ, i64_w, i32_w]
    rfl
  refine pure_ (i := 5) (N := some 18) (v := ?_) (a' := ?_) #[true, true, false, false, true, true, false, false, false, false, false, false, false, false, false, false, false, false, false, false, false, false, false] rfl rfl (any_of HT_.out (by kernel_rfl)) (fun _ _ _ h => h) (Or.inl ⟨by rfl, ?_⟩) ?_ ?_
  rotate_left
  · intro w'
    go_simp
    with_reducible rfl
  rotate_left
  · simp only [Act.put, List.setIfInBounds_toArray, List.set_cons_zero, List.set_cons_succ, i64_w, i32_w]
    rfl
  refine pure_ (i := 10) (N := some 23) (v := ?_) (a' := ?_) #[true, true, false, false, true, true, false, false, false, false, true, false, false, false, false, false, false, false, false, false, false, false, false] rfl rfl (any_of HT_.out (by kernel_rfl)) (fun _ _ _ h => h) (Or.inl ⟨by rfl, ?_⟩) ?_ ?_
  rotate_left
  · intro w'
    go_simp
    with_reducible rfl
  rotate_left
  · simp only [Act.put, List.setIfInBounds_toArray, List.set_cons_zero, List.set_cons_succ, i64_w, i32_w]
    rfl
  refine pure_ (i := 11) (N := some 24) (v := ?_) (a' := ?_) #[true, true, false, false, true, true, false, false, false, false, true, true, false, false, false, false, false, false, false, false, false, false, false] rfl rfl (any_of HT_.out (by kernel_rfl)) (fun _ _ _ h => h) (Or.inl ⟨by rfl, ?_⟩) ?_ ?_
  rotate_left
  · intro w'
    go_simp
    with_reducible rfl
  rotate_left
  · simp only [Act.put, List.setIfInBounds_toArray, List.set_cons_zero, List.set_cons_succ, i64_w, i32_w]
    rfl
  refine pure_ (i := 16) (N := some 29) (v := ?_) (a' := ?_) #[true, true, false, false, true, true, false, false, false, false, true, true, false, false, false, false, true, false, false, false, false, false, false] rfl rfl (any_of HT_.out (by kernel_rfl)) (fun _ _ _ h => h) (Or.inl ⟨by rfl, ?_⟩) ?_ ?_
  rotate_left
  · intro w'
    go_simp
    with_reducible rfl
  rotate_left
  · simp only [Act.put, List.setIfInBounds_toArray, List.set_cons_zero, List.set_cons_succ, i64_w, i32_w]
    rfl
  refine pure_ (i := 17) (N := some 30) (v := ?_) (a' := ?_) #[true, true, false, false, true, true, false, false, false, false, true, true, false, false, false, false, true, true, false, false, false, false, false] rfl rfl (any_of HT_.out (by kernel_rfl)) (fun _ _ _ h => h) (Or.inl ⟨by rfl, ?_⟩) ?_ ?_
  rotate_left
  · intro w'
    go_simp
    with_reducible rfl
  rotate_left
  · simp only [Act.put, List.setIfInBounds_toArray, List.set_cons_zero, List.set_cons_succ, i64_w, i32_w]
    rfl
  refine take_ (i := 2) (N := some 15) (v := ?_) (a' := ?_) #[true, true, true, false, true, true, false, false, false, false, true, true, false, false, false, false, true, true, false, false, false, false, false] rfl rfl (take_ofW HT_.out HW_.out (by kernel_rfl)) (fun _ _ _ h => h) (Or.inl ⟨by rfl, ?_⟩) hHeld ?_ ?_
  rotate_left
  · rintro w' ⟨s0, s1, s2, s3⟩
    go_simp
    with_reducible rfl
  rotate_left
  · simp only [Act.put, List.setIfInBounds_toArray, List.set_cons_zero, List.set_cons_succ, i64_w, i32_w]
    rfl
  refine pure_ (i := 3) (N := some 16) (v := ?_) (a' := ?_) #[true, true, true, true, true, true, false, false, false, false, true, true, false, false, false, false, true, true, false, false, false, false, false] rfl rfl (any_of HT_.out (by kernel_rfl)) (fun _ _ _ h => h) (Or.inl ⟨by rfl, ?_⟩) ?_ ?_
  rotate_left
  · intro w'
    go_simp
    with_reducible rfl
  rotate_left
  · simp only [Act.put, List.setIfInBounds_toArray, List.set_cons_zero, List.set_cons_succ, i64_w, i32_w]
    rfl
  refine take_ (i := 6) (N := some 19) (v := ?_) (a' := ?_) #[true, true, true, true, true, true, true, false, false, false, true, true, false, false, false, false, true, true, false, false, false, false, false] rfl rfl (take_ofW HT_.out HW_.out (by kernel_rfl)) (fun _ _ _ h => h) (Or.inl ⟨by rfl, ?_⟩) hHeld ?_ ?_
  rotate_left
  · rintro w' ⟨s0, s1, s2, s3⟩
    go_simp
    with_reducible rfl
  rotate_left
  · simp only [Act.put, List.setIfInBounds_toArray, List.set_cons_zero, List.set_cons_succ, i64_w, i32_w]
    rfl
  refine pure_ (i := 7) (N := some 20) (v := ?_) (a' := ?_) #[true, true, true, true, true, true, true, true, false, false, true, true, false, false, false, false, true, true, false, false, false, false, false] rfl rfl (any_of HT_.out (by kernel_rfl)) (fun _ _ _ h => h) (Or.inl ⟨by rfl, ?_⟩) ?_ ?_
  rotate_left
  · intro w'
    go_simp
    with_reducible rfl
  rotate_left
  · simp only [Act.put, List.setIfInBounds_toArray, List.set_cons_zero, List.set_cons_succ, i64_w, i32_w]
    rfl
  refine pure_ (i := 8) (N := some 21) (v := ?_) (a' := ?_) #[true, true, true, true, true, true, true, true, true, false, true, true, false, false, false, false, true, true, false, false, false, false, false] rfl rfl (any_of HT_.out (by kernel_rfl)) (fun _ _ _ h => h) (Or.inl ⟨by rfl, ?_⟩) ?_ ?_
  rotate_left
  · intro w'
    go_simp
    with_reducible rfl
  rotate_left
  · simp only [Act.put, List.setIfInBounds_toArray, List.set_cons_zero, List.set_cons_succ, i64_w, i32_w]
    rfl
  refine pure_ (i := 9) (N := some 22) (v := ?_) (a' := ?_) #[true, true, true, true, true, true, true, true, true, true, true, true, false, false, false, false, true, true, false, false, false, false, false] rfl rfl (any_of HT_.out (by kernel_rfl)) (fun _ _ _ h => h) (Or.inl ⟨by rfl, ?_⟩) ?_ ?_
  rotate_left
  · intro w'
    go_simp
    with_reducible rfl
  rotate_left
  · simp only [Act.put, List.setIfInBounds_toArray, List.set_cons_zero, List.set_cons_succ, i64_w, i32_w]
    rfl
  refine take_ (i := 12) (N := some 25) (v := ?_) (a' := ?_) #[true, true, true, true, true, true, true, true, true, true, true, true, true, false, false, false, true, true, false, false, false, false, false] rfl rfl (take_ofW HT_.out HW_.out (by kernel_rfl)) (fun _ _ _ h => h) (Or.inl ⟨by rfl, ?_⟩) hHeld ?_ ?_
  rotate_left
  · rintro w' ⟨s0, s1, s2, s3⟩
    go_simp
    with_reducible rfl
  rotate_left
  · simp only [Act.put, List.setIfInBounds_toArray, List.set_cons_zero, List.set_cons_succ, i64_w, i32_w]
    rfl
  refine pure_ (i := 13) (N := some 26) (v := ?_) (a' := ?_) #[true, true, true, true, true, true, true, true, true, true, true, true, true, true, false, false, true, true, false, false, false, false, false] rfl rfl (any_of HT_.out (by kernel_rfl)) (fun _ _ _ h => h) (Or.inl ⟨by rfl, ?_⟩) ?_ ?_
  rotate_left
  · intro w'
    go_simp
    with_reducible rfl
  rotate_left
  · simp only [Act.put, List.setIfInBounds_toArray, List.set_cons_zero, List.set_cons_succ, i64_w, i32_w]
    rfl
  refine pure_ (i := 14) (N := some 27) (v := ?_) (a' := ?_) #[true, true, true, true, true, true, true, true, true, true, true, true, true, true, true, false, true, true, false, false, false, false, false] rfl rfl (any_of HT_.out (by kernel_rfl)) (fun _ _ _ h => h) (Or.inl ⟨by rfl, ?_⟩) ?_ ?_
  rotate_left
  · intro w'
    go_simp
    with_reducible rfl
  rotate_left
  · simp only [Act.put, List.setIfInBounds_toArray, List.set_cons_zero, List.set_cons_succ, i64_w, i32_w]
    rfl
  refine pure_ (i := 15) (N := some 28) (v := ?_) (a' := ?_) #[true, true, true, true, true, true, true, true, true, true, true, true, true, true, true, true, true, true, false, false, false, false, false] rfl rfl (any_of HT_.out (by kernel_rfl)) (fun _ _ _ h => h) (Or.inl ⟨by rfl, ?_⟩) ?_ ?_
  rotate_left
  · intro w'
    go_simp
    with_reducible rfl
  rotate_left
  · simp only [Act.put, List.setIfInBounds_toArray, List.set_cons_zero, List.set_cons_succ, i64_w, i32_w]
    rfl
  refine take_ (i := 18) (N := some 31) (v := ?_) (a' := ?_) #[true, true, true, true, true, true, true, true, true, true, true, true, true, true, true, true, true, true, true, false, false, false, false] rfl rfl (take_ofW HT_.out HW_.out (by kernel_rfl)) (fun _ _ _ h => h) (Or.inl ⟨by rfl, ?_⟩) hHeld ?_ ?_
  rotate_left
  · rintro w' ⟨s0, s1, s2, s3⟩
    go_simp
    with_reducible rfl
  rotate_left
  · simp only [Act.put, List.setIfInBounds_toArray, List.set_cons_zero, List.set_cons_succ, i64_w, i32_w]
    rfl
  refine pure_ (i := 19) (N := some 32) (v := ?_) (a' := ?_) #[true, true, true, true, true, true, true, true, true, true, true, true, true, true, true, true, true, true, true, true, false, false, false] rfl rfl (any_of HT_.out (by kernel_rfl)) (fun _ _ _ h => h) (Or.inl ⟨by rfl, ?_⟩) ?_ ?_
  rotate_left
  · intro w'
    go_simp
    with_reducible rfl
  rotate_left
  · simp only [Act.put, List.setIfInBounds_toArray, List.set_cons_zero, List.set_cons_succ, i64_w, i32_w]
    rfl
  refine pure_ (i := 20) (N := some 33) (v := ?_) (a' := ?_) #[true, true, true, true, true, true, true, true, true, true, true, true, true, true, true, true, true, true, true, true, true, false, false] rfl rfl (any_of HT_.out (by kernel_rfl)) (fun _ _ _ h => h) (Or.inl ⟨by rfl, ?_⟩) ?_ ?_
  rotate_left
  · intro w'
    go_simp
    with_reducible rfl
  rotate_left
  · simp only [Act.put, List.setIfInBounds_toArray, List.set_cons_zero, List.set_cons_succ, i64_w, i32_w]
    rfl
  refine pure_ (i := 21) (N := some 34) (v := ?_) (a' := ?_) #[true, true, true, true, true, true, true, true, true, true, true, true, true, true, true, true, true, true, true, true, true, true, false] rfl rfl (any_of HT_.out (by kernel_rfl)) (fun _ _ _ h => h) (Or.inl ⟨by rfl, ?_⟩) ?_ ?_
  rotate_left
  · intro w'
    go_simp
    with_reducible rfl
  rotate_left
  · simp only [Act.put, List.setIfInBounds_toArray, List.set_cons_zero, List.set_cons_succ, i64_w, i32_w]
    rfl
  refine pure_ (i := 22) (N := some 5) (v := ?_) (a' := ?_) #[true, true, true, true, true, true, true, true, true, true, true, true, true, true, true, true, true, true, true, true, true, true, true] rfl rfl (any_of HT_.out (by kernel_rfl)) (fun _ _ _ h => h) (Or.inl ⟨by rfl, ?_⟩) ?_ ?_
  rotate_left
  · intro w'
    go_simp
    with_reducible rfl
  rotate_left
  · simp only [Act.put, List.setIfInBounds_toArray, List.set_cons_zero, List.set_cons_succ, i64_w, i32_w]
    rfl
  refine done_ (done_of HT_.out (by kernel_rfl)) ?_
  rw [HV.out]
  clear HV hHeld c0 c1 c2 c3
  go_wp2
  refine start_ (n := 6) (S := fun w' => True) (ds := []) #[false, false, false, false, false, false] (by kernel_rfl) rfl rfl trivial (fun hHeld => ?_)
  refine with_tabW R117.tab5 R117.bits5 (fun HT_ HW_ => ?_)
  refine pure_ (i := 0) (N := some 35) (v := ?_) (a' := ?_) #[true, false, false, false, false, false] rfl rfl (any_of HT_.out (by kernel_rfl)) (fun _ _ _ h => h) (Or.inl ⟨by rfl, ?_⟩) ?_ ?_
  rotate_left
  · intro w'
    go_simp
    with_reducible rfl
  rotate_left
  · simp only [Act.put, List.setIfInBounds_toArray, List.set_cons_zero, List.set_cons_succ, i64_w, i32_w]
    rfl
  refine pure_ (i := 1) (N := some 36) (v := ?_) (a' := ?_) #[true, true, false, false, false, false] rfl rfl (any_of HT_.out (by kernel_rfl)) (fun _ _ _ h => h) (Or.inl ⟨by rfl, ?_⟩) ?_ ?_
  rotate_left
  · intro w'
    go_simp
    with_reducible rfl
  rotate_left
  · simp only [Act.put, List.setIfInBounds_toArray, List.set_cons_zero, List.set_cons_succ, i64_w, i32_w]
    rfl
  refine pure_ (i := 2) (N := some 37) (v := ?_) (a' := ?_) #[true, true, true, false, false, false] rfl rfl (any_of HT_.out (by kernel_rfl)) (fun _ _ _ h => h) (Or.inl ⟨by rfl, ?_⟩) ?_ ?_
  rotate_left
  · intro w'
    go_simp
    with_reducible rfl
  rotate_left
  · simp only [Act.put, List.setIfInBounds_toArray, List.set_cons_zero, List.set_cons_succ, i64_w, i32_w]
    rfl
  refine pure_ (i := 3) (N := some 2) (v := ?_) (a' := ?_) #[true, true, true, true, false, false] rfl rfl (any_of HT_.out (by kernel_rfl)) (fun _ _ _ h => h) (Or.inl ⟨by rfl, ?_⟩) ?_ ?_
  rotate_left
  · intro w'
    go_simp
    with_reducible rfl
  rotate_left
  · simp only [Act.put, List.setIfInBounds_toArray, List.set_cons_zero, List.set_cons_succ, i64_w, i32_w]
    rfl
  refine pure_ (i := 4) (N := some 3) (v := ?_) (a' := ?_) #[true, true, true, true, true, false] rfl rfl (any_of HT_.out (by kernel_rfl)) (fun _ _ _ h => h) (Or.inl ⟨by rfl, ?_⟩) ?_ ?_
  rotate_left
  · intro w'
    go_simp
    with_reducible rfl
  rotate_left
  · simp only [Act.put, List.setIfInBounds_toArray, List.set_cons_zero, List.set_cons_succ, i64_w, i32_w]
    rfl
  refine pure_ (i := 5) (N := some 4) (v := ?_) (a' := ?_) #[true, true, true, true, true, true] rfl rfl (any_of HT_.out (by kernel_rfl)) (fun _ _ _ h => h) (Or.inl ⟨by rfl, ?_⟩) ?_ ?_
  rotate_left
  · intro w'
    go_simp
    with_reducible rfl
  rotate_left
  · simp only [Act.put, List.setIfInBounds_toArray, List.set_cons_zero, List.set_cons_succ, i64_w, i32_w]
    rfl
  refine done_ (done_of HT_.out (by kernel_rfl)) ?_
  go_wp2
  exact bodyPost_ret (v := .tuple #[.int .i32 xv, .slice A1 r.length (c - 4), .bool true]) (by simp [results, Tryz.results117, go_sem]) rfl ⟨A1, rfl, T1.out, bdrew (bdrew (Below.refl _ _))⟩
theorem readLengthS (A : Option Addr) (c : Nat) (l : List UInt8) (w : World) (hs : SB w A c l) :
    Calls Tryz.prog 114 #[.slice A l.length c] w fun e w' => ∃ A1 n1 c1, e = .returned (.tuple #[.int .i32 (readLen l).1, .slice A1 n1 c1, .bool (readLen l).2]) ∧ (4 ≤ l.length → n1 = l.length - 4 ∧ c1 = c - 4 ∧ ∀ wx, SB wx A c l → SB wx A1 c1 (l.drop 4)) ∧ (l.length < 4 → A1 = A ∧ n1 = l.length ∧ c1 = c) ∧ Below w.heap.size w w' := by
  by_cases h4 : l.length < 4
  · have hr : readLen l = (0, false) := by
      match l, h4 with
      | [], _ | [_], _ | [_, _], _ | [_, _, _], _ => rfl
    rw [hr]
    have HC := Lib.hid (readI32_short A c l w h4)
    have H4 := Lib.hid h4
    clear hs hr h4
    go_enter Tryz.func114, Tryz.ntmps114
    go_wp2_with fail
    refine HC.out.mono ?_
    rintro e w1 ⟨rfl, hb⟩
    go_wp2_with fail
    exact bodyPost_ret (v := .tuple #[.int .i32 0, .slice A l.length c, .bool false]) (by simp [results, Tryz.results114, go_sem]) rfl ⟨A, l.length, c, rfl, fun h => absurd h (by have := H4.out; omega), fun _ => ⟨rfl, rfl, rfl⟩, hb⟩
  · obtain ⟨b0, b1, b2, b3, r, rfl⟩ : ∃ b0 b1 b2 b3 r, l = b0 :: b1 :: b2 :: b3 :: r := by
      match l, h4 with
      | b0 :: b1 :: b2 :: b3 :: r, _ => exact ⟨b0, b1, b2, b3, r, rfl⟩
      | [], h => exact absurd (by simp) h
      | [_], h => exact absurd (by simp) h
      | [_, _], h => exact absurd (by simp) h
      | [_, _, _], h => exact absurd (by simp) h
    clear h4
    · skip
      have hc := readI32S A c b0 b1 b2 b3 r w hs
      have hr : readLen (b0 :: b1 :: b2 :: b3 :: r) = (wrap32 (leI [b0, b1, b2, b3]), decide (0 ≤ wrap32 (leI [b0, b1, b2, b3]))) := rfl
      rw [hr]
      obtain ⟨x, hx⟩ : ∃ x, x = wrap32 (leI [b0, b1, b2, b3]) := ⟨_, rfl⟩
      rw [← hx] at hc ⊢
      obtain ⟨q, hq⟩ : ∃ q, q = (b0 :: b1 :: b2 :: b3 :: r).length := ⟨_, rfl⟩
      have hq4 : r.length = q - 4 := by rw [hq]; simp
      rw [← hq] at hc ⊢
      have HC := Lib.hid hc
      have HQ4 := Lib.hid hq4
      have hge : 4 ≤ q := by rw [hq]; simp
      clear hs hx hc hr hq hq4
      by_cases h0 : x < 0
      all_goals
        go_enter Tryz.func114, Tryz.ntmps114
        go_wp2_with fail
        refine HC.out.mono ?_
        rintro e w1 ⟨A1, rfl, hs1, hb⟩
        have HS1 := Lib.hid hs1
        clear hs1
        go_wp2_with fail
        exact bodyPost_ret (v := .tuple #[.int .i32 x, .slice A1 r.length (c - 4), .bool (decide (0 ≤ x))]) (by simp [results, Tryz.results114, go_sem]; try omega) rfl ⟨A1, r.length, c - 4, rfl, fun _ => ⟨HQ4.out, rfl, HS1.out⟩, fun h => by omega, hb⟩
end Lk
end Go.Proofs.YtbpopaegfhcdpaaGreatDoor.X


/- encoding/binary's little-endian reads and writes, laid from the shelf. -/
set_option linter.unusedVariables false
namespace Go.Proofs.YtbpopaegfhcdpaaGreatDoor
open Go.Shelf
shelf_lay LaysBin.n30 Mn 30 at Tryz as Tryz.leUint32
shelf_lay LaysBin.n33 Mn 33 at Tryz as Tryz.leUint64
shelf_lay LaysBin.n31 Mn 31 at Tryz as Tryz.lePutUint32
end Go.Proofs.YtbpopaegfhcdpaaGreatDoor
namespace Go.Proofs.YtbpopaegfhcdpaaGreatDoor.X
open Go.RowKit
theorem leUint32 (A : Option Addr) (c : Nat) (b0 b1 b2 b3 : UInt8) (r : List UInt8) (w : World) (hs : SB w A c (b0 :: b1 :: b2 :: b3 :: r)) :
    Calls Tryz.prog 168 #[.agg #[], .slice A (b0 :: b1 :: b2 :: b3 :: r).length c] w fun e w' => e = .returned (.int .u32 (Lib.leNat [b0, b1, b2, b3])) ∧ Below w.heap.size w w' := by
  obtain ⟨b, off, rfl, hc⟩ := hs.cells (by simp)
  exact Any.binary_LE_Uint32 Tryz.leUint32 b off _ c b0 b1 b2 b3 w (by simp) (by have h := hc 0 (by simp); exact h) (by have h := hc 1 (by simp); exact h) (by have h := hc 2 (by simp); exact h) (by have h := hc 3 (by simp); exact h)
theorem leUint64 (A : Option Addr) (c : Nat) (b0 b1 b2 b3 b4 b5 b6 b7 : UInt8) (r : List UInt8) (w : World) (hs : SB w A c (b0 :: b1 :: b2 :: b3 :: b4 :: b5 :: b6 :: b7 :: r)) :
    Calls Tryz.prog 166 #[.agg #[], .slice A (b0 :: b1 :: b2 :: b3 :: b4 :: b5 :: b6 :: b7 :: r).length c] w fun e w' => e = .returned (.int .u64 (Lib.leNat [b0, b1, b2, b3, b4, b5, b6, b7])) ∧ Below w.heap.size w w' := by
  obtain ⟨b, off, rfl, hc⟩ := hs.cells (by simp)
  exact Any.binary_LE_Uint64 Tryz.leUint64 b off _ c b0 b1 b2 b3 b4 b5 b6 b7 w (by simp) (by have h := hc 0 (by simp); exact h) (by have h := hc 1 (by simp); exact h) (by have h := hc 2 (by simp); exact h) (by have h := hc 3 (by simp); exact h) (by have h := hc 4 (by simp); exact h) (by have h := hc 5 (by simp); exact h) (by have h := hc 6 (by simp); exact h) (by have h := hc 7 (by simp); exact h)
end Go.Proofs.YtbpopaegfhcdpaaGreatDoor.X


/- bsoncore's Read functions by kind, for all bytes: numbers, texts. -/
set_option linter.unusedVariables false
set_option linter.unusedSimpArgs false
set_option maxRecDepth 100000
namespace Go.Proofs.YtbpopaegfhcdpaaGreatDoor.X
open Go.RowKit Go.Proofs.YtbpopaegfhcdpaaGreatDoorW.PrintLast
namespace Rr
open Sp Al Av Aw Ck Lk
def R118.T3 : Bool × List (List Nat × List Nat) := (true, [([], []), ([], []), ([0, 1], [0, 1]), ([], []), ([3], [3]), ([2, 2, 0, 1, 2], [2]), ([4, 5, 0, 1, 2, 3, 4, 5], [4]), ([6, 0, 1, 2, 3, 4, 5, 6], [])])
def R118.B3 : List Nat := [0, 0, 3, 0, 8, 7, 63, 127]
theorem R118.tab3 : rtab .any (opsOf Tryz.f118 3) = R118.T3 := by kernel_rfl
theorem R118.bits3 : waitsOk R118.T3.2 R118.B3 = true := by kernel_rfl
def R111.T3 : Bool × List (List Nat × List Nat) := (true, [([], []), ([], []), ([0, 1], [0, 1]), ([], []), ([3], [3]), ([2, 2, 0, 1, 2], [2]), ([4, 5, 0, 1, 2, 3, 4, 5], [4]), ([6, 0, 1, 2, 3, 4, 5, 6], [])])
def R111.B3 : List Nat := [0, 0, 3, 0, 8, 7, 63, 127]
theorem R111.tab3 : rtab .any (opsOf Tryz.f111 3) = R111.T3 := by kernel_rfl
theorem R111.bits3 : waitsOk R111.T3.2 R111.B3 = true := by kernel_rfl
def R115.T4 : Bool × List (List Nat × List Nat) := (true, [([], []), ([0], [0]), ([1], [1]), ([2], [2]), ([], []), ([4], [4]), ([5], [5]), ([6], [6]), ([7], [7]), ([3, 8], [3, 8]), ([], []), ([10], [10]), ([11], [11]), ([12], [12]), ([13], [13]), ([9, 14], [9, 14]), ([], []), ([16], [16]), ([17], [17]), ([18], [18]), ([19], [19]), ([15, 20], [15, 20]), ([], []), ([22], [22]), ([23], [23]), ([24], [24]), ([25], [25]), ([21, 26], [21, 26]), ([], []), ([28], [28]), ([29], [29]), ([30], [30]), ([31], [31]), ([27, 32], [27, 32]), ([], []), ([34], [34]), ([35], [35]), ([36], [36]), ([37], [37]), ([33, 38], [33, 38]), ([], []), ([40], [40]), ([41], [41]), ([42], [42]), ([43], [43]), ([39, 44], [39, 44]), ([45, 0, 1, 2, 3, 4, 5, 6, 7, 8, 9, 10, 11, 12, 13, 14, 15, 16, 17, 18, 19, 20, 21, 22, 23, 24, 25, 26, 27, 28, 29, 30, 31, 32, 33, 34, 35, 36, 37, 38, 39, 40, 41, 42, 43, 44, 45], [45])])
def R115.B4 : List Nat := [0, 1, 3, 7, 0, 16, 48, 112, 240, 511, 0, 1024, 3072, 7168, 15360, 32767, 0, 65536, 196608, 458752, 983040, 2097151, 0, 4194304, 12582912, 29360128, 62914560, 134217727, 0, 268435456, 805306368, 1879048192, 4026531840, 8589934591, 0, 17179869184, 51539607552, 120259084288, 257698037760, 549755813887, 0, 1099511627776, 3298534883328, 7696581394432, 16492674416640, 35184372088831, 70368744177663]
theorem R115.tab4 : rtab .any (opsOf Tryz.f115 4) = R115.T4 := by kernel_rfl
theorem R115.bits4 : waitsOk R115.T4.2 R115.B4 = true := by kernel_rfl
def R115.T5 : Bool × List (List Nat × List Nat) := (true, [([], []), ([], []), ([1], [1]), ([0, 0], [0]), ([2, 3, 0, 1, 2, 3], [2]), ([4, 0, 1, 2, 3, 4], [])])
def R115.B5 : List Nat := [0, 0, 2, 1, 15, 31]
theorem R115.tab5 : rtab .any (opsOf Tryz.f115 5) = R115.T5 := by kernel_rfl
theorem R115.bits5 : waitsOk R115.T5.2 R115.B5 = true := by kernel_rfl
def R112.T6 : Bool × List (List Nat × List Nat) := (true, [([], []), ([], []), ([1], [1]), ([0, 2], [0, 2]), ([3], [3]), ([], []), ([], []), ([5, 6], [5, 6]), ([4, 0, 1, 2, 3, 4], [4]), ([7, 8, 0, 1, 2, 3, 4, 5, 6, 7, 8], [7]), ([9, 0, 1, 2, 3, 4, 5, 6, 7, 8, 9], [])])
def R112.B6 : List Nat := [0, 0, 2, 7, 15, 0, 0, 96, 31, 511, 1023]
theorem R112.tab6 : rtab .any (opsOf Tryz.f112 6) = R112.T6 := by kernel_rfl
theorem R112.bits6 : waitsOk R112.T6.2 R112.B6 = true := by kernel_rfl
def R52.T3 : Bool × List (List Nat × List Nat) := (true, [([], []), ([0], [0]), ([1], [1]), ([2], [2]), ([], []), ([4], [4]), ([3, 0, 1, 2, 3], [3]), ([5, 6, 0, 1, 2, 3, 4, 5, 6], [5]), ([7, 0, 1, 2, 3, 4, 5, 6, 7], [])])
def R52.B3 : List Nat := [0, 1, 3, 7, 0, 16, 15, 127, 255]
theorem R52.tab3 : rtab .any (opsOf Tryz.f52 3) = R52.T3 := by kernel_rfl
theorem R52.bits3 : waitsOk R52.T3.2 R52.B3 = true := by kernel_rfl
/-- Later slices of the same bytes, in every world. -/
abbrev Sm (A : Option Addr) (c : Nat) (l : List UInt8) (A1 : Option Addr) (c1 : Nat) (l1 : List UInt8) : Prop := ∀ wx, SB wx A c l → SB wx A1 c1 l1
set_option maxHeartbeats 1600000 in
theorem readU32S (A : Option Addr) (c : Nat) (b0 b1 b2 b3 : UInt8) (r : List UInt8) (w : World) (hs : SB w A c (b0 :: b1 :: b2 :: b3 :: r)) :
    Calls Tryz.prog 118 #[.slice A (b0 :: b1 :: b2 :: b3 :: r).length c] w fun e w' => ∃ A1, e = .returned (.tuple #[.int .u32 (Lib.leNat [b0, b1, b2, b3]), .slice A1 r.length (c - 4), .bool true]) ∧ (∀ wx, SB wx A c (b0 :: b1 :: b2 :: b3 :: r) → SB wx A1 (c - 4) r) ∧ Below w.heap.size w w' := by
  have hU := fun wx (h : Below w.heap.size w wx) => leUint32 A c b0 b1 b2 b3 r wx (hs.keep h)
  have HU := Lib.hid hU
  clear hU
  obtain ⟨nv, hnv⟩ : ∃ x, x = (Lib.leNat [b0, b1, b2, b3]) := ⟨_, rfl⟩
  rw [← hnv] at HU ⊢
  obtain ⟨A1, e1, s1⟩ := SB.from_ (P := Tryz.prog) Tryz.underlying22 rfl rfl .i64 A c (b0 :: b1 :: b2 :: b3 :: r) 4 (by simp) hs.le
  have e1' : ∀ W : World, (Instr.slice 22 (.slice A (b0 :: b1 :: b2 :: b3 :: r).length c) (some (.int .i64 4)) none none).run Tryz.prog W = .ok (.slice A1 r.length (c - 4)) W := fun W => by have h := e1 W; rw [show (b0 :: b1 :: b2 :: b3 :: r).length - 4 = r.length from by simp] at h; exact h
  have T1 : Hid (∀ wx, SB wx A c (b0 :: b1 :: b2 :: b3 :: r) → SB wx A1 (c - 4) r) := Lib.hid (fun wx h => by have := s1 wx h; simpa using this)
  obtain ⟨q, hq⟩ : ∃ x, x = (b0 :: b1 :: b2 :: b3 :: r).length := ⟨_, rfl⟩
  rw [← hq] at HU e1' ⊢
  have hq4 : 4 ≤ q := by rw [hq]; simp
  have hcap : r.length + 4 ≤ c := by have := hs.le; simpa using this
  clear hq e1 s1 hs hnv
  go_enter Tryz.func118, Tryz.ntmps118
  go_wp2
  refine start_ (n := 8) (S := fun w' => True) (ds := []) #[false, false, false, false, false, false, false, false] (by kernel_rfl) rfl rfl trivial (fun hHeld => ?_)
  refine with_tabW R118.tab3 R118.bits3 (fun HT_ HW_ => ?_)
  refine pure_ (i := 1) (N := some 10) (v := ?_) (a' := ?_) #[false, true, false, false, false, false, false, false] rfl rfl (any_of HT_.out (by kernel_rfl)) (fun _ _ _ h => h) (Or.inl ⟨by rfl, ?_⟩) ?_ ?_
  rotate_left
  · intro w'
    go_simp
    with_reducible rfl
  rotate_left
  · simp only [Act.put, List.setIfInBounds_toArray, List.set_cons_zero, List.set_cons_succ, i64_w, i32_w]
    rfl
  refine pure_ (i := 3) (N := some 12) (v := ?_) (a' := ?_) #[false, true, false, true, false, false, false, false] rfl rfl (any_of HT_.out (by kernel_rfl)) (fun _ _ _ h => h) (Or.inl ⟨by rfl, ?_⟩) ?_ ?_
  rotate_left
  · intro w'
    go_simp
    with_reducible rfl
  rotate_left
  · simp only [Act.put, List.setIfInBounds_toArray, List.set_cons_zero, List.set_cons_succ, i64_w, i32_w]
    rfl
  refine pure_ (i := 4) (N := some 13) (v := ?_) (a' := ?_) #[false, true, false, true, true, false, false, false] rfl rfl (any_of HT_.out (by kernel_rfl)) (fun _ _ _ h => h) (Or.inl ⟨by rfl, ?_⟩) ?_ ?_
  rotate_left
  · intro w'
    go_simp
    with_reducible rfl
  rotate_left
  · simp only [Act.put, List.setIfInBounds_toArray, List.set_cons_zero, List.set_cons_succ, i64_w, i32_w]
    rfl
  refine take_ (i := 0) (N := some 9) (v := ?_) (a' := ?_) #[true, true, false, true, true, false, false, false] rfl rfl (take_ofW HT_.out HW_.out (by kernel_rfl)) (fun _ _ _ h => h) (Or.inl ⟨by rfl, ?_⟩) hHeld ?_ ?_
  rotate_left
  · intro w' _
    go_simp
    with_reducible rfl
  rotate_left
  · simp only [Act.put, List.setIfInBounds_toArray, List.set_cons_zero, List.set_cons_succ, i64_w, i32_w]
    rfl
  refine one_ (i := 2) (N := some 11) #[true, true, true, true, true, false, false, false] rfl rfl (one_of HT_.out (by kernel_rfl)) (by decide) (fun K hK => ?_)
  refine goes_ Tryz.func168 (by kernel_rfl) rfl #[.agg #[], .slice A q c] (by rfl) rfl rfl (by simp only [List.map_toArray, List.map_cons, List.map_nil]; rfl) ?_
  with_reducible refine (HU.out _ (by exact bdrew (Below.refl _ _))).mono ?_
  rintro e w3 ⟨rfl, hb3⟩
  refine ⟨_, rfl, ?_⟩
  refine hK.out _ _ trivial (fun hHeld => ?_)
  clear hK K
  refine norm_ (a' := ?_) ?_ ?_
  rotate_left
  · show Act.put _ (some 11) _ = _
    simp only [Act.put, List.setIfInBounds_toArray, List.set_cons_zero, List.set_cons_succ, i64_w, i32_w]
    rfl
  refine pure_ (i := 5) (N := some 2) (v := ?_) (a' := ?_) #[true, true, true, true, true, true, false, false] rfl rfl (any_of HT_.out (by kernel_rfl)) (fun _ _ _ h => h) (Or.inl ⟨by rfl, ?_⟩) ?_ ?_
  rotate_left
  · intro w'
    go_simp
    with_reducible rfl
  rotate_left
  · simp only [Act.put, List.setIfInBounds_toArray, List.set_cons_zero, List.set_cons_succ, i64_w, i32_w]
    rfl
  refine pure_ (i := 6) (N := some 3) (v := ?_) (a' := ?_) #[true, true, true, true, true, true, true, false] rfl rfl (any_of HT_.out (by kernel_rfl)) (fun _ _ _ h => h) (Or.inl ⟨by rfl, ?_⟩) ?_ ?_
  rotate_left
  · intro w'
    go_simp
    with_reducible rfl
  rotate_left
  · simp only [Act.put, List.setIfInBounds_toArray, List.set_cons_zero, List.set_cons_succ, i64_w, i32_w]
    rfl
  refine pure_ (i := 7) (N := some 4) (v := ?_) (a' := ?_) #[true, true, true, true, true, true, true, true] rfl rfl (any_of HT_.out (by kernel_rfl)) (fun _ _ _ h => h) (Or.inl ⟨by rfl, ?_⟩) ?_ ?_
  rotate_left
  · intro w'
    go_simp
    with_reducible rfl
  rotate_left
  · simp only [Act.put, List.setIfInBounds_toArray, List.set_cons_zero, List.set_cons_succ, i64_w, i32_w]
    rfl
  refine done_ (done_of HT_.out (by kernel_rfl)) ?_
  have hb : Below w.heap.size w w3 := (bdrew (Below.refl _ _)).trans hb3
  go_wp2
  exact bodyPost_ret (v := .tuple #[.int .u32 nv, .slice A1 r.length (c - 4), .bool true]) (by simp [results, Tryz.results118, go_sem]) rfl ⟨A1, rfl, T1.out, hb⟩
set_option maxHeartbeats 1600000 in
theorem readU64S (A : Option Addr) (c : Nat) (b0 b1 b2 b3 b4 b5 b6 b7 : UInt8) (r : List UInt8) (w : World) (hs : SB w A c (b0 :: b1 :: b2 :: b3 :: b4 :: b5 :: b6 :: b7 :: r)) :
    Calls Tryz.prog 111 #[.slice A (b0 :: b1 :: b2 :: b3 :: b4 :: b5 :: b6 :: b7 :: r).length c] w fun e w' => ∃ A1, e = .returned (.tuple #[.int .u64 (Lib.leNat [b0, b1, b2, b3, b4, b5, b6, b7]), .slice A1 r.length (c - 8), .bool true]) ∧ (∀ wx, SB wx A c (b0 :: b1 :: b2 :: b3 :: b4 :: b5 :: b6 :: b7 :: r) → SB wx A1 (c - 8) r) ∧ Below w.heap.size w w' := by
  have hU := fun wx (h : Below w.heap.size w wx) => leUint64 A c b0 b1 b2 b3 b4 b5 b6 b7 r wx (hs.keep h)
  have HU := Lib.hid hU
  clear hU
  obtain ⟨nv, hnv⟩ : ∃ x, x = (Lib.leNat [b0, b1, b2, b3, b4, b5, b6, b7]) := ⟨_, rfl⟩
  rw [← hnv] at HU ⊢
  obtain ⟨A1, e1, s1⟩ := SB.from_ (P := Tryz.prog) Tryz.underlying22 rfl rfl .i64 A c (b0 :: b1 :: b2 :: b3 :: b4 :: b5 :: b6 :: b7 :: r) 8 (by simp) hs.le
  have e1' : ∀ W : World, (Instr.slice 22 (.slice A (b0 :: b1 :: b2 :: b3 :: b4 :: b5 :: b6 :: b7 :: r).length c) (some (.int .i64 8)) none none).run Tryz.prog W = .ok (.slice A1 r.length (c - 8)) W := fun W => by have h := e1 W; rw [show (b0 :: b1 :: b2 :: b3 :: b4 :: b5 :: b6 :: b7 :: r).length - 8 = r.length from by simp] at h; exact h
  have T1 : Hid (∀ wx, SB wx A c (b0 :: b1 :: b2 :: b3 :: b4 :: b5 :: b6 :: b7 :: r) → SB wx A1 (c - 8) r) := Lib.hid (fun wx h => by have := s1 wx h; simpa using this)
  obtain ⟨q, hq⟩ : ∃ x, x = (b0 :: b1 :: b2 :: b3 :: b4 :: b5 :: b6 :: b7 :: r).length := ⟨_, rfl⟩
  rw [← hq] at HU e1' ⊢
  have hq4 : 8 ≤ q := by rw [hq]; simp
  have hcap : r.length + 8 ≤ c := by have := hs.le; simpa using this
  clear hq e1 s1 hs hnv
  go_enter Tryz.func111, Tryz.ntmps111
  go_wp2
  refine start_ (n := 8) (S := fun w' => True) (ds := []) #[false, false, false, false, false, false, false, false] (by kernel_rfl) rfl rfl trivial (fun hHeld => ?_)
  refine with_tabW R111.tab3 R111.bits3 (fun HT_ HW_ => ?_)
  refine pure_ (i := 1) (N := some 10) (v := ?_) (a' := ?_) #[false, true, false, false, false, false, false, false] rfl rfl (any_of HT_.out (by kernel_rfl)) (fun _ _ _ h => h) (Or.inl ⟨by rfl, ?_⟩) ?_ ?_
  rotate_left
  · intro w'
    go_simp
    with_reducible rfl
  rotate_left
  · simp only [Act.put, List.setIfInBounds_toArray, List.set_cons_zero, List.set_cons_succ, i64_w, i32_w]
    rfl
  refine pure_ (i := 3) (N := some 12) (v := ?_) (a' := ?_) #[false, true, false, true, false, false, false, false] rfl rfl (any_of HT_.out (by kernel_rfl)) (fun _ _ _ h => h) (Or.inl ⟨by rfl, ?_⟩) ?_ ?_
  rotate_left
  · intro w'
    go_simp
    with_reducible rfl
  rotate_left
  · simp only [Act.put, List.setIfInBounds_toArray, List.set_cons_zero, List.set_cons_succ, i64_w, i32_w]
    rfl
  refine pure_ (i := 4) (N := some 13) (v := ?_) (a' := ?_) #[false, true, false, true, true, false, false, false] rfl rfl (any_of HT_.out (by kernel_rfl)) (fun _ _ _ h => h) (Or.inl ⟨by rfl, ?_⟩) ?_ ?_
  rotate_left
  · intro w'
    go_simp
    with_reducible rfl
  rotate_left
  · simp only [Act.put, List.setIfInBounds_toArray, List.set_cons_zero, List.set_cons_succ, i64_w, i32_w]
    rfl
  refine take_ (i := 0) (N := some 9) (v := ?_) (a' := ?_) #[true, true, false, true, true, false, false, false] rfl rfl (take_ofW HT_.out HW_.out (by kernel_rfl)) (fun _ _ _ h => h) (Or.inl ⟨by rfl, ?_⟩) hHeld ?_ ?_
  rotate_left
  · intro w' _
    go_simp
    with_reducible rfl
  rotate_left
  · simp only [Act.put, List.setIfInBounds_toArray, List.set_cons_zero, List.set_cons_succ, i64_w, i32_w]
    rfl
  refine one_ (i := 2) (N := some 11) #[true, true, true, true, true, false, false, false] rfl rfl (one_of HT_.out (by kernel_rfl)) (by decide) (fun K hK => ?_)
  refine goes_ Tryz.func166 (by kernel_rfl) rfl #[.agg #[], .slice A q c] (by rfl) rfl rfl (by simp only [List.map_toArray, List.map_cons, List.map_nil]; rfl) ?_
  with_reducible refine (HU.out _ (by exact bdrew (Below.refl _ _))).mono ?_
  rintro e w3 ⟨rfl, hb3⟩
  refine ⟨_, rfl, ?_⟩
  refine hK.out _ _ trivial (fun hHeld => ?_)
  clear hK K
  refine norm_ (a' := ?_) ?_ ?_
  rotate_left
  · show Act.put _ (some 11) _ = _
    simp only [Act.put, List.setIfInBounds_toArray, List.set_cons_zero, List.set_cons_succ, i64_w, i32_w]
    rfl
  refine pure_ (i := 5) (N := some 2) (v := ?_) (a' := ?_) #[true, true, true, true, true, true, false, false] rfl rfl (any_of HT_.out (by kernel_rfl)) (fun _ _ _ h => h) (Or.inl ⟨by rfl, ?_⟩) ?_ ?_
  rotate_left
  · intro w'
    go_simp
    with_reducible rfl
  rotate_left
  · simp only [Act.put, List.setIfInBounds_toArray, List.set_cons_zero, List.set_cons_succ, i64_w, i32_w]
    rfl
  refine pure_ (i := 6) (N := some 3) (v := ?_) (a' := ?_) #[true, true, true, true, true, true, true, false] rfl rfl (any_of HT_.out (by kernel_rfl)) (fun _ _ _ h => h) (Or.inl ⟨by rfl, ?_⟩) ?_ ?_
  rotate_left
  · intro w'
    go_simp
    with_reducible rfl
  rotate_left
  · simp only [Act.put, List.setIfInBounds_toArray, List.set_cons_zero, List.set_cons_succ, i64_w, i32_w]
    rfl
  refine pure_ (i := 7) (N := some 4) (v := ?_) (a' := ?_) #[true, true, true, true, true, true, true, true] rfl rfl (any_of HT_.out (by kernel_rfl)) (fun _ _ _ h => h) (Or.inl ⟨by rfl, ?_⟩) ?_ ?_
  rotate_left
  · intro w'
    go_simp
    with_reducible rfl
  rotate_left
  · simp only [Act.put, List.setIfInBounds_toArray, List.set_cons_zero, List.set_cons_succ, i64_w, i32_w]
    rfl
  refine done_ (done_of HT_.out (by kernel_rfl)) ?_
  have hb : Below w.heap.size w w3 := (bdrew (Below.refl _ _)).trans hb3
  go_wp2
  exact bodyPost_ret (v := .tuple #[.int .u64 nv, .slice A1 r.length (c - 8), .bool true]) (by simp [results, Tryz.results111, go_sem]) rfl ⟨A1, rfl, T1.out, hb⟩
theorem wm8 (n : Int) : wrap64 n % 18446744073709551616 = n % 18446744073709551616 := by unfold wrap64; omega
theorem ws8 (b m : Nat) (x : Int) (hx : x = (m : Int)) (hb : b < 256) (h : b * m < 18446744073709551616) : wrap64 (wrap64 (b : Int) * x) % 18446744073709551616 = ((b * m : Nat) : Int) := by
  rw [hx, wm8, show wrap64 (b : Int) = b from by unfold wrap64; omega, ← Int.natCast_mul]
  have h2 : ((b * m : Nat) : Int) < 18446744073709551616 := Int.ofNat_lt.2 h
  exact Int.emod_eq_of_lt (Int.natCast_nonneg _) h2
theorem or8_val (b0 b1 b2 b3 b4 b5 b6 b7 : Nat) (h0 : b0 < 256) (h1 : b1 < 256) (h2 : b2 < 256) (h3 : b3 < 256) (h4 : b4 < 256) (h5 : b5 < 256) (h6 : b6 < 256) (h7 : b7 < 256) : bits .or .i64 (bits .or .i64 (bits .or .i64 (bits .or .i64 (bits .or .i64 (bits .or .i64 (bits .or .i64 (wrap64 (b0 : Int)) (wrap64 ((wrap64 (b1 : Int)) * 256))) (wrap64 ((wrap64 (b2 : Int)) * 65536))) (wrap64 ((wrap64 (b3 : Int)) * 16777216))) (wrap64 ((wrap64 (b4 : Int)) * 4294967296))) (wrap64 ((wrap64 (b5 : Int)) * 1099511627776))) (wrap64 ((wrap64 (b6 : Int)) * 281474976710656))) (wrap64 ((wrap64 (b7 : Int)) * 72057594037927936)) = wrap64 ((b0 : Int) + (b1 : Int) * 256 + (b2 : Int) * 65536 + (b3 : Int) * 16777216 + (b4 : Int) * 4294967296 + (b5 : Int) * 1099511627776 + (b6 : Int) * 281474976710656 + (b7 : Int) * 72057594037927936) := by
  have h := or8_i64 b0 b1 b2 b3 b4 b5 b6 b7 (wrap64 (b0 : Int)) (wrap64 (wrap64 (b1 : Int) * 256)) (wrap64 (wrap64 (b2 : Int) * 65536)) (wrap64 (wrap64 (b3 : Int) * 16777216)) (wrap64 (wrap64 (b4 : Int) * 4294967296)) (wrap64 (wrap64 (b5 : Int) * 1099511627776)) (wrap64 (wrap64 (b6 : Int) * 281474976710656)) (wrap64 (wrap64 (b7 : Int) * 72057594037927936)) h0 h1 h2 h3 h4 h5 h6 h7 (by rw [wm8]; omega) (ws8 b1 256 _ (by decide) h1 (by omega)) (ws8 b2 65536 _ (by decide) h2 (by omega)) (ws8 b3 16777216 _ (by decide) h3 (by omega)) (ws8 b4 4294967296 _ (by decide) h4 (by omega)) (ws8 b5 1099511627776 _ (by decide) h5 (by omega)) (ws8 b6 281474976710656 _ (by decide) h6 (by omega)) (ws8 b7 72057594037927936 _ (by decide) h7 (by omega))
  have e : ((b0 + b1 * 256 + b2 * 65536 + b3 * 16777216 + b4 * 4294967296 + b5 * 1099511627776 + b6 * 281474976710656 + b7 * 72057594037927936 : Nat) : Int) = (b0 : Int) + (b1 : Int) * 256 + (b2 : Int) * 65536 + (b3 : Int) * 16777216 + (b4 : Int) * 4294967296 + (b5 : Int) * 1099511627776 + (b6 : Int) * 281474976710656 + (b7 : Int) * 72057594037927936 := by omega
  rw [h, IntKind.wrap_i64, e]
  simp only [wrap64]
set_option maxHeartbeats 1600000 in
theorem readI64S (A : Option Addr) (c : Nat) (b0 b1 b2 b3 b4 b5 b6 b7 : UInt8) (r : List UInt8) (w : World) (hs : SB w A c (b0 :: b1 :: b2 :: b3 :: b4 :: b5 :: b6 :: b7 :: r)) :
    Calls Tryz.prog 115 #[.slice A (b0 :: b1 :: b2 :: b3 :: b4 :: b5 :: b6 :: b7 :: r).length c] w fun e w' => ∃ A1, e = .returned (.tuple #[.int .i64 (wrap64 (leI [b0, b1, b2, b3, b4, b5, b6, b7])), .slice A1 r.length (c - 8), .bool true]) ∧ (∀ wx, SB wx A c (b0 :: b1 :: b2 :: b3 :: b4 :: b5 :: b6 :: b7 :: r) → SB wx A1 (c - 8) r) ∧ Below w.heap.size w w' := by
  obtain ⟨A1, e1, s1⟩ := SB.from_ (P := Tryz.prog) Tryz.underlying22 rfl rfl .i64 A c (b0 :: b1 :: b2 :: b3 :: b4 :: b5 :: b6 :: b7 :: r) 8 (by simp) hs.le
  have e1' : ∀ W : World, (Instr.slice 22 (.slice A (b0 :: b1 :: b2 :: b3 :: b4 :: b5 :: b6 :: b7 :: r).length c) (some (.int .i64 8)) none none).run Tryz.prog W = .ok (.slice A1 r.length (c - 8)) W := fun W => by have h := e1 W; rw [show (b0 :: b1 :: b2 :: b3 :: b4 :: b5 :: b6 :: b7 :: r).length - 8 = r.length from by simp] at h; exact h
  have T1 : Hid (∀ wx, SB wx A c (b0 :: b1 :: b2 :: b3 :: b4 :: b5 :: b6 :: b7 :: r) → SB wx A1 (c - 8) r) := Lib.hid (fun wx h => by have := s1 wx h; simpa using this)
  have hcap : r.length + 8 ≤ c := by have := hs.le; simpa using this
  have hlen9 : c ≤ 9223372036854775807 := hs.cap
  obtain ⟨b, off, rfl, hc⟩ := hs.cells (by simp)
  have c0 : w.cell? ⟨b, off, none⟩ = some (.int .u8 b0.toNat) := by have h := hc 0 (by simp); exact h
  have c1 : w.cell? ⟨b, off + 1, none⟩ = some (.int .u8 b1.toNat) := by have h := hc 1 (by simp); exact h
  have c2 : w.cell? ⟨b, off + 2, none⟩ = some (.int .u8 b2.toNat) := by have h := hc 2 (by simp); exact h
  have c3 : w.cell? ⟨b, off + 3, none⟩ = some (.int .u8 b3.toNat) := by have h := hc 3 (by simp); exact h
  have c4 : w.cell? ⟨b, off + 4, none⟩ = some (.int .u8 b4.toNat) := by have h := hc 4 (by simp); exact h
  have c5 : w.cell? ⟨b, off + 5, none⟩ = some (.int .u8 b5.toNat) := by have h := hc 5 (by simp); exact h
  have c6 : w.cell? ⟨b, off + 6, none⟩ = some (.int .u8 b6.toNat) := by have h := hc 6 (by simp); exact h
  have c7 : w.cell? ⟨b, off + 7, none⟩ = some (.int .u8 b7.toNat) := by have h := hc 7 (by simp); exact h
  have hv : bits .or .i64 (bits .or .i64 (bits .or .i64 (bits .or .i64 (bits .or .i64 (bits .or .i64 (bits .or .i64 (wrap64 (b0.toNat : Int)) (wrap64 ((wrap64 (b1.toNat : Int)) * 256))) (wrap64 ((wrap64 (b2.toNat : Int)) * 65536))) (wrap64 ((wrap64 (b3.toNat : Int)) * 16777216))) (wrap64 ((wrap64 (b4.toNat : Int)) * 4294967296))) (wrap64 ((wrap64 (b5.toNat : Int)) * 1099511627776))) (wrap64 ((wrap64 (b6.toNat : Int)) * 281474976710656))) (wrap64 ((wrap64 (b7.toNat : Int)) * 72057594037927936)) = wrap64 (leI [b0, b1, b2, b3, b4, b5, b6, b7]) := by
    have hb0 : b0.toNat < 256 := b0.toNat_lt
    have hb1 : b1.toNat < 256 := b1.toNat_lt
    have hb2 : b2.toNat < 256 := b2.toNat_lt
    have hb3 : b3.toNat < 256 := b3.toNat_lt
    have hb4 : b4.toNat < 256 := b4.toNat_lt
    have hb5 : b5.toNat < 256 := b5.toNat_lt
    have hb6 : b6.toNat < 256 := b6.toNat_lt
    have hb7 : b7.toNat < 256 := b7.toNat_lt
    have h := or8_val b0.toNat b1.toNat b2.toNat b3.toNat b4.toNat b5.toNat b6.toNat b7.toNat hb0 hb1 hb2 hb3 hb4 hb5 hb6 hb7
    rw [h]
    congr 1
    simp only [leI]
    omega
  obtain ⟨x0, h0⟩ : ∃ x, x = (b0.toNat : Int) := ⟨_, rfl⟩
  rw [← h0] at c0 hv
  obtain ⟨x1, h1⟩ : ∃ x, x = (b1.toNat : Int) := ⟨_, rfl⟩
  rw [← h1] at c1 hv
  obtain ⟨x2, h2⟩ : ∃ x, x = (b2.toNat : Int) := ⟨_, rfl⟩
  rw [← h2] at c2 hv
  obtain ⟨x3, h3⟩ : ∃ x, x = (b3.toNat : Int) := ⟨_, rfl⟩
  rw [← h3] at c3 hv
  obtain ⟨x4, h4⟩ : ∃ x, x = (b4.toNat : Int) := ⟨_, rfl⟩
  rw [← h4] at c4 hv
  obtain ⟨x5, h5⟩ : ∃ x, x = (b5.toNat : Int) := ⟨_, rfl⟩
  rw [← h5] at c5 hv
  obtain ⟨x6, h6⟩ : ∃ x, x = (b6.toNat : Int) := ⟨_, rfl⟩
  rw [← h6] at c6 hv
  obtain ⟨x7, h7⟩ : ∃ x, x = (b7.toNat : Int) := ⟨_, rfl⟩
  rw [← h7] at c7 hv
  obtain ⟨xv, hxv⟩ : ∃ x, x = wrap64 (leI [b0, b1, b2, b3, b4, b5, b6, b7]) := ⟨_, rfl⟩
  rw [← hxv] at hv ⊢
  have HV := Lib.hid hv
  obtain ⟨q, hq⟩ : ∃ x, x = (b0 :: b1 :: b2 :: b3 :: b4 :: b5 :: b6 :: b7 :: r).length := ⟨_, rfl⟩
  have hq4 : 8 ≤ q := by rw [hq]; simp
  rw [← hq] at e1' ⊢
  clear hq hs hc hv hxv e1 s1 h0 h1 h2 h3 h4 h5 h6 h7
  go_enter Tryz.func115, Tryz.ntmps115
  go_wp2
  have g0 : 0 < q := by omega
  have g1 : (1 : Int) < q := by omega
  have g2 : (2 : Int) < q := by omega
  have g3 : (3 : Int) < q := by omega
  have g4 : (4 : Int) < q := by omega
  have g5 : (5 : Int) < q := by omega
  have g6 : (6 : Int) < q := by omega
  have g7 : (7 : Int) < q := by omega
  refine start_ (n := 47) (S := fun w' => w'.cell? ⟨b, off, none⟩ = some (.int .u8 x0) ∧ w'.cell? ⟨b, off + 1, none⟩ = some (.int .u8 x1) ∧ w'.cell? ⟨b, off + 2, none⟩ = some (.int .u8 x2) ∧ w'.cell? ⟨b, off + 3, none⟩ = some (.int .u8 x3) ∧ w'.cell? ⟨b, off + 4, none⟩ = some (.int .u8 x4) ∧ w'.cell? ⟨b, off + 5, none⟩ = some (.int .u8 x5) ∧ w'.cell? ⟨b, off + 6, none⟩ = some (.int .u8 x6) ∧ w'.cell? ⟨b, off + 7, none⟩ = some (.int .u8 x7)) (ds := []) #[false, false, false, false, false, false, false, false, false, false, false, false, false, false, false, false, false, false, false, false, false, false, false, false, false, false, false, false, false, false, false, false, false, false, false, false, false, false, false, false, false, false, false, false, false, false, false] (by kernel_rfl) rfl rfl ⟨(by go_simp), (by go_simp), (by go_simp), (by go_simp), (by go_simp), (by go_simp), (by go_simp), (by go_simp)⟩ (fun hHeld => ?_)
  refine with_tabW R115.tab4 R115.bits4 (fun HT_ HW_ => ?_)
  refine pure_ (i := 0) (N := some 13) (v := ?_) (a' := ?_) #[true, false, false, false, false, false, false, false, false, false, false, false, false, false, false, false, false, false, false, false, false, false, false, false, false, false, false, false, false, false, false, false, false, false, false, false, false, false, false, false, false, false, false, false, false, false, false] rfl rfl (any_of HT_.out (by kernel_rfl)) (fun _ _ _ h => h) (Or.inl ⟨by rfl, ?_⟩) ?_ ?_
  rotate_left
  · intro w'
    go_simp
    with_reducible rfl
  rotate_left
  · simp only [Act.put, List.setIfInBounds_toArray, List.set_cons_zero, List.set_cons_succ, i64_w, i32_w]
    rfl
  refine pure_ (i := 1) (N := some 14) (v := ?_) (a' := ?_) #[true, true, false, false, false, false, false, false, false, false, false, false, false, false, false, false, false, false, false, false, false, false, false, false, false, false, false, false, false, false, false, false, false, false, false, false, false, false, false, false, false, false, false, false, false, false, false] rfl rfl (any_of HT_.out (by kernel_rfl)) (fun _ _ _ h => h) (Or.inl ⟨by rfl, ?_⟩) ?_ ?_
  rotate_left
  · intro w'
    go_simp
    with_reducible rfl
  rotate_left
  · simp only [Act.put, List.setIfInBounds_toArray, List.set_cons_zero, List.set_cons_succ, i64_w, i32_w]
    rfl
  refine pure_ (i := 4) (N := some 17) (v := ?_) (a' := ?_) #[true, true, false, false, true, false, false, false, false, false, false, false, false, false, false, false, false, false, false, false, false, false, false, false, false, false, false, false, false, false, false, false, false, false, false, false, false, false, false, false, false, false, false, false, false, false, false] rfl rfl (any_of HT_.out (by kernel_rfl)) (fun _ _ _ h => h) (Or.inl ⟨by rfl, ?_⟩) ?_ ?_
  rotate_left
  · intro w'
    go_simp
    with_reducible rfl
  rotate_left
  · simp only [Act.put, List.setIfInBounds_toArray, List.set_cons_zero, List.set_cons_succ, i64_w, i32_w]
    rfl
  refine pure_ (i := 5) (N := some 18) (v := ?_) (a' := ?_) #[true, true, false, false, true, true, false, false, false, false, false, false, false, false, false, false, false, false, false, false, false, false, false, false, false, false, false, false, false, false, false, false, false, false, false, false, false, false, false, false, false, false, false, false, false, false, false] rfl rfl (any_of HT_.out (by kernel_rfl)) (fun _ _ _ h => h) (Or.inl ⟨by rfl, ?_⟩) ?_ ?_
  rotate_left
  · intro w'
    go_simp
    with_reducible rfl
  rotate_left
  · simp only [Act.put, List.setIfInBounds_toArray, List.set_cons_zero, List.set_cons_succ, i64_w, i32_w]
    rfl
  refine pure_ (i := 10) (N := some 23) (v := ?_) (a' := ?_) #[true, true, false, false, true, true, false, false, false, false, true, false, false, false, false, false, false, false, false, false, false, false, false, false, false, false, false, false, false, false, false, false, false, false, false, false, false, false, false, false, false, false, false, false, false, false, false] rfl rfl (any_of HT_.out (by kernel_rfl)) (fun _ _ _ h => h) (Or.inl ⟨by rfl, ?_⟩) ?_ ?_
  rotate_left
  · intro w'
    go_simp
    with_reducible rfl
  rotate_left
  · simp only [Act.put, List.setIfInBounds_toArray, List.set_cons_zero, List.set_cons_succ, i64_w, i32_w]
    rfl
  refine pure_ (i := 11) (N := some 24) (v := ?_) (a' := ?_) #[true, true, false, false, true, true, false, false, false, false, true, true, false, false, false, false, false, false, false, false, false, false, false, false, false, false, false, false, false, false, false, false, false, false, false, false, false, false, false, false, false, false, false, false, false, false, false] rfl rfl (any_of HT_.out (by kernel_rfl)) (fun _ _ _ h => h) (Or.inl ⟨by rfl, ?_⟩) ?_ ?_
  rotate_left
  · intro w'
    go_simp
    with_reducible rfl
  rotate_left
  · simp only [Act.put, List.setIfInBounds_toArray, List.set_cons_zero, List.set_cons_succ, i64_w, i32_w]
    rfl
  refine pure_ (i := 16) (N := some 29) (v := ?_) (a' := ?_) #[true, true, false, false, true, true, false, false, false, false, true, true, false, false, false, false, true, false, false, false, false, false, false, false, false, false, false, false, false, false, false, false, false, false, false, false, false, false, false, false, false, false, false, false, false, false, false] rfl rfl (any_of HT_.out (by kernel_rfl)) (fun _ _ _ h => h) (Or.inl ⟨by rfl, ?_⟩) ?_ ?_
  rotate_left
  · intro w'
    go_simp
    with_reducible rfl
  rotate_left
  · simp only [Act.put, List.setIfInBounds_toArray, List.set_cons_zero, List.set_cons_succ, i64_w, i32_w]
    rfl
  refine pure_ (i := 17) (N := some 30) (v := ?_) (a' := ?_) #[true, true, false, false, true, true, false, false, false, false, true, true, false, false, false, false, true, true, false, false, false, false, false, false, false, false, false, false, false, false, false, false, false, false, false, false, false, false, false, false, false, false, false, false, false, false, false] rfl rfl (any_of HT_.out (by kernel_rfl)) (fun _ _ _ h => h) (Or.inl ⟨by rfl, ?_⟩) ?_ ?_
  rotate_left
  · intro w'
    go_simp
    with_reducible rfl
  rotate_left
  · simp only [Act.put, List.setIfInBounds_toArray, List.set_cons_zero, List.set_cons_succ, i64_w, i32_w]
    rfl
  refine pure_ (i := 22) (N := some 35) (v := ?_) (a' := ?_) #[true, true, false, false, true, true, false, false, false, false, true, true, false, false, false, false, true, true, false, false, false, false, true, false, false, false, false, false, false, false, false, false, false, false, false, false, false, false, false, false, false, false, false, false, false, false, false] rfl rfl (any_of HT_.out (by kernel_rfl)) (fun _ _ _ h => h) (Or.inl ⟨by rfl, ?_⟩) ?_ ?_
  rotate_left
  · intro w'
    go_simp
    with_reducible rfl
  rotate_left
  · simp only [Act.put, List.setIfInBounds_toArray, List.set_cons_zero, List.set_cons_succ, i64_w, i32_w]
    rfl
  refine pure_ (i := 23) (N := some 36) (v := ?_) (a' := ?_) #[true, true, false, false, true, true, false, false, false, false, true, true, false, false, false, false, true, true, false, false, false, false, true, true, false, false, false, false, false, false, false, false, false, false, false, false, false, false, false, false, false, false, false, false, false, false, false] rfl rfl (any_of HT_.out (by kernel_rfl)) (fun _ _ _ h => h) (Or.inl ⟨by rfl, ?_⟩) ?_ ?_
  rotate_left
  · intro w'
    go_simp
    with_reducible rfl
  rotate_left
  · simp only [Act.put, List.setIfInBounds_toArray, List.set_cons_zero, List.set_cons_succ, i64_w, i32_w]
    rfl
  refine pure_ (i := 28) (N := some 41) (v := ?_) (a' := ?_) #[true, true, false, false, true, true, false, false, false, false, true, true, false, false, false, false, true, true, false, false, false, false, true, true, false, false, false, false, true, false, false, false, false, false, false, false, false, false, false, false, false, false, false, false, false, false, false] rfl rfl (any_of HT_.out (by kernel_rfl)) (fun _ _ _ h => h) (Or.inl ⟨by rfl, ?_⟩) ?_ ?_
  rotate_left
  · intro w'
    go_simp
    with_reducible rfl
  rotate_left
  · simp only [Act.put, List.setIfInBounds_toArray, List.set_cons_zero, List.set_cons_succ, i64_w, i32_w]
    rfl
  refine pure_ (i := 29) (N := some 42) (v := ?_) (a' := ?_) #[true, true, false, false, true, true, false, false, false, false, true, true, false, false, false, false, true, true, false, false, false, false, true, true, false, false, false, false, true, true, false, false, false, false, false, false, false, false, false, false, false, false, false, false, false, false, false] rfl rfl (any_of HT_.out (by kernel_rfl)) (fun _ _ _ h => h) (Or.inl ⟨by rfl, ?_⟩) ?_ ?_
  rotate_left
  · intro w'
    go_simp
    with_reducible rfl
  rotate_left
  · simp only [Act.put, List.setIfInBounds_toArray, List.set_cons_zero, List.set_cons_succ, i64_w, i32_w]
    rfl
  refine pure_ (i := 34) (N := some 47) (v := ?_) (a' := ?_) #[true, true, false, false, true, true, false, false, false, false, true, true, false, false, false, false, true, true, false, false, false, false, true, true, false, false, false, false, true, true, false, false, false, false, true, false, false, false, false, false, false, false, false, false, false, false, false] rfl rfl (any_of HT_.out (by kernel_rfl)) (fun _ _ _ h => h) (Or.inl ⟨by rfl, ?_⟩) ?_ ?_
  rotate_left
  · intro w'
    go_simp
    with_reducible rfl
  rotate_left
  · simp only [Act.put, List.setIfInBounds_toArray, List.set_cons_zero, List.set_cons_succ, i64_w, i32_w]
    rfl
  refine pure_ (i := 35) (N := some 48) (v := ?_) (a' := ?_) #[true, true, false, false, true, true, false, false, false, false, true, true, false, false, false, false, true, true, false, false, false, false, true, true, false, false, false, false, true, true, false, false, false, false, true, true, false, false, false, false, false, false, false, false, false, false, false] rfl rfl (any_of HT_.out (by kernel_rfl)) (fun _ _ _ h => h) (Or.inl ⟨by rfl, ?_⟩) ?_ ?_
  rotate_left
  · intro w'
    go_simp
    with_reducible rfl
  rotate_left
  · simp only [Act.put, List.setIfInBounds_toArray, List.set_cons_zero, List.set_cons_succ, i64_w, i32_w]
    rfl
  refine pure_ (i := 40) (N := some 53) (v := ?_) (a' := ?_) #[true, true, false, false, true, true, false, false, false, false, true, true, false, false, false, false, true, true, false, false, false, false, true, true, false, false, false, false, true, true, false, false, false, false, true, true, false, false, false, false, true, false, false, false, false, false, false] rfl rfl (any_of HT_.out (by kernel_rfl)) (fun _ _ _ h => h) (Or.inl ⟨by rfl, ?_⟩) ?_ ?_
  rotate_left
  · intro w'
    go_simp
    with_reducible rfl
  rotate_left
  · simp only [Act.put, List.setIfInBounds_toArray, List.set_cons_zero, List.set_cons_succ, i64_w, i32_w]
    rfl
  refine pure_ (i := 41) (N := some 54) (v := ?_) (a' := ?_) #[true, true, false, false, true, true, false, false, false, false, true, true, false, false, false, false, true, true, false, false, false, false, true, true, false, false, false, false, true, true, false, false, false, false, true, true, false, false, false, false, true, true, false, false, false, false, false] rfl rfl (any_of HT_.out (by kernel_rfl)) (fun _ _ _ h => h) (Or.inl ⟨by rfl, ?_⟩) ?_ ?_
  rotate_left
  · intro w'
    go_simp
    with_reducible rfl
  rotate_left
  · simp only [Act.put, List.setIfInBounds_toArray, List.set_cons_zero, List.set_cons_succ, i64_w, i32_w]
    rfl
  refine take_ (i := 2) (N := some 15) (v := ?_) (a' := ?_) #[true, true, true, false, true, true, false, false, false, false, true, true, false, false, false, false, true, true, false, false, false, false, true, true, false, false, false, false, true, true, false, false, false, false, true, true, false, false, false, false, true, true, false, false, false, false, false] rfl rfl (take_ofW HT_.out HW_.out (by kernel_rfl)) (fun _ _ _ h => h) (Or.inl ⟨by rfl, ?_⟩) hHeld ?_ ?_
  rotate_left
  · rintro w' ⟨s0, s1, s2, s3, s4, s5, s6, s7⟩
    go_simp
    with_reducible rfl
  rotate_left
  · simp only [Act.put, List.setIfInBounds_toArray, List.set_cons_zero, List.set_cons_succ, i64_w, i32_w]
    rfl
  refine pure_ (i := 3) (N := some 16) (v := ?_) (a' := ?_) #[true, true, true, true, true, true, false, false, false, false, true, true, false, false, false, false, true, true, false, false, false, false, true, true, false, false, false, false, true, true, false, false, false, false, true, true, false, false, false, false, true, true, false, false, false, false, false] rfl rfl (any_of HT_.out (by kernel_rfl)) (fun _ _ _ h => h) (Or.inl ⟨by rfl, ?_⟩) ?_ ?_
  rotate_left
  · intro w'
    go_simp
    with_reducible rfl
  rotate_left
  · simp only [Act.put, List.setIfInBounds_toArray, List.set_cons_zero, List.set_cons_succ, i64_w, i32_w]
    rfl
  refine take_ (i := 6) (N := some 19) (v := ?_) (a' := ?_) #[true, true, true, true, true, true, true, false, false, false, true, true, false, false, false, false, true, true, false, false, false, false, true, true, false, false, false, false, true, true, false, false, false, false, true, true, false, false, false, false, true, true, false, false, false, false, false] rfl rfl (take_ofW HT_.out HW_.out (by kernel_rfl)) (fun _ _ _ h => h) (Or.inl ⟨by rfl, ?_⟩) hHeld ?_ ?_
  rotate_left
  · rintro w' ⟨s0, s1, s2, s3, s4, s5, s6, s7⟩
    go_simp
    with_reducible rfl
  rotate_left
  · simp only [Act.put, List.setIfInBounds_toArray, List.set_cons_zero, List.set_cons_succ, i64_w, i32_w]
    rfl
  refine pure_ (i := 7) (N := some 20) (v := ?_) (a' := ?_) #[true, true, true, true, true, true, true, true, false, false, true, true, false, false, false, false, true, true, false, false, false, false, true, true, false, false, false, false, true, true, false, false, false, false, true, true, false, false, false, false, true, true, false, false, false, false, false] rfl rfl (any_of HT_.out (by kernel_rfl)) (fun _ _ _ h => h) (Or.inl ⟨by rfl, ?_⟩) ?_ ?_
  rotate_left
  · intro w'
    go_simp
    with_reducible rfl
  rotate_left
  · simp only [Act.put, List.setIfInBounds_toArray, List.set_cons_zero, List.set_cons_succ, i64_w, i32_w]
    rfl
  refine pure_ (i := 8) (N := some 21) (v := ?_) (a' := ?_) #[true, true, true, true, true, true, true, true, true, false, true, true, false, false, false, false, true, true, false, false, false, false, true, true, false, false, false, false, true, true, false, false, false, false, true, true, false, false, false, false, true, true, false, false, false, false, false] rfl rfl (any_of HT_.out (by kernel_rfl)) (fun _ _ _ h => h) (Or.inl ⟨by rfl, ?_⟩) ?_ ?_
  rotate_left
  · intro w'
    go_simp
    with_reducible rfl
  rotate_left
  · simp only [Act.put, List.setIfInBounds_toArray, List.set_cons_zero, List.set_cons_succ, i64_w, i32_w]
    rfl
  refine pure_ (i := 9) (N := some 22) (v := ?_) (a' := ?_) #[true, true, true, true, true, true, true, true, true, true, true, true, false, false, false, false, true, true, false, false, false, false, true, true, false, false, false, false, true, true, false, false, false, false, true, true, false, false, false, false, true, true, false, false, false, false, false] rfl rfl (any_of HT_.out (by kernel_rfl)) (fun _ _ _ h => h) (Or.inl ⟨by rfl, ?_⟩) ?_ ?_
  rotate_left
  · intro w'
    go_simp
    with_reducible rfl
  rotate_left
  · simp only [Act.put, List.setIfInBounds_toArray, List.set_cons_zero, List.set_cons_succ, i64_w, i32_w]
    rfl
  refine take_ (i := 12) (N := some 25) (v := ?_) (a' := ?_) #[true, true, true, true, true, true, true, true, true, true, true, true, true, false, false, false, true, true, false, false, false, false, true, true, false, false, false, false, true, true, false, false, false, false, true, true, false, false, false, false, true, true, false, false, false, false, false] rfl rfl (take_ofW HT_.out HW_.out (by kernel_rfl)) (fun _ _ _ h => h) (Or.inl ⟨by rfl, ?_⟩) hHeld ?_ ?_
  rotate_left
  · rintro w' ⟨s0, s1, s2, s3, s4, s5, s6, s7⟩
    go_simp
    with_reducible rfl
  rotate_left
  · simp only [Act.put, List.setIfInBounds_toArray, List.set_cons_zero, List.set_cons_succ, i64_w, i32_w]
    rfl
  refine pure_ (i := 13) (N := some 26) (v := ?_) (a' := ?_) #[true, true, true, true, true, true, true, true, true, true, true, true, true, true, false, false, true, true, false, false, false, false, true, true, false, false, false, false, true, true, false, false, false, false, true, true, false, false, false, false, true, true, false, false, false, false, false] rfl rfl (any_of HT_.out (by kernel_rfl)) (fun _ _ _ h => h) (Or.inl ⟨by rfl, ?_⟩) ?_ ?_
  rotate_left
  · intro w'
    go_simp
    with_reducible rfl
  rotate_left
  · simp only [Act.put, List.setIfInBounds_toArray, List.set_cons_zero, List.set_cons_succ, i64_w, i32_w]
    rfl
  refine pure_ (i := 14) (N := some 27) (v := ?_) (a' := ?_) #[true, true, true, true, true, true, true, true, true, true, true, true, true, true, true, false, true, true, false, false, false, false, true, true, false, false, false, false, true, true, false, false, false, false, true, true, false, false, false, false, true, true, false, false, false, false, false] rfl rfl (any_of HT_.out (by kernel_rfl)) (fun _ _ _ h => h) (Or.inl ⟨by rfl, ?_⟩) ?_ ?_
  rotate_left
  · intro w'
    go_simp
    with_reducible rfl
  rotate_left
  · simp only [Act.put, List.setIfInBounds_toArray, List.set_cons_zero, List.set_cons_succ, i64_w, i32_w]
    rfl
  refine pure_ (i := 15) (N := some 28) (v := ?_) (a' := ?_) #[true, true, true, true, true, true, true, true, true, true, true, true, true, true, true, true, true, true, false, false, false, false, true, true, false, false, false, false, true, true, false, false, false, false, true, true, false, false, false, false, true, true, false, false, false, false, false] rfl rfl (any_of HT_.out (by kernel_rfl)) (fun _ _ _ h => h) (Or.inl ⟨by rfl, ?_⟩) ?_ ?_
  rotate_left
  · intro w'
    go_simp
    with_reducible rfl
  rotate_left
  · simp only [Act.put, List.setIfInBounds_toArray, List.set_cons_zero, List.set_cons_succ, i64_w, i32_w]
    rfl
  refine take_ (i := 18) (N := some 31) (v := ?_) (a' := ?_) #[true, true, true, true, true, true, true, true, true, true, true, true, true, true, true, true, true, true, true, false, false, false, true, true, false, false, false, false, true, true, false, false, false, false, true, true, false, false, false, false, true, true, false, false, false, false, false] rfl rfl (take_ofW HT_.out HW_.out (by kernel_rfl)) (fun _ _ _ h => h) (Or.inl ⟨by rfl, ?_⟩) hHeld ?_ ?_
  rotate_left
  · rintro w' ⟨s0, s1, s2, s3, s4, s5, s6, s7⟩
    go_simp
    with_reducible rfl
  rotate_left
  · simp only [Act.put, List.setIfInBounds_toArray, List.set_cons_zero, List.set_cons_succ, i64_w, i32_w]
    rfl
  refine pure_ (i := 19) (N := some 32) (v := ?_) (a' := ?_) #[true, true, true, true, true, true, true, true, true, true, true, true, true, true, true, true, true, true, true, true, false, false, true, true, false, false, false, false, true, true, false, false, false, false, true, true, false, false, false, false, true, true, false, false, false, false, false] rfl rfl (any_of HT_.out (by kernel_rfl)) (fun _ _ _ h => h) (Or.inl ⟨by rfl, ?_⟩) ?_ ?_
  rotate_left
  · intro w'
    go_simp
    with_reducible rfl
  rotate_left
  · simp only [Act.put, List.setIfInBounds_toArray, List.set_cons_zero, List.set_cons_succ, i64_w, i32_w]
    rfl
  refine pure_ (i := 20) (N := some 33) (v := ?_) (a' := ?_) #[true, true, true, true, true, true, true, true, true, true, true, true, true, true, true, true, true, true, true, true, true, false, true, true, false, false, false, false, true, true, false, false, false, false, true, true, false, false, false, false, true, true, false, false, false, false, false] rfl rfl (any_of HT_.out (by kernel_rfl)) (fun _ _ _ h => h) (Or.inl ⟨by rfl, ?_⟩) ?_ ?_
  rotate_left
  · intro w'
    go_simp
    with_reducible rfl
  rotate_left
  · simp only [Act.put, List.setIfInBounds_toArray, List.set_cons_zero, List.set_cons_succ, i64_w, i32_w]
    rfl
  refine pure_ (i := 21) (N := some 34) (v := ?_) (a' := ?_) #[true, true, true, true, true, true, true, true, true, true, true, true, true, true, true, true, true, true, true, true, true, true, true, true, false, false, false, false, true, true, false, false, false, false, true, true, false, false, false, false, true, true, false, false, false, false, false] rfl rfl (any_of HT_.out (by kernel_rfl)) (fun _ _ _ h => h) (Or.inl ⟨by rfl, ?_⟩) ?_ ?_
  rotate_left
  · intro w'
    go_simp
    with_reducible rfl
  rotate_left
  · simp only [Act.put, List.setIfInBounds_toArray, List.set_cons_zero, List.set_cons_succ, i64_w, i32_w]
    rfl
  refine take_ (i := 24) (N := some 37) (v := ?_) (a' := ?_) #[true, true, true, true, true, true, true, true, true, true, true, true, true, true, true, true, true, true, true, true, true, true, true, true, true, false, false, false, true, true, false, false, false, false, true, true, false, false, false, false, true, true, false, false, false, false, false] rfl rfl (take_ofW HT_.out HW_.out (by kernel_rfl)) (fun _ _ _ h => h) (Or.inl ⟨by rfl, ?_⟩) hHeld ?_ ?_
  rotate_left
  · rintro w' ⟨s0, s1, s2, s3, s4, s5, s6, s7⟩
    go_simp
    with_reducible rfl
  rotate_left
  · simp only [Act.put, List.setIfInBounds_toArray, List.set_cons_zero, List.set_cons_succ, i64_w, i32_w]
    rfl
  refine pure_ (i := 25) (N := some 38) (v := ?_) (a' := ?_) #[true, true, true, true, true, true, true, true, true, true, true, true, true, true, true, true, true, true, true, true, true, true, true, true, true, true, false, false, true, true, false, false, false, false, true, true, false, false, false, false, true, true, false, false, false, false, false] rfl rfl (any_of HT_.out (by kernel_rfl)) (fun _ _ _ h => h) (Or.inl ⟨by rfl, ?_⟩) ?_ ?_
  rotate_left
  · intro w'
    go_simp
    with_reducible rfl
  rotate_left
  · simp only [Act.put, List.setIfInBounds_toArray, List.set_cons_zero, List.set_cons_succ, i64_w, i32_w]
    rfl
  refine pure_ (i := 26) (N := some 39) (v := ?_) (a' := ?_) #[true, true, true, true, true, true, true, true, true, true, true, true, true, true, true, true, true, true, true, true, true, true, true, true, true, true, true, false, true, true, false, false, false, false, true, true, false, false, false, false, true, true, false, false, false, false, false] rfl rfl (any_of HT_.out (by kernel_rfl)) (fun _ _ _ h => h) (Or.inl ⟨by rfl, ?_⟩) ?_ ?_
  rotate_left
  · intro w'
    go_simp
    with_reducible rfl
  rotate_left
  · simp only [Act.put, List.setIfInBounds_toArray, List.set_cons_zero, List.set_cons_succ, i64_w, i32_w]
    rfl
  refine pure_ (i := 27) (N := some 40) (v := ?_) (a' := ?_) #[true, true, true, true, true, true, true, true, true, true, true, true, true, true, true, true, true, true, true, true, true, true, true, true, true, true, true, true, true, true, false, false, false, false, true, true, false, false, false, false, true, true, false, false, false, false, false] rfl rfl (any_of HT_.out (by kernel_rfl)) (fun _ _ _ h => h) (Or.inl ⟨by rfl, ?_⟩) ?_ ?_
  rotate_left
  · intro w'
    go_simp
    with_reducible rfl
  rotate_left
  · simp only [Act.put, List.setIfInBounds_toArray, List.set_cons_zero, List.set_cons_succ, i64_w, i32_w]
    rfl
  refine take_ (i := 30) (N := some 43) (v := ?_) (a' := ?_) #[true, true, true, true, true, true, true, true, true, true, true, true, true, true, true, true, true, true, true, true, true, true, true, true, true, true, true, true, true, true, true, false, false, false, true, true, false, false, false, false, true, true, false, false, false, false, false] rfl rfl (take_ofW HT_.out HW_.out (by kernel_rfl)) (fun _ _ _ h => h) (Or.inl ⟨by rfl, ?_⟩) hHeld ?_ ?_
  rotate_left
  · rintro w' ⟨s0, s1, s2, s3, s4, s5, s6, s7⟩
    go_simp
    with_reducible rfl
  rotate_left
  · simp only [Act.put, List.setIfInBounds_toArray, List.set_cons_zero, List.set_cons_succ, i64_w, i32_w]
    rfl
  refine pure_ (i := 31) (N := some 44) (v := ?_) (a' := ?_) #[true, true, true, true, true, true, true, true, true, true, true, true, true, true, true, true, true, true, true, true, true, true, true, true, true, true, true, true, true, true, true, true, false, false, true, true, false, false, false, false, true, true, false, false, false, false, false] rfl rfl (any_of HT_.out (by kernel_rfl)) (fun _ _ _ h => h) (Or.inl ⟨by rfl, ?_⟩) ?_ ?_
  rotate_left
  · intro w'
    go_simp
    with_reducible rfl
  rotate_left
  · simp only [Act.put, List.setIfInBounds_toArray, List.set_cons_zero, List.set_cons_succ, i64_w, i32_w]
    rfl
  refine pure_ (i := 32) (N := some 45) (v := ?_) (a' := ?_) #[true, true, true, true, true, true, true, true, true, true, true, true, true, true, true, true, true, true, true, true, true, true, true, true, true, true, true, true, true, true, true, true, true, false, true, true, false, false, false, false, true, true, false, false, false, false, false] rfl rfl (any_of HT_.out (by kernel_rfl)) (fun _ _ _ h => h) (Or.inl ⟨by rfl, ?_⟩) ?_ ?_
  rotate_left
  · intro w'
    go_simp
    with_reducible rfl
  rotate_left
  · simp only [Act.put, List.setIfInBounds_toArray, List.set_cons_zero, List.set_cons_succ, i64_w, i32_w]
    rfl
  refine pure_ (i := 33) (N := some 46) (v := ?_) (a' := ?_) #[true, true, true, true, true, true, true, true, true, true, true, true, true, true, true, true, true, true, true, true, true, true, true, true, true, true, true, true, true, true, true, true, true, true, true, true, false, false, false, false, true, true, false, false, false, false, false] rfl rfl (any_of HT_.out (by kernel_rfl)) (fun _ _ _ h => h) (Or.inl ⟨by rfl, ?_⟩) ?_ ?_
  rotate_left
  · intro w'
    go_simp
    with_reducible rfl
  rotate_left
  · simp only [Act.put, List.setIfInBounds_toArray, List.set_cons_zero, List.set_cons_succ, i64_w, i32_w]
    rfl
  refine take_ (i := 36) (N := some 49) (v := ?_) (a' := ?_) #[true, true, true, true, true, true, true, true, true, true, true, true, true, true, true, true, true, true, true, true, true, true, true, true, true, true, true, true, true, true, true, true, true, true, true, true, true, false, false, false, true, true, false, false, false, false, false] rfl rfl (take_ofW HT_.out HW_.out (by kernel_rfl)) (fun _ _ _ h => h) (Or.inl ⟨by rfl, ?_⟩) hHeld ?_ ?_
  rotate_left
  · rintro w' ⟨s0, s1, s2, s3, s4, s5, s6, s7⟩
    go_simp
    with_reducible rfl
  rotate_left
  · simp only [Act.put, List.setIfInBounds_toArray, List.set_cons_zero, List.set_cons_succ, i64_w, i32_w]
    rfl
  refine pure_ (i := 37) (N := some 50) (v := ?_) (a' := ?_) #[true, true, true, true, true, true, true, true, true, true, true, true, true, true, true, true, true, true, true, true, true, true, true, true, true, true, true, true, true, true, true, true, true, true, true, true, true, true, false, false, true, true, false, false, false, false, false] rfl rfl (any_of HT_.out (by kernel_rfl)) (fun _ _ _ h => h) (Or.inl ⟨by rfl, ?_⟩) ?_ ?_
  rotate_left
  · intro w'
    go_simp
    with_reducible rfl
  rotate_left
  · simp only [Act.put, List.setIfInBounds_toArray, List.set_cons_zero, List.set_cons_succ, i64_w, i32_w]
    rfl
  refine pure_ (i := 38) (N := some 51) (v := ?_) (a' := ?_) #[true, true, true, true, true, true, true, true, true, true, true, true, true, true, true, true, true, true, true, true, true, true, true, true, true, true, true, true, true, true, true, true, true, true, true, true, true, true, true, false, true, true, false, false, false, false, false] rfl rfl (any_of HT_.out (by kernel_rfl)) (fun _ _ _ h => h) (Or.inl ⟨by rfl, ?_⟩) ?_ ?_
  rotate_left
  · intro w'
    go_simp
    with_reducible rfl
  rotate_left
  · simp only [Act.put, List.setIfInBounds_toArray, List.set_cons_zero, List.set_cons_succ, i64_w, i32_w]
    rfl
  refine pure_ (i := 39) (N := some 52) (v := ?_) (a' := ?_) #[true, true, true, true, true, true, true, true, true, true, true, true, true, true, true, true, true, true, true, true, true, true, true, true, true, true, true, true, true, true, true, true, true, true, true, true, true, true, true, true, true, true, false, false, false, false, false] rfl rfl (any_of HT_.out (by kernel_rfl)) (fun _ _ _ h => h) (Or.inl ⟨by rfl, ?_⟩) ?_ ?_
  rotate_left
  · intro w'
    go_simp
    with_reducible rfl
  rotate_left
  · simp only [Act.put, List.setIfInBounds_toArray, List.set_cons_zero, List.set_cons_succ, i64_w, i32_w]
    rfl
  refine take_ (i := 42) (N := some 55) (v := ?_) (a' := ?_) #[true, true, true, true, true, true, true, true, true, true, true, true, true, true, true, true, true, true, true, true, true, true, true, true, true, true, true, true, true, true, true, true, true, true, true, true, true, true, true, true, true, true, true, false, false, false, false] rfl rfl (take_ofW HT_.out HW_.out (by kernel_rfl)) (fun _ _ _ h => h) (Or.inl ⟨by rfl, ?_⟩) hHeld ?_ ?_
  rotate_left
  · rintro w' ⟨s0, s1, s2, s3, s4, s5, s6, s7⟩
    go_simp
    with_reducible rfl
  rotate_left
  · simp only [Act.put, List.setIfInBounds_toArray, List.set_cons_zero, List.set_cons_succ, i64_w, i32_w]
    rfl
  refine pure_ (i := 43) (N := some 56) (v := ?_) (a' := ?_) #[true, true, true, true, true, true, true, true, true, true, true, true, true, true, true, true, true, true, true, true, true, true, true, true, true, true, true, true, true, true, true, true, true, true, true, true, true, true, true, true, true, true, true, true, false, false, false] rfl rfl (any_of HT_.out (by kernel_rfl)) (fun _ _ _ h => h) (Or.inl ⟨by rfl, ?_⟩) ?_ ?_
  rotate_left
  · intro w'
    go_simp
    with_reducible rfl
  rotate_left
  · simp only [Act.put, List.setIfInBounds_toArray, List.set_cons_zero, List.set_cons_succ, i64_w, i32_w]
    rfl
  refine pure_ (i := 44) (N := some 57) (v := ?_) (a' := ?_) #[true, true, true, true, true, true, true, true, true, true, true, true, true, true, true, true, true, true, true, true, true, true, true, true, true, true, true, true, true, true, true, true, true, true, true, true, true, true, true, true, true, true, true, true, true, false, false] rfl rfl (any_of HT_.out (by kernel_rfl)) (fun _ _ _ h => h) (Or.inl ⟨by rfl, ?_⟩) ?_ ?_
  rotate_left
  · intro w'
    go_simp
    with_reducible rfl
  rotate_left
  · simp only [Act.put, List.setIfInBounds_toArray, List.set_cons_zero, List.set_cons_succ, i64_w, i32_w]
    rfl
  refine pure_ (i := 45) (N := some 58) (v := ?_) (a' := ?_) #[true, true, true, true, true, true, true, true, true, true, true, true, true, true, true, true, true, true, true, true, true, true, true, true, true, true, true, true, true, true, true, true, true, true, true, true, true, true, true, true, true, true, true, true, true, true, false] rfl rfl (any_of HT_.out (by kernel_rfl)) (fun _ _ _ h => h) (Or.inl ⟨by rfl, ?_⟩) ?_ ?_
  rotate_left
  · intro w'
    go_simp
    with_reducible rfl
  rotate_left
  · simp only [Act.put, List.setIfInBounds_toArray, List.set_cons_zero, List.set_cons_succ, i64_w, i32_w]
    rfl
  refine pure_ (i := 46) (N := some 5) (v := ?_) (a' := ?_) #[true, true, true, true, true, true, true, true, true, true, true, true, true, true, true, true, true, true, true, true, true, true, true, true, true, true, true, true, true, true, true, true, true, true, true, true, true, true, true, true, true, true, true, true, true, true, true] rfl rfl (any_of HT_.out (by kernel_rfl)) (fun _ _ _ h => h) (Or.inl ⟨by rfl, ?_⟩) ?_ ?_
  rotate_left
  · intro w'
    go_simp
    with_reducible rfl
  rotate_left
  · simp only [Act.put, List.setIfInBounds_toArray, List.set_cons_zero, List.set_cons_succ, i64_w, i32_w]
    rfl
  refine done_ (done_of HT_.out (by kernel_rfl)) ?_
  rw [HV.out]
  clear HV hHeld c0 c1 c2 c3 c4 c5 c6 c7
  go_wp2
  refine start_ (n := 6) (S := fun w' => True) (ds := []) #[false, false, false, false, false, false] (by kernel_rfl) rfl rfl trivial (fun hHeld => ?_)
  refine with_tabW R115.tab5 R115.bits5 (fun HT_ HW_ => ?_)
  refine pure_ (i := 0) (N := some 59) (v := ?_) (a' := ?_) #[true, false, false, false, false, false] rfl rfl (any_of HT_.out (by kernel_rfl)) (fun _ _ _ h => h) (Or.inl ⟨by rfl, ?_⟩) ?_ ?_
  rotate_left
  · intro w'
    go_simp
    with_reducible rfl
  rotate_left
  · simp only [Act.put, List.setIfInBounds_toArray, List.set_cons_zero, List.set_cons_succ, i64_w, i32_w]
    rfl
  refine pure_ (i := 1) (N := some 60) (v := ?_) (a' := ?_) #[true, true, false, false, false, false] rfl rfl (any_of HT_.out (by kernel_rfl)) (fun _ _ _ h => h) (Or.inl ⟨by rfl, ?_⟩) ?_ ?_
  rotate_left
  · intro w'
    go_simp
    with_reducible rfl
  rotate_left
  · simp only [Act.put, List.setIfInBounds_toArray, List.set_cons_zero, List.set_cons_succ, i64_w, i32_w]
    rfl
  refine pure_ (i := 2) (N := some 61) (v := ?_) (a' := ?_) #[true, true, true, false, false, false] rfl rfl (any_of HT_.out (by kernel_rfl)) (fun _ _ _ h => h) (Or.inl ⟨by rfl, ?_⟩) ?_ ?_
  rotate_left
  · intro w'
    go_simp
    with_reducible rfl
  rotate_left
  · simp only [Act.put, List.setIfInBounds_toArray, List.set_cons_zero, List.set_cons_succ, i64_w, i32_w]
    rfl
  refine pure_ (i := 3) (N := some 2) (v := ?_) (a' := ?_) #[true, true, true, true, false, false] rfl rfl (any_of HT_.out (by kernel_rfl)) (fun _ _ _ h => h) (Or.inl ⟨by rfl, ?_⟩) ?_ ?_
  rotate_left
  · intro w'
    go_simp
    with_reducible rfl
  rotate_left
  · simp only [Act.put, List.setIfInBounds_toArray, List.set_cons_zero, List.set_cons_succ, i64_w, i32_w]
    rfl
  refine pure_ (i := 4) (N := some 3) (v := ?_) (a' := ?_) #[true, true, true, true, true, false] rfl rfl (any_of HT_.out (by kernel_rfl)) (fun _ _ _ h => h) (Or.inl ⟨by rfl, ?_⟩) ?_ ?_
  rotate_left
  · intro w'
    go_simp
    with_reducible rfl
  rotate_left
  · simp only [Act.put, List.setIfInBounds_toArray, List.set_cons_zero, List.set_cons_succ, i64_w, i32_w]
    rfl
  refine pure_ (i := 5) (N := some 4) (v := ?_) (a' := ?_) #[true, true, true, true, true, true] rfl rfl (any_of HT_.out (by kernel_rfl)) (fun _ _ _ h => h) (Or.inl ⟨by rfl, ?_⟩) ?_ ?_
  rotate_left
  · intro w'
    go_simp
    with_reducible rfl
  rotate_left
  · simp only [Act.put, List.setIfInBounds_toArray, List.set_cons_zero, List.set_cons_succ, i64_w, i32_w]
    rfl
  refine done_ (done_of HT_.out (by kernel_rfl)) ?_
  go_wp2
  exact bodyPost_ret (v := .tuple #[.int .i64 xv, .slice A1 r.length (c - 8), .bool true]) (by simp [results, Tryz.results115, go_sem]) rfl ⟨A1, rfl, T1.out, bdrew (bdrew (Below.refl _ _))⟩
theorem u32No (A : Option Addr) (c p : Nat) (w : World) (h : p < 4) : Calls Tryz.prog 118 #[.slice A p c] w fun e w' => e = .returned (.tuple #[.int .u32 0, .slice A p c, .bool false]) ∧ Below w.heap.size w w' := by
  have d : decide ((p : Int) < 4) = true := decide_eq_true (by omega)
  go_enter Tryz.func118, Tryz.ntmps118
  go_wp2_with fail
  go_ret3
  exact ⟨rfl, Below.refl _ _⟩
theorem u64No (A : Option Addr) (c p : Nat) (w : World) (h : p < 8) : Calls Tryz.prog 111 #[.slice A p c] w fun e w' => e = .returned (.tuple #[.int .u64 0, .slice A p c, .bool false]) ∧ Below w.heap.size w w' := by
  have d : decide ((p : Int) < 8) = true := decide_eq_true (by omega)
  go_enter Tryz.func111, Tryz.ntmps111
  go_wp2_with fail
  go_ret3
  exact ⟨rfl, Below.refl _ _⟩
theorem i64No (A : Option Addr) (c p : Nat) (w : World) (h : p < 8) : Calls Tryz.prog 115 #[.slice A p c] w fun e w' => e = .returned (.tuple #[.int .i64 0, .slice A p c, .bool false]) ∧ Below w.heap.size w w' := by
  have d : decide ((p : Int) < 8) = true := decide_eq_true (by omega)
  go_enter Tryz.func115, Tryz.ntmps115
  go_wp2_with fail
  go_ret3
  exact ⟨rfl, Below.refl _ _⟩
theorem i32No (A : Option Addr) (c p : Nat) (w : World) (h : p < 4) : Calls Tryz.prog 117 #[.slice A p c] w fun e w' => e = .returned (.tuple #[.int .i32 0, .slice A p c, .bool false]) ∧ Below w.heap.size w w' := by
  have d : decide ((p : Int) < 4) = true := decide_eq_true (by omega)
  go_enter Tryz.func117, Tryz.ntmps117
  go_wp2_with fail
  go_ret3
  exact ⟨rfl, Below.refl _ _⟩
theorem wrapReadString {A : Option Addr} {p c : Nat} {w : World} {P : Value → Value → Value → World → Prop} (h : Calls Tryz.prog 112 #[.slice A p c] w fun e w' => ∃ x y z, e = .returned (.tuple #[x, y, z]) ∧ P x y z w') : Calls Tryz.prog 47 #[.slice A p c] w fun e w' => ∃ x y z, e = .returned (.tuple #[x, y, z]) ∧ P x y z w' := by
  have HC := Lib.hid h
  clear h
  go_enter Tryz.func47, Tryz.ntmps47
  go_wp2_with fail
  refine HC.out.mono ?_
  rintro e w1 ⟨x, y, z, rfl, hp⟩
  have HP := Lib.hid hp
  clear hp HC
  go_wp2_with fail
  go_ret3
  exact ⟨x, y, z, rfl, HP.out⟩
theorem wrapReadJavaScript {A : Option Addr} {p c : Nat} {w : World} {P : Value → Value → Value → World → Prop} (h : Calls Tryz.prog 112 #[.slice A p c] w fun e w' => ∃ x y z, e = .returned (.tuple #[x, y, z]) ∧ P x y z w') : Calls Tryz.prog 57 #[.slice A p c] w fun e w' => ∃ x y z, e = .returned (.tuple #[x, y, z]) ∧ P x y z w' := by
  have HC := Lib.hid h
  clear h
  go_enter Tryz.func57, Tryz.ntmps57
  go_wp2_with fail
  refine HC.out.mono ?_
  rintro e w1 ⟨x, y, z, rfl, hp⟩
  have HP := Lib.hid hp
  clear hp HC
  go_wp2_with fail
  go_ret3
  exact ⟨x, y, z, rfl, HP.out⟩
theorem wrapReadSymbol {A : Option Addr} {p c : Nat} {w : World} {P : Value → Value → Value → World → Prop} (h : Calls Tryz.prog 112 #[.slice A p c] w fun e w' => ∃ x y z, e = .returned (.tuple #[x, y, z]) ∧ P x y z w') : Calls Tryz.prog 58 #[.slice A p c] w fun e w' => ∃ x y z, e = .returned (.tuple #[x, y, z]) ∧ P x y z w' := by
  have HC := Lib.hid h
  clear h
  go_enter Tryz.func58, Tryz.ntmps58
  go_wp2_with fail
  refine HC.out.mono ?_
  rintro e w1 ⟨x, y, z, rfl, hp⟩
  have HP := Lib.hid hp
  clear hp HC
  go_wp2_with fail
  go_ret3
  exact ⟨x, y, z, rfl, HP.out⟩
theorem wrapReadDateTime {A : Option Addr} {p c : Nat} {w : World} {P : Value → Value → Value → World → Prop} (h : Calls Tryz.prog 115 #[.slice A p c] w fun e w' => ∃ x y z, e = .returned (.tuple #[x, y, z]) ∧ P x y z w') : Calls Tryz.prog 54 #[.slice A p c] w fun e w' => ∃ x y z, e = .returned (.tuple #[x, y, z]) ∧ P x y z w' := by
  have HC := Lib.hid h
  clear h
  go_enter Tryz.func54, Tryz.ntmps54
  go_wp2_with fail
  refine HC.out.mono ?_
  rintro e w1 ⟨x, y, z, rfl, hp⟩
  have HP := Lib.hid hp
  clear hp HC
  go_wp2_with fail
  go_ret3
  exact ⟨x, y, z, rfl, HP.out⟩
theorem wrapReadInt64 {A : Option Addr} {p c : Nat} {w : World} {P : Value → Value → Value → World → Prop} (h : Calls Tryz.prog 115 #[.slice A p c] w fun e w' => ∃ x y z, e = .returned (.tuple #[x, y, z]) ∧ P x y z w') : Calls Tryz.prog 62 #[.slice A p c] w fun e w' => ∃ x y z, e = .returned (.tuple #[x, y, z]) ∧ P x y z w' := by
  have HC := Lib.hid h
  clear h
  go_enter Tryz.func62, Tryz.ntmps62
  go_wp2_with fail
  refine HC.out.mono ?_
  rintro e w1 ⟨x, y, z, rfl, hp⟩
  have HP := Lib.hid hp
  clear hp HC
  go_wp2_with fail
  go_ret3
  exact ⟨x, y, z, rfl, HP.out⟩
theorem wrapReadInt32 {A : Option Addr} {p c : Nat} {w : World} {P : Value → Value → Value → World → Prop} (h : Calls Tryz.prog 117 #[.slice A p c] w fun e w' => ∃ x y z, e = .returned (.tuple #[x, y, z]) ∧ P x y z w') : Calls Tryz.prog 60 #[.slice A p c] w fun e w' => ∃ x y z, e = .returned (.tuple #[x, y, z]) ∧ P x y z w' := by
  have HC := Lib.hid h
  clear h
  go_enter Tryz.func60, Tryz.ntmps60
  go_wp2_with fail
  refine HC.out.mono ?_
  rintro e w1 ⟨x, y, z, rfl, hp⟩
  have HP := Lib.hid hp
  clear hp HC
  go_wp2_with fail
  go_ret3
  exact ⟨x, y, z, rfl, HP.out⟩
theorem wrapReadDocument {A : Option Addr} {p c : Nat} {w : World} {P : Value → Value → Value → World → Prop} (h : Calls Tryz.prog 113 #[.slice A p c] w fun e w' => ∃ x y z, e = .returned (.tuple #[x, y, z]) ∧ P x y z w') : Calls Tryz.prog 48 #[.slice A p c] w fun e w' => ∃ x y z, e = .returned (.tuple #[x, y, z]) ∧ P x y z w' := by
  have HC := Lib.hid h
  clear h
  go_enter Tryz.func48, Tryz.ntmps48
  go_wp2_with fail
  refine HC.out.mono ?_
  rintro e w1 ⟨x, y, z, rfl, hp⟩
  have HP := Lib.hid hp
  clear hp HC
  go_wp2_with fail
  go_ret3
  exact ⟨x, y, z, rfl, HP.out⟩
theorem wrapReadArray {A : Option Addr} {p c : Nat} {w : World} {P : Value → Value → Value → World → Prop} (h : Calls Tryz.prog 113 #[.slice A p c] w fun e w' => ∃ x y z, e = .returned (.tuple #[x, y, z]) ∧ P x y z w') : Calls Tryz.prog 49 #[.slice A p c] w fun e w' => ∃ x y z, e = .returned (.tuple #[x, y, z]) ∧ P x y z w' := by
  have HC := Lib.hid h
  clear h
  go_enter Tryz.func49, Tryz.ntmps49
  go_wp2_with fail
  refine HC.out.mono ?_
  rintro e w1 ⟨x, y, z, rfl, hp⟩
  have HP := Lib.hid hp
  clear hp HC
  go_wp2_with fail
  go_ret3
  exact ⟨x, y, z, rfl, HP.out⟩
theorem w32p {n : Nat} (h : n ≤ 5000) : wrap32 ((n : Int) + 1) = (n : Int) + 1 ∧ wrap64 ((n : Int) + 1) = (n : Int) + 1 ∧ wrap32 ((n : Int) + 1 - 1) = n ∧ wrap32 (n : Int) = n ∧ wrap64 (n : Int) = n := by
  refine ⟨?_, ?_, ?_, ?_, ?_⟩ <;> (first | unfold wrap32 | unfold wrap64) <;> omega
theorem lenS (A : Option Addr) (c : Nat) (l : List UInt8) (nn : Int) (w : World) (hs : SB w A c l) (hr : readLen l = (nn, true)) :
    Calls Tryz.prog 114 #[.slice A l.length c] w fun e w' => ∃ A1, e = .returned (.tuple #[.int .i32 nn, .slice A1 (l.length - 4) (c - 4), .bool true]) ∧ Sm A c l A1 (c - 4) (l.drop 4) ∧ Below w.heap.size w w' := by
  have h4 : 4 ≤ l.length := by
    have h := read_num l
    rw [hr] at h
    have h2 := (Prod.mk.inj h).2.symm
    rw [Bool.and_eq_true] at h2
    exact num_long l h2.1
  refine (readLengthS A c l w hs).mono ?_
  rintro e w' ⟨A1, n1, c1, rfl, h5, -, hb⟩
  obtain ⟨rfl, rfl, h6⟩ := h5 h4
  exact ⟨A1, by rw [hr], h6, hb⟩
theorem lenNo (A : Option Addr) (c : Nat) (l : List UInt8) (nn : Int) (w : World) (hs : SB w A c l) (hr : readLen l = (nn, false)) :
    Calls Tryz.prog 114 #[.slice A l.length c] w fun e w' => ∃ A1 n1 c1, e = .returned (.tuple #[.int .i32 nn, .slice A1 n1 c1, .bool false]) ∧ Below w.heap.size w w' := by
  refine (readLengthS A c l w hs).mono ?_
  rintro e w' ⟨A1, n1, c1, rfl, -, -, hb⟩
  exact ⟨A1, n1, c1, by rw [hr], hb⟩
set_option maxHeartbeats 1600000 in
theorem str_ok (A : Option Addr) (c : Nat) (l : List UInt8) (n : Nat) (w : World) (hs : SB w A c l) (hl : l.length ≤ 5000) (hr : readLen l = ((n : Int) + 1, true)) (hle : n + 5 ≤ l.length) :
    Calls Tryz.prog 112 #[.slice A l.length c] w fun e w' => ∃ A1 c1, e = .returned (.tuple #[.string ⟨((l.drop 4).take n).toArray⟩, .slice A1 (l.length - (n + 5)) c1, .bool true]) ∧ Sm A c l A1 c1 (l.drop (n + 5)) ∧ Below w.heap.size w w' := by
  obtain ⟨A4, e4, -⟩ := SB.from_ (P := Tryz.prog) Tryz.underlying22 rfl rfl .i64 A c l 4 (by omega) hs.le
  have HL := Lib.hid (lenS A c l _ w hs hr)
  have hd : (l.drop 4).length = l.length - 4 := List.length_drop
  have HS := Lib.hid hs
  obtain ⟨p, hp⟩ : ∃ p, p = l.length := ⟨_, rfl⟩
  have e4' : ∀ W : World, (Instr.slice 22 (.slice A p c) (some (.int .i64 4)) none none).run Tryz.prog W = .ok (.slice A4 (p - 4) (c - 4)) W := by rw [hp]; exact e4
  have hcl := hs.le
  rw [← hp] at HL hl hle hd hcl
  rw [← hp]
  have HW := Lib.hid (w32p (n := n) (by omega))
  have d1 : decide (((p - 4 : Nat) : Int) < (n : Int) + 1) = false := decide_eq_false (by omega)
  have d2 : (((n : Int) + 1) == 0) = false := by rw [beq_eq_false_iff_ne]; omega
  obtain ⟨Z, hZ⟩ : ∃ z : ByteArray, z = ⟨((l.drop 4).take n).toArray⟩ := ⟨_, rfl⟩
  have HQ : Hid (∀ A1, ∃ A5 A6, (∀ W : World, (Instr.slice 22 (.slice A1 (p - 4) (c - 4)) none (some (.int .i32 n)) none).run Tryz.prog W = .ok (.slice A5 n (c - 4)) W) ∧ (∀ W : World, (Instr.slice 22 (.slice A1 (p - 4) (c - 4)) (some (.int .i32 ((n : Int) + 1))) none none).run Tryz.prog W = .ok (.slice A6 (p - (n + 5)) (c - (n + 5))) W) ∧ (∀ W, SB W A1 (c - 4) (l.drop 4) → (convert 22 9 (.slice A5 n (c - 4))).run Tryz.prog W = .ok (.string Z) W) ∧ Sm A1 (c - 4) (l.drop 4) A6 (c - (n + 5)) (l.drop (n + 5))) := Lib.hid fun A1 => by
    obtain ⟨A5, x5, s5⟩ := SB.to_ (P := Tryz.prog) Tryz.underlying22 rfl rfl .i32 A1 (c - 4) (l.drop 4) n (by omega) (by omega)
    obtain ⟨A6, x6, s6⟩ := SB.from_ (P := Tryz.prog) Tryz.underlying22 rfl rfl .i32 A1 (c - 4) (l.drop 4) (n + 1) (by omega) (by omega)
    rw [hd] at x5 x6
    refine ⟨A5, A6, x5, fun W => ?_, fun W h => ?_, fun W h => ?_⟩
    · have h := x6 W
      rw [show p - 4 - (n + 1) = p - (n + 5) from by omega, show c - 4 - (n + 1) = c - (n + 5) from by omega] at h
      exact h
    · rw [hZ]
      have h2 := str_of (s5 W h)
      rw [List.length_take, hd, Nat.min_eq_left (by omega)] at h2
      exact h2
    · have h2 := s6 W h
      rw [List.drop_drop, show 4 + (n + 1) = n + 5 from by omega, show c - 4 - (n + 1) = c - (n + 5) from by omega] at h2
      exact h2
  rw [← hZ]
  clear hs hr hle hd hp hZ hl e4 hcl
  obtain ⟨i1, i2, i3, i4, i5⟩ := HW.out
  go_enter Tryz.func112, Tryz.ntmps112
  go_wp2_with fail
  refine HL.out.mono ?_
  rintro e w1 ⟨A1, rfl, hsm, hb1⟩
  obtain ⟨A5, A6, x5, x6, hcv, hsm6⟩ := HQ.out A1
  have HCV := Lib.hid (fun W (h : Below w.heap.size w W) => hcv W (hsm W (HS.out.keep h)))
  have HB1 := Lib.hid hb1
  have HS6 : Hid (Sm A c l A6 (c - (n + 5)) (l.drop (n + 5))) := Lib.hid fun W h => hsm6 W (hsm W h)
  clear hcv hsm hsm6 hb1 HL HQ
  go_wp2_with fail
  refine start_ (n := 11) (S := fun w' => (convert 22 9 (.slice A5 n (c - 4))).run Tryz.prog w' = .ok (.string Z) w') (ds := []) #[false, false, false, false, false, false, false, false, false, false, false] (by kernel_rfl) rfl rfl ((HCV.out _ (bdrew HB1.out))) (fun hHeld => ?_)
  refine with_tabW R112.tab6 R112.bits6 (fun HT_ HW_ => ?_)
  refine pure_ (i := 0) (N := some 28) (v := ?_) (a' := ?_) #[true, false, false, false, false, false, false, false, false, false, false] rfl rfl (any_of HT_.out (by kernel_rfl)) (fun _ _ _ h => h) (Or.inl ⟨by rfl, ?_⟩) ?_ ?_
  rotate_left
  · intro w'
    go_simp
    with_reducible rfl
  rotate_left
  · simp only [Act.put, List.setIfInBounds_toArray, List.set_cons_zero, List.set_cons_succ, i64_w, i32_w]
    rfl
  refine pure_ (i := 1) (N := some 29) (v := ?_) (a' := ?_) #[true, true, false, false, false, false, false, false, false, false, false] rfl rfl (any_of HT_.out (by kernel_rfl)) (fun _ _ _ h => h) (Or.inl ⟨by rfl, ?_⟩) ?_ ?_
  rotate_left
  · intro w'
    go_simp
    with_reducible rfl
  rotate_left
  · simp only [Act.put, List.setIfInBounds_toArray, List.set_cons_zero, List.set_cons_succ, i64_w, i32_w]
    rfl
  refine pure_ (i := 2) (N := some 30) (v := ?_) (a' := ?_) #[true, true, true, false, false, false, false, false, false, false, false] rfl rfl (any_of HT_.out (by kernel_rfl)) (fun _ _ _ h => h) (Or.inl ⟨by rfl, ?_⟩) ?_ ?_
  rotate_left
  · intro w'
    go_simp
    with_reducible rfl
  rotate_left
  · simp only [Act.put, List.setIfInBounds_toArray, List.set_cons_zero, List.set_cons_succ, i64_w, i32_w]
    rfl
  refine pure_ (i := 3) (N := some 31) (v := ?_) (a' := ?_) #[true, true, true, true, false, false, false, false, false, false, false] rfl rfl (any_of HT_.out (by kernel_rfl)) (fun _ _ _ h => h) (Or.inl ⟨by rfl, ?_⟩) ?_ ?_
  rotate_left
  · intro w'
    go_simp
    with_reducible rfl
  rotate_left
  · simp only [Act.put, List.setIfInBounds_toArray, List.set_cons_zero, List.set_cons_succ, i64_w, i32_w]
    rfl
  refine pure_ (i := 5) (N := some 33) (v := ?_) (a' := ?_) #[true, true, true, true, false, true, false, false, false, false, false] rfl rfl (any_of HT_.out (by kernel_rfl)) (fun _ _ _ h => h) (Or.inl ⟨by rfl, ?_⟩) ?_ ?_
  rotate_left
  · intro w'
    go_simp
    with_reducible rfl
  rotate_left
  · simp only [Act.put, List.setIfInBounds_toArray, List.set_cons_zero, List.set_cons_succ, i64_w, i32_w]
    rfl
  refine pure_ (i := 6) (N := some 34) (v := ?_) (a' := ?_) #[true, true, true, true, false, true, true, false, false, false, false] rfl rfl (any_of HT_.out (by kernel_rfl)) (fun _ _ _ h => h) (Or.inl ⟨by rfl, ?_⟩) ?_ ?_
  rotate_left
  · intro w'
    go_simp
    with_reducible rfl
  rotate_left
  · simp only [Act.put, List.setIfInBounds_toArray, List.set_cons_zero, List.set_cons_succ, i64_w, i32_w]
    rfl
  refine pure_ (i := 7) (N := some 35) (v := ?_) (a' := ?_) #[true, true, true, true, false, true, true, true, false, false, false] rfl rfl (any_of HT_.out (by kernel_rfl)) (fun _ _ _ h => h) (Or.inl ⟨by rfl, ?_⟩) ?_ ?_
  rotate_left
  · intro w'
    go_simp
    with_reducible rfl
  rotate_left
  · simp only [Act.put, List.setIfInBounds_toArray, List.set_cons_zero, List.set_cons_succ, i64_w, i32_w]
    rfl
  refine take_ (i := 4) (N := some 32) (v := ?_) (a' := ?_) #[true, true, true, true, true, true, true, true, false, false, false] rfl rfl (take_ofW HT_.out HW_.out (by kernel_rfl)) (fun _ _ _ h => h) (Or.inl ⟨by rfl, ?_⟩) hHeld ?_ ?_
  rotate_left
  · intro w' s0
    go_simp
    with_reducible rfl
  rotate_left
  · simp only [Act.put, List.setIfInBounds_toArray, List.set_cons_zero, List.set_cons_succ, i64_w, i32_w]
    rfl
  refine pure_ (i := 8) (N := some 2) (v := ?_) (a' := ?_) #[true, true, true, true, true, true, true, true, true, false, false] rfl rfl (any_of HT_.out (by kernel_rfl)) (fun _ _ _ h => h) (Or.inl ⟨by rfl, ?_⟩) ?_ ?_
  rotate_left
  · intro w'
    go_simp
    with_reducible rfl
  rotate_left
  · simp only [Act.put, List.setIfInBounds_toArray, List.set_cons_zero, List.set_cons_succ, i64_w, i32_w]
    rfl
  refine pure_ (i := 9) (N := some 3) (v := ?_) (a' := ?_) #[true, true, true, true, true, true, true, true, true, true, false] rfl rfl (any_of HT_.out (by kernel_rfl)) (fun _ _ _ h => h) (Or.inl ⟨by rfl, ?_⟩) ?_ ?_
  rotate_left
  · intro w'
    go_simp
    with_reducible rfl
  rotate_left
  · simp only [Act.put, List.setIfInBounds_toArray, List.set_cons_zero, List.set_cons_succ, i64_w, i32_w]
    rfl
  refine pure_ (i := 10) (N := some 4) (v := ?_) (a' := ?_) #[true, true, true, true, true, true, true, true, true, true, true] rfl rfl (any_of HT_.out (by kernel_rfl)) (fun _ _ _ h => h) (Or.inl ⟨by rfl, ?_⟩) ?_ ?_
  rotate_left
  · intro w'
    go_simp
    with_reducible rfl
  rotate_left
  · simp only [Act.put, List.setIfInBounds_toArray, List.set_cons_zero, List.set_cons_succ, i64_w, i32_w]
    rfl
  refine done_ (done_of HT_.out (by kernel_rfl)) ?_
  go_wp2_with fail
  exact bodyPost_ret (v := .tuple #[.string Z, .slice A6 (p - (n + 5)) (c - (n + 5)), .bool true]) (by simp [results, Tryz.results112, go_sem]) rfl ⟨A6, _, rfl, HS6.out, by first | exact HB1.out | exact bdrew HB1.out⟩
theorem str_no (A : Option Addr) (c : Nat) (l : List UInt8) (w : World) (hs : SB w A c l) (hl : l.length ≤ 5000) (h : (readLen l).2 = false ∨ (l.length : Int) < (readLen l).1 + 4 ∨ (readLen l).1 = 0) :
    Calls Tryz.prog 112 #[.slice A l.length c] w fun e w' => e = .returned (.tuple #[.string ⟨#[]⟩, .slice A l.length c, .bool false]) ∧ Below w.heap.size w w' := by
  obtain ⟨⟨nn, ok⟩, hr⟩ : ∃ x, readLen l = x := ⟨_, rfl⟩
  rw [hr] at h
  cases ok with
  | false =>
    have HL := Lib.hid (lenNo A c l nn w hs hr)
    obtain ⟨p, hp⟩ : ∃ p, p = l.length := ⟨_, rfl⟩
    rw [← hp] at HL ⊢
    clear hs hl h hr hp
    go_enter Tryz.func112, Tryz.ntmps112
    go_wp2_with fail
    refine HL.out.mono ?_
    rintro e w1 ⟨A1, n1, c1, rfl, hb1⟩
    have HB1 := Lib.hid hb1
    clear hb1 HL
    go_wp2_with fail
    go_ret3
    exact ⟨rfl, HB1.out⟩
  | true =>
    have h2 : (l.length : Int) < nn + 4 ∨ nn = 0 := by
      rcases h with h | h
      · cases h
      · exact h
    have hbd := num_bd l
    have hrn := read_num l
    rw [hr] at hrn
    obtain ⟨hn1, hn2⟩ := Prod.mk.inj hrn
    have hn3 := hn2.symm
    rw [Bool.and_eq_true] at hn3
    have h0 : 0 ≤ nn := by rw [hn1]; exact of_decide_eq_true hn3.2
    have hmx : nn ≤ 2147483647 := by rw [hn1]; exact hbd.2
    have h4 := num_long l hn3.1
    obtain ⟨A4, e4, -⟩ := SB.from_ (P := Tryz.prog) Tryz.underlying22 rfl rfl .i64 A c l 4 h4 hs.le
    have HL := Lib.hid (lenS A c l _ w hs hr)
    obtain ⟨p, hp⟩ : ∃ p, p = l.length := ⟨_, rfl⟩
    have e4' : ∀ W : World, (Instr.slice 22 (.slice A p c) (some (.int .i64 4)) none none).run Tryz.prog W = .ok (.slice A4 (p - 4) (c - 4)) W := by rw [hp]; exact e4
    rw [← hp] at HL h2 h4
    rw [← hp]
    have HI1 : Hid (wrap64 nn = nn) := Lib.hid (by unfold wrap64; omega)
    obtain ⟨d, hd⟩ : ∃ d, decide (((p - 4 : Nat) : Int) < nn) = d := ⟨_, rfl⟩
    obtain ⟨d2, hd2⟩ : ∃ d, (nn == 0) = d := ⟨_, rfl⟩
    have hor : d = true ∨ d2 = true := by
      rcases h2 with h | h
      · exact .inl (by rw [← hd]; exact decide_eq_true (by omega))
      · exact .inr (by rw [← hd2, h]; rfl)
    have HOR := Lib.hid hor
    clear hs hr hp h hl h2 h4 h0 hmx hn1 hn2 hn3 hrn hbd e4 hor
    have i1 := HI1.out
    go_enter Tryz.func112, Tryz.ntmps112
    go_wp2_with fail
    refine HL.out.mono ?_
    rintro e w1 ⟨A1, rfl, -, hb1⟩
    have HB1 := Lib.hid hb1
    clear hb1 HL
    cases d with
    | true =>
      go_wp2_with fail
      go_ret3
      exact ⟨rfl, HB1.out⟩
    | false =>
      have hd3 : d2 = true := by rcases HOR.out with h | h; · cases h
                                 · exact h
      subst hd3
      go_wp2_with fail
      go_ret3
      exact ⟨rfl, HB1.out⟩
set_option maxHeartbeats 1600000 in
theorem rlb_ok (A : Option Addr) (c : Nat) (l : List UInt8) (n : Nat) (w : World) (hs : SB w A c l) (hl : l.length ≤ 5000) (hr : readLen l = ((n : Int), true)) (h4 : 4 ≤ n) (hle : n ≤ l.length) :
    Calls Tryz.prog 113 #[.slice A l.length c] w fun e w' => ∃ A1 c1 A2 c2, e = .returned (.tuple #[.slice A1 n c1, .slice A2 (l.length - n) c2, .bool true]) ∧ Sm A c l A1 c1 (l.take n) ∧ Sm A c l A2 c2 (l.drop n) ∧ Below w.heap.size w w' := by
  have HL := Lib.hid (lenS A c l _ w hs hr)
  obtain ⟨A5, x5, s5⟩ := SB.to_ (P := Tryz.prog) Tryz.underlying22 rfl rfl .i32 A c l n hle hs.le
  obtain ⟨A6, x6, s6⟩ := SB.from_ (P := Tryz.prog) Tryz.underlying22 rfl rfl .i32 A c l n hle hs.le
  have HS5 : Hid (Sm A c l A5 c (l.take n)) := Lib.hid s5
  have HS6 : Hid (Sm A c l A6 (c - n) (l.drop n)) := Lib.hid s6
  obtain ⟨p, hp⟩ : ∃ p, p = l.length := ⟨_, rfl⟩
  rw [← hp] at HL hl hle x5 x6
  rw [← hp]
  have HW := Lib.hid (w32p (n := n) (by omega))
  have d1 : decide ((n : Int) < 4) = false := decide_eq_false (by omega)
  have d2 : decide (p < n) = false := decide_eq_false (by omega)
  clear hs hr hp hl h4 hle s5 s6
  obtain ⟨-, -, -, i4, i5⟩ := HW.out
  go_enter Tryz.func113, Tryz.ntmps113
  go_wp2_with fail
  refine HL.out.mono ?_
  rintro e w1 ⟨A1, rfl, -, hb1⟩
  have HB1 := Lib.hid hb1
  clear hb1 HL
  go_wp2_with fail
  go_region
  go_wp2_with fail
  go_ret3
  exact ⟨_, _, _, _, rfl, HS5.out, HS6.out, bdrew HB1.out⟩
theorem rlb_no (A : Option Addr) (c : Nat) (l : List UInt8) (w : World) (hs : SB w A c l) (hl : l.length ≤ 5000) (h : (readLen l).2 = false ∨ (readLen l).1 < 4 ∨ (l.length : Int) < (readLen l).1) :
    Calls Tryz.prog 113 #[.slice A l.length c] w fun e w' => e = .returned (.tuple #[.slice none 0 0, .slice A l.length c, .bool false]) ∧ Below w.heap.size w w' := by
  obtain ⟨⟨nn, ok⟩, hr⟩ : ∃ x, readLen l = x := ⟨_, rfl⟩
  rw [hr] at h
  cases ok with
  | false =>
    have HL := Lib.hid (lenNo A c l nn w hs hr)
    obtain ⟨p, hp⟩ : ∃ p, p = l.length := ⟨_, rfl⟩
    rw [← hp] at HL ⊢
    clear hs hl h hr hp
    go_enter Tryz.func113, Tryz.ntmps113
    go_wp2_with fail
    refine HL.out.mono ?_
    rintro e w1 ⟨A1, n1, c1, rfl, hb1⟩
    have HB1 := Lib.hid hb1
    clear hb1 HL
    go_wp2_with fail
    go_ret3
    exact ⟨rfl, HB1.out⟩
  | true =>
    have h2 : nn < 4 ∨ (l.length : Int) < nn := by
      rcases h with h | h
      · cases h
      · exact h
    have hbd := num_bd l
    have hrn := read_num l
    rw [hr] at hrn
    obtain ⟨hn1, hn2⟩ := Prod.mk.inj hrn
    have hmn : -2147483648 ≤ nn := by rw [hn1]; exact hbd.1
    have hmx : nn ≤ 2147483647 := by rw [hn1]; exact hbd.2
    have HL := Lib.hid (lenS A c l _ w hs hr)
    obtain ⟨p, hp⟩ : ∃ p, p = l.length := ⟨_, rfl⟩
    rw [← hp] at HL h2
    rw [← hp]
    have HI1 : Hid (wrap64 nn = nn) := Lib.hid (by unfold wrap64; omega)
    obtain ⟨d, hd⟩ : ∃ d, decide (nn < 4) = d := ⟨_, rfl⟩
    obtain ⟨d2, hd2⟩ : ∃ d, decide ((p : Int) < nn) = d := ⟨_, rfl⟩
    have hor : d = true ∨ d2 = true := by
      rcases h2 with h | h
      · exact .inl (by rw [← hd]; exact decide_eq_true h)
      · exact .inr (by rw [← hd2]; exact decide_eq_true h)
    have HOR := Lib.hid hor
    clear hs hr hp h hl h2 hmn hmx hn1 hn2 hrn hbd hor
    have i1 := HI1.out
    go_enter Tryz.func113, Tryz.ntmps113
    go_wp2_with fail
    refine HL.out.mono ?_
    rintro e w1 ⟨A1, rfl, -, hb1⟩
    have HB1 := Lib.hid hb1
    clear hb1 HL
    cases d with
    | true =>
      go_wp2_with fail
      go_ret3
      exact ⟨rfl, HB1.out⟩
    | false =>
      have hd3 : d2 = true := by rcases HOR.out with h | h; · cases h
                                 · exact h
      subst hd3
      go_wp2_with fail
      go_ret3
      exact ⟨rfl, HB1.out⟩
theorem dbl_ok (A : Option Addr) (c : Nat) (b0 b1 b2 b3 b4 b5 b6 b7 : UInt8) (r : List UInt8) (w : World) (hs : SB w A c (b0 :: b1 :: b2 :: b3 :: b4 :: b5 :: b6 :: b7 :: r)) :
    Calls Tryz.prog 45 #[.slice A (b0 :: b1 :: b2 :: b3 :: b4 :: b5 :: b6 :: b7 :: r).length c] w fun e w' => ∃ A1, e = .returned (.tuple #[.float .f64 (Lib.leNat [b0, b1, b2, b3, b4, b5, b6, b7]), .slice A1 r.length (c - 8), .bool true]) ∧ Sm A c (b0 :: b1 :: b2 :: b3 :: b4 :: b5 :: b6 :: b7 :: r) A1 (c - 8) r ∧ Below w.heap.size w w' := by
  have HC := Lib.hid (readU64S A c b0 b1 b2 b3 b4 b5 b6 b7 r w hs)
  obtain ⟨nv, hnv⟩ : ∃ x, x = (Lib.leNat [b0, b1, b2, b3, b4, b5, b6, b7]) := ⟨_, rfl⟩
  obtain ⟨p, hp⟩ : ∃ p, p = (b0 :: b1 :: b2 :: b3 :: b4 :: b5 :: b6 :: b7 :: r).length := ⟨_, rfl⟩
  rw [← hnv, ← hp] at HC
  rw [← hnv, ← hp]
  have hfb : ∀ W : World, Sem.run Tryz.prog (callFunc 79 #[.int .u64 (nv : Int)]) W = .ok (.value (.float .f64 nv)) W := fun W => by kernel_rfl
  clear hs hnv hp
  go_enter Tryz.func45, Tryz.ntmps45
  go_wp2_with fail
  refine HC.out.mono ?_
  rintro e w1 ⟨A1, rfl, hsm, hb1⟩
  have HB1 := Lib.hid hb1
  have HSM := Lib.hid hsm
  clear hb1 hsm HC
  go_wp2_with fail
  go_ret3
  exact ⟨A1, rfl, HSM.out, HB1.out⟩
theorem dbl_no (A : Option Addr) (c p : Nat) (w : World) (h : p < 8) : Calls Tryz.prog 45 #[.slice A p c] w fun e w' => e = .returned (.tuple #[.float .f64 0, .slice A p c, .bool false]) ∧ Below w.heap.size w w' := by
  have HC := Lib.hid (u64No A c p w h)
  clear h
  go_enter Tryz.func45, Tryz.ntmps45
  go_wp2_with fail
  refine HC.out.mono ?_
  rintro e w1 ⟨rfl, hb1⟩
  have HB1 := Lib.hid hb1
  clear hb1 HC
  go_wp2_with fail
  go_ret3
  exact ⟨rfl, HB1.out⟩
theorem bool_ok (A : Option Addr) (c : Nat) (b : UInt8) (r : List UInt8) (w : World) (hs : SB w A c (b :: r)) :
    Calls Tryz.prog 52 #[.slice A (b :: r).length c] w fun e w' => ∃ A1, e = .returned (.tuple #[.bool (decide (b = 1)), .slice A1 r.length (c - 1), .bool true]) ∧ Sm A c (b :: r) A1 (c - 1) r ∧ Below w.heap.size w w' := by
  obtain ⟨A6, x6, s6⟩ := SB.from_ (P := Tryz.prog) Tryz.underlying22 rfl rfl .i64 A c (b :: r) 1 (by simp) hs.le
  have HS6 : Hid (Sm A c (b :: r) A6 (c - 1) r) := Lib.hid (fun wx h => by have := s6 wx h; simpa using this)
  obtain ⟨g, off, rfl, hc⟩ := hs.cells (by simp)
  have c0 : w.cell? ⟨g, off, none⟩ = some (.int .u8 b.toNat) := by have h := hc 0 (by simp); simpa using h
  obtain ⟨p, hp⟩ : ∃ p, p = (b :: r).length := ⟨_, rfl⟩
  have hp1 : p - 1 = r.length := by rw [hp]; simp
  obtain ⟨q, hq⟩ : ∃ q, q = r.length := ⟨_, rfl⟩
  rw [← hp, hp1, ← hq] at x6
  rw [← hp, ← hq]
  have hp0 : 0 < p := by rw [hp]; simp
  have d1 : decide ((p : Int) < 1) = false := decide_eq_false (by omega)
  obtain ⟨z, hz⟩ : ∃ z : Int, z = (b.toNat : Int) := ⟨_, rfl⟩
  obtain ⟨t, ht⟩ : ∃ t, t = decide (b = 1) := ⟨_, rfl⟩
  have hzt : (z == 1) = t := by
    rw [ht, hz]
    by_cases h : b = 1
    · subst h; rfl
    · rw [decide_eq_false h, beq_eq_false_iff_ne]
      intro he
      exact h (UInt8.toNat_inj.1 (show b.toNat = (1 : UInt8).toNat from by show b.toNat = 1; omega))
  rw [← hz] at c0
  rw [← ht]
  have x6' : ∀ W : World, (Instr.slice 22 (.slice (some ⟨g, off, none⟩) p c) (some (.int .i64 1)) none none).run Tryz.prog W = .ok (.slice A6 q (c - 1)) W := x6
  clear hs hc hp hp1 hq hz ht s6 x6
  go_enter Tryz.func52, Tryz.ntmps52
  go_wp2_with fail
  refine start_ (n := 9) (S := fun w' => w'.cell? ⟨g, off, none⟩ = some (.int .u8 z)) (ds := []) #[false, false, false, false, false, false, false, false, false] (by kernel_rfl) rfl rfl ((by go_simp)) (fun hHeld => ?_)
  refine with_tabW R52.tab3 R52.bits3 (fun HT_ HW_ => ?_)
  refine pure_ (i := 0) (N := some 9) (v := ?_) (a' := ?_) #[true, false, false, false, false, false, false, false, false] rfl rfl (any_of HT_.out (by kernel_rfl)) (fun _ _ _ h => h) (Or.inl ⟨by rfl, ?_⟩) ?_ ?_
  rotate_left
  · intro w'
    go_simp
    with_reducible rfl
  rotate_left
  · simp only [Act.put, List.setIfInBounds_toArray, List.set_cons_zero, List.set_cons_succ, i64_w, i32_w]
    rfl
  refine pure_ (i := 1) (N := some 10) (v := ?_) (a' := ?_) #[true, true, false, false, false, false, false, false, false] rfl rfl (any_of HT_.out (by kernel_rfl)) (fun _ _ _ h => h) (Or.inl ⟨by rfl, ?_⟩) ?_ ?_
  rotate_left
  · intro w'
    go_simp
    with_reducible rfl
  rotate_left
  · simp only [Act.put, List.setIfInBounds_toArray, List.set_cons_zero, List.set_cons_succ, i64_w, i32_w]
    rfl
  refine pure_ (i := 4) (N := some 13) (v := ?_) (a' := ?_) #[true, true, false, false, true, false, false, false, false] rfl rfl (any_of HT_.out (by kernel_rfl)) (fun _ _ _ h => h) (Or.inl ⟨by rfl, ?_⟩) ?_ ?_
  rotate_left
  · intro w'
    go_simp
    with_reducible rfl
  rotate_left
  · simp only [Act.put, List.setIfInBounds_toArray, List.set_cons_zero, List.set_cons_succ, i64_w, i32_w]
    rfl
  refine pure_ (i := 5) (N := some 14) (v := ?_) (a' := ?_) #[true, true, false, false, true, true, false, false, false] rfl rfl (any_of HT_.out (by kernel_rfl)) (fun _ _ _ h => h) (Or.inl ⟨by rfl, ?_⟩) ?_ ?_
  rotate_left
  · intro w'
    go_simp
    with_reducible rfl
  rotate_left
  · simp only [Act.put, List.setIfInBounds_toArray, List.set_cons_zero, List.set_cons_succ, i64_w, i32_w]
    rfl
  refine take_ (i := 2) (N := some 11) (v := ?_) (a' := ?_) #[true, true, true, false, true, true, false, false, false] rfl rfl (take_ofW HT_.out HW_.out (by kernel_rfl)) (fun _ _ _ h => h) (Or.inl ⟨by rfl, ?_⟩) hHeld ?_ ?_
  rotate_left
  · intro w' s0
    go_simp
    with_reducible rfl
  rotate_left
  · simp only [Act.put, List.setIfInBounds_toArray, List.set_cons_zero, List.set_cons_succ, i64_w, i32_w]
    rfl
  refine pure_ (i := 3) (N := some 12) (v := ?_) (a' := ?_) #[true, true, true, true, true, true, false, false, false] rfl rfl (any_of HT_.out (by kernel_rfl)) (fun _ _ _ h => h) (Or.inl ⟨by rfl, ?_⟩) ?_ ?_
  rotate_left
  · intro w'
    go_simp
    with_reducible rfl
  rotate_left
  · simp only [Act.put, List.setIfInBounds_toArray, List.set_cons_zero, List.set_cons_succ, i64_w, i32_w]
    rfl
  refine pure_ (i := 6) (N := some 2) (v := ?_) (a' := ?_) #[true, true, true, true, true, true, true, false, false] rfl rfl (any_of HT_.out (by kernel_rfl)) (fun _ _ _ h => h) (Or.inl ⟨by rfl, ?_⟩) ?_ ?_
  rotate_left
  · intro w'
    go_simp
    with_reducible rfl
  rotate_left
  · simp only [Act.put, List.setIfInBounds_toArray, List.set_cons_zero, List.set_cons_succ, i64_w, i32_w]
    rfl
  refine pure_ (i := 7) (N := some 3) (v := ?_) (a' := ?_) #[true, true, true, true, true, true, true, true, false] rfl rfl (any_of HT_.out (by kernel_rfl)) (fun _ _ _ h => h) (Or.inl ⟨by rfl, ?_⟩) ?_ ?_
  rotate_left
  · intro w'
    go_simp
    with_reducible rfl
  rotate_left
  · simp only [Act.put, List.setIfInBounds_toArray, List.set_cons_zero, List.set_cons_succ, i64_w, i32_w]
    rfl
  refine pure_ (i := 8) (N := some 4) (v := ?_) (a' := ?_) #[true, true, true, true, true, true, true, true, true] rfl rfl (any_of HT_.out (by kernel_rfl)) (fun _ _ _ h => h) (Or.inl ⟨by rfl, ?_⟩) ?_ ?_
  rotate_left
  · intro w'
    go_simp
    with_reducible rfl
  rotate_left
  · simp only [Act.put, List.setIfInBounds_toArray, List.set_cons_zero, List.set_cons_succ, i64_w, i32_w]
    rfl
  refine done_ (done_of HT_.out (by kernel_rfl)) ?_
  go_wp2_with fail
  go_ret3
  exact ⟨A6, rfl, HS6.out, bdrew (Below.refl _ _)⟩
theorem bool_no (A : Option Addr) (c : Nat) (w : World) : Calls Tryz.prog 52 #[.slice A 0 c] w fun e w' => e = .returned (.tuple #[.bool false, .slice A 0 c, .bool false]) ∧ Below w.heap.size w w' := by
  go_enter Tryz.func52, Tryz.ntmps52
  go_wp2_with fail
  go_ret3
  exact ⟨rfl, Below.refl _ _⟩
theorem ts_ok (A : Option Addr) (c : Nat) (b0 b1 b2 b3 b4 b5 b6 b7 : UInt8) (r : List UInt8) (w : World) (hs : SB w A c (b0 :: b1 :: b2 :: b3 :: b4 :: b5 :: b6 :: b7 :: r)) :
    Calls Tryz.prog 61 #[.slice A (b0 :: b1 :: b2 :: b3 :: b4 :: b5 :: b6 :: b7 :: r).length c] w fun e w' => ∃ A1, e = .returned (.tuple #[.int .u32 (Lib.leNat [b4, b5, b6, b7]), .int .u32 (Lib.leNat [b0, b1, b2, b3]), .slice A1 r.length (c - 8), .bool true]) ∧ Sm A c (b0 :: b1 :: b2 :: b3 :: b4 :: b5 :: b6 :: b7 :: r) A1 (c - 8) r ∧ Below w.heap.size w w' := by
  have HC := Lib.hid (readU32S A c b0 b1 b2 b3 (b4 :: b5 :: b6 :: b7 :: r) w hs)
  have HD := Lib.hid (fun A1 wx (h : SB wx A1 (c - 4) (b4 :: b5 :: b6 :: b7 :: r)) => readU32S A1 (c - 4) b4 b5 b6 b7 r wx h)
  have HS := Lib.hid hs
  obtain ⟨n1, hn1⟩ : ∃ x, x = (Lib.leNat [b0, b1, b2, b3]) := ⟨_, rfl⟩
  obtain ⟨n2, hn2⟩ : ∃ x, x = (Lib.leNat [b4, b5, b6, b7]) := ⟨_, rfl⟩
  obtain ⟨p, hp⟩ : ∃ p, p = (b0 :: b1 :: b2 :: b3 :: b4 :: b5 :: b6 :: b7 :: r).length := ⟨_, rfl⟩
  obtain ⟨q, hq⟩ : ∃ p, p = (b4 :: b5 :: b6 :: b7 :: r).length := ⟨_, rfl⟩
  rw [← hn1, ← hp, ← hq] at HC
  rw [← hn2, ← hq, show c - 4 - 4 = c - 8 from by omega] at HD
  rw [← hn1, ← hn2, ← hp]
  clear hs hn1 hn2 hp hq
  go_enter Tryz.func61, Tryz.ntmps61
  go_wp2_with fail
  refine HC.out.mono ?_
  rintro e w1 ⟨A1, rfl, hsm, hb1⟩
  have HB1 := Lib.hid hb1
  have HSM := Lib.hid hsm
  clear hb1 hsm HC
  go_wp2_with fail
  refine (HD.out A1 w1 (HSM.out _ (HS.out.keep HB1.out))).mono ?_
  rintro e w2 ⟨A2, rfl, hsm, hb2⟩
  have HB2 := Lib.hid (bthen HB1.out hb2)
  have HSM2 : Hid (Sm A c (b0 :: b1 :: b2 :: b3 :: b4 :: b5 :: b6 :: b7 :: r) A2 (c - 8) r) := Lib.hid fun wx h => hsm wx (HSM.out wx h)
  clear hb2 hsm HD
  go_wp2_with fail
  exact bodyPost_ret (v := .tuple #[.int .u32 n2, .int .u32 n1, .slice A2 r.length (c - 8), .bool true]) (by simp [results, Tryz.results61, go_sem]) rfl ⟨A2, rfl, HSM2.out, HB2.out⟩
theorem ts_no (A : Option Addr) (c : Nat) (l : List UInt8) (w : World) (hs : SB w A c l) (h : l.length < 8) :
    Calls Tryz.prog 61 #[.slice A l.length c] w fun e w' => e = .returned (.tuple #[.int .u32 0, .int .u32 0, .slice A l.length c, .bool false]) ∧ Below w.heap.size w w' := by
  by_cases h1 : l.length < 4
  · have HC := Lib.hid (u32No A c l.length w h1)
    obtain ⟨p, hp⟩ : ∃ p, p = l.length := ⟨_, rfl⟩
    rw [← hp] at HC ⊢
    clear hs h h1 hp
    go_enter Tryz.func61, Tryz.ntmps61
    go_wp2_with fail
    refine HC.out.mono ?_
    rintro e w1 ⟨rfl, hb1⟩
    have HB1 := Lib.hid hb1
    clear hb1 HC
    go_wp2_with fail
    exact bodyPost_ret (v := .tuple #[.int .u32 0, .int .u32 0, .slice A p c, .bool false]) (by simp [results, Tryz.results61, go_sem]) rfl ⟨rfl, HB1.out⟩
  · obtain ⟨b0, b1, b2, b3, r, rfl⟩ : ∃ b0 b1 b2 b3 r, l = b0 :: b1 :: b2 :: b3 :: r := by
      match l, h1 with
      | b0 :: b1 :: b2 :: b3 :: r, _ => exact ⟨b0, b1, b2, b3, r, rfl⟩
      | [], h => exact absurd (by simp) h
      | [_], h => exact absurd (by simp) h
      | [_, _], h => exact absurd (by simp) h
      | [_, _, _], h => exact absurd (by simp) h
    have hr : r.length < 4 := by simp at h; omega
    have HC := Lib.hid (readU32S A c b0 b1 b2 b3 r w hs)
    have HD := Lib.hid (fun A1 wx => u32No A1 (c - 4) r.length wx hr)
    obtain ⟨n1, hn1⟩ : ∃ x, x = (Lib.leNat [b0, b1, b2, b3]) := ⟨_, rfl⟩
    obtain ⟨p, hp⟩ : ∃ p, p = (b0 :: b1 :: b2 :: b3 :: r).length := ⟨_, rfl⟩
    obtain ⟨q, hq⟩ : ∃ p, p = r.length := ⟨_, rfl⟩
    rw [← hn1, ← hp, ← hq] at HC
    rw [← hq] at HD
    rw [← hp]
    clear hs hn1 hp hq h h1 hr
    go_enter Tryz.func61, Tryz.ntmps61
    go_wp2_with fail
    refine HC.out.mono ?_
    rintro e w1 ⟨A1, rfl, hsm, hb1⟩
    have HB1 := Lib.hid hb1
    clear hb1 hsm HC
    go_wp2_with fail
    refine (HD.out A1 w1).mono ?_
    rintro e w2 ⟨rfl, hb2⟩
    have HB2 := Lib.hid (bthen HB1.out hb2)
    clear hb2 HD
    go_wp2_with fail
    exact bodyPost_ret (v := .tuple #[.int .u32 0, .int .u32 0, .slice A p c, .bool false]) (by simp [results, Tryz.results61, go_sem]) rfl ⟨rfl, HB2.out⟩
theorem dec_ok (A : Option Addr) (c : Nat) (b0 b1 b2 b3 b4 b5 b6 b7 b8 b9 b10 b11 b12 b13 b14 b15 : UInt8) (r : List UInt8) (w : World) (hs : SB w A c (b0 :: b1 :: b2 :: b3 :: b4 :: b5 :: b6 :: b7 :: b8 :: b9 :: b10 :: b11 :: b12 :: b13 :: b14 :: b15 :: r)) :
    Calls Tryz.prog 63 #[.slice A (b0 :: b1 :: b2 :: b3 :: b4 :: b5 :: b6 :: b7 :: b8 :: b9 :: b10 :: b11 :: b12 :: b13 :: b14 :: b15 :: r).length c] w fun e w' => ∃ A1, e = .returned (.tuple #[.int .u64 (Lib.leNat [b8, b9, b10, b11, b12, b13, b14, b15]), .int .u64 (Lib.leNat [b0, b1, b2, b3, b4, b5, b6, b7]), .slice A1 r.length (c - 16), .bool true]) ∧ Sm A c (b0 :: b1 :: b2 :: b3 :: b4 :: b5 :: b6 :: b7 :: b8 :: b9 :: b10 :: b11 :: b12 :: b13 :: b14 :: b15 :: r) A1 (c - 16) r ∧ Below w.heap.size w w' := by
  have HC := Lib.hid (readU64S A c b0 b1 b2 b3 b4 b5 b6 b7 (b8 :: b9 :: b10 :: b11 :: b12 :: b13 :: b14 :: b15 :: r) w hs)
  have HD := Lib.hid (fun A1 wx (h : SB wx A1 (c - 8) (b8 :: b9 :: b10 :: b11 :: b12 :: b13 :: b14 :: b15 :: r)) => readU64S A1 (c - 8) b8 b9 b10 b11 b12 b13 b14 b15 r wx h)
  have HS := Lib.hid hs
  obtain ⟨n1, hn1⟩ : ∃ x, x = (Lib.leNat [b0, b1, b2, b3, b4, b5, b6, b7]) := ⟨_, rfl⟩
  obtain ⟨n2, hn2⟩ : ∃ x, x = (Lib.leNat [b8, b9, b10, b11, b12, b13, b14, b15]) := ⟨_, rfl⟩
  obtain ⟨p, hp⟩ : ∃ p, p = (b0 :: b1 :: b2 :: b3 :: b4 :: b5 :: b6 :: b7 :: b8 :: b9 :: b10 :: b11 :: b12 :: b13 :: b14 :: b15 :: r).length := ⟨_, rfl⟩
  obtain ⟨q, hq⟩ : ∃ p, p = (b8 :: b9 :: b10 :: b11 :: b12 :: b13 :: b14 :: b15 :: r).length := ⟨_, rfl⟩
  rw [← hn1, ← hp, ← hq] at HC
  rw [← hn2, ← hq, show c - 8 - 8 = c - 16 from by omega] at HD
  rw [← hn1, ← hn2, ← hp]
  clear hs hn1 hn2 hp hq
  go_enter Tryz.func63, Tryz.ntmps63
  go_wp2_with fail
  refine HC.out.mono ?_
  rintro e w1 ⟨A1, rfl, hsm, hb1⟩
  have HB1 := Lib.hid hb1
  have HSM := Lib.hid hsm
  clear hb1 hsm HC
  go_wp2_with fail
  refine (HD.out A1 w1 (HSM.out _ (HS.out.keep HB1.out))).mono ?_
  rintro e w2 ⟨A2, rfl, hsm, hb2⟩
  have HB2 := Lib.hid (bthen HB1.out hb2)
  have HSM2 : Hid (Sm A c (b0 :: b1 :: b2 :: b3 :: b4 :: b5 :: b6 :: b7 :: b8 :: b9 :: b10 :: b11 :: b12 :: b13 :: b14 :: b15 :: r) A2 (c - 16) r) := Lib.hid fun wx h => hsm wx (HSM.out wx h)
  clear hb2 hsm HD
  go_wp2_with fail
  exact bodyPost_ret (v := .tuple #[.int .u64 n2, .int .u64 n1, .slice A2 r.length (c - 16), .bool true]) (by simp [results, Tryz.results63, go_sem]) rfl ⟨A2, rfl, HSM2.out, HB2.out⟩
theorem dec_no (A : Option Addr) (c : Nat) (l : List UInt8) (w : World) (hs : SB w A c l) (h : l.length < 16) :
    Calls Tryz.prog 63 #[.slice A l.length c] w fun e w' => e = .returned (.tuple #[.int .u64 0, .int .u64 0, .slice A l.length c, .bool false]) ∧ Below w.heap.size w w' := by
  by_cases h1 : l.length < 8
  · have HC := Lib.hid (u64No A c l.length w h1)
    obtain ⟨p, hp⟩ : ∃ p, p = l.length := ⟨_, rfl⟩
    rw [← hp] at HC ⊢
    clear hs h h1 hp
    go_enter Tryz.func63, Tryz.ntmps63
    go_wp2_with fail
    refine HC.out.mono ?_
    rintro e w1 ⟨rfl, hb1⟩
    have HB1 := Lib.hid hb1
    clear hb1 HC
    go_wp2_with fail
    exact bodyPost_ret (v := .tuple #[.int .u64 0, .int .u64 0, .slice A p c, .bool false]) (by simp [results, Tryz.results63, go_sem]) rfl ⟨rfl, HB1.out⟩
  · obtain ⟨b0, b1, b2, b3, b4, b5, b6, b7, r, rfl⟩ : ∃ b0 b1 b2 b3 b4 b5 b6 b7 r, l = b0 :: b1 :: b2 :: b3 :: b4 :: b5 :: b6 :: b7 :: r := by
      match l, h1 with
      | b0 :: b1 :: b2 :: b3 :: b4 :: b5 :: b6 :: b7 :: r, _ => exact ⟨b0, b1, b2, b3, b4, b5, b6, b7, r, rfl⟩
      | [], h => exact absurd (by simp) h
      | [_], h => exact absurd (by simp) h
      | [_, _], h => exact absurd (by simp) h
      | [_, _, _], h => exact absurd (by simp) h
      | [_, _, _, _], h => exact absurd (by simp) h
      | [_, _, _, _, _], h => exact absurd (by simp) h
      | [_, _, _, _, _, _], h => exact absurd (by simp) h
      | [_, _, _, _, _, _, _], h => exact absurd (by simp) h
    have hr : r.length < 8 := by simp at h; omega
    have HC := Lib.hid (readU64S A c b0 b1 b2 b3 b4 b5 b6 b7 r w hs)
    have HD := Lib.hid (fun A1 wx => u64No A1 (c - 8) r.length wx hr)
    obtain ⟨n1, hn1⟩ : ∃ x, x = (Lib.leNat [b0, b1, b2, b3, b4, b5, b6, b7]) := ⟨_, rfl⟩
    obtain ⟨p, hp⟩ : ∃ p, p = (b0 :: b1 :: b2 :: b3 :: b4 :: b5 :: b6 :: b7 :: r).length := ⟨_, rfl⟩
    obtain ⟨q, hq⟩ : ∃ p, p = r.length := ⟨_, rfl⟩
    rw [← hn1, ← hp, ← hq] at HC
    rw [← hq] at HD
    rw [← hp]
    clear hs hn1 hp hq h h1 hr
    go_enter Tryz.func63, Tryz.ntmps63
    go_wp2_with fail
    refine HC.out.mono ?_
    rintro e w1 ⟨A1, rfl, hsm, hb1⟩
    have HB1 := Lib.hid hb1
    clear hb1 hsm HC
    go_wp2_with fail
    refine (HD.out A1 w1).mono ?_
    rintro e w2 ⟨rfl, hb2⟩
    have HB2 := Lib.hid (bthen HB1.out hb2)
    clear hb2 HD
    go_wp2_with fail
    exact bodyPost_ret (v := .tuple #[.int .u64 0, .int .u64 0, .slice A p c, .bool false]) (by simp [results, Tryz.results63, go_sem]) rfl ⟨rfl, HB2.out⟩
end Rr
end Go.Proofs.YtbpopaegfhcdpaaGreatDoor.X


