/- Words: rows of the call's own whose elements are structs of some cells each. No conditions: plain lemmas. -/
import Derived.Test.YtbpopaegfhcdpaaGreatDoorWords
import Derived.Laws.CopyOwn
set_option linter.unusedVariables false
set_option linter.unusedSimpArgs false
set_option maxRecDepth 100000
namespace Go.Proofs.YtbpopaegfhcdpaaGreatDoor.X
open Go.RowKit
section
variable (E : TypeId) (sz : Nat)
/-- A row of n structs of sz cells, in a block of its own, from block 'base' on. -/
def ON (w : World) (base : Nat) (v : Value) (n : Nat) (xs : List Value) : Prop := w.ownsRow base E sz v n xs ∧ n ≤ 9223372036854775807
variable {E sz}
theorem ON.nil (w : World) (base : Nat) : ON E sz w base (.slice none 0 0) 0 [] := ⟨⟨by simp, .inl ⟨rfl, rfl⟩⟩, by omega⟩
theorem ON.form {w : World} {base : Nat} {v : Value} {n : Nat} {xs : List Value} (h : ON E sz w base v n xs) : ∃ A c, v = .slice A n c := by
  rcases h.1.2 with ⟨rfl, rfl⟩ | ⟨g, cap, cur, rfl, -⟩
  · exact ⟨none, 0, rfl⟩
  · exact ⟨_, cap, rfl⟩
theorem ON.len {w : World} {base : Nat} {v : Value} {n : Nat} {xs : List Value} (h : ON E sz w base v n xs) : xs.length = n * sz := h.1.1
theorem ON.cells {w : World} {base : Nat} {v : Value} {n : Nat} {xs : List Value} (h : ON E sz w base v n xs) (hp : 0 < n) : ∃ g c, v = .slice (some ⟨g, 0, none⟩) n c ∧ base ≤ g ∧ n ≤ c ∧ c ≤ 9223372036854775807 ∧ ∀ j u, xs[j]? = some u → w.cell? ⟨g, j, none⟩ = some u := by
  rcases h.1.2 with ⟨rfl, h0⟩ | ⟨g, cap, cur, rfl, hb, hg, hn, hm, hs, ht⟩
  · omega
  · refine ⟨g, cap, rfl, hb, hn, by simp only [maxLen] at hm; omega, fun j u hj => ?_⟩
    have := h.1.cells (g := g) rfl j u hj
    unfold Addr.add at this
    split at this
    · rename_i h0; subst h0; simpa using this
    · simpa using this
theorem ON.keep {w w1 : World} {base : Nat} {v : Value} {n : Nat} {xs : List Value} (h : ON E sz w base v n xs) (hb : Below w.heap.size w w1) : ON E sz w1 base v n xs :=
  ⟨h.1.kept (row := none) ⟨hb.os, hb.tape, hb.output, hb.size, fun i hi _ => hb.block i hi⟩ (by cases v.ownBlock <;> simp), h.2⟩
theorem ON.alloc {w : World} {base : Nat} {v : Value} {n : Nat} {xs : List Value} (h : ON E sz w base v n xs) (o : Obj) : ON E sz (w.alloc o) base v n xs := h.keep ((Below.refl _ _).alloc (Nat.le_refl _) o)
theorem ON.other {w w1 : World} {base : Nat} {v : Value} {n : Nat} {xs : List Value} (h : ON E sz w base v n xs) {row : Option Nat} (hg : w.grownBy w1 row) (hne : v.ownBlock = none ∨ v.ownBlock ≠ row) : ON E sz w1 base v n xs := ⟨h.1.kept hg hne, h.2⟩
theorem ON.lt {w : World} {base : Nat} {v : Value} {n : Nat} {xs : List Value} (h : ON E sz w base v n xs) : ∀ k, v.ownBlock = some k → base ≤ k ∧ k < w.heap.size := h.1.lt
/-- What an append leaves. -/
structure AppN (W : World) (base : Nat) (v0 : Value) (n : Nat) (xs : List Value) (v1 : Value) (w1 : World) : Prop where
  own : ON E sz w1 base v1 n xs
  grown : W.grownBy w1 v0.ownBlock
  at_ : v1.ownBlock = v0.ownBlock ∨ ∃ b, v1.ownBlock = some b ∧ W.heap.size ≤ b
theorem AppN.size {W w1 : World} {base : Nat} {v0 v1 : Value} {n : Nat} {xs : List Value} (h : AppN (E := E) (sz := sz) W base v0 n xs v1 w1) : W.heap.size ≤ w1.heap.size := h.grown.size
theorem AppN.kept {W w1 : World} {base : Nat} {v0 v1 : Value} {n n0 : Nat} {xs xs0 : List Value} (h : AppN (E := E) (sz := sz) W base v0 n xs v1 w1) (h0 : ON E sz W base v0 n0 xs0) (hB : base ≤ W.heap.size) : Below base W w1 :=
  bgrown (Below.refl _ _) hB h.grown (fun k hk => (h0.lt k hk).1)
theorem AppN.pre {W W1 w1 : World} {base : Nat} {v0 v1 : Value} {n : Nat} {xs : List Value} (h : AppN (E := E) (sz := sz) W1 base v0 n xs v1 w1) (hb : Below W.heap.size W W1) : AppN (E := E) (sz := sz) W base v0 n xs v1 w1 :=
  ⟨h.own, World.grownBy.trans ⟨hb.os, hb.tape, hb.output, hb.size, fun i hi _ => hb.block i hi⟩ h.grown, by
    rcases h.at_ with h | ⟨b, h, hb2⟩
    · exact .inl h
    · exact .inr ⟨b, h, Nat.le_trans hb.size hb2⟩⟩
section
variable {P : Program} {ops : Array Oper} {rest : List Oper} {o : Oper} {a : Act} {Q : Exit → Act → World → Prop}
/-- 'append(v, x)', v a row of the call's own (nil let in), x a struct in a slice of one. -/
theorem appN_run (t : TypeId) (z : Value) (bs : Nat) (hinfo : (P.info? E).map (fun i => (i.zero, i.size, i.bytes)) = some (some z, sz, bs)) (hzc : z.cells.size = sz) (hsz : 0 < sz) (ht : P.underlying t = some (.slice E)) (ty : TypeId)
    (W : World) (base : Nat) (v : Value) (n : Nat) (xs : List Value) (g c : Nat) (ys : List Value) (HO : ON E sz W base v n xs) (hy : ys.length = sz) (HR : ∀ j u, ys[j]? = some u → W.cell? ⟨g, j, none⟩ = some u) (hbase : base ≤ W.heap.size) (h1c : ∀ u ∈ ys, u.oneCell' = true) (hl : n + 1 ≤ 140737488355328) (hlb : (n + 1) * bs ≤ 140737488355328) :
    ∃ v1 w1, (Builtin.append_ #[t, t] ty #[v, .slice (some ⟨g, 0, none⟩) 1 c]).run P W = .ok v1 w1 ∧ AppN (E := E) (sz := sz) W base v (n + 1) (xs ++ ys) v1 w1 := by
  obtain ⟨i0, hi, hzz⟩ := Option.map_eq_some_iff.1 hinfo
  simp only [Prod.mk.injEq] at hzz
  obtain ⟨hz0, hz1, hz2⟩ := hzz
  have hcells : ∀ j u, ys[j]? = some u → W.cell? ((⟨g, 0, none⟩ : Addr).add j) = some u := by
    intro j u hu
    have hadd : (⟨g, 0, none⟩ : Addr).add j = ⟨g, j, none⟩ := by unfold Addr.add; split <;> simp_all
    rw [hadd]
    exact HR j u hu
  obtain ⟨v1, w1, hr, h2, h3, _, h5⟩ := run_append_own_at (P := P) W base t ty E i0 z sz bs ht hi hz0 hz1 hz2 hzc hsz v n xs HO.1 ⟨g, 0, none⟩ 1 c ys (by omega) hcells
    h1c (by simp only [maxLen]; omega) hlb hbase
  refine ⟨v1, w1, hr, ⟨h2, by omega⟩, h3, ?_⟩
  rcases h5 with h5 | h5
  · exact .inl h5
  · exact .inr ⟨_, h5, Nat.le_refl _⟩
theorem appN_step {oi : Oper} {N : Option Tmp} {K : Act → World → Prop} (s x : Operand) (t : TypeId) (hw : Region.wanted oi (yielded ops a.tmps) = true) (hN : oi.dst = N) (ho : oi.op = .call { callee := .builtin .append, args := #[s, x], argTypes := #[t, t] })
    (z : Value) (bs : Nat) (hinfo : (P.info? E).map (fun i => (i.zero, i.size, i.bytes)) = some (some z, sz, bs)) (hzc : z.cells.size = sz) (hsz : 0 < sz) (ht : P.underlying t = some (.slice E))
    (W : World) (base : Nat) (v : Value) (n : Nat) (xs : List Value) (g c : Nat) (ys : List Value) (hs : a.eval s = v) (hx : a.eval x = .slice (some ⟨g, 0, none⟩) 1 c) (HO : ON E sz W base v n xs) (hy : ys.length = sz) (HR : ∀ j u, ys[j]? = some u → W.cell? ⟨g, j, none⟩ = some u) (hbase : base ≤ W.heap.size) (h1c : ∀ u ∈ ys, u.oneCell' = true) (hl : n + 1 ≤ 140737488355328) (hlb : (n + 1) * bs ≤ 140737488355328)
    (h : ∀ v1 w1, AppN (E := E) (sz := sz) W base v (n + 1) (xs ++ ys) v1 w1 → K (a.put N v1) w1) : if Region.wanted oi (yielded ops a.tmps) = true then Oper.wp P oi a W K Q else K (a.put N undef) W := by
  obtain ⟨v1, w1, hr, hap⟩ := appN_run t z bs hinfo hzc hsz ht oi.type W base v n xs g c ys HO hy HR hbase h1c hl hlb
  rw [if_pos hw]
  subst hN
  unfold Oper.wp execOp
  simp only [ho, resolve, invoke, builtin, Sem.run_bind, Sem.run_pure, Result.andThen_ok, List.map_toArray, List.map_cons, List.map_nil, hs, hx, hr]
  exact h v1 w1 hap
theorem wp_appN (s x : Operand) (t : TypeId) (hgd : o.guard = none) (ho : o.op = .call { callee := .builtin .append, args := #[s, x], argTypes := #[t, t] })
    (z : Value) (bs : Nat) (hinfo : (P.info? E).map (fun i => (i.zero, i.size, i.bytes)) = some (some z, sz, bs)) (hzc : z.cells.size = sz) (hsz : 0 < sz) (ht : P.underlying t = some (.slice E))
    (W : World) (base : Nat) (v : Value) (n : Nat) (xs : List Value) (g c : Nat) (ys : List Value) (hs : a.eval s = v) (hx : a.eval x = .slice (some ⟨g, 0, none⟩) 1 c) (HO : ON E sz W base v n xs) (hy : ys.length = sz) (HR : ∀ j u, ys[j]? = some u → W.cell? ⟨g, j, none⟩ = some u) (hbase : base ≤ W.heap.size) (h1c : ∀ u ∈ ys, u.oneCell' = true) (hl : n + 1 ≤ 140737488355328) (hlb : (n + 1) * bs ≤ 140737488355328)
    (h : ∀ v1 w1, AppN (E := E) (sz := sz) W base v (n + 1) (xs ++ ys) v1 w1 → wpList P ops Q rest (a.put o.dst v1) w1) : wpList P ops Q (o :: rest) a W := by
  obtain ⟨v1, w1, hr, hap⟩ := appN_run t z bs hinfo hzc hsz ht o.type W base v n xs g c ys HO hy HR hbase h1c hl hlb
  refine wpList_plain hgd fun K hK => ?_
  unfold Oper.wp execOp
  simp only [ho, resolve, invoke, builtin, Sem.run_bind, Sem.run_pure, Result.andThen_ok, List.map_toArray, List.map_cons, List.map_nil, hs, hx, hr]
  exact hK _ _ (h v1 w1 hap)
end
end
end Go.Proofs.YtbpopaegfhcdpaaGreatDoor.X
