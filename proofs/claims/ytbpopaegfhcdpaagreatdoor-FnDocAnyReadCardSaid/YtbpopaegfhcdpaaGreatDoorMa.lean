/- Put together, without what nothing reaches: Words, OpenB, Own, ReadI32, Bytes, Len, Fresh, Rv, SpanP, Span, Elem, Doc2, ElemKV, ElemV2, All, AllV, Re, ReNo, AwF, Chk, ChkA, Fst, TkL. -/
import Derived.Test.YtbpopaegfhcdpaaGreatDoorProg
import Derived.WalkKit
import Derived.WalkSpells
import Derived.WalkLawsBesides
import Derived.Deep.QuietTactic
import Derived.BigQuiet
import Derived.Deep.RegionHeld3
import Derived.Deep.DeepCutAuto
import Derived.Deep.AppendLies
import Derived.Maps.AppendAt
import Derived.Laws.BytesArg
import Derived.Laws.BitsLemmas
import Derived.KernelRfl
import Derived.Lib.Hide
import Derived.Lib.ConvBytes
import Derived.ChangeSlices
import Derived.ChangeSame
import Derived.SizedLaws
import Derived.Test.YtbpopaegfhcdpaaGreatDoorWa
import Derived.IntWalk
import Derived.Lib.Strings
import Derived.Lib.Walk
import Derived.Lib.BytesEntry
import Derived.Lib.Bytealg
import Derived.Test.YtbpopaegfhcdpaaGreatDoorWc
import Derived.Deep.RegionWith
import Derived.Outline
import Derived.Lib.Endian
/- Words of this family of proofs: bytes and values of documents as they lie in memory, and what an append leaves. No conditions: plain lemmas. -/
set_option linter.unusedVariables false
set_option linter.unusedSimpArgs false
set_option maxRecDepth 100000
namespace Go.Proofs.YtbpopaegfhcdpaaGreatDoor.X
open Go.RowKit

/-- What a function that appends gives back. -/
def After (p : Value → World → Prop) (e : Ending) (w' : World) : Prop := ∃ v, e = .returned v ∧ p v w'

theorem balloc {B : Nat} {w0 W : World} (h : Below B w0 W) (hB : B ≤ W.heap.size) (o : Obj) : Below B w0 (W.alloc o) := h.alloc hB o
theorem bdrewN {B : Nat} {w0 W : World} (h : Below B w0 W) (n : Nat) : Below B w0 (W.drewN n) := ⟨h.os, h.tape, h.output, h.size, h.block⟩
theorem bdrew {B : Nat} {w0 W : World} (h : Below B w0 W) : Below B w0 W.drew := ⟨h.os, h.tape, h.output, h.size, h.block⟩
theorem bgrown {B : Nat} {w0 W w1 : World} {row : Option Nat} (h : Below B w0 W) (hB : B ≤ W.heap.size) (hg : W.grownBy w1 row) (hr : ∀ k, row = some k → B ≤ k) : Below B w0 w1 := h.grown hg hB hr

/-- A box that was laid, in every later world. -/
theorem boxc {w wr : World} {cs : List Value} {t : TypeId} {fr : Nat × Nat} (hb : Below (w.heap.size + 1) (w.alloc (.cells cs.toArray t fr)) wr) (j : Nat) : wr.cell? ⟨w.heap.size, j, none⟩ = cs[j]? := by
  have h := hb.cell (p := ⟨w.heap.size, j, none⟩) (by simp)
  rw [h]
  have e : (w.alloc (.cells cs.toArray t fr)).heap[w.heap.size]? = some (.cells cs.toArray t fr) := heap_alloc_new w _
  unfold World.cell?
  rw [e]
  simp
theorem boxf {w wr : World} {cs : List Value} {t : TypeId} (hb : Below (w.heap.size + 1) (w.alloc (.cells cs.toArray t)) wr) (j : Nat) : wr.frozen? ⟨w.heap.size, j, none⟩ = false := by
  have h := hb.frozen (p := ⟨w.heap.size, j, none⟩) (by simp)
  rw [h]
  have e : (w.alloc (.cells cs.toArray t)).heap[w.heap.size]? = some (.cells cs.toArray t) := heap_alloc_new w _
  unfold World.frozen?
  rw [e]
  simp
theorem boxs {w wr : World} {o : Obj} (hb : Below (w.heap.size + 1) (w.alloc o) wr) : w.heap.size + 1 ≤ wr.heap.size := by have := hb.size; simpa using this
/-- From the world with the box to the world ahead of it. -/
theorem boxb {w wr : World} {o : Obj} (hb : Below (w.heap.size + 1) (w.alloc o) wr) : Below w.heap.size w wr := ((Below.refl _ _).alloc (Nat.le_refl _) o).trans (hb.mono (by omega))

/-! ### Bytes -/
def byv (l : List UInt8) : List Value := l.map fun b => .int .u8 (b.toNat : Int)
@[simp] theorem byv_length (l : List UInt8) : (byv l).length = l.length := by simp [byv]
theorem byv_append (a b : List UInt8) : byv (a ++ b) = byv a ++ byv b := by simp [byv]
theorem byv_get (l : List UInt8) (j : Nat) (h : j < l.length) : (byv l)[j]? = some (.int .u8 (l[j].toNat : Int)) := by simp [byv, h]
theorem byv_one (l : List UInt8) : ∀ u ∈ byv l, u.oneCell' = true := by
  intro u hu
  simp only [byv, List.mem_map] at hu
  obtain ⟨b, _, rfl⟩ := hu
  rfl
/-- The byte that a number stands for. -/
def ub (n : Int) : UInt8 := UInt8.ofNat (n % 256).toNat
theorem ub_toNat (n : Int) : ((ub n).toNat : Int) = n % 256 := by
  have : (n % 256).toNat < 256 := by omega
  simp [ub, UInt8.toNat_ofNat', Nat.mod_eq_of_lt this]
  omega
/-- A slice of bytes that is read: its address, its capacity, its bytes. -/
structure SB (w : World) (A : Option Addr) (c : Nat) (l : List UInt8) : Prop where
  le : l.length ≤ c
  cap : c ≤ 9223372036854775807
  cells : 0 < l.length → ∃ b off, A = some ⟨b, off, none⟩ ∧ ∀ j, (h : j < l.length) → w.cell? ⟨b, off + j, none⟩ = some (.int .u8 (l[j].toNat : Int))

theorem SB.len {w : World} {A : Option Addr} {c : Nat} {l : List UInt8} (h : SB w A c l) : l.length ≤ 9223372036854775807 := Nat.le_trans h.le h.cap
theorem SB.keep {w w1 : World} {A : Option Addr} {c : Nat} {l : List UInt8} (h : SB w A c l) (hb : Below w.heap.size w w1) : SB w1 A c l :=
  ⟨h.le, h.cap, fun hl => by
    obtain ⟨b, off, e, hc⟩ := h.cells hl
    exact ⟨b, off, e, fun j hj => (hb.cell (World.block_lt_of_cell? w _ (hc j hj))).trans (hc j hj)⟩⟩
theorem SB.alloc {w : World} {A : Option Addr} {c : Nat} {l : List UInt8} (h : SB w A c l) (o : Obj) : SB (w.alloc o) A c l := h.keep ((Below.refl _ _).alloc (Nat.le_refl _) o)
theorem SB.drewN {w : World} {A : Option Addr} {c : Nat} {l : List UInt8} (h : SB w A c l) (n : Nat) : SB (w.drewN n) A c l := h.keep (bdrewN (Below.refl _ _) n)
theorem SB.drew {w : World} {A : Option Addr} {c : Nat} {l : List UInt8} (h : SB w A c l) : SB w.drew A c l := h.keep (bdrew (Below.refl _ _))
theorem SB.nil (w : World) : SB w none 0 [] := ⟨Nat.le_refl _, by omega, fun h => absurd h (Nat.lt_irrefl 0)⟩
theorem SB.empty (w : World) (A : Option Addr) (c : Nat) (hc : c ≤ 9223372036854775807) : SB w A c [] := ⟨Nat.zero_le _, hc, fun h => absurd h (Nat.lt_irrefl 0)⟩
theorem SB.at_ {w : World} {A : Option Addr} {c : Nat} {l : List UInt8} (h : SB w A c l) (i : Int) (h0 : 0 ≤ i) (h1 : i < l.length) : ∃ b off, A = some ⟨b, off, none⟩ ∧ w.cell? ⟨b, off + i.toNat, none⟩ = some (.int .u8 ((l[i.toNat]'(by omega)).toNat : Int)) := by
  obtain ⟨b, off, e, hc⟩ := h.cells (by omega)
  exact ⟨b, off, e, hc _ _⟩
/-- 'xs[lo:hi]'. -/
theorem SB.cut {P : Program} {t e : TypeId} {i : TypeInfo} (ht : P.underlying t = some (.slice e)) (hi : P.info? e = some i) (hsz : i.size = 1) (kl kh : IntKind) (A : Option Addr) (c : Nat) (l : List UInt8) (m n : Nat) (hmn : m ≤ n) (hn : n ≤ l.length) (hc : l.length ≤ c) :
    ∃ A' : Option Addr, (∀ W : World, (Instr.slice t (.slice A l.length c) (some (.int kl (m : Int))) (some (.int kh (n : Int))) none).run P W = .ok (.slice A' (n - m) (c - m)) W) ∧
      ∀ w : World, SB w A c l → SB w A' (c - m) ((l.take n).drop m) := by
  refine ⟨if c = m then A else A.map (·.add m), fun W => ?_, fun w h => ?_⟩
  · have hel : P.elem t = e := by simp [Program.elem, ht]
    have hu : P.underlying t = some (.slice (P.elem t)) := by rw [hel]; exact ht
    have hr := run_slice_lh (P := P) W t A l.length c hu kl kh (m : Int) (n : Int) (Int.natCast_nonneg _) (by omega) (by omega)
    rw [hr, hel]
    simp [sizeOf, typeInfo, hi, hsz, sliced, Result.andThen]
  · refine ⟨by simp; omega, by have := h.cap; omega, fun hp => ?_⟩
    simp at hp
    obtain ⟨b, off, rfl, hcell⟩ := h.cells (by omega)
    rw [if_neg (by omega)]
    have hadd : (⟨b, off, none⟩ : Addr).add m = ⟨b, off + m, none⟩ := by unfold Addr.add; split <;> simp_all
    refine ⟨b, off + m, by simp [hadd], fun j hj => ?_⟩
    simp at hj
    have := hcell (m + j) (by omega)
    rw [Nat.add_assoc, this]
    simp

/-- 'xs[m:]'. -/
theorem SB.from_ {P : Program} {t e : TypeId} {i : TypeInfo} (ht : P.underlying t = some (.slice e)) (hi : P.info? e = some i) (hsz : i.size = 1) (kl : IntKind) (A : Option Addr) (c : Nat) (l : List UInt8) (m : Nat) (hm : m ≤ l.length) (hc : l.length ≤ c) :
    ∃ A' : Option Addr, (∀ W : World, (Instr.slice t (.slice A l.length c) (some (.int kl (m : Int))) none none).run P W = .ok (.slice A' (l.length - m) (c - m)) W) ∧
      ∀ w : World, SB w A c l → SB w A' (c - m) (l.drop m) := by
  obtain ⟨A', h1, h2⟩ := SB.cut ht hi hsz kl kl A c l m l.length hm (Nat.le_refl _) hc
  refine ⟨A', fun W => ?_, fun w h => by have := h2 w h; rwa [List.take_length] at this⟩
  have hel : P.elem t = e := by simp [Program.elem, ht]
  have hu : P.underlying t = some (.slice (P.elem t)) := by rw [hel]; exact ht
  have h3 := h1 W
  rw [run_slice_lh (P := P) W t A l.length c hu kl kl (m : Int) (l.length : Int) (Int.natCast_nonneg _) (by omega) (by omega)] at h3
  rw [run_slice_l (P := P) W t A l.length c hu kl (m : Int) (Int.natCast_nonneg _) (by omega)]
  exact h3
/-- 'xs[:n]'. -/
theorem SB.to_ {P : Program} {t e : TypeId} {i : TypeInfo} (ht : P.underlying t = some (.slice e)) (hi : P.info? e = some i) (hsz : i.size = 1) (kh : IntKind) (A : Option Addr) (c : Nat) (l : List UInt8) (n : Nat) (hn : n ≤ l.length) (hc : l.length ≤ c) :
    ∃ A' : Option Addr, (∀ W : World, (Instr.slice t (.slice A l.length c) none (some (.int kh (n : Int))) none).run P W = .ok (.slice A' n c) W) ∧
      ∀ w : World, SB w A c l → SB w A' c (l.take n) := by
  obtain ⟨A', h1, h2⟩ := SB.cut ht hi hsz kh kh A c l 0 n (Nat.zero_le _) hn hc
  refine ⟨A', fun W => ?_, fun w h => by have := h2 w h; simpa using this⟩
  have hel : P.elem t = e := by simp [Program.elem, ht]
  have hu : P.underlying t = some (.slice (P.elem t)) := by rw [hel]; exact ht
  have h3 := h1 W
  rw [run_slice_lh (P := P) W t A l.length c hu kh kh ((0 : Nat) : Int) (n : Int) (Int.natCast_nonneg _) (by omega) (by omega)] at h3
  rw [run_slice_h (P := P) W t A l.length c hu kh (n : Int) (Int.natCast_nonneg _) (by omega)]
  simpa using h3

/-! ### Bytes of the call's own -/
section
variable (E : TypeId)
/-- A slice of bytes in a block of its own, from block 'base' on. -/
def OB (w : World) (base : Nat) (v : Value) (l : List UInt8) : Prop := w.ownsRow base E 1 v l.length (byv l) ∧ l.length ≤ 9223372036854775807
variable {E}
theorem OB.nil (w : World) (base : Nat) : OB E w base (.slice none 0 0) [] := ⟨⟨by simp [byv], .inl ⟨rfl, rfl⟩⟩, by simp⟩
theorem OB.sb {w : World} {base : Nat} {v : Value} {l : List UInt8} (h : OB E w base v l) : ∃ A c, v = .slice A l.length c ∧ SB w A c l ∧ (∀ a, A = some a → base ≤ a.block ∧ a.block < w.heap.size) := by
  obtain ⟨h, hl⟩ := h
  rcases h.2 with ⟨rfl, h0⟩ | ⟨g, cap, cur, rfl, hb, hg, hn, hm, hs, ht⟩
  · refine ⟨none, 0, by rw [h0], ?_, fun a ha => by cases ha⟩
    have : l = [] := List.eq_nil_of_length_eq_zero h0
    subst this
    exact SB.nil w
  · refine ⟨_, cap, rfl, ⟨hn, by simp only [maxLen] at hm; omega, fun hp => ⟨g, 0, rfl, fun j hj => ?_⟩⟩, fun a ha => ?_⟩
    · have := h.cells (g := g) rfl j _ (byv_get l j hj)
      unfold Addr.add at this
      split at this
      · rename_i h0; subst h0; simpa using this
      · simpa using this
    · cases ha
      exact h.lt g rfl
theorem OB.keep {w w1 : World} {base : Nat} {v : Value} {l : List UInt8} (h : OB E w base v l) (hb : Below w.heap.size w w1) : OB E w1 base v l :=
  ⟨h.1.kept (row := none) ⟨hb.os, hb.tape, hb.output, hb.size, fun i hi _ => hb.block i hi⟩ (by cases v.ownBlock <;> simp), h.2⟩
theorem OB.alloc {w : World} {base : Nat} {v : Value} {l : List UInt8} (h : OB E w base v l) (o : Obj) : OB E (w.alloc o) base v l := h.keep ((Below.refl _ _).alloc (Nat.le_refl _) o)
theorem OB.drewN {w : World} {base : Nat} {v : Value} {l : List UInt8} (h : OB E w base v l) (n : Nat) : OB E (w.drewN n) base v l := h.keep (bdrewN (Below.refl _ _) n)
/-- Another row was written. -/
theorem OB.other {w w1 : World} {base : Nat} {v : Value} {l : List UInt8} (h : OB E w base v l) {row : Option Nat} (hg : w.grownBy w1 row) (hne : v.ownBlock = none ∨ v.ownBlock ≠ row) : OB E w1 base v l := ⟨h.1.kept hg hne, h.2⟩
theorem OB.mono {w : World} {base base' : Nat} {v : Value} {l : List UInt8} (h : OB E w base v l) (hb : base' ≤ base) : OB E w base' v l := by
  obtain ⟨⟨h1, h2⟩, hl⟩ := h
  refine ⟨⟨h1, ?_⟩, hl⟩
  rcases h2 with h2 | ⟨g, cap, cur, e, hg, r⟩
  · exact .inl h2
  · exact .inr ⟨g, cap, cur, e, Nat.le_trans hb hg, r⟩
theorem OB.lt {w : World} {base : Nat} {v : Value} {l : List UInt8} (h : OB E w base v l) : ∀ k, v.ownBlock = some k → base ≤ k ∧ k < w.heap.size := h.1.lt
/-- A slice's literal, as the walk lays it. -/
theorem OB.lit (w : World) (base : Nat) (hb : base ≤ w.heap.size) (l : List UInt8) (hl : l.length ≤ 9223372036854775807) : OB E (w.alloc (.cells (byv l).toArray E)) base (.slice (some ⟨w.heap.size, 0, none⟩) l.length l.length) l := by
  have h := World.ownsRow_lit (base := base) (e := E) (size := 1) w (byv l).toArray l.length hb (by simpa [maxLen] using hl) (by simp)
  exact ⟨by simpa using h, hl⟩
theorem SB.lit (w : World) (l : List UInt8) (hl : l.length ≤ 9223372036854775807) : SB (w.alloc (.cells (byv l).toArray E)) (some ⟨w.heap.size, 0, none⟩) l.length l := by
  obtain ⟨A, c, hv, h, _⟩ := (OB.lit (E := E) w 0 (Nat.zero_le _) l hl).sb
  cases hv
  exact h

theorem SB.lit_ (w : World) (l : List UInt8) (cs : List Value) (h : cs = byv l) (hl : l.length ≤ 9223372036854775807) (n : Nat) (hn : n = l.length) : SB (w.alloc (.cells cs.toArray E)) (some ⟨w.heap.size, 0, none⟩) n l := by subst h hn; exact SB.lit w l hl
theorem OB.lit_ (w : World) (base : Nat) (hb : base ≤ w.heap.size) (l : List UInt8) (cs : List Value) (h : cs = byv l) (hl : l.length ≤ 9223372036854775807) (n : Nat) (hn : n = l.length) : OB E (w.alloc (.cells cs.toArray E)) base (.slice (some ⟨w.heap.size, 0, none⟩) n n) l := by subst h hn; exact OB.lit w base hb l hl
/-- What an append leaves: the row, longer; every other row as it was. -/
structure App (W : World) (base : Nat) (v0 : Value) (l : List UInt8) (v1 : Value) (w1 : World) : Prop where
  own : OB E w1 base v1 l
  grown : W.grownBy w1 v0.ownBlock
  at_ : v1.ownBlock = v0.ownBlock ∨ ∃ b, v1.ownBlock = some b ∧ W.heap.size ≤ b

theorem App.below {W w0 w1 : World} {base : Nat} {v0 v1 : Value} {l l0 : List UInt8} (h : App (E := E) W base v0 l v1 w1) (h0 : OB E W base v0 l0) (hb : Below base w0 W) (hB : base ≤ W.heap.size) : Below base w0 w1 :=
  bgrown hb hB h.grown (fun k hk => (h0.lt k hk).1)

/-- Something was made ahead of the append. -/
theorem App.pre {W W1 w1 : World} {base : Nat} {v0 v1 : Value} {l : List UInt8} (h : App (E := E) W1 base v0 l v1 w1) (hb : Below W.heap.size W W1) : App (E := E) W base v0 l v1 w1 :=
  ⟨h.own, World.grownBy.trans ⟨hb.os, hb.tape, hb.output, hb.size, fun i hi _ => hb.block i hi⟩ h.grown, by
    rcases h.at_ with h | ⟨b, h, hb2⟩
    · exact .inl h
    · exact .inr ⟨b, h, Nat.le_trans hb.size hb2⟩⟩
theorem App.post {W w1 w2 : World} {base : Nat} {v0 v1 : Value} {l : List UInt8} (h : App (E := E) W base v0 l v1 w1) (hb : Below w1.heap.size w1 w2) : App (E := E) W base v0 l v1 w2 :=
  ⟨h.own.keep hb, World.grownBy.trans h.grown ⟨hb.os, hb.tape, hb.output, hb.size, fun i hi _ => hb.block i hi⟩, h.at_⟩
/-- One append behind the other. -/
theorem App.trans {W w1 w2 : World} {base : Nat} {v0 v1 v2 : Value} {l l2 : List UInt8} (h : App (E := E) W base v0 l v1 w1) (k : App (E := E) w1 base v1 l2 v2 w2) : App (E := E) W base v0 l2 v2 w2 := by
  have hs := h.grown.size
  refine ⟨k.own, ⟨k.grown.os.trans h.grown.os, k.grown.tape.trans h.grown.tape, k.grown.output.trans h.grown.output, Nat.le_trans hs k.grown.size, fun i hi hne => ?_⟩, ?_⟩
  · refine (k.grown.block i (Nat.lt_of_lt_of_le hi hs) ?_).trans (h.grown.block i hi hne)
    rcases h.at_ with e | ⟨b, e, hb⟩
    · rw [e]; exact hne
    · rw [e]
      intro hh
      injection hh with hh
      omega
  · rcases k.at_ with e | ⟨b, e, hb⟩
    · rw [e]; exact h.at_
    · exact .inr ⟨b, e, Nat.le_trans hs hb⟩
theorem App.refl {W : World} {base : Nat} {v : Value} {l : List UInt8} (h : OB E W base v l) : App (E := E) W base v l v W := ⟨h, World.grownBy.refl W _, .inl rfl⟩
theorem App.size {W w1 : World} {base : Nat} {v0 v1 : Value} {l : List UInt8} (h : App (E := E) W base v0 l v1 w1) : W.heap.size ≤ w1.heap.size := h.grown.size
/-- From nil on nothing that was there is written. -/
theorem App.fresh {W w1 : World} {base : Nat} {v1 : Value} {l : List UInt8} (h : App (E := E) W base (.slice none 0 0) l v1 w1) : Below W.heap.size W w1 :=
  ⟨h.grown.os, h.grown.tape, h.grown.output, h.grown.size, fun i hi => h.grown.block i hi (by simp [Value.ownBlock])⟩
/-- What lies below the base is as it was. -/
theorem App.kept {W w1 : World} {base : Nat} {v0 v1 : Value} {l l0 : List UInt8} (h : App (E := E) W base v0 l v1 w1) (h0 : OB E W base v0 l0) (hB : base ≤ W.heap.size) : Below base W w1 :=
  bgrown (Below.refl _ _) hB h.grown (fun k hk => (h0.lt k hk).1)

section
variable {P : Program} {ops : Array Oper} {rest : List Oper} {o : Oper} {a : Act} {Q : Exit → Act → World → Prop}
/-- 'append(v, xs...)', v a row of the call's own (nil let in), xs any slice of bytes. -/
theorem app_run (t : TypeId) (hinfo : (P.info? E).map (fun i => (i.zero, i.size, i.bytes)) = some (some (.int .u8 0), 1, 1)) (ht : P.underlying t = some (.slice E)) (ty : TypeId)
    (W : World) (base : Nat) (v : Value) (l : List UInt8) (A : Option Addr) (c : Nat) (l2 : List UInt8) (HO : OB E W base v l) (HR : SB W A c l2) (hbase : base ≤ W.heap.size) (hl : l.length + l2.length ≤ 140737488355328) :
    ∃ v1 w1, (Builtin.append_ #[t, t] ty #[v, .slice A l2.length c]).run P W = .ok v1 w1 ∧ App (E := E) W base v (l ++ l2) v1 w1 := by
  obtain ⟨i0, hi, hzz⟩ := Option.map_eq_some_iff.1 hinfo
  simp only [Prod.mk.injEq] at hzz
  obtain ⟨hz0, hz1, hz2⟩ := hzz
  rcases Nat.eq_zero_or_pos l2.length with h0 | h0
  · have e2 : l2 = [] := List.eq_nil_of_length_eq_zero h0
    subst e2
    refine ⟨v, W, ?_, by simpa using HO, World.grownBy.refl W _, .inl rfl⟩
    rcases HO.1.2 with ⟨rfl, hn⟩ | ⟨g, cap, cur, rfl, _, _, hnc, _⟩
    · cases A <;> simp [Builtin.append_, run_underlying ht, sizeOf, typeInfo, hi, Builtin.lenOf, Builtin.firstCells, loadCells, loadCellsFrom]
    · cases A <;> simp [Builtin.append_, run_underlying ht, sizeOf, typeInfo, hi, Builtin.lenOf, Builtin.firstCells, hnc, storeCells, loadCells, loadCellsFrom]
  · obtain ⟨b, off, rfl, hcell⟩ := HR.cells h0
    have hcells : ∀ j u, (byv l2)[j]? = some u → W.cell? ((⟨b, off, none⟩ : Addr).add j) = some u := by
      intro j u hu
      have hj : j < l2.length := by
        rcases Nat.lt_or_ge j l2.length with h | h
        · exact h
        · simp [byv, List.getElem?_eq_none h] at hu
      rw [byv_get l2 j hj] at hu
      cases hu
      have hadd : (⟨b, off, none⟩ : Addr).add j = ⟨b, off + j, none⟩ := by unfold Addr.add; split <;> simp_all
      rw [hadd]
      exact hcell j hj
    obtain ⟨v1, w1, hr, h2, h3, _, h5⟩ := run_append_own_at (P := P) W base t ty E i0 (.int .u8 0) 1 1 ht hi hz0 hz1 hz2 rfl (by omega) v l.length (byv l) HO.1 ⟨b, off, none⟩ l2.length c (byv l2) (by simp) hcells
      (byv_one l2) (by simp only [maxLen]; omega) (by omega) hbase
    refine ⟨v1, w1, hr, ⟨by rw [List.length_append, byv_append]; exact h2, by rw [List.length_append]; omega⟩, h3, ?_⟩
    rcases h5 with h5 | h5
    · exact .inl h5
    · exact .inr ⟨_, h5, Nat.le_refl _⟩
theorem wp_app (s x : Operand) (t : TypeId) (hgd : o.guard = none) (ho : o.op = .call { callee := .builtin .append, args := #[s, x], argTypes := #[t, t] })
    (hinfo : (P.info? E).map (fun i => (i.zero, i.size, i.bytes)) = some (some (.int .u8 0), 1, 1)) (ht : P.underlying t = some (.slice E))
    (W : World) (base : Nat) (v : Value) (l : List UInt8) (A : Option Addr) (c : Nat) (l2 : List UInt8) (hs : a.eval s = v) (hx : a.eval x = .slice A l2.length c) (HO : OB E W base v l) (HR : SB W A c l2) (hbase : base ≤ W.heap.size) (hl : l.length + l2.length ≤ 140737488355328)
    (h : ∀ v1 w1, App (E := E) W base v (l ++ l2) v1 w1 → wpList P ops Q rest (a.put o.dst v1) w1) : wpList P ops Q (o :: rest) a W := by
  obtain ⟨v1, w1, hr, hap⟩ := app_run t hinfo ht o.type W base v l A c l2 HO HR hbase hl
  refine wpList_plain hgd fun K hK => ?_
  unfold Oper.wp execOp
  simp only [ho, resolve, invoke, builtin, Sem.run_bind, Sem.run_pure, Result.andThen_ok, List.map_toArray, List.map_cons, List.map_nil, hs, hx, hr]
  exact hK _ _ (h v1 w1 hap)
/-- The same inside a region that draws its order. -/
theorem app_step {oi : Oper} {N : Option Tmp} {K : Act → World → Prop} (s x : Operand) (t : TypeId) (hw : Region.wanted oi (yielded ops a.tmps) = true) (hN : oi.dst = N) (ho : oi.op = .call { callee := .builtin .append, args := #[s, x], argTypes := #[t, t] })
    (hinfo : (P.info? E).map (fun i => (i.zero, i.size, i.bytes)) = some (some (.int .u8 0), 1, 1)) (ht : P.underlying t = some (.slice E))
    (W : World) (base : Nat) (v : Value) (l : List UInt8) (A : Option Addr) (c : Nat) (l2 : List UInt8) (hs : a.eval s = v) (hx : a.eval x = .slice A l2.length c) (HO : OB E W base v l) (HR : SB W A c l2) (hbase : base ≤ W.heap.size) (hl : l.length + l2.length ≤ 140737488355328)
    (h : ∀ v1 w1, App (E := E) W base v (l ++ l2) v1 w1 → K (a.put N v1) w1) : if Region.wanted oi (yielded ops a.tmps) = true then Oper.wp P oi a W K Q else K (a.put N undef) W := by
  obtain ⟨v1, w1, hr, hap⟩ := app_run t hinfo ht oi.type W base v l A c l2 HO HR hbase hl
  rw [if_pos hw]
  subst hN
  unfold Oper.wp execOp
  simp only [ho, resolve, invoke, builtin, Sem.run_bind, Sem.run_pure, Result.andThen_ok, List.map_toArray, List.map_cons, List.map_nil, hs, hx, hr]
  exact h v1 w1 hap
/-- The bytes of a string. -/
theorem strCells_byv (s : ByteArray) : Lib.strCells s = byv s.data.toList := rfl
/-- 'append(v, s...)', s a string. -/
theorem app_str_run (t ts : TypeId) (hinfo : (P.info? E).map (fun i => (i.zero, i.size, i.bytes)) = some (some (.int .u8 0), 1, 1)) (ht : P.underlying t = some (.slice E)) (hts : P.underlying ts = some .string) (ty : TypeId)
    (W : World) (base : Nat) (v : Value) (l : List UInt8) (s : ByteArray) (HO : OB E W base v l) (hbase : base ≤ W.heap.size) (hl : l.length + s.size ≤ 140737488355328) :
    ∃ v1 w1, (Builtin.append_ #[t, ts] ty #[v, .string s]).run P W = .ok v1 w1 ∧ App (E := E) W base v (l ++ s.data.toList) v1 w1 := by
  obtain ⟨i0, hi, hzz⟩ := Option.map_eq_some_iff.1 hinfo
  simp only [Prod.mk.injEq] at hzz
  obtain ⟨hz0, hz1, hz2⟩ := hzz
  have hsl : s.data.toList.length = s.size := by rw [Array.length_toList]; rfl
  obtain ⟨v1, w1, hr, h2, h3, h4⟩ := Lib.run_append_own_string (P := P) W base t ts ty E i0 ht hts hi hz0 hz1 hz2 v l.length (byv l) HO.1 s (by simp only [maxLen]; omega) (by omega) hbase
  refine ⟨v1, w1, hr, ⟨by rw [List.length_append, byv_append, ← strCells_byv, hsl]; exact h2, by rw [List.length_append, hsl]; omega⟩, h3, ?_⟩
  rcases HO.1.2 with ⟨rfl, hn⟩ | ⟨g, cap, cur, rfl, hbg, hg, hnc, hcm, hcs, htake⟩
  · by_cases h0 : s.size = 0
    · have := h4.2 ⟨rfl, h0⟩
      exact .inl (by rw [this])
    · have e := run_append_nil_string (P := P) W t ts ty E i0 (.int .u8 0) ht hts hi hz0 s (by omega) (by omega) (by rw [hz2]; omega)
      rw [e] at hr
      injection hr with hr _
      exact .inr ⟨W.heap.size, by rw [← hr]; rfl, Nat.le_refl _⟩
  · by_cases hroom : l.length + s.size ≤ cap
    · have e := Lib.run_append_room_string (P := P) W t ts ty E i0 ht hts hi hz1 g l.length cap cur hg s hroom (by omega)
      rw [e] at hr
      injection hr with hr _
      exact .inl (by rw [← hr]; rfl)
    · have holds : ∀ j u, (byv l)[j]? = some u → W.cell? ((⟨g, 0, none⟩ : Addr).add j) = some u := HO.1.cells (g := g) rfl
      have e := Lib.run_append_grow_string (P := P) W t ts ty E i0 (.int .u8 0) ht hts hi hz0 ⟨g, 0, none⟩ l.length cap (byv l) (by rw [hz1]; simp) holds s (by omega) (by omega) (by rw [hz2]; exact growslice_fits (by omega) (by omega))
      rw [e] at hr
      injection hr with hr _
      exact .inr ⟨W.heap.size, by rw [← hr]; rfl, Nat.le_refl _⟩
theorem wp_app_str (s x : Operand) (t ts : TypeId) (hgd : o.guard = none) (ho : o.op = .call { callee := .builtin .append, args := #[s, x], argTypes := #[t, ts] })
    (hinfo : (P.info? E).map (fun i => (i.zero, i.size, i.bytes)) = some (some (.int .u8 0), 1, 1)) (ht : P.underlying t = some (.slice E)) (hts : P.underlying ts = some .string)
    (W : World) (base : Nat) (v : Value) (l : List UInt8) (b : ByteArray) (hs : a.eval s = v) (hx : a.eval x = .string b) (HO : OB E W base v l) (hbase : base ≤ W.heap.size) (hl : l.length + b.size ≤ 140737488355328)
    (h : ∀ v1 w1, App (E := E) W base v (l ++ b.data.toList) v1 w1 → wpList P ops Q rest (a.put o.dst v1) w1) : wpList P ops Q (o :: rest) a W := by
  obtain ⟨v1, w1, hr, hap⟩ := app_str_run t ts hinfo ht hts o.type W base v l b HO hbase hl
  refine wpList_plain hgd fun K hK => ?_
  unfold Oper.wp execOp
  simp only [ho, resolve, invoke, builtin, Sem.run_bind, Sem.run_pure, Result.andThen_ok, List.map_toArray, List.map_cons, List.map_nil, hs, hx, hr]
  exact hK _ _ (h v1 w1 hap)
end
end

/-! ### A string out of bytes, bytes out of a string -/
theorem run_string {P : Program} {src dst e : TypeId} (hs : P.underlying src = some (.slice e)) (he : P.underlying e = some (.int .u8)) (hd : P.underlying dst = some .string) (W : World) (A : Option Addr) (c : Nat) (l : List UInt8) (h : SB W A c l) :
    (convert src dst (.slice A l.length c)).run P W = .ok (.string ⟨l.toArray⟩) W := by
  rcases Nat.eq_zero_or_pos l.length with h0 | h0
  · have : l = [] := List.eq_nil_of_length_eq_zero h0
    subst this
    cases A with
    | none => exact run_convert_bytes_nil W src e hs he 0 c dst hd
    | some a =>
      have hr := run_convert_bytes_arg W src e hs he a.block a.off 0 c [] rfl (fun i hi => absurd hi (Nat.not_lt_zero i)) dst hd
      simp [convert, run_underlying hs, run_underlying hd, run_underlying he, loadCells, loadCellsFrom, strOfNums, go_sem] at hr ⊢
      try exact hr
  · obtain ⟨b, off, rfl, hc⟩ := h.cells h0
    have hr := run_convert_bytes_arg W src e hs he b off l.length c (l.map fun x : UInt8 => (x.toNat : Int)) (by simp) (fun i hi => by rw [hc i hi]; simp [hi]) dst hd
    rw [hr]
    congr 2
    unfold strOfNums
    congr 1
    rw [List.map_map]
    have : (l.map ((fun n : Int => UInt8.ofNat n.toNat) ∘ fun x : UInt8 => (x.toNat : Int))) = l := by
      conv => rhs; rw [← List.map_id l]
      apply List.map_congr_left
      intro x _
      simp
    rw [this]
theorem bdrew_left {B : Nat} {W w1 : World} (h : Below B W.drew w1) : Below B W w1 := ⟨h.os, h.tape, h.output, h.size, h.block⟩
section
variable {P : Program} {ops : Array Oper} {rest : List Oper} {o : Oper} {a : Act} {Q : Exit → Act → World → Prop}
end
/-! ### Values of documents -/
inductive Val where
  | mk (kind : Int) (text more : ByteArray) (n bits high : Int) (b : List UInt8) (kids : List (ByteArray × Val))
namespace Val
def kind : Val → Int | mk k _ _ _ _ _ _ _ => k
def text : Val → ByteArray | mk _ t _ _ _ _ _ _ => t
def more : Val → ByteArray | mk _ _ t _ _ _ _ _ => t
def n : Val → Int | mk _ _ _ n _ _ _ _ => n
def bits : Val → Int | mk _ _ _ _ n _ _ _ => n
def high : Val → Int | mk _ _ _ _ _ n _ _ => n
def b : Val → List UInt8 | mk _ _ _ _ _ _ b _ => b
def kids : Val → List (ByteArray × Val) | mk _ _ _ _ _ _ _ k => k
end Val

mutual
/-- The eight cells of a value. -/
def RV (w : World) : Val → List Value → Prop
  | .mk kind text more n bits high b kids, cs => ∃ A c K d, cs = [.int .i64 kind, .string text, .string more, .int .i64 n, .int .u64 bits, .int .u64 high, .slice A b.length c, .slice K kids.length d] ∧
      SB w A c b ∧ kids.length ≤ d ∧ d ≤ 9223372036854775807 ∧ (kids = [] ∨ ∃ blk off, K = some ⟨blk, off, none⟩ ∧ RKs w blk off kids)
/-- The cells of elements, nine for each, from an address on. -/
def RKs (w : World) (blk : Nat) (off : Nat) : List (ByteArray × Val) → Prop
  | [] => True
  | (name, v) :: r => (∃ cs, RV w v cs ∧ w.cell? ⟨blk, off, none⟩ = some (.string name) ∧ ∀ j, (h : j < cs.length) → w.cell? ⟨blk, off + 1 + j, none⟩ = some cs[j]) ∧ RKs w blk (off + 9) r
end

theorem RV.len {w : World} {v : Val} {cs : List Value} (h : RV w v cs) : cs.length = 8 := by
  cases v
  simp only [RV] at h
  obtain ⟨A, c, K, d, rfl, _⟩ := h
  rfl
mutual
theorem RV.keep {w w1 : World} (hb : Below w.heap.size w w1) : ∀ {v : Val} {cs : List Value}, RV w v cs → RV w1 v cs
  | .mk kind text more n bits high b kids, cs, h => by
    simp only [RV] at h ⊢
    obtain ⟨A, c, K, d, e, hs, h1, h2, h3⟩ := h
    refine ⟨A, c, K, d, e, hs.keep hb, h1, h2, ?_⟩
    rcases h3 with h3 | ⟨blk, off, e3, h3⟩
    · exact .inl h3
    · exact .inr ⟨blk, off, e3, RKs.keep hb h3⟩
theorem RKs.keep {w w1 : World} (hb : Below w.heap.size w w1) : ∀ {kids : List (ByteArray × Val)} {blk off : Nat}, RKs w blk off kids → RKs w1 blk off kids
  | [], _, _, _ => by simp only [RKs]
  | (name, v) :: r, blk, off, h => by
    simp only [RKs] at h ⊢
    obtain ⟨⟨cs, h1, h2, h3⟩, h4⟩ := h
    exact ⟨⟨cs, RV.keep hb h1, (hb.cell (World.block_lt_of_cell? w _ h2)).trans h2, fun j hj => (hb.cell (World.block_lt_of_cell? w _ (h3 j hj))).trans (h3 j hj)⟩, RKs.keep hb h4⟩
end
/-- One of the elements: its value's eight cells. -/
theorem RKs.at_ {w : World} {blk : Nat} : ∀ {kids : List (ByteArray × Val)} {off : Nat}, RKs w blk off kids → ∀ i, (h : i < kids.length) →
    ∃ cs, RV w (kids[i]).2 cs ∧ w.cell? ⟨blk, off + i * 9, none⟩ = some (.string (kids[i]).1) ∧ ∀ j, (h : j < cs.length) → w.cell? ⟨blk, off + i * 9 + 1 + j, none⟩ = some cs[j]
  | (name, v) :: r, off, h, 0, _ => by
    simp only [RKs] at h
    simpa using h.1
  | (name, v) :: r, off, h, i + 1, hi => by
    simp only [RKs] at h
    have := RKs.at_ h.2 i (by simpa using hi)
    simp only [List.getElem_cons_succ]
    rw [show off + (i + 1) * 9 = off + 9 + i * 9 from by omega]
    exact this
end Go.Proofs.YtbpopaegfhcdpaaGreatDoor.X


/- What a reading of bytes as an argument says. -/
set_option linter.unusedVariables false
set_option linter.unusedSimpArgs false
set_option maxRecDepth 100000
namespace Go.Proofs.YtbpopaegfhcdpaaGreatDoor.X
open Go.RowKit Go.ChangeShapes Go.WideShapes

theorem spot_none {w : World} {a : Addr} {v : Value} (h : w.cell? a = some v) : a.spot = none := by
  unfold World.cell? at h
  split at h
  · split at h
    · cases h
    · rename_i h2; simpa using h2
  · cases h
theorem cell_add {w : World} {a : Addr} {n : Nat} {v : Value} (h : w.cell? (a.add n) = some v) : w.cell? ⟨a.block, a.off + n, none⟩ = some v := by
  have hs := spot_none h
  unfold Addr.add at h hs
  split at h
  · rename_i h0
    subst h0
    obtain ⟨b, o, s⟩ := a
    simp at hs
    subst hs
    simpa using h
  · exact h
section
variable {H : Type} {enc : TypeId × Value → H} {w : World} {sp : Nat → Bool} {held : Bool}

theorem open_bytes {fuel : Nat} {cs : List Value} {x : DataW H × List MemPlace} (h : DataW.trod enc Tryz.prog w 0 sp held fuel 22 cs = some x)
    (hz : ∀ n ∈ x.1.weights Tryz.prog 22, n ≤ reachBytes) : ∃ A c l, cs = [.slice A l.length c] ∧ SB w A c l ∧ l.length ≤ 140737488351232 := by
  rcases open_ints Tryz.underlying22 Tryz.underlying5 (by kernel_rfl) h with ⟨rfl, _⟩ | ⟨a, len, cap, zs, rfl, _, hl, hm, hlen, rfl, hc, hw⟩
  · exact ⟨none, 0, [], rfl, SB.nil w, by simp⟩
  · have hle : len ≤ zs.length := by rw [hlen]; split <;> omega
    have e1 : Tryz.prog.bytesOf 5 = 1 := by kernel_rfl
    have hz1 : len + (zs.length - len) ≤ reachBytes := by
      have := hz ((len + (zs.length - len)) * 1) (by simp [DataW.weights, Tryz.underlying22, e1, lits, Nat.min_eq_left hle])
      simpa using this
    have el : ((zs.take len).map fun z => UInt8.ofNat z.toNat).length = len := by simp [Nat.min_eq_left hle]
    refine ⟨some a, cap, (zs.take len).map fun z => UInt8.ofNat z.toNat, by rw [el], ⟨by rw [el]; exact hl, by simpa [maxLen] using hm, fun hpos => ?_⟩, by rw [el]; simp only [reachBytes] at hz1; omega⟩
    rw [el] at hpos
    have h0 := hc 0 (by omega)
    have hs := spot_none h0
    have ha : a = ⟨a.block, a.off, none⟩ := by
      obtain ⟨b, o, s⟩ := a
      simp [Addr.add] at hs
      subst hs
      rfl
    refine ⟨a.block, a.off, by rw [← ha], fun j hj => ?_⟩
    rw [el] at hj
    rw [cell_add (hc j (by omega))]
    have hwz := hw (zs.getD j 0) (by rw [List.getD_eq_getElem?_getD, List.getElem?_eq_getElem (by omega : j < zs.length)]; simp)
    have hb : 0 ≤ zs.getD j 0 ∧ zs.getD j 0 ≤ 255 := by
      revert hwz
      generalize zs.getD j 0 = z
      intro hwz
      simp [Lit.wf, IntKind.bits, IntKind.signed, IntKind.min, IntKind.max] at hwz
      omega
    have eg : zs.getD j 0 = zs[j]'(by omega) := by simp [List.getD_eq_getElem?_getD, List.getElem?_eq_getElem (by omega : j < zs.length)]
    simp only [List.getElem_map, List.getElem_take, ← eg]
    rw [UInt8.toNat_ofNat']
    congr 2
    omega

end
end Go.Proofs.YtbpopaegfhcdpaaGreatDoor.X


/- Contracts of copies: impl.own and docCopy. -/
set_option linter.unusedVariables false
set_option linter.unusedSimpArgs false
set_option maxRecDepth 100000
namespace Go.Proofs.YtbpopaegfhcdpaaGreatDoor.X
open Go.RowKit
theorem infoO : (Tryz.prog.info? 5).map (fun i => (i.zero, i.size, i.bytes)) = some (some (.int .u8 0), 1, 1) := by kernel_rfl
theorem implOwn (A : Option Addr) (c : Nat) (l : List UInt8) (w : World) (hs : SB w A c l) (hl : l.length ≤ 140737488355328) :
    Calls Tryz.prog 40 #[.slice A l.length c] w (After fun v1 w1 => OB 5 w1 w.heap.size v1 l ∧ Below w.heap.size w w1) := by
  obtain ⟨v1, w1, hap, h1⟩ := app_run (P := Tryz.prog) (E := 5) 22 infoO Tryz.underlying22 22 w w.heap.size (.slice none 0 0) [] A c l (OB.nil _ _) hs (Nat.le_refl _) (by simpa using hl)
  go_enter Tryz.func40, Tryz.ntmps40
  go_wp2_with (first | (refine wp_app (.const (.slice none 0 0)) (.tmp 3) 22 rfl rfl infoO Tryz.underlying22 _ w.heap.size _ [] A c l rfl rfl (OB.nil _ _) hs (Nat.le_refl _) (by simpa using hl) ?_; intro v2 w2 h2) | fail)
  go_ret
  exact ⟨v2, rfl, by simpa using h2.own, h2.kept (OB.nil _ _) (Nat.le_refl _)⟩
end Go.Proofs.YtbpopaegfhcdpaaGreatDoor.X


/- Contracts of binaryutil.ReadI32 and ReadI64, and what shifted bytes joined by bits come to. -/
set_option linter.unusedVariables false
set_option linter.unusedSimpArgs false
set_option maxRecDepth 100000
namespace Go.Proofs.YtbpopaegfhcdpaaGreatDoor.X
open Go.RowKit Go.Proofs.YtbpopaegfhcdpaaGreatDoorW.PrintLast
def R117.T4 : Bool × List (List Nat × List Nat) := (true, [([], []), ([0], [0]), ([1], [1]), ([2], [2]), ([], []), ([4], [4]), ([5], [5]), ([6], [6]), ([7], [7]), ([3, 8], [3, 8]), ([], []), ([10], [10]), ([11], [11]), ([12], [12]), ([13], [13]), ([9, 14], [9, 14]), ([], []), ([16], [16]), ([17], [17]), ([18], [18]), ([19], [19]), ([15, 20], [15, 20]), ([21, 0, 1, 2, 3, 4, 5, 6, 7, 8, 9, 10, 11, 12, 13, 14, 15, 16, 17, 18, 19, 20, 21], [21])])
def R117.B4 : List Nat := [0, 1, 3, 7, 0, 16, 48, 112, 240, 511, 0, 1024, 3072, 7168, 15360, 32767, 0, 65536, 196608, 458752, 983040, 2097151, 4194303]
theorem R117.tab4 : rtab .any (opsOf Tryz.f117 4) = R117.T4 := by kernel_rfl
theorem R117.bits4 : waitsOk R117.T4.2 R117.B4 = true := by kernel_rfl
def R117.T5 : Bool × List (List Nat × List Nat) := (true, [([], []), ([], []), ([1], [1]), ([0, 0], [0]), ([2, 3, 0, 1, 2, 3], [2]), ([4, 0, 1, 2, 3, 4], [])])
def R117.B5 : List Nat := [0, 0, 2, 1, 15, 31]
theorem R117.tab5 : rtab .any (opsOf Tryz.f117 5) = R117.T5 := by kernel_rfl
theorem R117.bits5 : waitsOk R117.T5.2 R117.B5 = true := by kernel_rfl
theorem wrap_mod (k : IntKind) (n : Int) : k.wrap n % 2 ^ k.bits = n % 2 ^ k.bits := by
  unfold IntKind.wrap
  simp only []
  split
  · rw [Int.sub_emod, Int.emod_self]; simp
  · simp
theorem or_join (k : IntKind) (x y : Int) (a b i : Nat) (ha : a < 2 ^ i) (hab : a + b * 2 ^ i < 2 ^ k.bits) (hx : x % 2 ^ k.bits = a) (hy : y % 2 ^ k.bits = (b * 2 ^ i : Nat)) :
    bits .or k x y = k.wrap ((a + b * 2 ^ i : Nat) : Int) := by
  have ha2 : a < 2 ^ k.bits := by omega
  have hb2 : b * 2 ^ i < 2 ^ k.bits := by omega
  have ex : BitVec.ofInt k.bits x = BitVec.ofNat k.bits a := by
    apply BitVec.eq_of_toNat_eq
    have : (x % (2 ^ k.bits : Nat)).toNat = a := by
      rw [show ((2 ^ k.bits : Nat) : Int) = 2 ^ k.bits from by simp, hx]; simp
    simp [BitVec.toNat_ofInt, Nat.mod_eq_of_lt ha2]
    simpa using this
  have ey : BitVec.ofInt k.bits y = BitVec.ofNat k.bits (b * 2 ^ i) := by
    apply BitVec.eq_of_toNat_eq
    have : (y % (2 ^ k.bits : Nat)).toNat = b * 2 ^ i := by
      rw [show ((2 ^ k.bits : Nat) : Int) = 2 ^ k.bits from by simp, hy]; exact Int.toNat_natCast _
    simp only [BitVec.toNat_ofInt, BitVec.toNat_ofNat, Nat.mod_eq_of_lt hb2]
    exact this
  simp only [bits, ex, ey, BitVec.toNat_or, BitVec.toNat_ofNat, Nat.mod_eq_of_lt ha2, Nat.mod_eq_of_lt hb2]
  congr 2
  rw [Nat.or_comm, Nat.mul_comm, ← Nat.two_pow_add_eq_or_of_lt ha, Nat.add_comm]
theorem or_mod (k : IntKind) (x y : Int) (a b i : Nat) (ha : a < 2 ^ i) (hab : a + b * 2 ^ i < 2 ^ k.bits) (hx : x % 2 ^ k.bits = a) (hy : y % 2 ^ k.bits = (b * 2 ^ i : Nat)) :
    bits .or k x y % 2 ^ k.bits = ((a + b * 2 ^ i : Nat) : Int) := by
  rw [or_join k x y a b i ha hab hx hy, wrap_mod]
  apply Int.emod_eq_of_lt (by omega)
  exact_mod_cast hab
theorem or4_i32 (b0 b1 b2 b3 : Nat) (y0 y1 y2 y3 : Int) (h0 : b0 < 256) (h1 : b1 < 256) (h2 : b2 < 256) (h3 : b3 < 256)
    (e0 : y0 % 4294967296 = (b0 : Nat)) (e1 : y1 % 4294967296 = (b1 * 256 : Nat)) (e2 : y2 % 4294967296 = (b2 * 65536 : Nat)) (e3 : y3 % 4294967296 = (b3 * 16777216 : Nat)) :
    bits .or .i32 (bits .or .i32 (bits .or .i32 y0 y1) y2) y3 = IntKind.i32.wrap ((b0 + b1 * 256 + b2 * 65536 + b3 * 16777216 : Nat) : Int) := by
  have s1 := or_mod .i32 y0 y1 b0 b1 8 (by omega) (by simp [IntKind.bits]; omega) (by simpa [IntKind.bits] using e0) (by simpa [IntKind.bits] using e1)
  have s2 := or_mod .i32 _ y2 _ b2 16 (by omega) (by simp [IntKind.bits]; omega) s1 (by simpa [IntKind.bits] using e2)
  have s3 := or_join .i32 _ y3 _ b3 24 (by omega) (by simp [IntKind.bits]; omega) s2 (by simpa [IntKind.bits] using e3)
  rw [s3]
theorem or8_i64 (b0 b1 b2 b3 b4 b5 b6 b7 : Nat) (y0 y1 y2 y3 y4 y5 y6 y7 : Int) (h0 : b0 < 256) (h1 : b1 < 256) (h2 : b2 < 256) (h3 : b3 < 256) (h4 : b4 < 256) (h5 : b5 < 256) (h6 : b6 < 256) (h7 : b7 < 256)
    (e0 : y0 % 18446744073709551616 = (b0 : Nat)) (e1 : y1 % 18446744073709551616 = (b1 * 256 : Nat)) (e2 : y2 % 18446744073709551616 = (b2 * 65536 : Nat)) (e3 : y3 % 18446744073709551616 = (b3 * 16777216 : Nat))
    (e4 : y4 % 18446744073709551616 = (b4 * 4294967296 : Nat)) (e5 : y5 % 18446744073709551616 = (b5 * 1099511627776 : Nat)) (e6 : y6 % 18446744073709551616 = (b6 * 281474976710656 : Nat)) (e7 : y7 % 18446744073709551616 = (b7 * 72057594037927936 : Nat)) :
    bits .or .i64 (bits .or .i64 (bits .or .i64 (bits .or .i64 (bits .or .i64 (bits .or .i64 (bits .or .i64 y0 y1) y2) y3) y4) y5) y6) y7 =
      IntKind.i64.wrap ((b0 + b1 * 256 + b2 * 65536 + b3 * 16777216 + b4 * 4294967296 + b5 * 1099511627776 + b6 * 281474976710656 + b7 * 72057594037927936 : Nat) : Int) := by
  have s1 := or_mod .i64 y0 y1 b0 b1 8 (by omega) (by simp [IntKind.bits]; omega) (by simpa [IntKind.bits] using e0) (by simpa [IntKind.bits] using e1)
  have s2 := or_mod .i64 _ y2 _ b2 16 (by omega) (by simp [IntKind.bits]; omega) s1 (by simpa [IntKind.bits] using e2)
  have s3 := or_mod .i64 _ y3 _ b3 24 (by omega) (by simp [IntKind.bits]; omega) s2 (by simpa [IntKind.bits] using e3)
  have s4 := or_mod .i64 _ y4 _ b4 32 (by omega) (by simp [IntKind.bits]; omega) s3 (by simpa [IntKind.bits] using e4)
  have s5 := or_mod .i64 _ y5 _ b5 40 (by omega) (by simp [IntKind.bits]; omega) s4 (by simpa [IntKind.bits] using e5)
  have s6 := or_mod .i64 _ y6 _ b6 48 (by omega) (by simp [IntKind.bits]; omega) s5 (by simpa [IntKind.bits] using e6)
  have s7 := or_join .i64 _ y7 _ b7 56 (by omega) (by simp [IntKind.bits]; omega) s6 (by simpa [IntKind.bits] using e7)
  rw [s7]
theorem wm4 (n : Int) : wrap32 n % 4294967296 = n % 4294967296 := by unfold wrap32; omega
theorem ws4 (b m : Nat) (x : Int) (hx : x = (m : Int)) (hb : b < 256) (h : b * m < 4294967296) : wrap32 (wrap32 (b : Int) * x) % 4294967296 = ((b * m : Nat) : Int) := by
  rw [hx, wm4, show wrap32 (b : Int) = b from by unfold wrap32; omega, ← Int.natCast_mul]
  have h2 : ((b * m : Nat) : Int) < 4294967296 := Int.ofNat_lt.2 h
  exact Int.emod_eq_of_lt (Int.natCast_nonneg _) h2
theorem or4_val (b0 b1 b2 b3 : Nat) (h0 : b0 < 256) (h1 : b1 < 256) (h2 : b2 < 256) (h3 : b3 < 256) : bits .or .i32 (bits .or .i32 (bits .or .i32 (wrap32 (b0 : Int)) (wrap32 ((wrap32 (b1 : Int)) * 256))) (wrap32 ((wrap32 (b2 : Int)) * 65536))) (wrap32 ((wrap32 (b3 : Int)) * 16777216)) = wrap32 ((b0 : Int) + (b1 : Int) * 256 + (b2 : Int) * 65536 + (b3 : Int) * 16777216) := by
  have h := or4_i32 b0 b1 b2 b3 (wrap32 (b0 : Int)) (wrap32 (wrap32 (b1 : Int) * 256)) (wrap32 (wrap32 (b2 : Int) * 65536)) (wrap32 (wrap32 (b3 : Int) * 16777216)) h0 h1 h2 h3 (by rw [wm4]; omega) (ws4 b1 256 _ (by decide) h1 (by omega)) (ws4 b2 65536 _ (by decide) h2 (by omega)) (ws4 b3 16777216 _ (by decide) h3 (by omega))
  have e : ((b0 + b1 * 256 + b2 * 65536 + b3 * 16777216 : Nat) : Int) = (b0 : Int) + (b1 : Int) * 256 + (b2 : Int) * 65536 + (b3 : Int) * 16777216 := by omega
  rw [h, IntKind.wrap_i32, e]
  simp only [wrap32]
def leI : List UInt8 → Int
  | [] => 0
  | b :: r => (b.toNat : Int) + 256 * leI r
set_option maxHeartbeats 1600000 in
theorem readI32 (A : Option Addr) (c : Nat) (b0 b1 b2 b3 : UInt8) (r : List UInt8) (w : World) (hs : SB w A c (b0 :: b1 :: b2 :: b3 :: r)) :
    Calls Tryz.prog 117 #[.slice A (b0 :: b1 :: b2 :: b3 :: r).length c] w fun e w' => ∃ A1, e = .returned (.tuple #[.int .i32 (wrap32 (leI [b0, b1, b2, b3])), .slice A1 r.length (c - 4), .bool true]) ∧ SB w' A1 (c - 4) r ∧ Below w.heap.size w w' := by
  obtain ⟨A1, e1, s1⟩ := SB.from_ (P := Tryz.prog) Tryz.underlying22 rfl rfl .i64 A c (b0 :: b1 :: b2 :: b3 :: r) 4 (by simp) hs.le
  have e1' : ∀ W : World, (Instr.slice 22 (.slice A (b0 :: b1 :: b2 :: b3 :: r).length c) (some (.int .i64 4)) none none).run Tryz.prog W = .ok (.slice A1 r.length (c - 4)) W := fun W => by have h := e1 W; rw [show (b0 :: b1 :: b2 :: b3 :: r).length - 4 = r.length from by simp] at h; exact h
  have t1 := fun wx (h : Below w.heap.size w wx) => s1 wx (hs.keep h)
  have T1 := Lib.hid t1
  have hcap : r.length + 4 ≤ c := by have := hs.le; simpa using this
  have hlen9 : c ≤ 9223372036854775807 := hs.cap
  obtain ⟨b, off, rfl, hc⟩ := hs.cells (by simp)
  have c0 : w.cell? ⟨b, off, none⟩ = some (.int .u8 b0.toNat) := by have h := hc 0 (by simp); exact h
  have c1 : w.cell? ⟨b, off + 1, none⟩ = some (.int .u8 b1.toNat) := by have h := hc 1 (by simp); exact h
  have c2 : w.cell? ⟨b, off + 2, none⟩ = some (.int .u8 b2.toNat) := by have h := hc 2 (by simp); exact h
  have c3 : w.cell? ⟨b, off + 3, none⟩ = some (.int .u8 b3.toNat) := by have h := hc 3 (by simp); exact h
  have hv : bits .or .i32 (bits .or .i32 (bits .or .i32 (wrap32 (b0.toNat : Int)) (wrap32 ((wrap32 (b1.toNat : Int)) * 256))) (wrap32 ((wrap32 (b2.toNat : Int)) * 65536))) (wrap32 ((wrap32 (b3.toNat : Int)) * 16777216)) = wrap32 (leI [b0, b1, b2, b3]) := by
    have hb0 : b0.toNat < 256 := b0.toNat_lt
    have hb1 : b1.toNat < 256 := b1.toNat_lt
    have hb2 : b2.toNat < 256 := b2.toNat_lt
    have hb3 : b3.toNat < 256 := b3.toNat_lt
    have h := or4_val b0.toNat b1.toNat b2.toNat b3.toNat hb0 hb1 hb2 hb3
    rw [h]
    congr 1
    simp only [leI]
    omega
  obtain ⟨x0, h0⟩ : ∃ x, x = (b0.toNat : Int) := ⟨_, rfl⟩
  rw [← h0] at c0 hv
  obtain ⟨x1, h1⟩ : ∃ x, x = (b1.toNat : Int) := ⟨_, rfl⟩
  rw [← h1] at c1 hv
  obtain ⟨x2, h2⟩ : ∃ x, x = (b2.toNat : Int) := ⟨_, rfl⟩
  rw [← h2] at c2 hv
  obtain ⟨x3, h3⟩ : ∃ x, x = (b3.toNat : Int) := ⟨_, rfl⟩
  rw [← h3] at c3 hv
  obtain ⟨xv, hxv⟩ : ∃ x, x = wrap32 (leI [b0, b1, b2, b3]) := ⟨_, rfl⟩
  rw [← hxv] at hv ⊢
  have HV := Lib.hid hv
  obtain ⟨q, hq⟩ : ∃ x, x = (b0 :: b1 :: b2 :: b3 :: r).length := ⟨_, rfl⟩
  have hq4 : 4 ≤ q := by rw [hq]; simp
  rw [← hq] at e1' ⊢
  clear hq hs hc hv hxv t1 e1 s1 h0 h1 h2 h3
  go_enter Tryz.func117, Tryz.ntmps117
  go_wp2
  have g0 : 0 < q := by omega
  have g1 : (1 : Int) < q := by omega
  have g2 : (2 : Int) < q := by omega
  have g3 : (3 : Int) < q := by omega
  refine start_ (n := 23) (S := fun w' => w'.cell? ⟨b, off, none⟩ = some (.int .u8 x0) ∧ w'.cell? ⟨b, off + 1, none⟩ = some (.int .u8 x1) ∧ w'.cell? ⟨b, off + 2, none⟩ = some (.int .u8 x2) ∧ w'.cell? ⟨b, off + 3, none⟩ = some (.int .u8 x3)) (ds := []) #[false, false, false, false, false, false, false, false, false, false, false, false, false, false, false, false, false, false, false, false, false, false, false] (by kernel_rfl) rfl rfl ⟨(by go_simp), (by go_simp), (by go_simp), (by go_simp)⟩ (fun hHeld => ?_)
  refine with_tabW R117.tab4 R117.bits4 (fun HT_ HW_ => ?_)
  refine pure_ (i := 0) (N := some 13) (v := ?_) (a' := ?_) #[true, false, false, false, false, false, false, false, false, false, false, false, false, false, false, false, false, false, false, false, false, false, false] rfl rfl (any_of HT_.out (by kernel_rfl)) (fun _ _ _ h => h) (Or.inl ⟨by rfl, ?_⟩) ?_ ?_
  rotate_left
  · intro w'
    go_simp
    with_reducible rfl
  rotate_left
  · simp only [Act.put, List.setIfInBounds_toArray, List.set_cons_zero, List.set_cons_succ, i64_w, i32_w]
    rfl
  refine pure_ (i := 1) (N := some 14) (v := ?_) (a' := ?_) #[true, true, false, false, false, false, false, false, false, false, false, false, false, false, false, false, false, false, false, false, false, false, false] rfl rfl (any_of HT_.out (by kernel_rfl)) (fun _ _ _ h => h) (Or.inl ⟨by rfl, ?_⟩) ?_ ?_
  rotate_left
  · intro w'
    go_simp
    with_reducible rfl
  rotate_left
  · simp only [Act.put, List.setIfInBounds_toArray, List.set_cons_zero, List.set_cons_succ, i64_w, i32_w]
    rfl
  refine pure_ (i := 4) (N := some 17) (v := ?_) (a' := ?_) #[true, true, false, false, true, false, false, false, false, false, false, false, false, false, false, false, false, false, false, false, false, false, false] rfl rfl (any_of HT_.out (by kernel_rfl)) (fun _ _ _ h => h) (Or.inl ⟨by rfl, ?_⟩) ?_ ?_
  rotate_left
  · intro w'
    go_simp
    with_reducible rfl
  rotate_left
  · simp only [Act.put, List.setIfInBounds_toArray, List.set_cons_zero, List.set_cons_succ, i64_w, i32_w]
    rfl
  refine pure_ (i := 5) (N := some 18) (v := ?_) (a' := ?_) #[true, true, false, false, true, true, false, false, false, false, false, false, false, false, false, false, false, false, false, false, false, false, false] rfl rfl (any_of HT_.out (by kernel_rfl)) (fun _ _ _ h => h) (Or.inl ⟨by rfl, ?_⟩) ?_ ?_
  rotate_left
  · intro w'
    go_simp
    with_reducible rfl
  rotate_left
  · simp only [Act.put, List.setIfInBounds_toArray, List.set_cons_zero, List.set_cons_succ, i64_w, i32_w]
    rfl
  refine pure_ (i := 10) (N := some 23) (v := ?_) (a' := ?_) #[true, true, false, false, true, true, false, false, false, false, true, false, false, false, false, false, false, false, false, false, false, false, false] rfl rfl (any_of HT_.out (by kernel_rfl)) (fun _ _ _ h => h) (Or.inl ⟨by rfl, ?_⟩) ?_ ?_
  rotate_left
  · intro w'
    go_simp
    with_reducible rfl
  rotate_left
  · simp only [Act.put, List.setIfInBounds_toArray, List.set_cons_zero, List.set_cons_succ, i64_w, i32_w]
    rfl
  refine pure_ (i := 11) (N := some 24) (v := ?_) (a' := ?_) #[true, true, false, false, true, true, false, false, false, false, true, true, false, false, false, false, false, false, false, false, false, false, false] rfl rfl (any_of HT_.out (by kernel_rfl)) (fun _ _ _ h => h) (Or.inl ⟨by rfl, ?_⟩) ?_ ?_
  rotate_left
  · intro w'
    go_simp
    with_reducible rfl
  rotate_left
  · simp only [Act.put, List.setIfInBounds_toArray, List.set_cons_zero, List.set_cons_succ, i64_w, i32_w]
    rfl
  refine pure_ (i := 16) (N := some 29) (v := ?_) (a' := ?_) #[true, true, false, false, true, true, false, false, false, false, true, true, false, false, false, false, true, false, false, false, false, false, false] rfl rfl (any_of HT_.out (by kernel_rfl)) (fun _ _ _ h => h) (Or.inl ⟨by rfl, ?_⟩) ?_ ?_
  rotate_left
  · intro w'
    go_simp
    with_reducible rfl
  rotate_left
  · simp only [Act.put, List.setIfInBounds_toArray, List.set_cons_zero, List.set_cons_succ, i64_w, i32_w]
    rfl
  refine pure_ (i := 17) (N := some 30) (v := ?_) (a' := ?_) #[true, true, false, false, true, true, false, false, false, false, true, true, false, false, false, false, true, true, false, false, false, false, false] rfl rfl (any_of HT_.out (by kernel_rfl)) (fun _ _ _ h => h) (Or.inl ⟨by rfl, ?_⟩) ?_ ?_
  rotate_left
  · intro w'
    go_simp
    with_reducible rfl
  rotate_left
  · simp only [Act.put, List.setIfInBounds_toArray, List.set_cons_zero, List.set_cons_succ, i64_w, i32_w]
    rfl
  refine take_ (i := 2) (N := some 15) (v := ?_) (a' := ?_) #[true, true, true, false, true, true, false, false, false, false, true, true, false, false, false, false, true, true, false, false, false, false, false] rfl rfl (take_ofW HT_.out HW_.out (by kernel_rfl)) (fun _ _ _ h => h) (Or.inl ⟨by rfl, ?_⟩) hHeld ?_ ?_
  rotate_left
  · rintro w' ⟨s0, s1, s2, s3⟩
    go_simp
    with_reducible rfl
  rotate_left
  · simp only [Act.put, List.setIfInBounds_toArray, List.set_cons_zero, List.set_cons_succ, i64_w, i32_w]
    rfl
  refine pure_ (i := 3) (N := some 16) (v := ?_) (a' := ?_) #[true, true, true, true, true, true, false, false, false, false, true, true, false, false, false, false, true, true, false, false, false, false, false] rfl rfl (any_of HT_.out (by kernel_rfl)) (fun _ _ _ h => h) (Or.inl ⟨by rfl, ?_⟩) ?_ ?_
  rotate_left
  · intro w'
    go_simp
    with_reducible rfl
  rotate_left
  · simp only [Act.put, List.setIfInBounds_toArray, List.set_cons_zero, List.set_cons_succ, i64_w, i32_w]
    rfl
  refine take_ (i := 6) (N := some 19) (v := ?_) (a' := ?_) #[true, true, true, true, true, true, true, false, false, false, true, true, false, false, false, false, true, true, false, false, false, false, false] rfl rfl (take_ofW HT_.out HW_.out (by kernel_rfl)) (fun _ _ _ h => h) (Or.inl ⟨by rfl, ?_⟩) hHeld ?_ ?_
  rotate_left
  · rintro w' ⟨s0, s1, s2, s3⟩
    go_simp
    with_reducible rfl
  rotate_left
  · simp only [Act.put, List.setIfInBounds_toArray, List.set_cons_zero, List.set_cons_succ, i64_w, i32_w]
    rfl
  refine pure_ (i := 7) (N := some 20) (v := ?_) (a' := ?_) #[true, true, true, true, true, true, true, true, false, false, true, true, false, false, false, false, true, true, false, false, false, false, false] rfl rfl (any_of HT_.out (by kernel_rfl)) (fun _ _ _ h => h) (Or.inl ⟨by rfl, ?_⟩) ?_ ?_
  rotate_left
  · intro w'
    go_simp
    with_reducible rfl
  rotate_left
  · simp only [Act.put, List.setIfInBounds_toArray, List.set_cons_zero, List.set_cons_succ, i64_w, i32_w]
    rfl
  refine pure_ (i := 8) (N := some 21) (v := ?_) (a' := ?_) #[true, true, true, true, true, true, true, true, true, false, true, true, false, false, false, false, true, true, false, false, false, false, false] rfl rfl (any_of HT_.out (by kernel_rfl)) (fun _ _ _ h => h) (Or.inl ⟨by rfl, ?_⟩) ?_ ?_
  rotate_left
  · intro w'
    go_simp
    with_reducible rfl
  rotate_left
  · simp only [Act.put, List.setIfInBounds_toArray, List.set_cons_zero, List.set_cons_succ, i64_w, i32_w]
    rfl
  refine pure_ (i := 9) (N := some 22) (v := ?_) (a' := ?_) #[true, true, true, true, true, true, true, true, true, true, true, true, false, false, false, false, true, true, false, false, false, false, false] rfl rfl (any_of HT_.out (by kernel_rfl)) (fun _ _ _ h => h) (Or.inl ⟨by rfl, ?_⟩) ?_ ?_
  rotate_left
  · intro w'
    go_simp
    with_reducible rfl
  rotate_left
  · simp only [Act.put, List.setIfInBounds_toArray, List.set_cons_zero, List.set_cons_succ, i64_w, i32_w]
    rfl
  refine take_ (i := 12) (N := some 25) (v := ?_) (a' := ?_) #[true, true, true, true, true, true, true, true, true, true, true, true, true, false, false, false, true, true, false, false, false, false, false] rfl rfl (take_ofW HT_.out HW_.out (by kernel_rfl)) (fun _ _ _ h => h) (Or.inl ⟨by rfl, ?_⟩) hHeld ?_ ?_
  rotate_left
  · rintro w' ⟨s0, s1, s2, s3⟩
    go_simp
    with_reducible rfl
  rotate_left
  · simp only [Act.put, List.setIfInBounds_toArray, List.set_cons_zero, List.set_cons_succ, i64_w, i32_w]
    rfl
  refine pure_ (i := 13) (N := some 26) (v := ?_) (a' := ?_) #[true, true, true, true, true, true, true, true, true, true, true, true, true, true, false, false, true, true, false, false, false, false, false] rfl rfl (any_of HT_.out (by kernel_rfl)) (fun _ _ _ h => h) (Or.inl ⟨by rfl, ?_⟩) ?_ ?_
  rotate_left
  · intro w'
    go_simp
    with_reducible rfl
  rotate_left
  · simp only [Act.put, List.setIfInBounds_toArray, List.set_cons_zero, List.set_cons_succ, i64_w, i32_w]
    rfl
  refine pure_ (i := 14) (N := some 27) (v := ?_) (a' := ?_) #[true, true, true, true, true, true, true, true, true, true, true, true, true, true, true, false, true, true, false, false, false, false, false] rfl rfl (any_of HT_.out (by kernel_rfl)) (fun _ _ _ h => h) (Or.inl ⟨by rfl, ?_⟩) ?_ ?_
  rotate_left
  · intro w'
    go_simp
    with_reducible rfl
  rotate_left
  · simp only [Act.put, List.setIfInBounds_toArray, List.set_cons_zero, List.set_cons_succ, i64_w, i32_w]
    rfl
  refine pure_ (i := 15) (N := some 28) (v := ?_) (a' := ?_) #[true, true, true, true, true, true, true, true, true, true, true, true, true, true, true, true, true, true, false, false, false, false, false] rfl rfl (any_of HT_.out (by kernel_rfl)) (fun _ _ _ h => h) (Or.inl ⟨by rfl, ?_⟩) ?_ ?_
  rotate_left
  · intro w'
    go_simp
    with_reducible rfl
  rotate_left
  · simp only [Act.put, List.setIfInBounds_toArray, List.set_cons_zero, List.set_cons_succ, i64_w, i32_w]
    rfl
  refine take_ (i := 18) (N := some 31) (v := ?_) (a' := ?_) #[true, true, true, true, true, true, true, true, true, true, true, true, true, true, true, true, true, true, true, false, false, false, false] rfl rfl (take_ofW HT_.out HW_.out (by kernel_rfl)) (fun _ _ _ h => h) (Or.inl ⟨by rfl, ?_⟩) hHeld ?_ ?_
  rotate_left
  · rintro w' ⟨s0, s1, s2, s3⟩
    go_simp
    with_reducible rfl
  rotate_left
  · simp only [Act.put, List.setIfInBounds_toArray, List.set_cons_zero, List.set_cons_succ, i64_w, i32_w]
    rfl
  refine pure_ (i := 19) (N := some 32) (v := ?_) (a' := ?_) #[true, true, true, true, true, true, true, true, true, true, true, true, true, true, true, true, true, true, true, true, false, false, false] rfl rfl (any_of HT_.out (by kernel_rfl)) (fun _ _ _ h => h) (Or.inl ⟨by rfl, ?_⟩) ?_ ?_
  rotate_left
  · intro w'
    go_simp
    with_reducible rfl
  rotate_left
  · simp only [Act.put, List.setIfInBounds_toArray, List.set_cons_zero, List.set_cons_succ, i64_w, i32_w]
    rfl
  refine pure_ (i := 20) (N := some 33) (v := ?_) (a' := ?_) #[true, true, true, true, true, true, true, true, true, true, true, true, true, true, true, true, true, true, true, true, true, false, false] rfl rfl (any_of HT_.out (by kernel_rfl)) (fun _ _ _ h => h) (Or.inl ⟨by rfl, ?_⟩) ?_ ?_
  rotate_left
  · intro w'
    go_simp
    with_reducible rfl
  rotate_left
  · simp only [Act.put, List.setIfInBounds_toArray, List.set_cons_zero, List.set_cons_succ, i64_w, i32_w]
    rfl
  refine pure_ (i := 21) (N := some 34) (v := ?_) (a' := ?_) #[true, true, true, true, true, true, true, true, true, true, true, true, true, true, true, true, true, true, true, true, true, true, false] rfl rfl (any_of HT_.out (by kernel_rfl)) (fun _ _ _ h => h) (Or.inl ⟨by rfl, ?_⟩) ?_ ?_
  rotate_left
  · intro w'
    go_simp
    with_reducible rfl
  rotate_left
  · simp only [Act.put, List.setIfInBounds_toArray, List.set_cons_zero, List.set_cons_succ, i64_w, i32_w]
    rfl
  refine pure_ (i := 22) (N := some 5) (v := ?_) (a' := ?_) #[true, true, true, true, true, true, true, true, true, true, true, true, true, true, true, true, true, true, true, true, true, true, true] rfl rfl (any_of HT_.out (by kernel_rfl)) (fun _ _ _ h => h) (Or.inl ⟨by rfl, ?_⟩) ?_ ?_
  rotate_left
  · intro w'
    go_simp
    with_reducible rfl
  rotate_left
  · simp only [Act.put, List.setIfInBounds_toArray, List.set_cons_zero, List.set_cons_succ, i64_w, i32_w]
    rfl
  refine done_ (done_of HT_.out (by kernel_rfl)) ?_
  rw [HV.out]
  clear HV hHeld c0 c1 c2 c3
  go_wp2
  refine start_ (n := 6) (S := fun w' => True) (ds := []) #[false, false, false, false, false, false] (by kernel_rfl) rfl rfl trivial (fun hHeld => ?_)
  refine with_tabW R117.tab5 R117.bits5 (fun HT_ HW_ => ?_)
  refine pure_ (i := 0) (N := some 35) (v := ?_) (a' := ?_) #[true, false, false, false, false, false] rfl rfl (any_of HT_.out (by kernel_rfl)) (fun _ _ _ h => h) (Or.inl ⟨by rfl, ?_⟩) ?_ ?_
  rotate_left
  · intro w'
    go_simp
    with_reducible rfl
  rotate_left
  · simp only [Act.put, List.setIfInBounds_toArray, List.set_cons_zero, List.set_cons_succ, i64_w, i32_w]
    rfl
  refine pure_ (i := 1) (N := some 36) (v := ?_) (a' := ?_) #[true, true, false, false, false, false] rfl rfl (any_of HT_.out (by kernel_rfl)) (fun _ _ _ h => h) (Or.inl ⟨by rfl, ?_⟩) ?_ ?_
  rotate_left
  · intro w'
    go_simp
    with_reducible rfl
  rotate_left
  · simp only [Act.put, List.setIfInBounds_toArray, List.set_cons_zero, List.set_cons_succ, i64_w, i32_w]
    rfl
  refine pure_ (i := 2) (N := some 37) (v := ?_) (a' := ?_) #[true, true, true, false, false, false] rfl rfl (any_of HT_.out (by kernel_rfl)) (fun _ _ _ h => h) (Or.inl ⟨by rfl, ?_⟩) ?_ ?_
  rotate_left
  · intro w'
    go_simp
    with_reducible rfl
  rotate_left
  · simp only [Act.put, List.setIfInBounds_toArray, List.set_cons_zero, List.set_cons_succ, i64_w, i32_w]
    rfl
  refine pure_ (i := 3) (N := some 2) (v := ?_) (a' := ?_) #[true, true, true, true, false, false] rfl rfl (any_of HT_.out (by kernel_rfl)) (fun _ _ _ h => h) (Or.inl ⟨by rfl, ?_⟩) ?_ ?_
  rotate_left
  · intro w'
    go_simp
    with_reducible rfl
  rotate_left
  · simp only [Act.put, List.setIfInBounds_toArray, List.set_cons_zero, List.set_cons_succ, i64_w, i32_w]
    rfl
  refine pure_ (i := 4) (N := some 3) (v := ?_) (a' := ?_) #[true, true, true, true, true, false] rfl rfl (any_of HT_.out (by kernel_rfl)) (fun _ _ _ h => h) (Or.inl ⟨by rfl, ?_⟩) ?_ ?_
  rotate_left
  · intro w'
    go_simp
    with_reducible rfl
  rotate_left
  · simp only [Act.put, List.setIfInBounds_toArray, List.set_cons_zero, List.set_cons_succ, i64_w, i32_w]
    rfl
  refine pure_ (i := 5) (N := some 4) (v := ?_) (a' := ?_) #[true, true, true, true, true, true] rfl rfl (any_of HT_.out (by kernel_rfl)) (fun _ _ _ h => h) (Or.inl ⟨by rfl, ?_⟩) ?_ ?_
  rotate_left
  · intro w'
    go_simp
    with_reducible rfl
  rotate_left
  · simp only [Act.put, List.setIfInBounds_toArray, List.set_cons_zero, List.set_cons_succ, i64_w, i32_w]
    rfl
  refine done_ (done_of HT_.out (by kernel_rfl)) ?_
  go_wp2
  exact bodyPost_ret (v := .tuple #[.int .i32 xv, .slice A1 r.length (c - 4), .bool true]) (by simp [results, Tryz.results117, go_sem]) rfl ⟨A1, rfl, T1.out _ (bdrew (bdrew (Below.refl _ _))), bdrew (bdrew (Below.refl _ _))⟩
end Go.Proofs.YtbpopaegfhcdpaaGreatDoor.X


/- Contracts of bytes.IndexByte and bytes.Equal, over slices that are read. -/
set_option linter.unusedVariables false
set_option linter.unusedSimpArgs false
set_option maxRecDepth 100000
namespace Go.Proofs.YtbpopaegfhcdpaaGreatDoor.X
open Go.RowKit

theorem run_index {P : Program} {w : World} {A : Option Addr} {c : Nat} {l : List UInt8} (hs : SB w A c l) (cv : Int) :
    (Extern.BytealgIndexByte.indexByte #[.slice A l.length c, .int .u8 cv]).run P w = .ok (.int .i64 (Lib.indexByte l cv.toNat.toUInt8)) w := by
  rcases Nat.eq_zero_or_pos l.length with h0 | h0
  · have : l = [] := List.eq_nil_of_length_eq_zero h0
    subst this
    cases A with
    | none => exact Lib.run_indexByteNil w 0 c cv
    | some a => exact Lib.run_indexByteNil w 0 c cv
  · obtain ⟨b, off, rfl, hc⟩ := hs.cells h0
    have h := Lib.run_indexByteSlice (P := P) w b off l.length c (l.map fun x : UInt8 => (x.toNat : Int)) (by simp) (fun i hi => by rw [hc i hi]; simp [hi]) cv
    have e : Lib.bytesOf (l.map fun x : UInt8 => (x.toNat : Int)) = l := by
      unfold Lib.bytesOf
      rw [List.map_map]
      conv => rhs; rw [← List.map_id l]
      apply List.map_congr_left
      intro x _
      simp
    rw [e] at h
    exact h
theorem bytesIndexByte (A : Option Addr) (c : Nat) (l : List UInt8) (z : Int) (w : World) (hs : SB w A c l) :
    Calls Tryz.prog 197 #[.slice A l.length c, .int .u8 z] w fun e w' => e = .returned (.int .i64 (Lib.indexByte l z.toNat.toUInt8)) ∧ w = w' := by
  go_enter Tryz.func197, Tryz.ntmps197
  go_wp2
  rw [run_callFunc_extern Tryz.func224 (by kernel_rfl) (by kernel_rfl) (by kernel_rfl) (e := Extern.BytealgIndexByte.indexByte) (by kernel_rfl), run_index hs z]
  simp only [Result.andThen]
  rw [Oper.upon_value]
  go_wp2
  go_ret
  exact ⟨rfl, rfl⟩
end Go.Proofs.YtbpopaegfhcdpaaGreatDoor.X


/- Contracts of bsoncore.ReadLength and valueLength, for all bytes. -/
set_option linter.unusedVariables false
set_option linter.unusedSimpArgs false
set_option maxRecDepth 100000
namespace Go.Proofs.YtbpopaegfhcdpaaGreatDoor.X
open Go.RowKit Go.Proofs.YtbpopaegfhcdpaaGreatDoorW.PrintLast

theorem readI32_short (A : Option Addr) (c : Nat) (l : List UInt8) (w : World) (h4 : l.length < 4) :
    Calls Tryz.prog 117 #[.slice A l.length c] w fun e w' => e = .returned (.tuple #[.int .i32 0, .slice A l.length c, .bool false]) ∧ Below w.heap.size w w' := by
  go_enter Tryz.func117, Tryz.ntmps117
  go_wp2
  exact bodyPost_ret (v := .tuple #[.int .i32 0, .slice A l.length c, .bool false]) (by simp [results, Tryz.results117, go_sem]) rfl ⟨rfl, Below.refl _ _⟩
/-- What the first four bytes say of a length. -/
def readLen : List UInt8 → Int × Bool
  | b0 :: b1 :: b2 :: b3 :: _ => (wrap32 (leI [b0, b1, b2, b3]), decide (0 ≤ wrap32 (leI [b0, b1, b2, b3])))
  | _ => (0, false)
theorem wrap32_bd (n : Int) : -2147483648 ≤ wrap32 n ∧ wrap32 n ≤ 2147483647 := by unfold wrap32; omega
theorem readLen_bd (l : List UInt8) : -2147483648 ≤ (readLen l).1 ∧ (readLen l).1 ≤ 2147483647 := by
  unfold readLen
  split
  · exact wrap32_bd _
  · simp
theorem readLength (A : Option Addr) (c : Nat) (l : List UInt8) (w : World) (hs : SB w A c l) :
    Calls Tryz.prog 114 #[.slice A l.length c] w fun e w' => ∃ A1 n1 c1, e = .returned (.tuple #[.int .i32 (readLen l).1, .slice A1 n1 c1, .bool (readLen l).2]) ∧ (4 ≤ l.length → n1 = l.length - 4 ∧ c1 = c - 4 ∧ SB w' A1 c1 (l.drop 4)) ∧ (l.length < 4 → A1 = A ∧ n1 = l.length ∧ c1 = c) ∧ Below w.heap.size w w' := by
  by_cases h4 : l.length < 4
  · have hr : readLen l = (0, false) := by
      match l, h4 with
      | [], _ | [_], _ | [_, _], _ | [_, _, _], _ => rfl
    rw [hr]
    have HC := Lib.hid (readI32_short A c l w h4)
    have H4 := Lib.hid h4
    clear hs hr h4
    go_enter Tryz.func114, Tryz.ntmps114
    go_wp2_with fail
    refine HC.out.mono ?_
    rintro e w1 ⟨rfl, hb⟩
    go_wp2_with fail
    exact bodyPost_ret (v := .tuple #[.int .i32 0, .slice A l.length c, .bool false]) (by simp [results, Tryz.results114, go_sem]) rfl ⟨A, l.length, c, rfl, fun h => absurd h (by have := H4.out; omega), fun _ => ⟨rfl, rfl, rfl⟩, hb⟩
  · obtain ⟨b0, b1, b2, b3, r, rfl⟩ : ∃ b0 b1 b2 b3 r, l = b0 :: b1 :: b2 :: b3 :: r := by
      match l, h4 with
      | b0 :: b1 :: b2 :: b3 :: r, _ => exact ⟨b0, b1, b2, b3, r, rfl⟩
      | [], h => exact absurd (by simp) h
      | [_], h => exact absurd (by simp) h
      | [_, _], h => exact absurd (by simp) h
      | [_, _, _], h => exact absurd (by simp) h
    clear h4
    · skip
      have hc := readI32 A c b0 b1 b2 b3 r w hs
      have hr : readLen (b0 :: b1 :: b2 :: b3 :: r) = (wrap32 (leI [b0, b1, b2, b3]), decide (0 ≤ wrap32 (leI [b0, b1, b2, b3]))) := rfl
      rw [hr]
      obtain ⟨x, hx⟩ : ∃ x, x = wrap32 (leI [b0, b1, b2, b3]) := ⟨_, rfl⟩
      rw [← hx] at hc ⊢
      obtain ⟨q, hq⟩ : ∃ q, q = (b0 :: b1 :: b2 :: b3 :: r).length := ⟨_, rfl⟩
      have hq4 : r.length = q - 4 := by rw [hq]; simp
      rw [← hq] at hc ⊢
      have HC := Lib.hid hc
      have HQ4 := Lib.hid hq4
      have hge : 4 ≤ q := by rw [hq]; simp
      clear hs hx hc hr hq hq4
      by_cases h0 : x < 0
      all_goals
        go_enter Tryz.func114, Tryz.ntmps114
        go_wp2_with fail
        refine HC.out.mono ?_
        rintro e w1 ⟨A1, rfl, hs1, hb⟩
        have HS1 := Lib.hid hs1
        clear hs1
        go_wp2_with fail
        exact bodyPost_ret (v := .tuple #[.int .i32 x, .slice A1 r.length (c - 4), .bool (decide (0 ≤ x))]) (by simp [results, Tryz.results114, go_sem]; try omega) rfl ⟨A1, r.length, c - 4, rfl, fun _ => ⟨HQ4.out, rfl, HS1.out⟩, fun h => by omega, hb⟩
theorem idx_lt : ∀ (l : List UInt8) (z : UInt8), Lib.indexByte l z < l.length ∨ l = []
  | [], _ => .inr rfl
  | b :: r, z => by
    left
    unfold Lib.indexByte
    split
    · simp <;> omega
    · split
      · simp <;> omega
      · rcases idx_lt r z with h | h
        · simp <;> omega
        · subst h; rename_i h2; simp [Lib.indexByte] at h2
/-- What valueLength says ahead of its last test. -/
def valBase (k : Int) (l : List UInt8) : Int × Bool :=
  if k = 4 ∨ k = 3 ∨ k = 15 then readLen l
  else if k = 5 then (wrap32 ((readLen l).1 + 5), (readLen l).2)
  else if k = 8 then (1, true)
  else if k = 12 then (wrap32 ((readLen l).1 + 16), (readLen l).2)
  else if k = 9 ∨ k = 1 ∨ k = 18 ∨ k = 17 then (8, true)
  else if k = 19 then (16, true)
  else if k = 16 then (4, true)
  else if k = 13 ∨ k = 2 ∨ k = 14 then (wrap32 ((readLen l).1 + 4), (readLen l).2)
  else if k = 127 ∨ k = 255 ∨ k = 10 ∨ k = 6 then (0, true)
  else if k = 7 then (12, true)
  else if k = 11 then (if Lib.indexByte l 0 < 0 then (0, false) else if Lib.indexByte (l.drop (Lib.indexByte l 0 + 1).toNat) 0 < 0 then (0, false) else (wrap32 (Lib.indexByte l 0 + 1 + Lib.indexByte (l.drop (Lib.indexByte l 0 + 1).toNat) 0 + 1), true))
  else (0, false)
/-- How long a value of a kind is that begins some bytes. -/
def valLen (k : Int) (l : List UInt8) : Int × Bool := ((valBase k l).1, (valBase k l).2 && decide (0 ≤ (valBase k l).1))

set_option maxRecDepth 100000 in
set_option maxHeartbeats 16000000 in
theorem valueLength (A : Option Addr) (c : Nat) (l : List UInt8) (k : Int) (w : World) (hs : SB w A c l) :
    Calls Tryz.prog 169 #[.slice A l.length c, .int .u8 k] w fun e w' => e = .returned (.tuple #[.int .i32 (valLen k l).1, .bool (valLen k l).2]) ∧ Below w.heap.size w w' := by
  have HR := Lib.hid (readLength A c l w hs)
  have hbd := readLen_bd l
  have hlc := hs.le
  have hcc := hs.cap
  have HS := Lib.hid hs
  obtain ⟨n, hn⟩ : ∃ n, n = (readLen l).1 := ⟨_, rfl⟩
  obtain ⟨b, hb⟩ : ∃ b, b = (readLen l).2 := ⟨_, rfl⟩
  rw [← hn] at hbd
  rw [← hn, ← hb] at HR
  have HN := Lib.hid hn
  have HB := Lib.hid hb
  clear hs hn hb
  by_cases k4 : k = 4
  · subst k4
    have HV : Hid (valLen 4 l = (n, b && decide (0 ≤ n))) := Lib.hid (by simp [valLen, valBase, HN.out, HB.out])
    by_cases hx : n < 0
    · have hd : decide (n < 0) = true := decide_eq_true hx
      go_enter Tryz.func169, Tryz.ntmps169
      go_wp2_with fail
      refine HR.out.mono ?_
      rintro e w1 ⟨A1, n1, c1, rfl, -, -, hb1⟩
      go_wp2_with fail
      exact bodyPost_ret (v := .tuple #[.int .i32 (n), .bool (false)]) (by simp [results, Tryz.results169, go_sem]) rfl ⟨by rw [HV.out]; simp; omega, hb1⟩
    · have hd : decide (n < 0) = false := decide_eq_false hx
      go_enter Tryz.func169, Tryz.ntmps169
      go_wp2_with fail
      refine HR.out.mono ?_
      rintro e w1 ⟨A1, n1, c1, rfl, -, -, hb1⟩
      go_wp2_with fail
      exact bodyPost_ret (v := .tuple #[.int .i32 (n), .bool (b)]) (by simp [results, Tryz.results169, go_sem]) rfl ⟨by rw [HV.out]; simp; omega, hb1⟩
  by_cases k3 : k = 3
  · subst k3
    clear k4
    have HV : Hid (valLen 3 l = (n, b && decide (0 ≤ n))) := Lib.hid (by simp [valLen, valBase, HN.out, HB.out])
    by_cases hx : n < 0
    · have hd : decide (n < 0) = true := decide_eq_true hx
      go_enter Tryz.func169, Tryz.ntmps169
      go_wp2_with fail
      refine HR.out.mono ?_
      rintro e w1 ⟨A1, n1, c1, rfl, -, -, hb1⟩
      go_wp2_with fail
      exact bodyPost_ret (v := .tuple #[.int .i32 (n), .bool (false)]) (by simp [results, Tryz.results169, go_sem]) rfl ⟨by rw [HV.out]; simp; omega, hb1⟩
    · have hd : decide (n < 0) = false := decide_eq_false hx
      go_enter Tryz.func169, Tryz.ntmps169
      go_wp2_with fail
      refine HR.out.mono ?_
      rintro e w1 ⟨A1, n1, c1, rfl, -, -, hb1⟩
      go_wp2_with fail
      exact bodyPost_ret (v := .tuple #[.int .i32 (n), .bool (b)]) (by simp [results, Tryz.results169, go_sem]) rfl ⟨by rw [HV.out]; simp; omega, hb1⟩
  by_cases k15 : k = 15
  · subst k15
    clear k4 k3
    have HV : Hid (valLen 15 l = (n, b && decide (0 ≤ n))) := Lib.hid (by simp [valLen, valBase, HN.out, HB.out])
    by_cases hx : n < 0
    · have hd : decide (n < 0) = true := decide_eq_true hx
      go_enter Tryz.func169, Tryz.ntmps169
      go_wp2_with fail
      refine HR.out.mono ?_
      rintro e w1 ⟨A1, n1, c1, rfl, -, -, hb1⟩
      go_wp2_with fail
      exact bodyPost_ret (v := .tuple #[.int .i32 (n), .bool (false)]) (by simp [results, Tryz.results169, go_sem]) rfl ⟨by rw [HV.out]; simp; omega, hb1⟩
    · have hd : decide (n < 0) = false := decide_eq_false hx
      go_enter Tryz.func169, Tryz.ntmps169
      go_wp2_with fail
      refine HR.out.mono ?_
      rintro e w1 ⟨A1, n1, c1, rfl, -, -, hb1⟩
      go_wp2_with fail
      exact bodyPost_ret (v := .tuple #[.int .i32 (n), .bool (b)]) (by simp [results, Tryz.results169, go_sem]) rfl ⟨by rw [HV.out]; simp; omega, hb1⟩
  by_cases k5 : k = 5
  · subst k5
    clear k4 k3 k15
    have HV : Hid (valLen 5 l = (wrap32 (n + 5), b && decide (0 ≤ wrap32 (n + 5)))) := Lib.hid (by simp [valLen, valBase, HN.out, HB.out])
    by_cases hx : wrap32 (n + 5) < 0
    · have hd : decide (wrap32 (n + 5) < 0) = true := decide_eq_true hx
      go_enter Tryz.func169, Tryz.ntmps169
      go_wp2_with fail
      refine HR.out.mono ?_
      rintro e w1 ⟨A1, n1, c1, rfl, -, -, hb1⟩
      go_wp2_with fail
      exact bodyPost_ret (v := .tuple #[.int .i32 (wrap32 (n + 5)), .bool (false)]) (by simp [results, Tryz.results169, go_sem]) rfl ⟨by rw [HV.out]; simp; omega, hb1⟩
    · have hd : decide (wrap32 (n + 5) < 0) = false := decide_eq_false hx
      go_enter Tryz.func169, Tryz.ntmps169
      go_wp2_with fail
      refine HR.out.mono ?_
      rintro e w1 ⟨A1, n1, c1, rfl, -, -, hb1⟩
      go_wp2_with fail
      exact bodyPost_ret (v := .tuple #[.int .i32 (wrap32 (n + 5)), .bool (b)]) (by simp [results, Tryz.results169, go_sem]) rfl ⟨by rw [HV.out]; simp; omega, hb1⟩
  by_cases k8 : k = 8
  · subst k8
    clear k4 k3 k15 k5
    have HV : Hid (valLen 8 l = (1, true)) := Lib.hid (by simp [valLen, valBase])
    go_enter Tryz.func169, Tryz.ntmps169
    go_wp2_with fail
    exact bodyPost_ret (v := .tuple #[.int .i32 (1), .bool (true)]) (by simp [results, Tryz.results169, go_sem]; try omega) rfl ⟨by rw [HV.out], Below.refl _ _⟩
  by_cases k12 : k = 12
  · subst k12
    clear k4 k3 k15 k5 k8
    have HV : Hid (valLen 12 l = (wrap32 (n + 16), b && decide (0 ≤ wrap32 (n + 16)))) := Lib.hid (by simp [valLen, valBase, HN.out, HB.out])
    by_cases hx : wrap32 (n + 16) < 0
    · have hd : decide (wrap32 (n + 16) < 0) = true := decide_eq_true hx
      go_enter Tryz.func169, Tryz.ntmps169
      go_wp2_with fail
      refine HR.out.mono ?_
      rintro e w1 ⟨A1, n1, c1, rfl, -, -, hb1⟩
      go_wp2_with fail
      exact bodyPost_ret (v := .tuple #[.int .i32 (wrap32 (n + 16)), .bool (false)]) (by simp [results, Tryz.results169, go_sem]) rfl ⟨by rw [HV.out]; simp; omega, hb1⟩
    · have hd : decide (wrap32 (n + 16) < 0) = false := decide_eq_false hx
      go_enter Tryz.func169, Tryz.ntmps169
      go_wp2_with fail
      refine HR.out.mono ?_
      rintro e w1 ⟨A1, n1, c1, rfl, -, -, hb1⟩
      go_wp2_with fail
      exact bodyPost_ret (v := .tuple #[.int .i32 (wrap32 (n + 16)), .bool (b)]) (by simp [results, Tryz.results169, go_sem]) rfl ⟨by rw [HV.out]; simp; omega, hb1⟩
  by_cases k9 : k = 9
  · subst k9
    clear k4 k3 k15 k5 k8 k12
    have HV : Hid (valLen 9 l = (8, true)) := Lib.hid (by simp [valLen, valBase])
    go_enter Tryz.func169, Tryz.ntmps169
    go_wp2_with fail
    exact bodyPost_ret (v := .tuple #[.int .i32 (8), .bool (true)]) (by simp [results, Tryz.results169, go_sem]; try omega) rfl ⟨by rw [HV.out], Below.refl _ _⟩
  by_cases k1 : k = 1
  · subst k1
    clear k4 k3 k15 k5 k8 k12 k9
    have HV : Hid (valLen 1 l = (8, true)) := Lib.hid (by simp [valLen, valBase])
    go_enter Tryz.func169, Tryz.ntmps169
    go_wp2_with fail
    exact bodyPost_ret (v := .tuple #[.int .i32 (8), .bool (true)]) (by simp [results, Tryz.results169, go_sem]; try omega) rfl ⟨by rw [HV.out], Below.refl _ _⟩
  by_cases k18 : k = 18
  · subst k18
    clear k4 k3 k15 k5 k8 k12 k9 k1
    have HV : Hid (valLen 18 l = (8, true)) := Lib.hid (by simp [valLen, valBase])
    go_enter Tryz.func169, Tryz.ntmps169
    go_wp2_with fail
    exact bodyPost_ret (v := .tuple #[.int .i32 (8), .bool (true)]) (by simp [results, Tryz.results169, go_sem]; try omega) rfl ⟨by rw [HV.out], Below.refl _ _⟩
  by_cases k17 : k = 17
  · subst k17
    clear k4 k3 k15 k5 k8 k12 k9 k1 k18
    have HV : Hid (valLen 17 l = (8, true)) := Lib.hid (by simp [valLen, valBase])
    go_enter Tryz.func169, Tryz.ntmps169
    go_wp2_with fail
    exact bodyPost_ret (v := .tuple #[.int .i32 (8), .bool (true)]) (by simp [results, Tryz.results169, go_sem]; try omega) rfl ⟨by rw [HV.out], Below.refl _ _⟩
  by_cases k19 : k = 19
  · subst k19
    clear k4 k3 k15 k5 k8 k12 k9 k1 k18 k17
    have HV : Hid (valLen 19 l = (16, true)) := Lib.hid (by simp [valLen, valBase])
    go_enter Tryz.func169, Tryz.ntmps169
    go_wp2_with fail
    exact bodyPost_ret (v := .tuple #[.int .i32 (16), .bool (true)]) (by simp [results, Tryz.results169, go_sem]; try omega) rfl ⟨by rw [HV.out], Below.refl _ _⟩
  by_cases k16 : k = 16
  · subst k16
    clear k4 k3 k15 k5 k8 k12 k9 k1 k18 k17 k19
    have HV : Hid (valLen 16 l = (4, true)) := Lib.hid (by simp [valLen, valBase])
    go_enter Tryz.func169, Tryz.ntmps169
    go_wp2_with fail
    exact bodyPost_ret (v := .tuple #[.int .i32 (4), .bool (true)]) (by simp [results, Tryz.results169, go_sem]; try omega) rfl ⟨by rw [HV.out], Below.refl _ _⟩
  by_cases k13 : k = 13
  · subst k13
    clear k4 k3 k15 k5 k8 k12 k9 k1 k18 k17 k19 k16
    have HV : Hid (valLen 13 l = (wrap32 (n + 4), b && decide (0 ≤ wrap32 (n + 4)))) := Lib.hid (by simp [valLen, valBase, HN.out, HB.out])
    by_cases hx : wrap32 (n + 4) < 0
    · have hd : decide (wrap32 (n + 4) < 0) = true := decide_eq_true hx
      go_enter Tryz.func169, Tryz.ntmps169
      go_wp2_with fail
      refine HR.out.mono ?_
      rintro e w1 ⟨A1, n1, c1, rfl, -, -, hb1⟩
      go_wp2_with fail
      exact bodyPost_ret (v := .tuple #[.int .i32 (wrap32 (n + 4)), .bool (false)]) (by simp [results, Tryz.results169, go_sem]) rfl ⟨by rw [HV.out]; simp; omega, hb1⟩
    · have hd : decide (wrap32 (n + 4) < 0) = false := decide_eq_false hx
      go_enter Tryz.func169, Tryz.ntmps169
      go_wp2_with fail
      refine HR.out.mono ?_
      rintro e w1 ⟨A1, n1, c1, rfl, -, -, hb1⟩
      go_wp2_with fail
      exact bodyPost_ret (v := .tuple #[.int .i32 (wrap32 (n + 4)), .bool (b)]) (by simp [results, Tryz.results169, go_sem]) rfl ⟨by rw [HV.out]; simp; omega, hb1⟩
  by_cases k2 : k = 2
  · subst k2
    clear k4 k3 k15 k5 k8 k12 k9 k1 k18 k17 k19 k16 k13
    have HV : Hid (valLen 2 l = (wrap32 (n + 4), b && decide (0 ≤ wrap32 (n + 4)))) := Lib.hid (by simp [valLen, valBase, HN.out, HB.out])
    by_cases hx : wrap32 (n + 4) < 0
    · have hd : decide (wrap32 (n + 4) < 0) = true := decide_eq_true hx
      go_enter Tryz.func169, Tryz.ntmps169
      go_wp2_with fail
      refine HR.out.mono ?_
      rintro e w1 ⟨A1, n1, c1, rfl, -, -, hb1⟩
      go_wp2_with fail
      exact bodyPost_ret (v := .tuple #[.int .i32 (wrap32 (n + 4)), .bool (false)]) (by simp [results, Tryz.results169, go_sem]) rfl ⟨by rw [HV.out]; simp; omega, hb1⟩
    · have hd : decide (wrap32 (n + 4) < 0) = false := decide_eq_false hx
      go_enter Tryz.func169, Tryz.ntmps169
      go_wp2_with fail
      refine HR.out.mono ?_
      rintro e w1 ⟨A1, n1, c1, rfl, -, -, hb1⟩
      go_wp2_with fail
      exact bodyPost_ret (v := .tuple #[.int .i32 (wrap32 (n + 4)), .bool (b)]) (by simp [results, Tryz.results169, go_sem]) rfl ⟨by rw [HV.out]; simp; omega, hb1⟩
  by_cases k14 : k = 14
  · subst k14
    clear k4 k3 k15 k5 k8 k12 k9 k1 k18 k17 k19 k16 k13 k2
    have HV : Hid (valLen 14 l = (wrap32 (n + 4), b && decide (0 ≤ wrap32 (n + 4)))) := Lib.hid (by simp [valLen, valBase, HN.out, HB.out])
    by_cases hx : wrap32 (n + 4) < 0
    · have hd : decide (wrap32 (n + 4) < 0) = true := decide_eq_true hx
      go_enter Tryz.func169, Tryz.ntmps169
      go_wp2_with fail
      refine HR.out.mono ?_
      rintro e w1 ⟨A1, n1, c1, rfl, -, -, hb1⟩
      go_wp2_with fail
      exact bodyPost_ret (v := .tuple #[.int .i32 (wrap32 (n + 4)), .bool (false)]) (by simp [results, Tryz.results169, go_sem]) rfl ⟨by rw [HV.out]; simp; omega, hb1⟩
    · have hd : decide (wrap32 (n + 4) < 0) = false := decide_eq_false hx
      go_enter Tryz.func169, Tryz.ntmps169
      go_wp2_with fail
      refine HR.out.mono ?_
      rintro e w1 ⟨A1, n1, c1, rfl, -, -, hb1⟩
      go_wp2_with fail
      exact bodyPost_ret (v := .tuple #[.int .i32 (wrap32 (n + 4)), .bool (b)]) (by simp [results, Tryz.results169, go_sem]) rfl ⟨by rw [HV.out]; simp; omega, hb1⟩
  by_cases k127 : k = 127
  · subst k127
    clear k4 k3 k15 k5 k8 k12 k9 k1 k18 k17 k19 k16 k13 k2 k14
    have HV : Hid (valLen 127 l = (0, true)) := Lib.hid (by simp [valLen, valBase])
    go_enter Tryz.func169, Tryz.ntmps169
    go_wp2_with fail
    exact bodyPost_ret (v := .tuple #[.int .i32 (0), .bool (true)]) (by simp [results, Tryz.results169, go_sem]; try omega) rfl ⟨by rw [HV.out], Below.refl _ _⟩
  by_cases k255 : k = 255
  · subst k255
    clear k4 k3 k15 k5 k8 k12 k9 k1 k18 k17 k19 k16 k13 k2 k14 k127
    have HV : Hid (valLen 255 l = (0, true)) := Lib.hid (by simp [valLen, valBase])
    go_enter Tryz.func169, Tryz.ntmps169
    go_wp2_with fail
    exact bodyPost_ret (v := .tuple #[.int .i32 (0), .bool (true)]) (by simp [results, Tryz.results169, go_sem]; try omega) rfl ⟨by rw [HV.out], Below.refl _ _⟩
  by_cases k10 : k = 10
  · subst k10
    clear k4 k3 k15 k5 k8 k12 k9 k1 k18 k17 k19 k16 k13 k2 k14 k127 k255
    have HV : Hid (valLen 10 l = (0, true)) := Lib.hid (by simp [valLen, valBase])
    go_enter Tryz.func169, Tryz.ntmps169
    go_wp2_with fail
    exact bodyPost_ret (v := .tuple #[.int .i32 (0), .bool (true)]) (by simp [results, Tryz.results169, go_sem]; try omega) rfl ⟨by rw [HV.out], Below.refl _ _⟩
  by_cases k6 : k = 6
  · subst k6
    clear k4 k3 k15 k5 k8 k12 k9 k1 k18 k17 k19 k16 k13 k2 k14 k127 k255 k10
    have HV : Hid (valLen 6 l = (0, true)) := Lib.hid (by simp [valLen, valBase])
    go_enter Tryz.func169, Tryz.ntmps169
    go_wp2_with fail
    exact bodyPost_ret (v := .tuple #[.int .i32 (0), .bool (true)]) (by simp [results, Tryz.results169, go_sem]; try omega) rfl ⟨by rw [HV.out], Below.refl _ _⟩
  by_cases k7 : k = 7
  · subst k7
    clear k4 k3 k15 k5 k8 k12 k9 k1 k18 k17 k19 k16 k13 k2 k14 k127 k255 k10 k6
    have HV : Hid (valLen 7 l = (12, true)) := Lib.hid (by simp [valLen, valBase])
    go_enter Tryz.func169, Tryz.ntmps169
    go_wp2_with fail
    exact bodyPost_ret (v := .tuple #[.int .i32 (12), .bool (true)]) (by simp [results, Tryz.results169, go_sem]; try omega) rfl ⟨by rw [HV.out], Below.refl _ _⟩
  by_cases k11 : k = 11
  · subst k11
    clear k4 k3 k15 k5 k8 k12 k9 k1 k18 k17 k19 k16 k13 k2 k14 k127 k255 k10 k6 k7
    have hi0 := Lib.indexByte_ge l 0
    have hi1 : Lib.indexByte l 0 < l.length ∨ Lib.indexByte l 0 = -1 := (idx_lt l 0).imp_right (fun h => by subst h; rfl)
    have HI := Lib.hid (fun wx (h : Below w.heap.size w wx) => bytesIndexByte A c l 0 wx (HS.out.keep h))
    rw [show (0 : Int).toNat.toUInt8 = 0 from rfl] at HI
    obtain ⟨i, hi⟩ : ∃ i, i = Lib.indexByte l 0 := ⟨_, rfl⟩
    rw [← hi] at HI hi1 hi0
    by_cases hneg : i < 0
    · have HV : Hid (valLen 11 l = (0, false)) := Lib.hid (by simp [valLen, valBase, ← hi, hneg])
      clear hi HN HB HR HS
      go_enter Tryz.func169, Tryz.ntmps169
      go_wp2_with fail
      refine (HI.out _ (Below.refl _ _)).mono ?_
      rintro e w1 ⟨rfl, rfl⟩
      go_wp2_with fail
      exact bodyPost_ret (v := .tuple #[.int .i32 0, .bool false]) (by simp [results, Tryz.results169, go_sem]) rfl ⟨by rw [HV.out], Below.refl _ _⟩
    obtain ⟨m, rfl⟩ : ∃ m : Nat, i = m := ⟨i.toNat, by omega⟩
    have hml : m + 1 ≤ l.length := by omega
    obtain ⟨A2, e2, s2⟩ := SB.from_ (P := Tryz.prog) Tryz.underlying22 rfl rfl .i64 A c l (m + 1) hml hlc
    have e2' : ∀ W : World, (Instr.slice 22 (.slice A l.length c) (some (.int .i64 ((m : Int) + 1))) none none).run Tryz.prog W = .ok (.slice A2 (l.length - (m + 1)) (c - (m + 1))) W := fun W => by have h := e2 W; rw [show ((m + 1 : Nat) : Int) = (m : Int) + 1 from by omega] at h; exact h
    have hj0 := Lib.indexByte_ge (l.drop (m + 1)) 0
    have hj1 : Lib.indexByte (l.drop (m + 1)) 0 < (l.drop (m + 1)).length ∨ Lib.indexByte (l.drop (m + 1)) 0 = -1 := (idx_lt (l.drop (m + 1)) 0).imp_right (fun h => by rw [h]; rfl)
    have HJ := Lib.hid (fun wx (h : Below w.heap.size w wx) => bytesIndexByte A2 (c - (m + 1)) (l.drop (m + 1)) 0 wx (s2 wx (HS.out.keep h)))
    rw [show (0 : Int).toNat.toUInt8 = 0 from rfl, List.length_drop] at HJ
    rw [List.length_drop] at hj1
    obtain ⟨j, hj⟩ : ∃ j, j = Lib.indexByte (l.drop (m + 1)) 0 := ⟨_, rfl⟩
    rw [← hj] at HJ hj1 hj0
    obtain ⟨q, hq⟩ : ∃ q, q = l.length := ⟨_, rfl⟩
    have hm2 : ((m : Int) + 1).toNat = m + 1 := by omega
    have hv2 : valLen 11 l = if j < 0 then (0, false) else (wrap32 ((m : Int) + 1 + j + 1), decide (0 ≤ wrap32 ((m : Int) + 1 + j + 1))) := by
      simp only [valLen, valBase, ← hi]
      rw [if_neg (by omega), if_neg (by omega), if_neg (by omega), if_neg (by omega), if_neg (by omega), if_neg (by omega), if_neg (by omega), if_neg (by omega), if_neg (by omega), if_neg (by omega)]
      simp only [if_true]
      rw [if_neg hneg, hm2, ← hj]
      split <;> simp
    rw [← hq] at HI HJ e2' hml hlc hj1 hi1 ⊢
    clear e2 s2 hi hj hq HN HB HR HS hm2
    by_cases hjn : j < 0
    · rw [if_pos hjn] at hv2
      have HV := Lib.hid hv2
      clear hv2
      go_enter Tryz.func169, Tryz.ntmps169
      go_wp2_with fail
      refine (HI.out _ (Below.refl _ _)).mono ?_
      rintro e w1 ⟨rfl, rfl⟩
      go_wp2_with fail
      refine (HJ.out _ (Below.refl _ _)).mono ?_
      rintro e w1 ⟨rfl, rfl⟩
      go_wp2_with fail
      exact bodyPost_ret (v := .tuple #[.int .i32 0, .bool false]) (by simp [results, Tryz.results169, go_sem]) rfl ⟨by rw [HV.out], Below.refl _ _⟩
    rw [if_neg hjn] at hv2
    have HV := Lib.hid hv2
    clear hv2
    by_cases hx : wrap32 ((m : Int) + 1 + j + 1) < 0
    all_goals
      have hd : decide (wrap32 ((m : Int) + 1 + j + 1) < 0) = decide (wrap32 ((m : Int) + 1 + j + 1) < 0) := rfl
      go_enter Tryz.func169, Tryz.ntmps169
      go_wp2_with fail
      refine (HI.out _ (Below.refl _ _)).mono ?_
      rintro e w1 ⟨rfl, rfl⟩
      go_wp2_with fail
      refine (HJ.out _ (Below.refl _ _)).mono ?_
      rintro e w1 ⟨rfl, rfl⟩
      go_wp2_with fail
      exact bodyPost_ret (v := .tuple #[.int .i32 (wrap32 ((m : Int) + 1 + j + 1)), .bool (decide (0 ≤ wrap32 ((m : Int) + 1 + j + 1)))]) (by simp [results, Tryz.results169, go_sem]; try omega) rfl ⟨by rw [HV.out], Below.refl _ _⟩
  have hne : (k == 4) = false ∧ (k == 3) = false ∧ (k == 15) = false ∧ (k == 5) = false ∧ (k == 8) = false ∧ (k == 12) = false ∧ (k == 9) = false ∧ (k == 1) = false ∧ (k == 18) = false ∧ (k == 17) = false ∧ (k == 19) = false ∧ (k == 16) = false ∧ (k == 13) = false ∧ (k == 2) = false ∧ (k == 14) = false ∧ (k == 127) = false ∧ (k == 255) = false ∧ (k == 10) = false ∧ (k == 6) = false ∧ (k == 7) = false ∧ (k == 11) = false := by simp only [beq_eq_false_iff_ne, ne_eq]; exact ⟨k4, k3, k15, k5, k8, k12, k9, k1, k18, k17, k19, k16, k13, k2, k14, k127, k255, k10, k6, k7, k11⟩
  obtain ⟨e4, e3, e15, e5, e8, e12, e9, e1, e18, e17, e19, e16, e13, e2, e14, e127, e255, e10, e6, e7, e11⟩ := hne
  have HV : Hid (valLen k l = (0, false)) := Lib.hid (by simp [valLen, valBase, k4, k3, k15, k5, k8, k12, k9, k1, k18, k17, k19, k16, k13, k2, k14, k127, k255, k10, k6, k7, k11])
  clear k4 k3 k15 k5 k8 k12 k9 k1 k18 k17 k19 k16 k13 k2 k14 k127 k255 k10 k6 k7 k11
  go_enter Tryz.func169, Tryz.ntmps169
  go_wp2_with fail
  exact bodyPost_ret (v := .tuple #[.int .i32 (0), .bool (false)]) (by simp [results, Tryz.results169, go_sem]; try omega) rfl ⟨by rw [HV.out], Below.refl _ _⟩
end Go.Proofs.YtbpopaegfhcdpaaGreatDoor.X


/- Words for laws: contracts that give fresh bytes, as slices; texts out of bytes. -/
set_option linter.unusedVariables false
set_option linter.unusedSimpArgs false
set_option maxRecDepth 100000
namespace Go.Proofs.YtbpopaegfhcdpaaGreatDoor.X
open Go.RowKit
/-- What a call gives that makes bytes. -/
theorem fresh_of {n : Nat} {args : Array Value} {w : World} {l : List UInt8} (h : Calls Tryz.prog n args w (After fun v1 w1 => OB 5 w1 w.heap.size v1 l ∧ Below w.heap.size w w1)) :
    Calls Tryz.prog n args w fun e w' => ∃ A c, e = .returned (.slice A l.length c) ∧ SB w' A c l ∧ OB 5 w' w.heap.size (.slice A l.length c) l ∧ Below w.heap.size w w' := by
  refine h.mono ?_
  rintro e w1 ⟨v1, rfl, ho, hb⟩
  obtain ⟨A, c, rfl, hs, -⟩ := ho.sb
  exact ⟨A, c, rfl, hs, ho, hb⟩
/-- A cell of another block was written. -/
theorem SB.far {w : World} {A : Option Addr} {c : Nat} {l : List UInt8} (h : SB w A c l) {b o : Nat} (hA : ∀ a, A = some a → a.block ≠ b) (v : Value) : SB (w.setCell ⟨b, o, none⟩ v) A c l :=
  ⟨h.le, h.cap, fun hl => by
    obtain ⟨g, off, e, hc⟩ := h.cells hl
    refine ⟨g, off, e, fun j hj => ?_⟩
    rw [World.cell?_setCell_other _ _ _ _ (fun e2 => hA _ e (by injection e2 with e3; exact e3.symm))]
    exact hc j hj⟩
theorem SB.far2 {w : World} {A : Option Addr} {c : Nat} {l : List UInt8} (h : SB w A c l) {b o : Nat} (hA : 0 < l.length → ∀ a, A = some a → a.block ≠ b) (v : Value) : SB (w.setCell ⟨b, o, none⟩ v) A c l :=
  ⟨h.le, h.cap, fun hl => by
    obtain ⟨g, off, e, hc⟩ := h.cells hl
    refine ⟨g, off, e, fun j hj => ?_⟩
    rw [World.cell?_setCell_other _ _ _ _ (fun e2 => hA hl _ e (by injection e2 with e3; exact e3.symm))]
    exact hc j hj⟩
theorem SB.block {w : World} {A : Option Addr} {c : Nat} {l : List UInt8} (h : SB w A c l) (hl : 0 < l.length) : ∀ a, A = some a → a.block < w.heap.size := by
  obtain ⟨g, off, e, hc⟩ := h.cells hl
  intro a ha
  rw [e] at ha
  injection ha with ha
  subst ha
  exact World.block_lt_of_cell? w _ (hc 0 hl)
theorem OB.newer {E : TypeId} {w : World} {base n c : Nat} {A : Option Addr} {l : List UInt8} (h : OB E w base (.slice A n c) l) : ∀ a, A = some a → base ≤ a.block := by
  obtain ⟨A', c', e, -, hb⟩ := h.sb
  injection e with e1 _ _
  subst e1
  exact fun a ha => (hb a ha).1
theorem bleft {B : Nat} {W w1 : World} (h : Below B W.drew w1) : Below B W w1 := bdrew_left h
/-- A later world behind a later world. -/
theorem bthen {W w1 w2 : World} (h : Below W.heap.size W w1) (k : Below w1.heap.size w1 w2) : Below W.heap.size W w2 := h.trans (k.mono h.size)
theorem str_of {A : Option Addr} {c : Nat} {l : List UInt8} {w : World} (h : SB w A c l) : (convert 22 9 (.slice A l.length c)).run Tryz.prog w = .ok (.string ⟨l.toArray⟩) w :=
  run_string Tryz.underlying22 Tryz.underlying5 Tryz.underlying9 w A c l h
end Go.Proofs.YtbpopaegfhcdpaaGreatDoor.X


/- Contracts of bsoncore's readers of values and elements, for all bytes. -/
set_option linter.unusedVariables false
set_option linter.unusedSimpArgs false
set_option maxRecDepth 100000
namespace Go.Proofs.YtbpopaegfhcdpaaGreatDoor.X
open Go.RowKit Go.Proofs.YtbpopaegfhcdpaaGreatDoorW.PrintLast
def R119.T4 : Bool × List (List Nat × List Nat) := (true, [([], []), ([], []), ([0, 1], [0, 1]), ([], []), ([], []), ([3, 4], [3, 4]), ([2, 0, 1, 2], [2]), ([5, 6, 0, 1, 2, 3, 4, 5, 6], [5]), ([7, 0, 1, 2, 3, 4, 5, 6, 7], [])])
def R119.B4 : List Nat := [0, 0, 3, 0, 0, 24, 7, 127, 255]
theorem R119.tab4 : rtab .any (opsOf Tryz.f119 4) = R119.T4 := by kernel_rfl
theorem R119.bits4 : waitsOk R119.T4.2 R119.B4 = true := by kernel_rfl
def LB (p : Int × Bool) : Prop := -2147483648 ≤ p.1 ∧ p.1 ≤ 2147483647
theorem ite_LB {c : Prop} [Decidable c] {a b : Int × Bool} (ha : LB a) (hb : LB b) : LB (if c then a else b) := by split <;> assumption
theorem base_LB (k : Int) (l : List UInt8) : LB (valBase k l) := by
  have h : LB (readLen l) := readLen_bd l
  have w : ∀ n b, LB (wrap32 n, b) := fun n b => wrap32_bd n
  have d : ∀ n b, -2147483648 ≤ n → n ≤ 2147483647 → LB (n, b) := fun n b h1 h2 => ⟨h1, h2⟩
  unfold valBase
  exact ite_LB h (ite_LB (w _ _) (ite_LB (d _ _ (by omega) (by omega)) (ite_LB (w _ _) (ite_LB (d _ _ (by omega) (by omega)) (ite_LB (d _ _ (by omega) (by omega)) (ite_LB (d _ _ (by omega) (by omega)) (ite_LB (w _ _) (ite_LB (d _ _ (by omega) (by omega)) (ite_LB (d _ _ (by omega) (by omega)) (ite_LB (ite_LB (d _ _ (by omega) (by omega)) (ite_LB (d _ _ (by omega) (by omega)) (w _ _))) (d _ _ (by omega) (by omega))))))))))))
theorem base_len (k : Int) (l : List UInt8) : -2147483648 ≤ (valBase k l).1 ∧ (valBase k l).1 ≤ 2147483647 := base_LB k l
theorem valLen_bd (k : Int) (l : List UInt8) : -2147483648 ≤ (valLen k l).1 ∧ (valLen k l).1 ≤ 2147483647 := base_len k l
/-- Whether a value of a kind begins some bytes. -/
def valIs (k : Int) (l : List UInt8) : Bool := (valLen k l).2 && decide ((valLen k l).1 ≤ l.length)
set_option maxRecDepth 100000 in
theorem readValue_ok (A : Option Addr) (c : Nat) (l : List UInt8) (k : Int) (n : Nat) (w : World) (hs : SB w A c l) (hv : valLen k l = ((n : Int), true)) (hn : n ≤ l.length) :
    Calls Tryz.prog 119 #[.slice A l.length c, .int .u8 k] w fun e w' => ∃ A1 c1 A2 c2, e = .returned (.tuple #[.slice A1 n c1, .slice A2 (l.length - n) c2, .bool true]) ∧ (∀ wx, SB wx A c l → SB wx A1 c1 (l.take n) ∧ SB wx A2 c2 (l.drop n)) ∧ Below w.heap.size w w' := by
  have hlc := hs.le
  have hcc := hs.cap
  have hbd := valLen_bd k l
  rw [hv] at hbd
  have HC := Lib.hid (valueLength A c l k w hs)
  rw [hv] at HC
  obtain ⟨A1, e1, s1⟩ := SB.to_ (P := Tryz.prog) Tryz.underlying22 rfl rfl .i32 A c l n hn hlc
  obtain ⟨A2, e2, s2⟩ := SB.from_ (P := Tryz.prog) Tryz.underlying22 rfl rfl .i32 A c l n hn hlc
  have HS := Lib.hid (fun wx (h : SB wx A c l) => And.intro (s1 wx h) (s2 wx h))
  obtain ⟨q, hq⟩ : ∃ q, q = l.length := ⟨_, rfl⟩
  rw [← hq] at HC e1 e2 hn hlc ⊢
  have hn3 : (n : Int) ≤ q := by omega
  have hbd2 : (n : Int) ≤ 2147483647 := hbd.2
  clear hs hv s1 s2 hq hbd
  go_enter Tryz.func119, Tryz.ntmps119
  go_wp2_with fail
  refine HC.out.mono ?_
  rintro e w1 ⟨rfl, hb⟩
  have HB := Lib.hid hb
  clear hb HC
  go_wp2_with fail
  refine start_ (n := 9) (S := fun w' => True) (ds := []) #[false, false, false, false, false, false, false, false, false] (by kernel_rfl) rfl rfl trivial (fun hHeld => ?_)
  refine with_tabW R119.tab4 R119.bits4 (fun HT_ HW_ => ?_)
  refine pure_ (i := 0) (N := some 25) (v := ?_) (a' := ?_) #[true, false, false, false, false, false, false, false, false] rfl rfl (any_of HT_.out (by kernel_rfl)) (fun _ _ _ h => h) (Or.inl ⟨by rfl, ?_⟩) ?_ ?_
  rotate_left
  · intro w'
    go_simp
    with_reducible rfl
  rotate_left
  · simp only [Act.put, List.setIfInBounds_toArray, List.set_cons_zero, List.set_cons_succ, i64_w, i32_w]
    rfl
  refine pure_ (i := 1) (N := some 26) (v := ?_) (a' := ?_) #[true, true, false, false, false, false, false, false, false] rfl rfl (any_of HT_.out (by kernel_rfl)) (fun _ _ _ h => h) (Or.inl ⟨by rfl, ?_⟩) ?_ ?_
  rotate_left
  · intro w'
    go_simp
    with_reducible rfl
  rotate_left
  · simp only [Act.put, List.setIfInBounds_toArray, List.set_cons_zero, List.set_cons_succ, i64_w, i32_w]
    rfl
  refine pure_ (i := 2) (N := some 27) (v := ?_) (a' := ?_) #[true, true, true, false, false, false, false, false, false] rfl rfl (any_of HT_.out (by kernel_rfl)) (fun _ _ _ h => h) (Or.inl ⟨by rfl, ?_⟩) ?_ ?_
  rotate_left
  · intro w'
    go_simp
    with_reducible rfl
  rotate_left
  · simp only [Act.put, List.setIfInBounds_toArray, List.set_cons_zero, List.set_cons_succ, i64_w, i32_w]
    rfl
  refine pure_ (i := 3) (N := some 28) (v := ?_) (a' := ?_) #[true, true, true, true, false, false, false, false, false] rfl rfl (any_of HT_.out (by kernel_rfl)) (fun _ _ _ h => h) (Or.inl ⟨by rfl, ?_⟩) ?_ ?_
  rotate_left
  · intro w'
    go_simp
    with_reducible rfl
  rotate_left
  · simp only [Act.put, List.setIfInBounds_toArray, List.set_cons_zero, List.set_cons_succ, i64_w, i32_w]
    rfl
  refine pure_ (i := 4) (N := some 29) (v := ?_) (a' := ?_) #[true, true, true, true, true, false, false, false, false] rfl rfl (any_of HT_.out (by kernel_rfl)) (fun _ _ _ h => h) (Or.inl ⟨by rfl, ?_⟩) ?_ ?_
  rotate_left
  · intro w'
    go_simp
    with_reducible rfl
  rotate_left
  · simp only [Act.put, List.setIfInBounds_toArray, List.set_cons_zero, List.set_cons_succ, i64_w, i32_w]
    rfl
  refine pure_ (i := 5) (N := some 30) (v := ?_) (a' := ?_) #[true, true, true, true, true, true, false, false, false] rfl rfl (any_of HT_.out (by kernel_rfl)) (fun _ _ _ h => h) (Or.inl ⟨by rfl, ?_⟩) ?_ ?_
  rotate_left
  · intro w'
    go_simp
    with_reducible rfl
  rotate_left
  · simp only [Act.put, List.setIfInBounds_toArray, List.set_cons_zero, List.set_cons_succ, i64_w, i32_w]
    rfl
  refine pure_ (i := 6) (N := some 4) (v := ?_) (a' := ?_) #[true, true, true, true, true, true, true, false, false] rfl rfl (any_of HT_.out (by kernel_rfl)) (fun _ _ _ h => h) (Or.inl ⟨by rfl, ?_⟩) ?_ ?_
  rotate_left
  · intro w'
    go_simp
    with_reducible rfl
  rotate_left
  · simp only [Act.put, List.setIfInBounds_toArray, List.set_cons_zero, List.set_cons_succ, i64_w, i32_w]
    rfl
  refine pure_ (i := 7) (N := some 5) (v := ?_) (a' := ?_) #[true, true, true, true, true, true, true, true, false] rfl rfl (any_of HT_.out (by kernel_rfl)) (fun _ _ _ h => h) (Or.inl ⟨by rfl, ?_⟩) ?_ ?_
  rotate_left
  · intro w'
    go_simp
    with_reducible rfl
  rotate_left
  · simp only [Act.put, List.setIfInBounds_toArray, List.set_cons_zero, List.set_cons_succ, i64_w, i32_w]
    rfl
  refine pure_ (i := 8) (N := some 6) (v := ?_) (a' := ?_) #[true, true, true, true, true, true, true, true, true] rfl rfl (any_of HT_.out (by kernel_rfl)) (fun _ _ _ h => h) (Or.inl ⟨by rfl, ?_⟩) ?_ ?_
  rotate_left
  · intro w'
    go_simp
    with_reducible rfl
  rotate_left
  · simp only [Act.put, List.setIfInBounds_toArray, List.set_cons_zero, List.set_cons_succ, i64_w, i32_w]
    rfl
  refine done_ (done_of HT_.out (by kernel_rfl)) ?_
  go_wp2_with fail
  exact bodyPost_ret (v := .tuple #[.slice A1 n c, .slice A2 (q - n) (c - n), .bool true]) (by simp [results, Tryz.results119, go_sem]) rfl ⟨A1, c, A2, c - n, rfl, HS.out, bdrew HB.out⟩
set_option maxRecDepth 100000 in
theorem readValue_no (A : Option Addr) (c : Nat) (l : List UInt8) (k : Int) (w : World) (hs : SB w A c l) (hv : valIs k l = false) :
    Calls Tryz.prog 119 #[.slice A l.length c, .int .u8 k] w fun e w' => e = .returned (.tuple #[.slice none 0 0, .slice A l.length c, .bool false]) ∧ Below w.heap.size w w' := by
  have HC := Lib.hid (valueLength A c l k w hs)
  have hlc := hs.le
  have hcc := hs.cap
  have hbd := valLen_bd k l
  unfold valIs at hv
  obtain ⟨n, hn⟩ : ∃ n, n = (valLen k l).1 := ⟨_, rfl⟩
  obtain ⟨b, hb⟩ : ∃ b, b = (valLen k l).2 := ⟨_, rfl⟩
  rw [← hn, ← hb] at HC hv
  rw [← hn] at hbd
  clear hn hb hs
  cases b with
  | false =>
    clear hv
    go_enter Tryz.func119, Tryz.ntmps119
    go_wp2_with fail
    refine HC.out.mono ?_
    rintro e w1 ⟨rfl, hb⟩
    go_wp2_with fail
    exact bodyPost_ret (v := .tuple #[.slice none 0 0, .slice A l.length c, .bool false]) (by simp [results, Tryz.results119, go_sem]) rfl ⟨rfl, hb⟩
  | true =>
    have hgt : (l.length : Int) < n := by simpa using hv
    clear hv
    go_enter Tryz.func119, Tryz.ntmps119
    go_wp2_with fail
    refine HC.out.mono ?_
    rintro e w1 ⟨rfl, hb⟩
    go_wp2_with fail
    exact bodyPost_ret (v := .tuple #[.slice none 0 0, .slice A l.length c, .bool false]) (by simp [results, Tryz.results119, go_sem]) rfl ⟨rfl, hb⟩
set_option maxRecDepth 100000 in
theorem readValueV_ok (A : Option Addr) (c : Nat) (l : List UInt8) (k : Int) (n : Nat) (w : World) (hs : SB w A c l) (hv : valLen k l = ((n : Int), true)) (hn : n ≤ l.length) :
    Calls Tryz.prog 64 #[.slice A l.length c, .int .u8 k] w fun e w' => ∃ A1 c1 A2 c2, e = .returned (.tuple #[.agg #[.int .u8 k, .slice A1 n c1], .slice A2 (l.length - n) c2, .bool true]) ∧ (∀ wx, SB wx A c l → SB wx A1 c1 (l.take n) ∧ SB wx A2 c2 (l.drop n)) ∧ Below w.heap.size w w' := by
  have HC := Lib.hid (fun wx (h : Below w.heap.size w wx) => readValue_ok A c l k n wx (hs.keep h) hv hn)
  clear hs hv hn
  go_enter Tryz.func64, Tryz.ntmps64
  go_wp2_with fail
  refine (HC.out _ (balloc (Below.refl _ _) (Nat.le_refl _) _)).mono ?_
  rintro e w1 ⟨A1, c1, A2, c2, rfl, hss, hb⟩
  have hb1 : Below (w.heap.size + 1) (w.alloc (.cells #[.int .u8 0, .slice none 0 0] 73)) w1 := by simpa using hb
  have q0 := boxc hb1 0
  have q1 := boxc hb1 1
  simp only [List.getElem?_cons_succ, List.getElem?_cons_zero] at q0 q1
  have f0 := boxf hb1 0
  have f1 := boxf hb1 1
  have hz1 := boxs hb1
  have hlt : w.heap.size < w1.heap.size := by omega
  have HB := Lib.hid (boxb hb1)
  have HSS := Lib.hid hss
  clear hb hb1 hss HC
  go_wp2_with fail
  exact bodyPost_ret (v := .tuple #[.agg #[.int .u8 k, .slice A1 n c1], .slice A2 (l.length - n) c2, .bool true]) (by simp [results, Tryz.results64, go_sem, q0, q1]) rfl ⟨A1, c1, A2, c2, rfl, HSS.out, (HB.out.setCell (Nat.le_refl _) _).setCell (Nat.le_refl _) _⟩
set_option maxRecDepth 100000 in
theorem readValueV_no (A : Option Addr) (c : Nat) (l : List UInt8) (k : Int) (w : World) (hs : SB w A c l) (hv : valIs k l = false) :
    Calls Tryz.prog 64 #[.slice A l.length c, .int .u8 k] w fun e w' => e = .returned (.tuple #[.agg #[.int .u8 0, .slice none 0 0], .slice A l.length c, .bool false]) ∧ Below w.heap.size w w' := by
  have HC := Lib.hid (fun wx (h : Below w.heap.size w wx) => readValue_no A c l k wx (hs.keep h) hv)
  clear hs hv
  go_enter Tryz.func64, Tryz.ntmps64
  go_wp2_with fail
  refine (HC.out _ (balloc (Below.refl _ _) (Nat.le_refl _) _)).mono ?_
  rintro e w1 ⟨rfl, hb⟩
  have hb1 : Below (w.heap.size + 1) (w.alloc (.cells #[.int .u8 0, .slice none 0 0] 73)) w1 := by simpa using hb
  have q0 := boxc hb1 0
  have q1 := boxc hb1 1
  simp only [List.getElem?_cons_succ, List.getElem?_cons_zero] at q0 q1
  have f0 := boxf hb1 0
  have f1 := boxf hb1 1
  have hz1 := boxs hb1
  have hlt : w.heap.size < w1.heap.size := by omega
  have HB := Lib.hid (boxb hb1)
  clear hb hb1 HC
  go_wp2_with fail
  exact bodyPost_ret (v := .tuple #[.agg #[.int .u8 0, .slice none 0 0], .slice A l.length c, .bool false]) (by simp [results, Tryz.results64, go_sem, q0, q1]) rfl ⟨rfl, (HB.out.setCell (Nat.le_refl _) _).setCell (Nat.le_refl _) _⟩
end Go.Proofs.YtbpopaegfhcdpaaGreatDoor.X


/- How many bytes a value takes by its numbers: plain law. -/
set_option linter.unusedVariables false
set_option linter.unusedSimpArgs false
set_option maxRecDepth 100000
namespace Go.Proofs.YtbpopaegfhcdpaaGreatDoor.X
open Go.RowKit
namespace Sp
/-- The number in the first four bytes, and whether there are so many. -/
def numOf : List UInt8 → Int × Bool
  | b0 :: b1 :: b2 :: b3 :: _ => (wrap32 (leI [b0, b1, b2, b3]), true)
  | _ => (0, false)
theorem num_short (l : List UInt8) (h : l.length < 4) : numOf l = (0, false) := by
  match l, h with
  | [], _ | [_], _ | [_, _], _ | [_, _, _], _ => rfl
theorem num_long (l : List UInt8) (h : (numOf l).2 = true) : 4 ≤ l.length := by
  rcases Nat.lt_or_ge l.length 4 with h4 | h4
  · rw [num_short l h4] at h; cases h
  · exact h4
theorem num_is (l : List UInt8) (h : 4 ≤ l.length) : (numOf l).2 = true := by
  match l, h with
  | b0 :: b1 :: b2 :: b3 :: r, _ => rfl
theorem num_bd (l : List UInt8) : -2147483648 ≤ (numOf l).1 ∧ (numOf l).1 ≤ 2147483647 := by
  unfold numOf
  split
  · exact wrap32_bd _
  · simp
theorem read_num (l : List UInt8) : readLen l = ((numOf l).1, (numOf l).2 && decide (0 ≤ (numOf l).1)) := by
  unfold readLen numOf
  split <;> simp
/-- A name's end, and whether there is one. -/
def nmOf (l : List UInt8) : Int × Bool := if Lib.indexByte l 0 < 0 then (0, false) else (Lib.indexByte l 0 + 1, true)
theorem val_none (l : List UInt8) (k : Int) (hk : valBase k l = (0, false)) : valIs k l = false := by
  unfold valIs valLen
  rw [hk]
  rfl
theorem idx_bd (l : List UInt8) : -1 ≤ Lib.indexByte l 0 ∧ Lib.indexByte l 0 ≤ (l.length : Int) := by
  rcases idx_lt l 0 with h | h
  · refine ⟨?_, by omega⟩
    have : ∀ (l : List UInt8) (z : UInt8), -1 ≤ Lib.indexByte l z := by
      intro l z
      induction l with
      | nil => simp [Lib.indexByte]
      | cons x r ih =>
        unfold Lib.indexByte
        split
        · omega
        · split <;> omega
    exact this l 0
  · subst h; simp [Lib.indexByte]
end Sp
end Go.Proofs.YtbpopaegfhcdpaaGreatDoor.X


/- spec.DocSpan, over the printed text: plain law and contract. -/
set_option linter.unusedVariables false
set_option linter.unusedSimpArgs false
set_option maxRecDepth 100000
namespace Go.Proofs.YtbpopaegfhcdpaaGreatDoor.X
open Go.RowKit Go.Proofs.YtbpopaegfhcdpaaGreatDoorW.PrintWords
open Go.Proofs.YtbpopaegfhcdpaaGreatDoor.PFnDocAnyLookup
namespace Sp
def ints (l : List UInt8) : List Int := l.map fun b => (b.toNat : Int)
theorem ints_len (l : List UInt8) : (ints l).length = l.length := by simp [ints]
theorem ints_rd (l : List UInt8) (j : Nat) (hj : j < l.length) : rd (ints l) (j : Int) = (l[j].toNat : Int) := by
  unfold rd ints
  simp [List.getD_eq_getElem?_getD, hj]
theorem kd_bytes {w : World} {A : Option Addr} {c : Nat} {l : List UInt8} (h : SB w A c l) : Kd.C (Kd.int .u8) w A (ints l).length (ints l) := by
  have hlen := ints_len l
  refine ⟨rfl, by have h1 := h.le; have h2 := h.cap; omega, fun hp => ?_⟩
  obtain ⟨b, off, rfl, hc⟩ := h.cells (by omega)
  refine ⟨_, rfl, fun j p hj => ⟨[.int .u8 p], rfl, rfl, fun i u hi => ?_⟩⟩
  match i, hi with
  | 0, hi =>
    obtain rfl : Value.int .u8 p = u := by simpa using hi
    have hj2 : j < l.length := by
      have := (List.getElem?_eq_some_iff.1 hj).1
      omega
    have e : p = (l[j].toNat : Int) := by
      have : (ints l)[j]? = some (l[j].toNat : Int) := by simp [ints, hj2]
      rw [this] at hj
      exact (Option.some.inj hj).symm
    subst e
    have hadd : (⟨b, off, none⟩ : Addr).add j = ⟨b, off + j, none⟩ := by unfold Addr.add; split <;> simp_all
    have := hc j hj2
    simpa [Kd.int, Kd.scalar, hadd] using this
  | i + 1, hi => simp at hi
theorem u32_in (n : Int) (h0 : 0 ≤ n) (h1 : n < 4294967296) : IntKind.u32.wrap n = n := by
  unfold IntKind.wrap
  simp [IntKind.bits, IntKind.signed]
  omega
theorem or4_u32 (b0 b1 b2 b3 : Nat) (y0 y1 y2 y3 : Int) (h0 : b0 < 256) (h1 : b1 < 256) (h2 : b2 < 256) (h3 : b3 < 256)
    (e0 : y0 % 4294967296 = (b0 : Nat)) (e1 : y1 % 4294967296 = (b1 * 256 : Nat)) (e2 : y2 % 4294967296 = (b2 * 65536 : Nat)) (e3 : y3 % 4294967296 = (b3 * 16777216 : Nat)) :
    bits .or .u32 (bits .or .u32 (bits .or .u32 y0 y1) y2) y3 = ((b0 + b1 * 256 + b2 * 65536 + b3 * 16777216 : Nat) : Int) := by
  have s1 := or_mod .u32 y0 y1 b0 b1 8 (by omega) (by simp [IntKind.bits]; omega) (by simpa [IntKind.bits] using e0) (by simpa [IntKind.bits] using e1)
  have s2 := or_mod .u32 _ y2 _ b2 16 (by omega) (by simp [IntKind.bits]; omega) s1 (by simpa [IntKind.bits] using e2)
  have s3 := or_join .u32 _ y3 _ b3 24 (by omega) (by simp [IntKind.bits]; omega) s2 (by simpa [IntKind.bits] using e3)
  rw [s3]
  exact u32_in _ (by omega) (by omega)
theorem w64_32 (n : Int) : wrap64 (wrap32 n) = wrap32 n := by
  have := wrap32_bd n
  generalize wrap32 n = m at this ⊢
  unfold wrap64
  omega
theorem num_f (l : List UInt8) : spec_DocNumber.f (ints l) = some (numOf l) := by
  unfold spec_DocNumber.f
  rw [ints_len]
  by_cases h4 : l.length < 4
  · rw [if_pos (by omega), num_short l h4]
  · rw [if_neg (by omega), if_pos (by omega), if_pos (by omega), if_pos (by omega), if_pos (by omega)]
    match l, h4 with
    | b0 :: b1 :: b2 :: b3 :: r, _ =>
      have r0 : rd (ints (b0 :: b1 :: b2 :: b3 :: r)) 0 = (b0.toNat : Int) := rfl
      have r1 : rd (ints (b0 :: b1 :: b2 :: b3 :: r)) 1 = (b1.toNat : Int) := rfl
      have r2 : rd (ints (b0 :: b1 :: b2 :: b3 :: r)) 2 = (b2.toNat : Int) := rfl
      have r3 : rd (ints (b0 :: b1 :: b2 :: b3 :: r)) 3 = (b3.toNat : Int) := rfl
      rw [r0, r1, r2, r3]
      have h0 := b0.toNat_lt
      have h1 := b1.toNat_lt
      have h2 := b2.toNat_lt
      have h3 := b3.toNat_lt
      rw [or4_u32 b0.toNat b1.toNat b2.toNat b3.toNat _ _ _ _ h0 h1 h2 h3 (by omega) (by omega) (by omega) (by omega), w64_32]
      show some (_, true) = some (wrap32 (leI [b0, b1, b2, b3]), true)
      have e : ((b0.toNat + b1.toNat * 256 + b2.toNat * 65536 + b3.toNat * 16777216 : Nat) : Int) = leI [b0, b1, b2, b3] := by
        simp only [leI]
        omega
      rw [e]
    | [], h => exact absurd (by simp) h
    | [_], h => exact absurd (by simp) h
    | [_, _], h => exact absurd (by simp) h
    | [_, _, _], h => exact absurd (by simp) h
theorem idx_none : ∀ (l : List UInt8), (∀ j (h : j < l.length), l[j] ≠ 0) → Lib.indexByte l 0 = -1
  | [], _ => rfl
  | x :: r, h => by
    have h0 : x ≠ 0 := h 0 (by simp)
    have h1 := idx_none r (fun j hj => h (j + 1) (by simpa using hj))
    unfold Lib.indexByte
    rw [h1]
    simp [h0]
theorem idx_at : ∀ (l : List UInt8) (k : Nat) (hk : k < l.length), (∀ j (h : j < l.length), j < k → l[j] ≠ 0) → l[k] = 0 → Lib.indexByte l 0 = k
  | [], k, hk, _, _ => absurd hk (by simp)
  | x :: r, 0, hk, _, h => by
    have : x = 0 := h
    unfold Lib.indexByte
    simp [this]
  | x :: r, k + 1, hk, hn, h => by
    have h0 : x ≠ 0 := hn 0 (by simp) (by omega)
    have h1 := idx_at r k (by simpa using hk) (fun j hj hjk => hn (j + 1) (by simpa using hj) (by omega)) h
    unfold Lib.indexByte
    rw [h1]
    simp [h0] <;> omega
theorem w64_in (n : Int) (h0 : -9223372036854775808 ≤ n) (h1 : n ≤ 9223372036854775807) : wrap64 n = n := by unfold wrap64; omega
theorem toNat_zero (x : UInt8) (h : (x.toNat : Int) = 0) : x = 0 := by
  apply UInt8.toNat_inj.1
  simpa using h
theorem name_loop (l : List UInt8) (hl : l.length ≤ 1000000) : ∀ m i : Nat, i ≤ l.length → l.length - i = m → (∀ j (h : j < l.length), j < i → l[j] ≠ 0) → ∃ k s, spec_DocName.l0 k (ints l) (i : Int) = some (s, nmOf l) := by
  intro m
  induction m with
  | zero =>
    intro i hi hm hn
    refine ⟨1, ⟨#[]⟩, ?_⟩
    rw [spec_DocName.l0, ints_len, if_neg (by omega)]
    have : nmOf l = (0, false) := by unfold nmOf; rw [idx_none l (fun j hj => hn j hj (by omega))]; rfl
    rw [this]
  | succ m ih =>
    intro i hi hm hn
    have hlt : i < l.length := by omega
    by_cases h0 : l[i] = 0
    · refine ⟨1, strOfNums ((ints l).take i), ?_⟩
      rw [spec_DocName.l0, ints_len, if_pos (by omega), if_pos (by omega), ints_rd l i hlt, if_pos (by rw [h0]; rfl), if_pos (by omega), w64_in _ (by omega) (by omega)]
      have : nmOf l = ((i : Int) + 1, true) := by unfold nmOf; rw [idx_at l i hlt hn h0, if_neg (by omega)]
      rw [this]
      rfl
    · obtain ⟨k, s, h⟩ := ih (i + 1) (by omega) (by omega) (fun j hj hjk => by
        by_cases e : j = i
        · subst e; exact h0
        · exact hn j hj (by omega))
      refine ⟨k + 1, s, ?_⟩
      rw [spec_DocName.l0, ints_len, if_pos (by omega), if_pos (by omega), ints_rd l i hlt, if_neg (fun e => h0 (toNat_zero _ e)), w64_in _ (by omega) (by omega)]
      rw [show ((i + 1 : Nat) : Int) = (i : Int) + 1 from by omega] at h
      exact h
theorem name_f (l : List UInt8) (hl : l.length ≤ 1000000) : ∃ k s, spec_DocName.f k (ints l) = some (s, nmOf l) := name_loop l hl _ 0 (Nat.zero_le _) rfl (fun j h hj => absurd hj (by omega))
theorem name_up (l : List Int) (r : ByteArray × Int × Bool) (k : Nat) (h : spec_DocName.f k l = some r) : ∀ n, spec_DocName.f (k + n) l = some r
  | 0 => h
  | n + 1 => spec_DocName.mono l (k + n) r (name_up l r k h n)
theorem chain_num (b : Bool) (n c : Int) (len : Nat) (hn : -2147483648 ≤ n ∧ n ≤ 2147483647) (c0 : 0 ≤ c) (c1 : c ≤ 16) :
    (if b = true then (if n ≥ 0 then (some (wrap64 (c + n), decide ((len : Int) ≥ wrap64 (c + n)))) else (some (wrap64 (c + n), false))) else (some (wrap64 (c + n), false))) = some (n + c, b && (decide (0 ≤ n) && decide (n + c ≤ (len : Int)))) := by
  have hw : wrap64 (c + n) = n + c := by rw [w64_in _ (by omega) (by omega)]; omega
  rw [hw]
  cases b with
  | false => simp
  | true =>
    by_cases h : 0 ≤ n
    · simp [h]
    · simp [h]
theorem len_6 (l : List UInt8) : spec_DocLen.f 5 6 (ints l) = some (((0 : Nat) : Int), decide (0 ≤ l.length)) := by
  simp only [spec_DocLen.f, spec_DocLen.j0, spec_DocLen.j1, spec_DocLen.j2, spec_DocLen.j3, num_f, Option.bind_some, ints_len]
  first | (simp; done) | (simp; omega)
theorem len_10 (l : List UInt8) : spec_DocLen.f 5 10 (ints l) = some (((0 : Nat) : Int), decide (0 ≤ l.length)) := by
  simp only [spec_DocLen.f, spec_DocLen.j0, spec_DocLen.j1, spec_DocLen.j2, spec_DocLen.j3, num_f, Option.bind_some, ints_len]
  first | (simp; done) | (simp; omega)
theorem len_255 (l : List UInt8) : spec_DocLen.f 5 255 (ints l) = some (((0 : Nat) : Int), decide (0 ≤ l.length)) := by
  simp only [spec_DocLen.f, spec_DocLen.j0, spec_DocLen.j1, spec_DocLen.j2, spec_DocLen.j3, num_f, Option.bind_some, ints_len]
  first | (simp; done) | (simp; omega)
theorem len_127 (l : List UInt8) : spec_DocLen.f 5 127 (ints l) = some (((0 : Nat) : Int), decide (0 ≤ l.length)) := by
  simp only [spec_DocLen.f, spec_DocLen.j0, spec_DocLen.j1, spec_DocLen.j2, spec_DocLen.j3, num_f, Option.bind_some, ints_len]
  first | (simp; done) | (simp; omega)
theorem len_8 (l : List UInt8) : spec_DocLen.f 5 8 (ints l) = some (((1 : Nat) : Int), decide (1 ≤ l.length)) := by
  simp only [spec_DocLen.f, spec_DocLen.j0, spec_DocLen.j1, spec_DocLen.j2, spec_DocLen.j3, num_f, Option.bind_some, ints_len]
  first | (simp; done) | (simp; omega)
theorem len_16 (l : List UInt8) : spec_DocLen.f 5 16 (ints l) = some (((4 : Nat) : Int), decide (4 ≤ l.length)) := by
  simp only [spec_DocLen.f, spec_DocLen.j0, spec_DocLen.j1, spec_DocLen.j2, spec_DocLen.j3, num_f, Option.bind_some, ints_len]
  have e : (numOf l).2 = decide (4 ≤ l.length) := by
    rw [Bool.eq_iff_iff]
    constructor
    · intro h; exact decide_eq_true (num_long l h)
    · intro h; exact num_is l (of_decide_eq_true h)
  rw [← e]
  rfl
theorem len_1 (l : List UInt8) : spec_DocLen.f 5 1 (ints l) = some (((8 : Nat) : Int), decide (8 ≤ l.length)) := by
  simp only [spec_DocLen.f, spec_DocLen.j0, spec_DocLen.j1, spec_DocLen.j2, spec_DocLen.j3, num_f, Option.bind_some, ints_len]
  first | (simp; done) | (simp; omega)
theorem len_9 (l : List UInt8) : spec_DocLen.f 5 9 (ints l) = some (((8 : Nat) : Int), decide (8 ≤ l.length)) := by
  simp only [spec_DocLen.f, spec_DocLen.j0, spec_DocLen.j1, spec_DocLen.j2, spec_DocLen.j3, num_f, Option.bind_some, ints_len]
  first | (simp; done) | (simp; omega)
theorem len_18 (l : List UInt8) : spec_DocLen.f 5 18 (ints l) = some (((8 : Nat) : Int), decide (8 ≤ l.length)) := by
  simp only [spec_DocLen.f, spec_DocLen.j0, spec_DocLen.j1, spec_DocLen.j2, spec_DocLen.j3, num_f, Option.bind_some, ints_len]
  first | (simp; done) | (simp; omega)
theorem len_17 (l : List UInt8) : spec_DocLen.f 5 17 (ints l) = some (((8 : Nat) : Int), decide (8 ≤ l.length)) := by
  simp only [spec_DocLen.f, spec_DocLen.j0, spec_DocLen.j1, spec_DocLen.j2, spec_DocLen.j3, num_f, Option.bind_some, ints_len]
  first | (simp; done) | (simp; omega)
theorem len_7 (l : List UInt8) : spec_DocLen.f 5 7 (ints l) = some (((12 : Nat) : Int), decide (12 ≤ l.length)) := by
  simp only [spec_DocLen.f, spec_DocLen.j0, spec_DocLen.j1, spec_DocLen.j2, spec_DocLen.j3, num_f, Option.bind_some, ints_len]
  first | (simp; done) | (simp; omega)
theorem len_19 (l : List UInt8) : spec_DocLen.f 5 19 (ints l) = some (((16 : Nat) : Int), decide (16 ≤ l.length)) := by
  simp only [spec_DocLen.f, spec_DocLen.j0, spec_DocLen.j1, spec_DocLen.j2, spec_DocLen.j3, num_f, Option.bind_some, ints_len]
  first | (simp; done) | (simp; omega)
theorem len_5 (l : List UInt8) : spec_DocLen.f 5 5 (ints l) = some ((numOf l).1 + 5, (numOf l).2 && (decide (0 ≤ (numOf l).1) && decide ((numOf l).1 + 5 ≤ (l.length : Int)))) := by
  rw [← chain_num (numOf l).2 (numOf l).1 5 l.length (num_bd l) (by omega) (by omega)]
  simp only [spec_DocLen.f, spec_DocLen.j0, spec_DocLen.j1, spec_DocLen.j2, spec_DocLen.j3, num_f, Option.bind_some, ints_len]
  rfl
theorem nm_bd (l : List UInt8) : 0 ≤ (nmOf l).1 ∧ (nmOf l).1 ≤ (l.length : Int) ∨ l = [] := by
  have h := idx_bd l
  unfold nmOf
  rcases idx_lt l 0 with h2 | h2
  · left; split <;> simp <;> omega
  · exact .inr h2
theorem nm_bd' (l : List UInt8) : 0 ≤ (nmOf l).1 ∧ (nmOf l).1 ≤ (l.length : Int) := by
  rcases nm_bd l with h | h
  · exact h
  · subst h; exact ⟨by decide, by decide⟩
theorem ints_drop (l : List UInt8) (n : Nat) : (ints l).drop n = ints (l.drop n) := by simp [ints, List.map_drop]
theorem len_11 (l : List UInt8) (hl : l.length ≤ 5000) : ∃ fu, spec_DocLen.f (fu + 5) 11 (ints l) = some ((nmOf l).1 + (nmOf (l.drop (nmOf l).1.toNat)).1, (nmOf l).2 && (nmOf (l.drop (nmOf l).1.toNat)).2) := by
  obtain ⟨k1, s1, h1⟩ := name_f l (by omega)
  obtain ⟨k2, s2, h2⟩ := name_f (l.drop (nmOf l).1.toNat) (by rw [List.length_drop]; omega)
  have b1 := nm_bd' l
  have b2 := nm_bd' (l.drop (nmOf l).1.toNat)
  rw [List.length_drop] at b2
  refine ⟨k1 + k2, ?_⟩
  have g1 := name_up _ _ k1 h1 (k2 + 1)
  have g2 := name_up _ _ k2 h2 (k1 + 1)
  rw [show k1 + (k2 + 1) = k1 + k2 + 1 from by omega] at g1
  rw [show k2 + (k1 + 1) = k1 + k2 + 1 from by omega] at g2
  have hs : spec_DocLen.j3 (k1 + k2 + 2) (ints l) (numOf l).1 (numOf l).2 11 false = some ((nmOf l).1 + (nmOf (l.drop (nmOf l).1.toNat)).1, (nmOf l).2 && (nmOf (l.drop (nmOf l).1.toNat)).2) := by
    rw [spec_DocLen.j3, g1]
    simp only [Option.bind_some, Bool.false_eq_true, if_false, ints_len, ints_drop]
    rw [if_neg (by omega), if_neg (by omega)]
    first | rw [if_pos b1.1, if_pos b1.2, g2] | rw [if_pos (rfl : (11 : Int) = 11), if_pos b1.1, if_pos b1.2, g2]
    simp only [Option.bind_some]
    rw [w64_in _ (by omega) (by omega)]
    cases (nmOf l).2 <;> rfl
  rw [show k1 + k2 + 5 = k1 + k2 + 2 + 1 + 1 + 1 from by omega]
  rw [spec_DocLen.f, num_f]
  simp only [Option.bind_some]
  rw [if_neg (by omega), if_neg (by omega), if_neg (by omega), spec_DocLen.j0]
  rw [if_neg (by decide), if_neg (by omega), if_neg (by omega), if_neg (by omega), if_neg (by omega), if_neg (by omega), spec_DocLen.j1]
  rw [if_neg (by decide), if_neg (by omega), if_neg (by omega), if_neg (by omega), if_neg (by omega), spec_DocLen.j2]
  rw [if_neg (by decide), if_neg (by omega), if_neg (by omega)]
  exact hs
theorem len_no (k : Int) (l : List UInt8) (h : k ≠ 6 ∧ k ≠ 10 ∧ k ≠ 255 ∧ k ≠ 127 ∧ k ≠ 8 ∧ k ≠ 16 ∧ k ≠ 1 ∧ k ≠ 9 ∧ k ≠ 18 ∧ k ≠ 17 ∧ k ≠ 7 ∧ k ≠ 19 ∧ k ≠ 2 ∧ k ≠ 13 ∧ k ≠ 14 ∧ k ≠ 3 ∧ k ≠ 4 ∧ k ≠ 15 ∧ k ≠ 5 ∧ k ≠ 12 ∧ k ≠ 11) : spec_DocLen.f 5 k (ints l) = some (0, false) := by
  obtain ⟨h1, h2, h3, h4, h5, h6, h7, h8, h9, h10, h11, h12, h13, h14, h15, h16, h17, h18, h19, h20, h21⟩ := h
  simp [spec_DocLen.f, spec_DocLen.j0, spec_DocLen.j1, spec_DocLen.j2, spec_DocLen.j3, num_f, h1, h2, h3, h4, h5, h6, h7, h8, h9, h10, h11, h12, h13, h14, h15, h16, h17, h18, h19, h20, h21]
end Sp
end Go.Proofs.YtbpopaegfhcdpaaGreatDoor.X


/- Validate of values and elements, for all bytes. -/
set_option linter.unusedVariables false
set_option linter.unusedSimpArgs false
set_option maxRecDepth 100000
namespace Go.Proofs.YtbpopaegfhcdpaaGreatDoor.X
open Go.RowKit Go.Proofs.YtbpopaegfhcdpaaGreatDoorW.PrintLast
def R194.T6 : Bool × List (List Nat × List Nat) := (true, [([], []), ([0], [0]), ([1], [1]), ([], []), ([], []), ([4], [4]), ([3, 5], [3, 5]), ([2, 6], [2, 6]), ([7], [7]), ([8, 8, 0, 1, 2, 3, 4, 5, 6, 7, 8], [8])])
def R194.B6 : List Nat := [0, 1, 3, 0, 0, 16, 56, 127, 255, 511]
theorem R194.tab6 : rtab .any (opsOf Tryz.f194 6) = R194.T6 := by kernel_rfl
theorem R194.bits6 : waitsOk R194.T6.2 R194.B6 = true := by kernel_rfl
theorem code_nil (w : World) : Calls Tryz.prog 71 #[.nilIface] w fun e w' => e = .returned (.int .i64 0) ∧ Below w.heap.size w w' := by
  go_enter Tryz.func71, Tryz.ntmps71
  go_wp2
  go_ret
  exact ⟨rfl, Below.refl _ _⟩
end Go.Proofs.YtbpopaegfhcdpaaGreatDoor.X


/- Contracts of the small functions of the reference: kinds, names, numbers in digits. -/
set_option linter.unusedVariables false
set_option linter.unusedSimpArgs false
set_option maxRecDepth 100000
namespace Go.Proofs.YtbpopaegfhcdpaaGreatDoor.X
open Go.RowKit
def plainB (s : List UInt8) : Bool := s.all fun b => decide (b.toNat ≠ 0)
end Go.Proofs.YtbpopaegfhcdpaaGreatDoor.X


/- KeyErr and ValueErr of a right element. -/
set_option linter.unusedVariables false
set_option linter.unusedSimpArgs false
set_option maxRecDepth 100000
namespace Go.Proofs.YtbpopaegfhcdpaaGreatDoor.X
open Go.RowKit Go.Proofs.YtbpopaegfhcdpaaGreatDoorW.PrintLast
def R134.T6 : Bool × List (List Nat × List Nat) := (true, [([], []), ([], []), ([1], [1]), ([0, 2], [0, 2]), ([], []), ([4], [4]), ([5], [5]), ([3, 6], [3, 6]), ([7], [7]), ([8], [8]), ([8], [8]), ([8], [8]), ([], []), ([12, 9, 7, 0, 1, 2, 3, 4, 5, 6, 7, 8, 9, 12], [9, 12]), ([10, 13, 0, 1, 2, 3, 4, 5, 6, 7, 8, 9, 10, 12, 13], [10]), ([11, 14, 0, 1, 2, 3, 4, 5, 6, 7, 8, 9, 10, 11, 12, 13, 14], [11])])
def R134.B6 : List Nat := [0, 0, 2, 7, 0, 16, 48, 127, 255, 511, 511, 511, 0, 5119, 14335, 32767]
theorem R134.tab6 : rtab .any (opsOf Tryz.f134 6) = R134.T6 := by kernel_rfl
theorem R134.bits6 : waitsOk R134.T6.2 R134.B6 = true := by kernel_rfl
theorem index_plain (nm r : List UInt8) (h : plainB nm = true) : Lib.indexByte (nm ++ 0 :: r) ((0 : Int).toNat.toUInt8) = nm.length := by
  have e : ((0 : Int).toNat.toUInt8) = 0 := rfl
  rw [e]
  induction nm with
  | nil => simp [Lib.indexByte]
  | cons x l ih =>
    simp only [plainB, List.all_cons, Bool.and_eq_true, decide_eq_true_eq] at h
    have hx : (x == 0) = false := by
      simp only [beq_eq_false_iff_ne, ne_eq]
      intro hx; exact h.1 (by rw [hx]; rfl)
    have := ih (by simpa [plainB] using h.2)
    simp only [List.cons_append, Lib.indexByte, hx, this, List.length_cons]
    have e2 : (((l.length : Int)) == -1) = false := by simp
    simp [e2]
theorem keyBytesErr (A : Option Addr) (c : Nat) (k0 : UInt8) (nm bl : List UInt8) (w : World) (hs : SB w A c (k0 :: (nm ++ 0 :: bl))) (hn : plainB nm = true) (hmax : (k0 :: (nm ++ 0 :: bl)).length ≤ 140737488355328) :
    Calls Tryz.prog 195 #[.slice A (k0 :: (nm ++ 0 :: bl)).length c] w fun e w' => ∃ A1 c1, e = .returned (.tuple #[.slice A1 nm.length c1, .nilIface]) ∧ SB w A1 c1 nm ∧ w = w' := by
  have t2 : SB w (A.map fun x : Addr => (⟨x.block, x.off + 1, none⟩ : Addr)) (c - 1) nm := by
    have hle := hs.le
    have hcap := hs.cap
    simp only [List.length_cons, List.length_append] at hle
    refine ⟨by omega, by omega, fun hp => ?_⟩
    obtain ⟨b, off, rfl, hc⟩ := hs.cells (by simp)
    refine ⟨b, off + 1, rfl, fun j hj => ?_⟩
    have h := hc (j + 1) (by simp; omega)
    rw [show off + 1 + j = off + (j + 1) from by omega, h]
    simp [hj]
  obtain ⟨l, hl⟩ : ∃ l, l = k0 :: (nm ++ 0 :: bl) := ⟨_, rfl⟩
  rw [← hl] at hs hmax ⊢
  have h2 : l.length = nm.length + 2 + bl.length := by rw [hl]; simp; omega
  have hd1 : l.drop 1 = nm ++ 0 :: bl := by rw [hl]; rfl
  have hd2 : l.drop (nm.length + 2) = bl := by rw [hl]; simp
  have hidx := index_plain nm bl hn
  rw [← hd1] at hidx
  have hlc := hs.le
  have hcc := hs.cap
  obtain ⟨A1, e1, s1⟩ := SB.from_ (P := Tryz.prog) Tryz.underlying182 rfl rfl .i64 A c l 1 (by omega) hs.le
  have e1' : ∀ W : World, (Instr.slice 182 (.slice A l.length c) (some (.int .i64 1)) none none).run Tryz.prog W = .ok (.slice A1 (l.drop 1).length (c - 1)) W := fun W => by rw [List.length_drop]; exact e1 W
  have t1 := s1 w hs
  obtain ⟨q, hq⟩ : ∃ q, q = nm.length := ⟨_, rfl⟩
  rw [← hq] at h2 hidx ⊢
  have hqm : ((q : Int) == -1) = false := by simp only [beq_eq_false_iff_ne, ne_eq]; omega
  have h20 : q + 2 ≤ l.length := by omega
  have HI := Lib.hid (bytesIndexByte A1 (c - 1) (l.drop 1) 0 w t1)
  rw [hidx] at HI
  obtain ⟨l1, hl1⟩ : ∃ x, x = (l.drop 1).length := ⟨_, rfl⟩
  rw [← hl1] at e1' HI
  have T2 := Lib.hid t2
  obtain ⟨p, hp⟩ : ∃ p, p = l.length := ⟨_, rfl⟩
  rw [← hp] at e1' hlc h20 hmax ⊢
  clear e1 s1 hl hd1 hn hd2 hq hs t1 t2 h2 hidx hl1 hp
  go_enter Tryz.func195, Tryz.ntmps195
  go_wp2_with fail
  refine HI.out.mono ?_
  rintro e w1 ⟨rfl, rfl⟩
  clear HI
  go_wp2_with fail
  exact bodyPost_ret (v := .tuple #[.slice (A.map fun x : Addr => (⟨x.block, x.off + 1, none⟩ : Addr)) q (c - 1), .nilIface]) (by simp [results, Tryz.results195, go_sem]) rfl ⟨_, _, rfl, T2.out, rfl⟩
/-- A variable of the call's own that was laid in between. -/
structure Vf (wR : World) (g : Nat) (w' : World) : Prop where
  c0 : w'.cell? ⟨g, 0, none⟩ = some (.int .u8 0)
  k1 : w'.cell? ⟨g, 1, none⟩ = some (.slice none 0 0)
  f0 : w'.frozen? ⟨g, 0, none⟩ = false
  f1 : w'.frozen? ⟨g, 1, none⟩ = false
  ge : wR.heap.size ≤ g
  lt : g < w'.heap.size
  below : Below wR.heap.size wR w'
theorem Vf.of_block {wR w' : World} {g : Nat} {T : TypeId} (hblk : w'.heap[g]? = some (.cells #[.int .u8 0, .slice none 0 0] T (0, 0))) (hge : wR.heap.size ≤ g) (hb : Below wR.heap.size wR w') : Vf wR g w' where
  c0 := by simp [World.cell?, hblk]
  k1 := by simp [World.cell?, hblk]
  f0 := by simp [World.frozen?, hblk]
  f1 := by simp [World.frozen?, hblk]
  ge := hge
  lt := (Array.getElem?_eq_some_iff.1 hblk).1
  below := hb
theorem Vf.stored {wR w' : World} {g : Nat} (h : Vf wR g w') (x y : Value) (w7 : World) (hw : w7 = (w'.setCell ⟨g, 0, none⟩ x).setCell ⟨g, 1, none⟩ y) :
    w7.cell? ⟨g, 0, none⟩ = some x ∧ w7.cell? ⟨g, 1, none⟩ = some y ∧ g < w7.heap.size ∧ Below wR.heap.size wR w7 := by
  subst hw
  have e : (⟨g, 0, none⟩ : Addr) ≠ ⟨g, 1, none⟩ := by simp
  have e' : (⟨g, 1, none⟩ : Addr) ≠ ⟨g, 0, none⟩ := by simp
  refine ⟨?_, ?_, ?_, (h.below.setCell h.ge _).setCell h.ge _⟩
  · rw [World.cell?_setCell_other _ _ _ _ e']; exact World.cell?_setCell_same _ _ _ h.c0
  · exact World.cell?_setCell_same (u := .slice none 0 0) _ _ _ (by rw [World.cell?_setCell_other _ _ _ _ e]; exact h.k1)
  · simpa [World.setCell] using h.lt
set_option maxHeartbeats 8000000 in
theorem valueErr (A : Option Addr) (c : Nat) (k0 : UInt8) (nm bl : List UInt8) (w : World) (hs : SB w A c (k0 :: (nm ++ 0 :: bl))) (hn : plainB nm = true) (hv : valLen (k0.toNat : Int) bl = ((bl.length : Int), true)) (hmax : (k0 :: (nm ++ 0 :: bl)).length ≤ 140737488355328) :
    Calls Tryz.prog 134 #[.slice A (k0 :: (nm ++ 0 :: bl)).length c] w fun e w' => ∃ A1 c1, e = .returned (.tuple #[.agg #[.int .u8 (k0.toNat : Int), .slice A1 bl.length c1], .nilIface]) ∧ (∀ wx, SB wx A c (k0 :: (nm ++ 0 :: bl)) → SB wx A1 c1 bl) ∧ Below w.heap.size w w' := by
  obtain ⟨l, hl⟩ : ∃ l, l = k0 :: (nm ++ 0 :: bl) := ⟨_, rfl⟩
  rw [← hl] at hs hmax ⊢
  have h2 : l.length = nm.length + 2 + bl.length := by rw [hl]; simp; omega
  have hd1 : l.drop 1 = nm ++ 0 :: bl := by rw [hl]; rfl
  have hd2 : l.drop (nm.length + 2) = bl := by rw [hl]; simp
  have hidx := index_plain nm bl hn
  rw [← hd1] at hidx
  have hlc := hs.le
  have hcc := hs.cap
  obtain ⟨A1, e1, s1⟩ := SB.from_ (P := Tryz.prog) Tryz.underlying182 rfl rfl .i64 A c l 1 (by omega) hs.le
  have e1' : ∀ W : World, (Instr.slice 182 (.slice A l.length c) (some (.int .i64 1)) none none).run Tryz.prog W = .ok (.slice A1 (l.drop 1).length (c - 1)) W := fun W => by rw [List.length_drop]; exact e1 W
  obtain ⟨A2, e2, s2⟩ := SB.from_ (P := Tryz.prog) Tryz.underlying182 rfl rfl .i64 A c l (nm.length + 2) (by omega) hs.le
  rw [hd2] at s2
  have hq0 : l.length - (nm.length + 2) = bl.length := by omega
  have e2' : ∀ W : World, (Instr.slice 182 (.slice A l.length c) (some (.int .i64 ((nm.length : Int) + 2))) none none).run Tryz.prog W = .ok (.slice A2 bl.length (c - (nm.length + 2))) W := fun W => by rw [← hq0]; exact e2 W
  have HI := Lib.hid (fun wx (h : Below w.heap.size w wx) => bytesIndexByte A1 (c - 1) (l.drop 1) 0 wx (s1 wx (hs.keep h)))
  rw [hidx] at HI
  obtain ⟨tt, htt⟩ : ∃ tt : Int, tt = (k0.toNat : Int) := ⟨_, rfl⟩
  have HV : Hid (∀ wx : World, Below w.heap.size w wx → Calls Tryz.prog 64 #[.slice A2 bl.length (c - (nm.length + 2)), .int .u8 (k0.toNat : Int)] wx fun e w' => ∃ A3 c3 A4 c4, e = .returned (.tuple #[.agg #[.int .u8 (k0.toNat : Int), .slice A3 bl.length c3], .slice A4 0 c4, .bool true]) ∧ (∀ wy, SB wy A c l → SB wy A3 c3 bl) ∧ Below wx.heap.size wx w') := Lib.hid fun wx h => by
    refine (readValueV_ok A2 (c - (nm.length + 2)) bl (k0.toNat : Int) bl.length wx (s2 wx (hs.keep h)) hv (Nat.le_refl _)).mono ?_
    rintro e w' ⟨A3, c3, A4, c4, rfl, hss, hb⟩
    refine ⟨A3, c3, A4, c4, by rw [Nat.sub_self], ?_, hb⟩
    intro wy hy
    have := (hss wy (s2 wy hy)).1
    rwa [List.take_length] at this
  obtain ⟨b, off, rfl, hc⟩ := hs.cells (by omega)
  have hc0 : w.cell? ⟨b, off, none⟩ = some (.int .u8 tt) := by
    have h := hc 0 (by omega)
    rw [htt]
    subst hl
    simpa using h
  obtain ⟨bl0, hbl0⟩ : ∃ x, x = bl := ⟨_, rfl⟩
  obtain ⟨r, hr⟩ : ∃ r, r = bl.length := ⟨_, rfl⟩
  rw [← htt] at HV ⊢
  rw [← hr] at HV e2' h2 ⊢
  obtain ⟨p, hp⟩ : ∃ p, p = nm.length := ⟨_, rfl⟩
  rw [← hp] at HV e2' h2 HI
  obtain ⟨l1, hl1⟩ : ∃ x, x = (l.drop 1).length := ⟨_, rfl⟩
  rw [← hl1] at e1' HI
  obtain ⟨q, hq⟩ : ∃ q, q = l.length := ⟨_, rfl⟩
  rw [← hq] at e1' e2' hmax h2 ⊢
  clear hs s1 s2 e1 e2 hl hd1 hd2 hidx hlc hcc hq0 hv hn hc hr hp hl1 hq htt hbl0 bl0
  have i1 : IntKind.i64.wrap ((p : Int) + 2) = (p : Int) + 2 := IntWalk.i64_in _ (by omega)
  have hpm : ((p : Int) == -1) = false := by simp only [beq_eq_false_iff_ne, ne_eq]; omega
  have hq1 : 0 < q := by omega
  have hq0 : ((q : Int) == 0) = false := by simp only [beq_eq_false_iff_ne, ne_eq]; omega
  clear h2
  go_enter Tryz.func134, Tryz.ntmps134
  go_wp2_with fail
  refine (HI.out _ (balloc (Below.refl _ _) (Nat.le_refl _) _)).mono ?_
  rintro e w1 ⟨rfl, hw⟩
  have hb1 : Below (w.heap.size + 1) (w.alloc (.cells #[.int .u8 0, .slice none 0 0] 73)) w1 := by
    rw [← hw]
    exact Below.refl _ _
  have hz1 := boxs hb1
  have hB1 := boxb hb1
  have hC0 : w1.cell? ⟨b, off, none⟩ = some (.int .u8 tt) := (hB1.cell (World.block_lt_of_cell? _ _ hc0)).trans hc0
  have HX1 := Lib.hid hb1
  clear HI hw hb1 hc0
  go_wp2_with fail
  refine start_ (n := 16) (S := fun w' => w'.cell? ⟨b, off, none⟩ = some (.int .u8 tt)) (ds := [13]) #[false, false, false, false, false, false, false, false, false, false, false, false, false, false, false, false] (by kernel_rfl) rfl rfl ((by exact hC0)) (fun hHeld => ?_)
  refine with_tabW R134.tab6 R134.bits6 (fun HT_ HW_ => ?_)
  refine pure_ (i := 0) (N := some 21) (v := ?_) (a' := ?_) #[true, false, false, false, false, false, false, false, false, false, false, false, false, false, false, false] rfl rfl (any_of HT_.out (by kernel_rfl)) (fun _ _ _ h => h) (Or.inl ⟨by rfl, ?_⟩) ?_ ?_
  rotate_left
  · intro w'
    go_simp
    with_reducible rfl
  rotate_left
  · simp only [Act.put, List.setIfInBounds_toArray, List.set_cons_zero, List.set_cons_succ, i64_w, i32_w]
    rfl
  refine pure_ (i := 1) (N := some 22) (v := ?_) (a' := ?_) #[true, true, false, false, false, false, false, false, false, false, false, false, false, false, false, false] rfl rfl (any_of HT_.out (by kernel_rfl)) (fun _ _ _ h => h) (Or.inl ⟨by rfl, ?_⟩) ?_ ?_
  rotate_left
  · intro w'
    go_simp
    with_reducible rfl
  rotate_left
  · simp only [Act.put, List.setIfInBounds_toArray, List.set_cons_zero, List.set_cons_succ, i64_w, i32_w]
    rfl
  refine pure_ (i := 2) (N := some 23) (v := ?_) (a' := ?_) #[true, true, true, false, false, false, false, false, false, false, false, false, false, false, false, false] rfl rfl (any_of HT_.out (by kernel_rfl)) (fun _ _ _ h => h) (Or.inl ⟨by rfl, ?_⟩) ?_ ?_
  rotate_left
  · intro w'
    go_simp
    with_reducible rfl
  rotate_left
  · simp only [Act.put, List.setIfInBounds_toArray, List.set_cons_zero, List.set_cons_succ, i64_w, i32_w]
    rfl
  refine pure_ (i := 3) (N := some 24) (v := ?_) (a' := ?_) #[true, true, true, true, false, false, false, false, false, false, false, false, false, false, false, false] rfl rfl (any_of HT_.out (by kernel_rfl)) (fun _ _ _ h => h) (Or.inl ⟨by rfl, ?_⟩) ?_ ?_
  rotate_left
  · intro w'
    go_simp
    with_reducible rfl
  rotate_left
  · simp only [Act.put, List.setIfInBounds_toArray, List.set_cons_zero, List.set_cons_succ, i64_w, i32_w]
    rfl
  refine pure_ (i := 4) (N := some 25) (v := ?_) (a' := ?_) #[true, true, true, true, true, false, false, false, false, false, false, false, false, false, false, false] rfl rfl (any_of HT_.out (by kernel_rfl)) (fun _ _ _ h => h) (Or.inl ⟨by rfl, ?_⟩) ?_ ?_
  rotate_left
  · intro w'
    go_simp
    with_reducible rfl
  rotate_left
  · simp only [Act.put, List.setIfInBounds_toArray, List.set_cons_zero, List.set_cons_succ, i64_w, i32_w]
    rfl
  refine pure_ (i := 5) (N := some 26) (v := ?_) (a' := ?_) #[true, true, true, true, true, true, false, false, false, false, false, false, false, false, false, false] rfl rfl (any_of HT_.out (by kernel_rfl)) (fun _ _ _ h => h) (Or.inl ⟨by rfl, ?_⟩) ?_ ?_
  rotate_left
  · intro w'
    go_simp
    with_reducible rfl
  rotate_left
  · simp only [Act.put, List.setIfInBounds_toArray, List.set_cons_zero, List.set_cons_succ, i64_w, i32_w]
    rfl
  refine take_ (i := 6) (N := some 27) (v := ?_) (a' := ?_) #[true, true, true, true, true, true, true, false, false, false, false, false, false, false, false, false] rfl rfl (take_ofW HT_.out HW_.out (by kernel_rfl)) (fun _ _ _ h => h) (Or.inl ⟨by rfl, ?_⟩) hHeld ?_ ?_
  rotate_left
  · intro w' s0
    go_simp
    with_reducible rfl
  rotate_left
  · simp only [Act.put, List.setIfInBounds_toArray, List.set_cons_zero, List.set_cons_succ, i64_w, i32_w]
    rfl
  refine join_ (σ := Option Addr × Nat × Option Addr × Nat × Nat) 3 #[true, true, true, true, true, true, true, true, true, true, true, true, true, false, false, false] (fun s => [(28, .tuple #[.agg #[.int .u8 tt, .slice s.1 r s.2.1], .slice s.2.2.1 0 s.2.2.2.1, .bool true]), (20, .tuple #[.agg #[.int .u8 tt, .slice s.1 r s.2.1], .slice s.2.2.1 0 s.2.2.2.1, .bool true]), (29, .agg #[.int .u8 tt, .slice s.1 r s.2.1]), (30, .slice s.2.2.1 0 s.2.2.2.1), (31, .bool true), (5, .pointer (some ⟨s.2.2.2.2, 0, none⟩))]) (fun s w' => (∀ wy, SB wy (some ⟨b, off, none⟩) c l → SB wy s.1 s.2.1 bl) ∧ Vf w1 s.2.2.2.2 w' ∧ w'.cell? ⟨b, off, none⟩ = some (.int .u8 tt)) ?_ ?_
  rotate_left
  · intro hCont
    refine two_ (i := 7) (j := 12) (Ni := some 28) (Nj := some 5) #[true, true, true, true, true, true, true, true, false, false, false, false, false, false, false, false] #[true, true, true, true, true, true, true, false, false, false, false, false, true, false, false, false] rfl rfl rfl rfl (two_of HT_.out (by kernel_rfl)) (by decide) (by decide) (fun K hK => ?_) (fun K hK => ?_)
    · skip
      refine goes_ Tryz.func64 (by kernel_rfl) rfl #[.slice A2 r (c - (p + 2)), .int .u8 tt] (by rfl) rfl rfl (by simp only [List.map_toArray, List.map_cons, List.map_nil]; rfl) ?_
      with_reducible refine (HV.out _ (hB1.trans (((bdrew (Below.refl _ _)) : Below w1.heap.size w1 _).mono (by omega)))).mono ?_
      rintro e wA ⟨A3, c3, A4, c4, rfl, hss, hba⟩
      refine ⟨_, rfl, ?_⟩
      have hsA : w1.heap.size ≤ wA.heap.size := by have := hba.size; simp at this; omega
      have hBA : Below w1.heap.size w1 wA := (bdrew (Below.refl _ _)).trans (hba.mono (by simp))
      refine hK.out _ _ ((hba.cell (World.block_lt_of_cell? _ _ hHeld)).trans hHeld) (fun hHeld => ?_)
      clear hK K
      refine norm_ (a' := ?_) ?_ ?_
      rotate_left
      · show Act.put _ (some 28) _ = _
        simp only [Act.put, List.setIfInBounds_toArray, List.set_cons_zero, List.set_cons_succ, i64_w, i32_w]
        rfl
      refine pure_ (i := 8) (N := some 20) (v := ?_) (a' := ?_) #[true, true, true, true, true, true, true, true, true, false, false, false, false, false, false, false] rfl rfl (any_of HT_.out (by kernel_rfl)) (fun _ _ _ h => h) (Or.inl ⟨by rfl, ?_⟩) ?_ ?_
      rotate_left
      · intro w'
        go_simp
        with_reducible rfl
      rotate_left
      · simp only [Act.put, List.setIfInBounds_toArray, List.set_cons_zero, List.set_cons_succ, i64_w, i32_w]
        rfl
      refine pure_ (i := 9) (N := some 29) (v := ?_) (a' := ?_) #[true, true, true, true, true, true, true, true, true, true, false, false, false, false, false, false] rfl rfl (any_of HT_.out (by kernel_rfl)) (fun _ _ _ h => h) (Or.inl ⟨by rfl, ?_⟩) ?_ ?_
      rotate_left
      · intro w'
        go_simp
        with_reducible rfl
      rotate_left
      · simp only [Act.put, List.setIfInBounds_toArray, List.set_cons_zero, List.set_cons_succ, i64_w, i32_w]
        rfl
      refine pure_ (i := 10) (N := some 30) (v := ?_) (a' := ?_) #[true, true, true, true, true, true, true, true, true, true, true, false, false, false, false, false] rfl rfl (any_of HT_.out (by kernel_rfl)) (fun _ _ _ h => h) (Or.inl ⟨by rfl, ?_⟩) ?_ ?_
      rotate_left
      · intro w'
        go_simp
        with_reducible rfl
      rotate_left
      · simp only [Act.put, List.setIfInBounds_toArray, List.set_cons_zero, List.set_cons_succ, i64_w, i32_w]
        rfl
      refine pure_ (i := 11) (N := some 31) (v := ?_) (a' := ?_) #[true, true, true, true, true, true, true, true, true, true, true, true, false, false, false, false] rfl rfl (any_of HT_.out (by kernel_rfl)) (fun _ _ _ h => h) (Or.inl ⟨by rfl, ?_⟩) ?_ ?_
      rotate_left
      · intro w'
        go_simp
        with_reducible rfl
      rotate_left
      · simp only [Act.put, List.setIfInBounds_toArray, List.set_cons_zero, List.set_cons_succ, i64_w, i32_w]
        rfl
      refine one_ (i := 12) (N := some 5) #[true, true, true, true, true, true, true, true, true, true, true, true, true, false, false, false] rfl rfl (one_of HT_.out (by kernel_rfl)) (by decide) (fun K hK => ?_)
      refine value_ (w1 := ?_) (v := ?_) (by rfl) rfl ?_ ?_
      rotate_left 2
      · go_simp
        constructor
        · rfl
        · rfl
      refine hK.out _ _ (((balloc (Below.refl _ _) (Nat.le_refl _) _).cell (World.block_lt_of_cell? _ _ hHeld)).trans hHeld) (fun hHeld => ?_)
      clear hK K
      refine norm_ (a' := ?_) ?_ ?_
      rotate_left
      · show Act.put _ (some 5) _ = _
        simp only [Act.put, List.setIfInBounds_toArray, List.set_cons_zero, List.set_cons_succ, i64_w, i32_w]
        rfl
      exact norm_ (by simp only [putAll, Act.put, List.setIfInBounds_toArray, List.set_cons_zero, List.set_cons_succ]) (hCont (A3, c3, A4, c4, wA.heap.size) _ ⟨hss, Vf.of_block (by exact heap_alloc_new wA _) (by show w1.heap.size ≤ wA.heap.size; omega) (balloc hBA hsA _), hHeld⟩)
    · skip
      refine value_ (w1 := ?_) (v := ?_) (by rfl) rfl ?_ ?_
      rotate_left 2
      · go_simp
        constructor
        · rfl
        · rfl
      refine hK.out _ _ (((balloc (Below.refl _ _) (Nat.le_refl _) _).cell (World.block_lt_of_cell? _ _ hHeld)).trans hHeld) (fun hHeld => ?_)
      clear hK K
      refine norm_ (a' := ?_) ?_ ?_
      rotate_left
      · show Act.put _ (some 5) _ = _
        simp only [Act.put, List.setIfInBounds_toArray, List.set_cons_zero, List.set_cons_succ, i64_w, i32_w]
        rfl
      refine one_ (i := 7) (N := some 28) #[true, true, true, true, true, true, true, true, false, false, false, false, true, false, false, false] rfl rfl (one_of HT_.out (by kernel_rfl)) (by decide) (fun K hK => ?_)
      refine goes_ Tryz.func64 (by kernel_rfl) rfl #[.slice A2 r (c - (p + 2)), .int .u8 tt] (by rfl) rfl rfl (by simp only [List.map_toArray, List.map_cons, List.map_nil]; rfl) ?_
      with_reducible refine (HV.out _ (hB1.trans (((bdrew (balloc (Below.refl _ _) (Nat.le_refl _) _)) : Below w1.heap.size w1 _).mono (by omega)))).mono ?_
      rintro e wA ⟨A3, c3, A4, c4, rfl, hss, hba⟩
      refine ⟨_, rfl, ?_⟩
      have hsA : w1.heap.size ≤ wA.heap.size := by have := hba.size; simp at this; omega
      have hBA : Below w1.heap.size w1 wA := (bdrew (balloc (Below.refl _ _) (Nat.le_refl _) _)).trans (hba.mono (by simp))
      refine hK.out _ _ ((hba.cell (World.block_lt_of_cell? _ _ hHeld)).trans hHeld) (fun hHeld => ?_)
      clear hK K
      refine norm_ (a' := ?_) ?_ ?_
      rotate_left
      · show Act.put _ (some 28) _ = _
        simp only [Act.put, List.setIfInBounds_toArray, List.set_cons_zero, List.set_cons_succ, i64_w, i32_w]
        rfl
      refine pure_ (i := 8) (N := some 20) (v := ?_) (a' := ?_) #[true, true, true, true, true, true, true, true, true, false, false, false, true, false, false, false] rfl rfl (any_of HT_.out (by kernel_rfl)) (fun _ _ _ h => h) (Or.inl ⟨by rfl, ?_⟩) ?_ ?_
      rotate_left
      · intro w'
        go_simp
        with_reducible rfl
      rotate_left
      · simp only [Act.put, List.setIfInBounds_toArray, List.set_cons_zero, List.set_cons_succ, i64_w, i32_w]
        rfl
      refine pure_ (i := 9) (N := some 29) (v := ?_) (a' := ?_) #[true, true, true, true, true, true, true, true, true, true, false, false, true, false, false, false] rfl rfl (any_of HT_.out (by kernel_rfl)) (fun _ _ _ h => h) (Or.inl ⟨by rfl, ?_⟩) ?_ ?_
      rotate_left
      · intro w'
        go_simp
        with_reducible rfl
      rotate_left
      · simp only [Act.put, List.setIfInBounds_toArray, List.set_cons_zero, List.set_cons_succ, i64_w, i32_w]
        rfl
      refine pure_ (i := 10) (N := some 30) (v := ?_) (a' := ?_) #[true, true, true, true, true, true, true, true, true, true, true, false, true, false, false, false] rfl rfl (any_of HT_.out (by kernel_rfl)) (fun _ _ _ h => h) (Or.inl ⟨by rfl, ?_⟩) ?_ ?_
      rotate_left
      · intro w'
        go_simp
        with_reducible rfl
      rotate_left
      · simp only [Act.put, List.setIfInBounds_toArray, List.set_cons_zero, List.set_cons_succ, i64_w, i32_w]
        rfl
      refine pure_ (i := 11) (N := some 31) (v := ?_) (a' := ?_) #[true, true, true, true, true, true, true, true, true, true, true, true, true, false, false, false] rfl rfl (any_of HT_.out (by kernel_rfl)) (fun _ _ _ h => h) (Or.inl ⟨by rfl, ?_⟩) ?_ ?_
      rotate_left
      · intro w'
        go_simp
        with_reducible rfl
      rotate_left
      · simp only [Act.put, List.setIfInBounds_toArray, List.set_cons_zero, List.set_cons_succ, i64_w, i32_w]
        rfl
      exact norm_ (by simp only [putAll, Act.put, List.setIfInBounds_toArray, List.set_cons_zero, List.set_cons_succ]) (hCont (A3, c3, A4, c4, w1.heap.size) _ ⟨hss, Vf.of_block (by rw [hba.block _ (by simp)]; exact heap_alloc_new w1 _) (by show w1.heap.size ≤ w1.heap.size; omega) (hBA), hHeld⟩)
  rintro ⟨A3, c3, A4, c4, g⟩ w6 ⟨hss, hVf, hHeld⟩
  have RC0 := hVf.c0
  have RC1 := hVf.k1
  have RF0 := hVf.f0
  have RF1 := hVf.f1
  have HVF := Lib.hid hVf
  have HSS := Lib.hid hss
  clear hVf hss
  refine norm_ (a' := ?_) ?_ ?_
  rotate_left
  · simp only [putAll, Act.put, List.setIfInBounds_toArray, List.set_cons_zero, List.set_cons_succ]
    rfl
  refine last_ (i := 13) (N := none) #[true, true, true, true, true, true, true, true, true, true, true, true, true, true, false, false] rfl rfl (one_of HT_.out (by kernel_rfl)) (by decide) (fun K hK => ?_)
  refine skip_ (w1 := ?_) (by rfl) rfl ?_ ?_
  rotate_left
  · go_simp
    rfl
  refine hK.out _ _ ?_
  clear hK K
  refine pure_ (i := 14) (N := some 6) (v := ?_) (a' := ?_) #[true, true, true, true, true, true, true, true, true, true, true, true, true, true, true, false] rfl rfl (any_of HT_.out (by kernel_rfl)) (fun _ _ _ h => h) (Or.inl ⟨by rfl, ?_⟩) ?_ ?_
  rotate_left
  · intro w'
    go_simp
    with_reducible rfl
  rotate_left
  · simp only [Act.put, List.setIfInBounds_toArray, List.set_cons_zero, List.set_cons_succ, i64_w, i32_w]
    rfl
  refine pure_ (i := 15) (N := some 7) (v := ?_) (a' := ?_) #[true, true, true, true, true, true, true, true, true, true, true, true, true, true, true, true] rfl rfl (any_of HT_.out (by kernel_rfl)) (fun _ _ _ h => h) (Or.inl ⟨by rfl, ?_⟩) ?_ ?_
  rotate_left
  · intro w'
    go_simp
    with_reducible rfl
  rotate_left
  · simp only [Act.put, List.setIfInBounds_toArray, List.set_cons_zero, List.set_cons_succ, i64_w, i32_w]
    rfl
  refine done_ (done_of HT_.out (by kernel_rfl)) ?_
  obtain ⟨w7, hw7⟩ : ∃ x, x = (w6.setCell ⟨g, 0, none⟩ (.int .u8 tt)).setCell ⟨g, 1, none⟩ (.slice A3 r c3) := ⟨_, rfl⟩
  obtain ⟨g0, g1, hgl, hb7⟩ := HVF.out.stored _ _ w7 hw7
  rw [← hw7]
  have hX7 := HX1.out.trans (hb7.mono hz1)
  have q0 := boxc hX7 0
  have q1 := boxc hX7 1
  simp only [List.getElem?_cons_succ, List.getElem?_cons_zero] at q0 q1
  have f0 := boxf hX7 0
  have f1 := boxf hX7 1
  have hz7 := boxs hX7
  have hlt7 : w.heap.size < w7.heap.size := by omega
  have HB7 := Lib.hid (boxb hX7)
  clear HVF RC0 RC1 RF0 RF1 hw7 hb7 hX7 HX1 hHeld HV
  go_wp2_with fail
  exact bodyPost_ret (v := .tuple #[.agg #[.int .u8 tt, .slice A3 r c3], .nilIface]) (by simp [results, Tryz.results134, go_sem, q0, q1]) rfl ⟨A3, c3, rfl, HSS.out, (HB7.out.setCell (Nat.le_refl _) _).setCell (Nat.le_refl _) _⟩
end Go.Proofs.YtbpopaegfhcdpaaGreatDoor.X


/- The value of a right element, and when two raw values are the same. -/
set_option linter.unusedVariables false
set_option linter.unusedSimpArgs false
set_option maxRecDepth 100000
namespace Go.Proofs.YtbpopaegfhcdpaaGreatDoor.X
open Go.RowKit Go.Proofs.YtbpopaegfhcdpaaGreatDoorW.PrintLast

end Go.Proofs.YtbpopaegfhcdpaaGreatDoor.X


/- Names and values of elements, for all bytes, with the codes of their errors. -/
set_option linter.unusedVariables false
set_option linter.unusedSimpArgs false
set_option maxRecDepth 100000
namespace Go.Proofs.YtbpopaegfhcdpaaGreatDoor.X
open Go.RowKit Go.Proofs.YtbpopaegfhcdpaaGreatDoorW.PrintLast
namespace Al
def R134.T6 : Bool × List (List Nat × List Nat) := (true, [([], []), ([], []), ([1], [1]), ([0, 2], [0, 2]), ([], []), ([4], [4]), ([5], [5]), ([3, 6], [3, 6]), ([7], [7]), ([8], [8]), ([8], [8]), ([8], [8]), ([], []), ([12, 9, 7, 0, 1, 2, 3, 4, 5, 6, 7, 8, 9, 12], [9, 12]), ([10, 13, 0, 1, 2, 3, 4, 5, 6, 7, 8, 9, 10, 12, 13], [10]), ([11, 14, 0, 1, 2, 3, 4, 5, 6, 7, 8, 9, 10, 11, 12, 13, 14], [11])])
def R134.B6 : List Nat := [0, 0, 2, 7, 0, 16, 48, 127, 255, 511, 511, 511, 0, 5119, 14335, 32767]
theorem R134.tab6 : rtab .any (opsOf Tryz.f134 6) = R134.T6 := by kernel_rfl
theorem R134.bits6 : waitsOk R134.T6.2 R134.B6 = true := by kernel_rfl
theorem idx_split : ∀ (r : List UInt8), Lib.indexByte r ((0 : Int).toNat.toUInt8) = -1 ∨ ∃ nm bl, r = nm ++ 0 :: bl ∧ plainB nm = true
  | [] => Or.inl rfl
  | x :: r => by
    by_cases hx : x = 0
    · subst hx; exact Or.inr ⟨[], r, rfl, rfl⟩
    · rcases idx_split r with h | ⟨nm, bl, rfl, hp⟩
      · left
        have hb : (x == ((0 : Int).toNat.toUInt8)) = false := by
          rw [beq_eq_false_iff_ne]; exact hx
        simp only [Lib.indexByte, hb, h]
        rfl
      · exact Or.inr ⟨x :: nm, bl, rfl, by simp only [plainB, List.all_cons, Bool.and_eq_true, decide_eq_true_eq] at hp ⊢; exact ⟨fun h => hx (UInt8.toNat_inj.1 (by simpa using h)), hp⟩⟩
end Al
end Go.Proofs.YtbpopaegfhcdpaaGreatDoor.X


/- Validate of values and elements, for all bytes, with its codes. -/
set_option linter.unusedVariables false
set_option linter.unusedSimpArgs false
set_option maxRecDepth 100000
namespace Go.Proofs.YtbpopaegfhcdpaaGreatDoor.X
open Go.RowKit Go.Proofs.YtbpopaegfhcdpaaGreatDoorW.PrintLast
namespace Av
open Al
def R194.T6 : Bool × List (List Nat × List Nat) := (true, [([], []), ([0], [0]), ([1], [1]), ([], []), ([], []), ([4], [4]), ([3, 5], [3, 5]), ([2, 6], [2, 6]), ([7], [7]), ([8, 8, 0, 1, 2, 3, 4, 5, 6, 7, 8], [8])])
def R194.B6 : List Nat := [0, 1, 3, 0, 0, 16, 56, 127, 255, 511]
theorem R194.tab6 : rtab .any (opsOf Tryz.f194 6) = R194.T6 := by kernel_rfl
theorem R194.bits6 : waitsOk R194.T6.2 R194.B6 = true := by kernel_rfl
end Av
end Go.Proofs.YtbpopaegfhcdpaaGreatDoor.X


/- Contract of bsoncore.ReadElement, where an element begins the bytes. -/
set_option linter.unusedVariables false
set_option linter.unusedSimpArgs false
set_option maxRecDepth 100000
namespace Go.Proofs.YtbpopaegfhcdpaaGreatDoor.X
open Go.RowKit Go.Proofs.YtbpopaegfhcdpaaGreatDoorW.PrintLast
def R128.T16 : Bool × List (List Nat × List Nat) := (true, [([], []), ([], []), ([0, 1], [0, 1]), ([], []), ([], []), ([3, 4], [3, 4]), ([2, 0, 1, 2], [2]), ([5, 6, 0, 1, 2, 3, 4, 5, 6], [5]), ([7, 0, 1, 2, 3, 4, 5, 6, 7], [])])
def R128.B16 : List Nat := [0, 0, 3, 0, 0, 24, 7, 127, 255]
theorem R128.tab16 : rtab .any (opsOf Tryz.f128 16) = R128.T16 := by kernel_rfl
theorem R128.bits16 : waitsOk R128.T16.2 R128.B16 = true := by kernel_rfl
set_option maxRecDepth 100000 in
set_option maxHeartbeats 4000000 in
theorem readElement_ok (A : Option Addr) (c : Nat) (t : UInt8) (nm rest : List UInt8) (n : Nat) (w : World) (hs : SB w A c (t :: (nm ++ 0 :: rest))) (hnm : ∀ x ∈ nm, x ≠ 0) (hv : valLen t.toNat rest = ((n : Int), true)) (hn : n ≤ rest.length) (hmax : (t :: (nm ++ 0 :: rest)).length ≤ 140737488355328) :
    Calls Tryz.prog 128 #[.slice A (t :: (nm ++ 0 :: rest)).length c] w fun e w' => ∃ A1 c1 A2 c2, e = .returned (.tuple #[.slice A1 (nm.length + 2 + n) c1, .slice A2 (rest.length - n) c2, .bool true]) ∧ (∀ wx, SB wx A c (t :: (nm ++ 0 :: rest)) → SB wx A1 c1 (t :: (nm ++ 0 :: rest.take n)) ∧ SB wx A2 c2 (rest.drop n)) ∧ Below w.heap.size w w' := by
  have hlc := hs.le
  have hcc := hs.cap
  have hbd := valLen_bd t.toNat rest
  rw [hv] at hbd
  have hbd2 : (n : Int) ≤ 2147483647 := hbd.2
  clear hbd
  obtain ⟨L, hL⟩ : ∃ L, L = t :: (nm ++ 0 :: rest) := ⟨_, rfl⟩
  have hLl : L.length = nm.length + 2 + rest.length := by rw [hL]; simp; omega
  rw [← hL] at hs hlc hmax ⊢
  have hd1 : L.drop (nm.length + 2) = rest := by rw [hL]; simp
  have htk : L.take (nm.length + 2 + n) = t :: (nm ++ 0 :: rest.take n) := by
    rw [hL, show t :: (nm ++ 0 :: rest) = (t :: (nm ++ [0])) ++ rest from by simp, show nm.length + 2 + n = (t :: (nm ++ [0])).length + n from by simp <;> omega, List.take_length_add_append]
    simp
  have hdp : L.drop (nm.length + 2 + n) = rest.drop n := by rw [← hd1, List.drop_drop]
  obtain ⟨A0, e0, s0⟩ := SB.from_ (P := Tryz.prog) Tryz.underlying22 rfl rfl .i64 A c L (nm.length + 2) (by omega) hlc
  obtain ⟨A1, e1, s1⟩ := SB.to_ (P := Tryz.prog) Tryz.underlying22 rfl rfl .i64 A c L (nm.length + 2 + n) (by omega) hlc
  obtain ⟨A2, e2, s2⟩ := SB.from_ (P := Tryz.prog) Tryz.underlying22 rfl rfl .i64 A c L (nm.length + 2 + n) (by omega) hlc
  rw [hd1] at s0
  rw [htk] at s1
  rw [hdp] at s2
  have HV := Lib.hid (fun wx (h : Below w.heap.size w wx) => valueLength A0 (c - (nm.length + 2)) rest t.toNat wx (s0 wx (hs.keep h)))
  rw [hv] at HV
  have HS := Lib.hid (fun wx (h : SB wx A c L) => And.intro (s1 wx h) (s2 wx h))
  obtain ⟨b, off, rfl, hc⟩ := hs.cells (by omega)
  have hc0 : w.cell? ⟨b, off, none⟩ = some (.int .u8 (t.toNat : Int)) := by have h := hc 0 (by omega); simpa [hL] using h
  have HCm : Hid (∀ m, m < nm.length → ∃ x : Int, w.cell? ⟨b, off + (m + 1), none⟩ = some (.int .u8 x) ∧ (x == 0) = false) := Lib.hid fun m hm => by
    refine ⟨_, hc (m + 1) (by omega), ?_⟩
    have hx : L[m + 1]'(by omega) = nm[m] := by simp only [hL, List.getElem_cons_succ]; rw [List.getElem_append_left hm]
    have h0 := hnm nm[m] (List.getElem_mem hm)
    rw [beq_eq_false_iff_ne, hx]
    intro h
    exact h0 (UInt8.toNat_inj.1 (by simpa using h))
  have HCz : Hid (w.cell? ⟨b, off + (nm.length + 1), none⟩ = some (.int .u8 0)) := Lib.hid (by
    have h := hc (nm.length + 1) (by omega)
    have hx : L[nm.length + 1]'(by omega) = 0 := by simp only [hL, List.getElem_cons_succ]; rw [List.getElem_append_right (by omega)]; simp
    rw [hx] at h
    exact h)
  obtain ⟨tt, htt⟩ : ∃ tt : Int, tt = (t.toNat : Int) := ⟨_, rfl⟩
  rw [← htt] at hc0 HV
  have hq0 : L.length - (nm.length + 2) = rest.length := by omega
  have hq2 : L.length - (nm.length + 2 + n) = rest.length - n := by omega
  rw [hq0] at e0
  rw [hq2] at e2
  obtain ⟨q, hq⟩ : ∃ q, q = L.length := ⟨_, rfl⟩
  obtain ⟨p, hp⟩ : ∃ p, p = nm.length := ⟨_, rfl⟩
  obtain ⟨r, hr⟩ : ∃ r, r = rest.length := ⟨_, rfl⟩
  rw [← hq] at e0 e1 e2 hmax hlc hLl ⊢
  rw [← hp] at e0 e1 e2 HV HS HCm HCz hLl ⊢
  rw [← hr] at e0 e2 HV hLl hn ⊢
  have e0' : ∀ W : World, (Instr.slice 22 (.slice (some ⟨b, off, none⟩) q c) (some (.int .i64 ((p : Int) + 1 + 1))) none none).run Tryz.prog W = .ok (.slice A0 r (c - (p + 2))) W := fun W => by have h := e0 W; rw [show ((p + 2 : Nat) : Int) = (p : Int) + 1 + 1 from by omega] at h; exact h
  have e1' : ∀ W : World, (Instr.slice 22 (.slice (some ⟨b, off, none⟩) q c) none (some (.int .i64 ((p : Int) + 1 + 1 + (n : Int)))) none).run Tryz.prog W = .ok (.slice A1 (p + 2 + n) c) W := fun W => by have h := e1 W; rw [show ((p + 2 + n : Nat) : Int) = (p : Int) + 1 + 1 + (n : Int) from by omega] at h; exact h
  have e2' : ∀ W : World, (Instr.slice 22 (.slice (some ⟨b, off, none⟩) q c) (some (.int .i64 ((p : Int) + 1 + 1 + (n : Int)))) none none).run Tryz.prog W = .ok (.slice A2 (r - n) (c - (p + 2 + n))) W := fun W => by have h := e2 W; rw [show ((p + 2 + n : Nat) : Int) = (p : Int) + 1 + 1 + (n : Int) from by omega] at h; exact h
  have HLl := Lib.hid hLl
  clear hs s0 s1 s2 e0 e1 e2 hd1 htk hdp hL hq hp hr htt hq0 hq2 hv hnm hc
  have hq1 : (1 : Int) ≤ q := by omega
  have hpq : p + 2 ≤ q := by omega
  have hnq : p + 2 + n ≤ q := by omega
  clear hLl
  go_enter Tryz.func128, Tryz.ntmps128
  go_wp2
  go_loop [6] (fun i => ∃ m : Nat, m ≤ p ∧ i = .int .i64 ((m : Int) + 1)) (fun i => p + 1 - (intOf i).toNat)
  case atStart => exact ⟨0, Nat.zero_le _, rfl⟩
  case round =>
    obtain ⟨m, hm, rfl⟩ := hrel
    by_cases hlt : m < p
    · obtain ⟨x, hx, hx0⟩ := HCm.out m hlt
      have g1 : (m : Int) + 1 < q := by omega
      have g2 : ((m : Int) + 1).toNat = m + 1 := by omega
      go_wp2
      go_round
      case rel => exact ⟨m + 1, by omega, by go_num⟩
      case measure => simp [intOf]; omega
    · obtain rfl : m = p := by omega
      have hz := HCz.out
      have g1 : (m : Int) + 1 < q := by omega
      have g2 : ((m : Int) + 1).toNat = m + 1 := by omega
      clear HCm HCz hlt
      go_wp2_with fail
      refine (HV.out _ (Below.refl _ _)).mono ?_
      rintro e w1 ⟨rfl, hb⟩
      have HB := Lib.hid hb
      clear hb HV
      go_wp2_with fail
      have i1 : IntKind.i64.wrap ((m : Int) + 1 + 1 + (n : Int)) = (m : Int) + 1 + 1 + (n : Int) := IntWalk.i64_in _ (by omega)
      refine start_ (n := 9) (S := fun w' => True) (ds := []) #[false, false, false, false, false, false, false, false, false] (by kernel_rfl) rfl rfl trivial (fun hHeld => ?_)
      refine with_tabW R128.tab16 R128.bits16 (fun HT_ HW_ => ?_)
      refine pure_ (i := 0) (N := some 57) (v := ?_) (a' := ?_) #[true, false, false, false, false, false, false, false, false] rfl rfl (any_of HT_.out (by kernel_rfl)) (fun _ _ _ h => h) (Or.inl ⟨by rfl, ?_⟩) ?_ ?_
      rotate_left
      · intro w'
        go_simp
        with_reducible rfl
      rotate_left
      · simp only [Act.put, List.setIfInBounds_toArray, List.set_cons_zero, List.set_cons_succ, i64_w, i32_w]
        rfl
      refine pure_ (i := 1) (N := some 58) (v := ?_) (a' := ?_) #[true, true, false, false, false, false, false, false, false] rfl rfl (any_of HT_.out (by kernel_rfl)) (fun _ _ _ h => h) (Or.inl ⟨by rfl, ?_⟩) ?_ ?_
      rotate_left
      · intro w'
        go_simp
        with_reducible rfl
      rotate_left
      · simp only [Act.put, List.setIfInBounds_toArray, List.set_cons_zero, List.set_cons_succ, i64_w, i32_w]
        rfl
      refine pure_ (i := 2) (N := some 59) (v := ?_) (a' := ?_) #[true, true, true, false, false, false, false, false, false] rfl rfl (any_of HT_.out (by kernel_rfl)) (fun _ _ _ h => h) (Or.inl ⟨by rfl, ?_⟩) ?_ ?_
      rotate_left
      · intro w'
        go_simp
        with_reducible rfl
      rotate_left
      · simp only [Act.put, List.setIfInBounds_toArray, List.set_cons_zero, List.set_cons_succ, i64_w, i32_w]
        rfl
      refine pure_ (i := 3) (N := some 60) (v := ?_) (a' := ?_) #[true, true, true, true, false, false, false, false, false] rfl rfl (any_of HT_.out (by kernel_rfl)) (fun _ _ _ h => h) (Or.inl ⟨by rfl, ?_⟩) ?_ ?_
      rotate_left
      · intro w'
        go_simp
        with_reducible rfl
      rotate_left
      · simp only [Act.put, List.setIfInBounds_toArray, List.set_cons_zero, List.set_cons_succ, i64_w, i32_w]
        rfl
      refine pure_ (i := 4) (N := some 61) (v := ?_) (a' := ?_) #[true, true, true, true, true, false, false, false, false] rfl rfl (any_of HT_.out (by kernel_rfl)) (fun _ _ _ h => h) (Or.inl ⟨by rfl, ?_⟩) ?_ ?_
      rotate_left
      · intro w'
        go_simp
        with_reducible rfl
      rotate_left
      · simp only [Act.put, List.setIfInBounds_toArray, List.set_cons_zero, List.set_cons_succ, i64_w, i32_w]
        rfl
      refine pure_ (i := 5) (N := some 62) (v := ?_) (a' := ?_) #[true, true, true, true, true, true, false, false, false] rfl rfl (any_of HT_.out (by kernel_rfl)) (fun _ _ _ h => h) (Or.inl ⟨by rfl, ?_⟩) ?_ ?_
      rotate_left
      · intro w'
        go_simp
        with_reducible rfl
      rotate_left
      · simp only [Act.put, List.setIfInBounds_toArray, List.set_cons_zero, List.set_cons_succ, i64_w, i32_w]
        rfl
      refine pure_ (i := 6) (N := some 2) (v := ?_) (a' := ?_) #[true, true, true, true, true, true, true, false, false] rfl rfl (any_of HT_.out (by kernel_rfl)) (fun _ _ _ h => h) (Or.inl ⟨by rfl, ?_⟩) ?_ ?_
      rotate_left
      · intro w'
        go_simp
        with_reducible rfl
      rotate_left
      · simp only [Act.put, List.setIfInBounds_toArray, List.set_cons_zero, List.set_cons_succ, i64_w, i32_w]
        rfl
      refine pure_ (i := 7) (N := some 3) (v := ?_) (a' := ?_) #[true, true, true, true, true, true, true, true, false] rfl rfl (any_of HT_.out (by kernel_rfl)) (fun _ _ _ h => h) (Or.inl ⟨by rfl, ?_⟩) ?_ ?_
      rotate_left
      · intro w'
        go_simp
        with_reducible rfl
      rotate_left
      · simp only [Act.put, List.setIfInBounds_toArray, List.set_cons_zero, List.set_cons_succ, i64_w, i32_w]
        rfl
      refine pure_ (i := 8) (N := some 4) (v := ?_) (a' := ?_) #[true, true, true, true, true, true, true, true, true] rfl rfl (any_of HT_.out (by kernel_rfl)) (fun _ _ _ h => h) (Or.inl ⟨by rfl, ?_⟩) ?_ ?_
      rotate_left
      · intro w'
        go_simp
        with_reducible rfl
      rotate_left
      · simp only [Act.put, List.setIfInBounds_toArray, List.set_cons_zero, List.set_cons_succ, i64_w, i32_w]
        rfl
      refine done_ (done_of HT_.out (by kernel_rfl)) ?_
      go_wp2_with fail
      exact bodyPost_ret (v := .tuple #[.slice A1 (m + 2 + n) c, .slice A2 (r - n) (c - (m + 2 + n)), .bool true]) (by simp [results, Tryz.results128, go_sem]) rfl ⟨A1, c, A2, c - (m + 2 + n), rfl, HS.out, bdrew HB.out⟩
end Go.Proofs.YtbpopaegfhcdpaaGreatDoor.X


/- Contract of bsoncore.ReadElement, where no element begins the bytes. -/
set_option linter.unusedVariables false
set_option linter.unusedSimpArgs false
set_option maxRecDepth 100000
namespace Go.Proofs.YtbpopaegfhcdpaaGreatDoor.X
open Go.RowKit Go.Proofs.YtbpopaegfhcdpaaGreatDoorW.PrintLast
end Go.Proofs.YtbpopaegfhcdpaaGreatDoor.X


/- impl.Validate where the length is above the bytes. -/
set_option linter.unusedVariables false
set_option linter.unusedSimpArgs false
set_option maxRecDepth 100000
namespace Go.Proofs.YtbpopaegfhcdpaaGreatDoor.X
open Go.RowKit Go.Proofs.YtbpopaegfhcdpaaGreatDoorW.PrintLast
namespace Aw

/-- Neither of two messages. -/
def OtherMsg (s : ByteArray) : Prop := (s.toList == ([100, 111, 99, 117, 109, 101, 110, 116, 32, 111, 114, 32, 97, 114, 114, 97, 121, 32, 108, 101, 110, 103, 116, 104, 32, 105, 115, 32, 105, 110, 118, 97, 108, 105, 100] : List UInt8)) = false ∧ (s.toList == ([100, 111, 99, 117, 109, 101, 110, 116, 32, 111, 114, 32, 97, 114, 114, 97, 121, 32, 101, 110, 100, 32, 105, 115, 32, 109, 105, 115, 115, 105, 110, 103, 32, 110, 117, 108, 108, 32, 98, 121, 116, 101] : List UInt8)) = false
theorem lengthErr (n m : Int) (w : World) :
    Calls Tryz.prog 193 #[.int .i64 n, .int .i64 m] w fun e w' => ∃ s, e = .returned (.iface 190 (.string s)) ∧ OtherMsg s ∧ Below w.heap.size w w' := by
  have HL : Hid (Calls Tryz.prog 222 #[.string ⟨#[100, 111, 99, 117, 109, 101, 110, 116]⟩, .int .i64 n, .int .i64 m] w fun e w' => ∃ s, e = .returned (.iface 190 (.string s)) ∧ OtherMsg s ∧ Below w.heap.size w w') := Lib.hid (by
    go_enter Tryz.func222, Tryz.ntmps222
    go_wp2_with fail
    go_ret
    exact ⟨_, rfl, ⟨by decide +kernel, by decide +kernel⟩, Below.refl _ _⟩)
  go_enter Tryz.func193, Tryz.ntmps193
  go_wp2_with fail
  refine HL.out.mono ?_
  rintro e w1 ⟨s, rfl, hs, hb⟩
  have HS := Lib.hid hs
  clear hs HL
  go_wp2_with fail
  go_ret
  exact ⟨s, rfl, HS.out, hb⟩
theorem code_len (s : ByteArray) (h : OtherMsg s) (w : World) : Calls Tryz.prog 71 #[.iface 190 (.string s)] w fun e w' => e = .returned (.int .i64 4) ∧ Below w.heap.size w w' := by
  have t1 : ∀ W : World, (Instr.typeAssert (.iface 190 (.string s)) 126 180 true).run Tryz.prog W = .ok (.tuple #[.agg #[.slice none 0 0, .slice none 0 0], .bool false]) W := fun W => by rfl
  have t2 : ∀ W : World, (Instr.typeAssert (.iface 190 (.string s)) 126 190 true).run Tryz.prog W = .ok (.tuple #[.string s, .bool true]) W := fun W => by rfl
  obtain ⟨h1, h2⟩ := h
  go_enter Tryz.func71, Tryz.ntmps71
  go_wp2
  go_ret
  exact ⟨rfl, Below.refl _ _⟩
theorem w64m {m : Int} (h0 : 0 ≤ m) (h1 : m ≤ 2147483647) : wrap64 m = m := by unfold wrap64; omega
theorem docLenErr (A : Option Addr) (c n : Nat) (l : List UInt8) (m : Int) (w : World) (hn : n = l.length) (hs : SB w A c l) (hr : readLen l = (m, true)) (hm : (l.length : Int) < m) :
    Calls Tryz.prog 123 #[.slice A n c] w fun e w' => ∃ s, e = .returned (.iface 190 (.string s)) ∧ OtherMsg s ∧ Below w.heap.size w w' := by
  have HL : Hid (Calls Tryz.prog 114 #[.slice A n c] w fun e w' => ∃ A1 n1 c1, e = .returned (.tuple #[.int .i32 m, .slice A1 n1 c1, .bool true]) ∧ Below w.heap.size w w') := Lib.hid (by
    subst hn
    refine (readLength A c l w hs).mono ?_
    rintro e w' ⟨A1, n1, c1, rfl, -, -, hb⟩
    exact ⟨A1, n1, c1, by rw [hr], hb⟩)
  rw [← hn] at hm
  have hwm : wrap64 m = m := w64m (by omega) (by have := readLen_bd l; rw [hr] at this; exact this.2)
  have HE := Lib.hid (fun w => lengthErr m (n : Int) w)
  clear hs hr hn
  go_enter Tryz.func123, Tryz.ntmps123
  go_wp2_with fail
  refine HL.out.mono ?_
  rintro e w1 ⟨A1, n1, c1, rfl, hb⟩
  go_wp2_with fail
  refine (HE.out w1).mono ?_
  rintro e w2 ⟨s, rfl, hs, hb2⟩
  have HS := Lib.hid hs
  have HB := Lib.hid (hb.trans (hb2.mono hb.size))
  clear hs hb2 HE HL
  go_wp2_with fail
  go_ret
  exact ⟨s, rfl, HS.out, HB.out⟩
theorem valLenErr (A : Option Addr) (c n : Nat) (l : List UInt8) (m : Int) (w : World) (hn : n = l.length) (hs : SB w A c l) (hr : readLen l = (m, true)) (hm : (l.length : Int) < m) :
    Calls Tryz.prog 66 #[.slice A n c] w fun e w' => e = .returned (.int .i64 4) ∧ Below w.heap.size w w' := by
  have HV := Lib.hid (docLenErr A c n l m w hn hs hr hm)
  clear hn hs hr hm
  go_enter Tryz.func66, Tryz.ntmps66
  go_wp2_with fail
  refine HV.out.mono ?_
  rintro e w1 ⟨s, rfl, hs, hb⟩
  have HC := Lib.hid (code_len s hs w1)
  clear hs HV
  go_wp2_with fail
  refine HC.out.mono ?_
  rintro e w2 ⟨rfl, hb2⟩
  have HB := Lib.hid (hb.trans (hb2.mono hb.size))
  clear hb2 HC
  go_wp2_with fail
  go_ret
  exact ⟨rfl, HB.out⟩
end Aw
end Go.Proofs.YtbpopaegfhcdpaaGreatDoor.X


/- Document.Validate for all bytes, with its codes. -/
set_option linter.unusedVariables false
set_option linter.unusedSimpArgs false
set_option maxRecDepth 100000
namespace Go.Proofs.YtbpopaegfhcdpaaGreatDoor.X
open Go.RowKit Go.Proofs.YtbpopaegfhcdpaaGreatDoorW.PrintLast
namespace Ck
open Sp Al Av Aw

end Ck
end Go.Proofs.YtbpopaegfhcdpaaGreatDoor.X


/- Array.Validate for all bytes, with its codes. -/
set_option linter.unusedVariables false
set_option linter.unusedSimpArgs false
set_option maxRecDepth 100000
namespace Go.Proofs.YtbpopaegfhcdpaaGreatDoor
end Go.Proofs.YtbpopaegfhcdpaaGreatDoor
namespace Go.Proofs.YtbpopaegfhcdpaaGreatDoor.X
open Go.RowKit Go.Proofs.YtbpopaegfhcdpaaGreatDoorW.PrintLast
namespace Ck
open Sp Al Av Aw
end Ck
end Go.Proofs.YtbpopaegfhcdpaaGreatDoor.X


/- spec.DocFirst, docPart and DocGood. -/
set_option linter.unusedVariables false
set_option linter.unusedSimpArgs false
set_option maxRecDepth 100000
namespace Go.Proofs.YtbpopaegfhcdpaaGreatDoor.X
open Go.RowKit Go.Proofs.YtbpopaegfhcdpaaGreatDoorW.PrintLast Go.Proofs.YtbpopaegfhcdpaaGreatDoorW.PrintWords
open Go.Proofs.YtbpopaegfhcdpaaGreatDoor.PFnDocAnyLookup
namespace Ck
open Sp Al Av Aw
def R124.T6 : Bool × List (List Nat × List Nat) := (true, [([], []), ([0], [0]), ([1], [1]), ([2], [2]), ([], []), ([], []), ([5], [5]), ([4, 6], [4, 6]), ([3, 7], [3, 7]), ([8], [8]), ([9], [9]), ([9], [9]), ([10, 8, 0, 1, 2, 3, 4, 5, 6, 7, 8, 9, 10], [10]), ([11, 12, 0, 1, 2, 3, 4, 5, 6, 7, 8, 9, 10, 11, 12], [11])])
def R124.B6 : List Nat := [0, 1, 3, 7, 0, 0, 32, 112, 255, 511, 1023, 1023, 2047, 8191]
theorem R124.tab6 : rtab .any (opsOf Tryz.f124 6) = R124.T6 := by kernel_rfl
theorem R124.bits6 : waitsOk R124.T6.2 R124.B6 = true := by kernel_rfl
theorem docNumber (A : Option Addr) (c : Nat) (l : List UInt8) (w : World) (hs : SB w A c l) :
    Calls Tryz.prog 43 #[.slice A l.length c] w fun e w' => e = .returned (.tuple #[.int .i64 (numOf l).1, .bool (numOf l).2]) ∧ Below w.heap.size w w' := by
  have h := spec_DocNumber.calls A c (ints l) (numOf l).1 (numOf l).2 w (kd_bytes hs) (by rw [ints_len]; exact hs.le) (num_f l)
  rw [ints_len] at h
  refine h.mono ?_
  rintro e w' ⟨rfl, hd⟩
  exact ⟨rfl, hd.below⟩
theorem str_ints (l : List UInt8) : strOfNums (ints l) = ⟨l.toArray⟩ := by
  unfold strOfNums ints
  simp
  have h : ((fun n : Int => UInt8.ofNat n.toNat) ∘ fun b : UInt8 => (b.toNat : Int)) = id := by funext b; simp
  first | (rw [h, List.map_id]; done) | (simp [h]; done)
theorem name_loop' (l : List UInt8) (hl : l.length ≤ 1000000) : ∀ m i : Nat, i ≤ l.length → l.length - i = m → (∀ j (h : j < l.length), j < i → l[j] ≠ 0) → ∃ k s, spec_DocName.l0 k (ints l) (i : Int) = some (s, nmOf l) ∧ ((nmOf l).2 = true → s = ⟨(l.take ((nmOf l).1.toNat - 1)).toArray⟩) := by
  intro m
  induction m with
  | zero =>
    intro i hi hm hn
    have : nmOf l = (0, false) := by unfold nmOf; rw [idx_none l (fun j hj => hn j hj (by omega))]; rfl
    refine ⟨1, ⟨#[]⟩, ?_, fun h => by rw [this] at h; cases h⟩
    rw [spec_DocName.l0, ints_len, if_neg (by omega), this]
  | succ m ih =>
    intro i hi hm hn
    have hlt : i < l.length := by omega
    by_cases h0 : l[i] = 0
    · have : nmOf l = ((i : Int) + 1, true) := by unfold nmOf; rw [idx_at l i hlt hn h0, if_neg (by omega)]
      refine ⟨1, strOfNums ((ints l).take i), ?_, fun _ => ?_⟩
      · rw [spec_DocName.l0, ints_len, if_pos (by omega), if_pos (by omega), ints_rd l i hlt, if_pos (by rw [h0]; rfl), if_pos (by omega), w64_in _ (by omega) (by omega), this]
        rfl
      · rw [this, show ((i : Int) + 1).toNat - 1 = i from by omega, ← str_ints]
        simp [ints, List.map_take]
    · obtain ⟨k, s, h, h2⟩ := ih (i + 1) (by omega) (by omega) (fun j hj hjk => by
        by_cases e : j = i
        · subst e; exact h0
        · exact hn j hj (by omega))
      refine ⟨k + 1, s, ?_, h2⟩
      rw [spec_DocName.l0, ints_len, if_pos (by omega), if_pos (by omega), ints_rd l i hlt, if_neg (fun e => h0 (toNat_zero _ e)), w64_in _ (by omega) (by omega)]
      rw [show ((i + 1 : Nat) : Int) = (i : Int) + 1 from by omega] at h
      exact h
theorem docNameS (A : Option Addr) (c : Nat) (nm v : List UInt8) (w : World) (hs : SB w A c (nm ++ 0 :: v)) (hp : plainB nm = true) (hl : (nm ++ 0 :: v).length ≤ 1000000) :
    Calls Tryz.prog 109 #[.slice A (nm ++ 0 :: v).length c] w fun e w' => e = .returned (.tuple #[.string ⟨nm.toArray⟩, .int .i64 ((nm.length : Int) + 1), .bool true]) ∧ Below w.heap.size w w' := by
  have hn : nmOf (nm ++ 0 :: v) = ((nm.length : Int) + 1, true) := by
    unfold nmOf
    rw [show Lib.indexByte (nm ++ 0 :: v) 0 = nm.length from index_plain nm v hp, if_neg (by omega)]
  obtain ⟨k, s, hf, h2⟩ := name_loop' (nm ++ 0 :: v) hl _ 0 (Nat.zero_le _) rfl (fun j h hj => absurd hj (by omega))
  have hs2 : s = ⟨nm.toArray⟩ := by
    rw [h2 (by rw [hn]), hn, show ((nm.length : Int) + 1).toNat - 1 = nm.length from by omega]
    simp
  rw [hn, hs2] at hf
  have h := spec_DocName.calls k A c (ints (nm ++ 0 :: v)) _ _ _ w (kd_bytes hs) (by rw [ints_len]; exact hs.le) hf
  rw [ints_len] at h
  refine h.mono ?_
  rintro e w' ⟨rfl, hd⟩
  exact ⟨rfl, hd.below⟩
end Ck
end Go.Proofs.YtbpopaegfhcdpaaGreatDoor.X


/- The lengths of values as spec.DocLen tells them, and numbers of eight bytes. -/
set_option linter.unusedVariables false
set_option linter.unusedSimpArgs false
set_option maxRecDepth 100000
namespace Go.Proofs.YtbpopaegfhcdpaaGreatDoor.X
open Go.RowKit Go.Proofs.YtbpopaegfhcdpaaGreatDoorW.PrintLast Go.Proofs.YtbpopaegfhcdpaaGreatDoorW.PrintWords
open Go.Proofs.YtbpopaegfhcdpaaGreatDoor.PFnDocAnyLookup
namespace Tk
open Sp Al Av Aw Ck
theorem lenC (fu : Nat) (k : Int) (A : Option Addr) (c : Nat) (l : List UInt8) (r1 : Int) (r2 : Bool) (w : World) (hs : SB w A c l) (h : spec_DocLen.f fu k (ints l) = some (r1, r2)) :
    Calls Tryz.prog 42 #[.int .i64 k, .slice A l.length c] w fun e w' => e = .returned (.tuple #[.int .i64 r1, .bool r2]) ∧ Below w.heap.size w w' := by
  have h2 := spec_DocLen.calls fu k A c (ints l) r1 r2 w (kd_bytes hs) (by rw [ints_len]; exact hs.le) h
  rw [ints_len] at h2
  refine h2.mono ?_
  rintro e w' ⟨rfl, hd⟩
  exact ⟨rfl, hd.below⟩
theorem chainT (b : Bool) (n c : Int) (k : Int) (len : Nat) (hn : -2147483648 ≤ n ∧ n ≤ 2147483647) (c0 : 0 ≤ c) (c1 : c ≤ 16) :
    (if b = true then (if n ≥ k then some (wrap64 (c + n), decide ((len : Int) ≥ wrap64 (c + n))) else some (wrap64 (c + n), false)) else some (wrap64 (c + n), false)) = some (n + c, b && (decide (k ≤ n) && decide (n + c ≤ (len : Int)))) := by
  rw [w64_in (c + n) (by omega) (by omega), Int.add_comm c n]
  cases b with
  | false => simp
  | true => by_cases h : k ≤ n <;> simp [h]
theorem chainT0 (b : Bool) (n : Int) (len : Nat) :
    (if b = true then (if n ≥ 5 then some (n, decide ((len : Int) ≥ n)) else some (n, false)) else some (n, false)) = some (n, b && (decide (5 ≤ n) && decide (n ≤ (len : Int)))) := by
  cases b with
  | false => simp
  | true => by_cases h : 5 ≤ n <;> simp [h]
theorem len_text (k : Int) (l : List UInt8) (hk : k = 2 ∨ k = 13 ∨ k = 14) : spec_DocLen.f 5 k (ints l) = some ((numOf l).1 + 4, (numOf l).2 && (decide (1 ≤ (numOf l).1) && decide ((numOf l).1 + 4 ≤ (l.length : Int)))) := by
  rw [← chainT (numOf l).2 (numOf l).1 4 1 l.length (num_bd l) (by omega) (by omega)]
  rcases hk with rfl | rfl | rfl
  all_goals
    simp only [spec_DocLen.f, spec_DocLen.j0, spec_DocLen.j1, spec_DocLen.j2, spec_DocLen.j3, num_f, Option.bind_some, ints_len]
    rfl
theorem len_doc (k : Int) (l : List UInt8) (hk : k = 3 ∨ k = 4 ∨ k = 15) : spec_DocLen.f 5 k (ints l) = some ((numOf l).1, (numOf l).2 && (decide (5 ≤ (numOf l).1) && decide ((numOf l).1 ≤ (l.length : Int)))) := by
  rw [← chainT0 (numOf l).2 (numOf l).1 l.length]
  rcases hk with rfl | rfl | rfl
  all_goals
    simp only [spec_DocLen.f, spec_DocLen.j0, spec_DocLen.j1, spec_DocLen.j2, spec_DocLen.j3, num_f, Option.bind_some, ints_len]
    rfl
theorem len_ptr (l : List UInt8) : spec_DocLen.f 5 12 (ints l) = some ((numOf l).1 + 16, (numOf l).2 && (decide (1 ≤ (numOf l).1) && decide ((numOf l).1 + 16 ≤ (l.length : Int)))) := by
  rw [← chainT (numOf l).2 (numOf l).1 16 1 l.length (num_bd l) (by omega) (by omega)]
  simp only [spec_DocLen.f, spec_DocLen.j0, spec_DocLen.j1, spec_DocLen.j2, spec_DocLen.j3, num_f, Option.bind_some, ints_len]
  rfl
theorem u64_fit (n : Int) (h0 : 0 ≤ n) (h1 : n < 18446744073709551616) : IntKind.u64.wrap n = n := by
  simp only [IntKind.wrap, IntKind.signed, IntKind.bits]
  simp
  omega
theorem or_swap (k : IntKind) (x y : Int) : bits .or k x y = bits .or k y x := by
  simp only [bits, BitVec.or_comm]
theorem long_bit (n b : Nat) (hn : n < 72057594037927936) (hb : b < 256) : bits .or .u64 (IntKind.u64.wrap ((n : Int) * 256)) (IntKind.u64.wrap (b : Int)) = ((b + n * 256 : Nat) : Int) := by
  rw [u64_fit _ (by omega) (by omega), u64_fit _ (by omega) (by omega), or_swap]
  have h := or_join .u64 (b : Int) ((n : Int) * 256) b n 8 (by omega) (by simp [IntKind.bits]; omega) (by simp [IntKind.bits]; omega) (by simp [IntKind.bits]; omega)
  rw [h]
  have h3 := u64_fit ((b + n * 2 ^ 8 : Nat) : Int) (by omega) (by omega)
  rw [h3]
theorem long_step (l : List UInt8) (k i n m : Nat) (x3 x4 y : Int) (h3 : x3 = n) (h4 : x4 = i) (hi : i < l.length) (h7 : i ≤ 7) (hn : n < 72057594037927936) (hm : m = l[i].toNat + n * 256) (hy : y = (i : Int) - 1) : spec_docLong.l0 (k + 1) (ints l) x3 x4 = spec_docLong.l0 k (ints l) (m : Int) y := by
  subst h3 h4 hm hy
  rw [spec_docLong.l0, if_pos (by omega), if_pos (by omega), ints_len, if_pos (by omega), ints_rd l i hi, long_bit n _ hn (UInt8.toNat_lt _), w64_in _ (by omega) (by omega)]
theorem long_f (b0 b1 b2 b3 b4 b5 b6 b7 : UInt8) (r : List UInt8) : spec_docLong.f 9 (ints (b0 :: b1 :: b2 :: b3 :: b4 :: b5 :: b6 :: b7 :: r)) = some (Lib.leNat [b0, b1, b2, b3, b4, b5, b6, b7] : Int) := by
  obtain ⟨l, hl⟩ : ∃ l, l = b0 :: b1 :: b2 :: b3 :: b4 :: b5 :: b6 :: b7 :: r := ⟨_, rfl⟩
  have g0 : ∃ h : 0 < l.length, l[0] = b0 := by subst hl; exact ⟨by simp, rfl⟩
  obtain ⟨i0, g0⟩ := g0
  have g1 : ∃ h : 1 < l.length, l[1] = b1 := by subst hl; exact ⟨by simp, rfl⟩
  obtain ⟨i1, g1⟩ := g1
  have g2 : ∃ h : 2 < l.length, l[2] = b2 := by subst hl; exact ⟨by simp, rfl⟩
  obtain ⟨i2, g2⟩ := g2
  have g3 : ∃ h : 3 < l.length, l[3] = b3 := by subst hl; exact ⟨by simp, rfl⟩
  obtain ⟨i3, g3⟩ := g3
  have g4 : ∃ h : 4 < l.length, l[4] = b4 := by subst hl; exact ⟨by simp, rfl⟩
  obtain ⟨i4, g4⟩ := g4
  have g5 : ∃ h : 5 < l.length, l[5] = b5 := by subst hl; exact ⟨by simp, rfl⟩
  obtain ⟨i5, g5⟩ := g5
  have g6 : ∃ h : 6 < l.length, l[6] = b6 := by subst hl; exact ⟨by simp, rfl⟩
  obtain ⟨i6, g6⟩ := g6
  have g7 : ∃ h : 7 < l.length, l[7] = b7 := by subst hl; exact ⟨by simp, rfl⟩
  obtain ⟨i7, g7⟩ := g7
  rw [← hl]
  clear hl
  have k0 := b0.toNat_lt
  have k1 := b1.toNat_lt
  have k2 := b2.toNat_lt
  have k3 := b3.toNat_lt
  have k4 := b4.toNat_lt
  have k5 := b5.toNat_lt
  have k6 := b6.toNat_lt
  have k7 := b7.toNat_lt
  obtain ⟨n7, h7⟩ : ∃ n, n = b7.toNat + 0 * 256 := ⟨_, rfl⟩
  obtain ⟨n6, h6⟩ : ∃ n, n = b6.toNat + n7 * 256 := ⟨_, rfl⟩
  obtain ⟨n5, h5⟩ : ∃ n, n = b5.toNat + n6 * 256 := ⟨_, rfl⟩
  obtain ⟨n4, h4⟩ : ∃ n, n = b4.toNat + n5 * 256 := ⟨_, rfl⟩
  obtain ⟨n3, h3⟩ : ∃ n, n = b3.toNat + n4 * 256 := ⟨_, rfl⟩
  obtain ⟨n2, h2⟩ : ∃ n, n = b2.toNat + n3 * 256 := ⟨_, rfl⟩
  obtain ⟨n1, h1⟩ : ∃ n, n = b1.toNat + n2 * 256 := ⟨_, rfl⟩
  obtain ⟨n0, h0⟩ : ∃ n, n = b0.toNat + n1 * 256 := ⟨_, rfl⟩
  unfold spec_docLong.f
  rw [long_step l 8 7 0 n7 0 7 6 rfl rfl i7 (by omega) (by omega) (by rw [g7]; exact h7) (by omega)]
  rw [long_step l 7 6 n7 n6 n7 6 (5) rfl rfl i6 (by omega) (by omega) (by rw [g6]; exact h6) (by omega)]
  rw [long_step l 6 5 n6 n5 n6 5 (4) rfl rfl i5 (by omega) (by omega) (by rw [g5]; exact h5) (by omega)]
  rw [long_step l 5 4 n5 n4 n5 4 (3) rfl rfl i4 (by omega) (by omega) (by rw [g4]; exact h4) (by omega)]
  rw [long_step l 4 3 n4 n3 n4 3 (2) rfl rfl i3 (by omega) (by omega) (by rw [g3]; exact h3) (by omega)]
  rw [long_step l 3 2 n3 n2 n3 2 (1) rfl rfl i2 (by omega) (by omega) (by rw [g2]; exact h2) (by omega)]
  rw [long_step l 2 1 n2 n1 n2 1 (0) rfl rfl i1 (by omega) (by omega) (by rw [g1]; exact h1) (by omega)]
  rw [long_step l 1 0 n1 n0 n1 0 (-1) rfl rfl i0 (by omega) (by omega) (by rw [g0]; exact h0) (by omega)]
  rw [spec_docLong.l0, if_neg (by omega)]
  congr 2
  simp only [Lib.leNat]
  omega
theorem docLong (A : Option Addr) (c : Nat) (b0 b1 b2 b3 b4 b5 b6 b7 : UInt8) (r : List UInt8) (w : World) (hs : SB w A c (b0 :: b1 :: b2 :: b3 :: b4 :: b5 :: b6 :: b7 :: r)) :
    Calls Tryz.prog 163 #[.slice A (b0 :: b1 :: b2 :: b3 :: b4 :: b5 :: b6 :: b7 :: r).length c] w fun e w' => e = .returned (.int .u64 (Lib.leNat [b0, b1, b2, b3, b4, b5, b6, b7])) ∧ Below w.heap.size w w' := by
  have h := spec_docLong.calls 9 A c (ints (b0 :: b1 :: b2 :: b3 :: b4 :: b5 :: b6 :: b7 :: r)) _ w (kd_bytes hs) (by rw [ints_len]; exact hs.le) (long_f b0 b1 b2 b3 b4 b5 b6 b7 r)
  rw [ints_len] at h
  refine h.mono ?_
  rintro e w' ⟨rfl, hd⟩
  exact ⟨rfl, hd.below⟩
end Tk
end Go.Proofs.YtbpopaegfhcdpaaGreatDoor.X


