/- Words of this family of proofs: bytes and values of documents as they lie in memory, and what an append leaves. No conditions: plain lemmas. -/
import Derived.Test.YtdgncemcfhocmaaGreatDoorProg
import Derived.WalkKit
import Derived.WalkSpells
import Derived.WalkLawsBesides
import Derived.Deep.QuietTactic
import Derived.BigQuiet
import Derived.Deep.RegionHeld3
import Derived.Deep.DeepCutAuto
import Derived.Deep.AppendLies
import Derived.Maps.AppendAt
import Derived.Laws.BytesArg
import Derived.Laws.BitsLemmas
import Derived.KernelRfl
import Derived.Lib.Hide
import Derived.Lib.ConvBytes
set_option linter.unusedVariables false
set_option linter.unusedSimpArgs false
set_option maxRecDepth 100000
namespace Go.Proofs.YtdgncemcfhocmaaGreatDoor.X
open Go.RowKit

/-- What a call gives back, and that nothing that was there has changed. -/
def Got (w : World) (p : Value → World → Prop) (e : Ending) (w' : World) : Prop := ∃ v, e = .returned v ∧ p v w' ∧ Below w.heap.size w w'

/-- What a function that appends gives back. -/
def After (p : Value → World → Prop) (e : Ending) (w' : World) : Prop := ∃ v, e = .returned v ∧ p v w'

theorem bcell {W w1 : World} (hb : Below W.heap.size W w1) : (∀ b o, b < W.heap.size → w1.cell? ⟨b, o, none⟩ = W.cell? ⟨b, o, none⟩) ∧ (∀ b o, b < W.heap.size → w1.frozen? ⟨b, o, none⟩ = W.frozen? ⟨b, o, none⟩) :=
  ⟨fun b o h => hb.cell (p := ⟨b, o, none⟩) h, fun b o h => hb.frozen (p := ⟨b, o, none⟩) h⟩
/-- The world behind a call, over the world ahead of it. -/
theorem bstep {B : Nat} {w0 W w1 : World} (h : Below B w0 W) (hB : B ≤ W.heap.size) (hb : Below W.heap.size W w1) : Below B w0 w1 := h.trans (hb.mono hB)
theorem balloc {B : Nat} {w0 W : World} (h : Below B w0 W) (hB : B ≤ W.heap.size) (o : Obj) : Below B w0 (W.alloc o) := h.alloc hB o
theorem bdrewN {B : Nat} {w0 W : World} (h : Below B w0 W) (n : Nat) : Below B w0 (W.drewN n) := ⟨h.os, h.tape, h.output, h.size, h.block⟩
theorem bdrew {B : Nat} {w0 W : World} (h : Below B w0 W) : Below B w0 W.drew := ⟨h.os, h.tape, h.output, h.size, h.block⟩
theorem bgrown {B : Nat} {w0 W w1 : World} {row : Option Nat} (h : Below B w0 W) (hB : B ≤ W.heap.size) (hg : W.grownBy w1 row) (hr : ∀ k, row = some k → B ≤ k) : Below B w0 w1 := h.grown hg hB hr

/-- A box that was laid, in every later world. -/
theorem boxc {w wr : World} {cs : List Value} {t : TypeId} {fr : Nat × Nat} (hb : Below (w.heap.size + 1) (w.alloc (.cells cs.toArray t fr)) wr) (j : Nat) : wr.cell? ⟨w.heap.size, j, none⟩ = cs[j]? := by
  have h := hb.cell (p := ⟨w.heap.size, j, none⟩) (by simp)
  rw [h]
  have e : (w.alloc (.cells cs.toArray t fr)).heap[w.heap.size]? = some (.cells cs.toArray t fr) := heap_alloc_new w _
  unfold World.cell?
  rw [e]
  simp
theorem boxf {w wr : World} {cs : List Value} {t : TypeId} (hb : Below (w.heap.size + 1) (w.alloc (.cells cs.toArray t)) wr) (j : Nat) : wr.frozen? ⟨w.heap.size, j, none⟩ = false := by
  have h := hb.frozen (p := ⟨w.heap.size, j, none⟩) (by simp)
  rw [h]
  have e : (w.alloc (.cells cs.toArray t)).heap[w.heap.size]? = some (.cells cs.toArray t) := heap_alloc_new w _
  unfold World.frozen?
  rw [e]
  simp
theorem boxs {w wr : World} {o : Obj} (hb : Below (w.heap.size + 1) (w.alloc o) wr) : w.heap.size + 1 ≤ wr.heap.size := by have := hb.size; simpa using this
/-- From the world with the box to the world ahead of it. -/
theorem boxb {w wr : World} {o : Obj} (hb : Below (w.heap.size + 1) (w.alloc o) wr) : Below w.heap.size w wr := ((Below.refl _ _).alloc (Nat.le_refl _) o).trans (hb.mono (by omega))

/-! ### Bytes -/
def byv (l : List UInt8) : List Value := l.map fun b => .int .u8 (b.toNat : Int)
@[simp] theorem byv_length (l : List UInt8) : (byv l).length = l.length := by simp [byv]
theorem byv_append (a b : List UInt8) : byv (a ++ b) = byv a ++ byv b := by simp [byv]
theorem byv_get (l : List UInt8) (j : Nat) (h : j < l.length) : (byv l)[j]? = some (.int .u8 (l[j].toNat : Int)) := by simp [byv, h]
theorem byv_one (l : List UInt8) : ∀ u ∈ byv l, u.oneCell' = true := by
  intro u hu
  simp only [byv, List.mem_map] at hu
  obtain ⟨b, _, rfl⟩ := hu
  rfl
/-- The byte that a number stands for. -/
def ub (n : Int) : UInt8 := UInt8.ofNat (n % 256).toNat
theorem ub_toNat (n : Int) : ((ub n).toNat : Int) = n % 256 := by
  have : (n % 256).toNat < 256 := by omega
  simp [ub, UInt8.toNat_ofNat', Nat.mod_eq_of_lt this]
  omega
theorem ub_cast (b : UInt8) : ub (b.toNat : Int) = b := by
  apply UInt8.toNat_inj.1
  have h := ub_toNat (b.toNat : Int)
  have := b.toNat_lt
  omega
theorem ub_nat (n : Nat) : ub (n : Int) = UInt8.ofNat n := by
  apply UInt8.toNat_inj.1
  have h := ub_toNat (n : Int)
  rw [UInt8.toNat_ofNat']
  omega

/-- A slice of bytes that is read: its address, its capacity, its bytes. -/
structure SB (w : World) (A : Option Addr) (c : Nat) (l : List UInt8) : Prop where
  le : l.length ≤ c
  cap : c ≤ 9223372036854775807
  cells : 0 < l.length → ∃ b off, A = some ⟨b, off, none⟩ ∧ ∀ j, (h : j < l.length) → w.cell? ⟨b, off + j, none⟩ = some (.int .u8 (l[j].toNat : Int))

theorem SB.len {w : World} {A : Option Addr} {c : Nat} {l : List UInt8} (h : SB w A c l) : l.length ≤ 9223372036854775807 := Nat.le_trans h.le h.cap
theorem SB.keep {w w1 : World} {A : Option Addr} {c : Nat} {l : List UInt8} (h : SB w A c l) (hb : Below w.heap.size w w1) : SB w1 A c l :=
  ⟨h.le, h.cap, fun hl => by
    obtain ⟨b, off, e, hc⟩ := h.cells hl
    exact ⟨b, off, e, fun j hj => (hb.cell (World.block_lt_of_cell? w _ (hc j hj))).trans (hc j hj)⟩⟩
theorem SB.keepB {w w1 : World} {B : Nat} {A : Option Addr} {c : Nat} {l : List UInt8} (h : SB w A c l) (hb : Below B w w1) (hB : w.heap.size = B) : SB w1 A c l := by subst hB; exact h.keep hb
theorem SB.alloc {w : World} {A : Option Addr} {c : Nat} {l : List UInt8} (h : SB w A c l) (o : Obj) : SB (w.alloc o) A c l := h.keep ((Below.refl _ _).alloc (Nat.le_refl _) o)
theorem SB.drewN {w : World} {A : Option Addr} {c : Nat} {l : List UInt8} (h : SB w A c l) (n : Nat) : SB (w.drewN n) A c l := h.keep (bdrewN (Below.refl _ _) n)
theorem SB.drew {w : World} {A : Option Addr} {c : Nat} {l : List UInt8} (h : SB w A c l) : SB w.drew A c l := h.keep (bdrew (Below.refl _ _))
theorem SB.nil (w : World) : SB w none 0 [] := ⟨Nat.le_refl _, by omega, fun h => absurd h (Nat.lt_irrefl 0)⟩
theorem SB.empty (w : World) (A : Option Addr) (c : Nat) (hc : c ≤ 9223372036854775807) : SB w A c [] := ⟨Nat.zero_le _, hc, fun h => absurd h (Nat.lt_irrefl 0)⟩
theorem SB.at_ {w : World} {A : Option Addr} {c : Nat} {l : List UInt8} (h : SB w A c l) (i : Int) (h0 : 0 ≤ i) (h1 : i < l.length) : ∃ b off, A = some ⟨b, off, none⟩ ∧ w.cell? ⟨b, off + i.toNat, none⟩ = some (.int .u8 ((l[i.toNat]'(by omega)).toNat : Int)) := by
  obtain ⟨b, off, e, hc⟩ := h.cells (by omega)
  exact ⟨b, off, e, hc _ _⟩
/-- 'xs[lo:hi]'. -/
theorem SB.cut {P : Program} {t e : TypeId} {i : TypeInfo} (ht : P.underlying t = some (.slice e)) (hi : P.info? e = some i) (hsz : i.size = 1) (kl kh : IntKind) (A : Option Addr) (c : Nat) (l : List UInt8) (m n : Nat) (hmn : m ≤ n) (hn : n ≤ l.length) (hc : l.length ≤ c) :
    ∃ A' : Option Addr, (∀ W : World, (Instr.slice t (.slice A l.length c) (some (.int kl (m : Int))) (some (.int kh (n : Int))) none).run P W = .ok (.slice A' (n - m) (c - m)) W) ∧
      ∀ w : World, SB w A c l → SB w A' (c - m) ((l.take n).drop m) := by
  refine ⟨if c = m then A else A.map (·.add m), fun W => ?_, fun w h => ?_⟩
  · have hel : P.elem t = e := by simp [Program.elem, ht]
    have hu : P.underlying t = some (.slice (P.elem t)) := by rw [hel]; exact ht
    have hr := run_slice_lh (P := P) W t A l.length c hu kl kh (m : Int) (n : Int) (Int.natCast_nonneg _) (by omega) (by omega)
    rw [hr, hel]
    simp [sizeOf, typeInfo, hi, hsz, sliced, Result.andThen]
  · refine ⟨by simp; omega, by have := h.cap; omega, fun hp => ?_⟩
    simp at hp
    obtain ⟨b, off, rfl, hcell⟩ := h.cells (by omega)
    rw [if_neg (by omega)]
    have hadd : (⟨b, off, none⟩ : Addr).add m = ⟨b, off + m, none⟩ := by unfold Addr.add; split <;> simp_all
    refine ⟨b, off + m, by simp [hadd], fun j hj => ?_⟩
    simp at hj
    have := hcell (m + j) (by omega)
    rw [Nat.add_assoc, this]
    simp

/-- 'xs[m:]'. -/
theorem SB.from_ {P : Program} {t e : TypeId} {i : TypeInfo} (ht : P.underlying t = some (.slice e)) (hi : P.info? e = some i) (hsz : i.size = 1) (kl : IntKind) (A : Option Addr) (c : Nat) (l : List UInt8) (m : Nat) (hm : m ≤ l.length) (hc : l.length ≤ c) :
    ∃ A' : Option Addr, (∀ W : World, (Instr.slice t (.slice A l.length c) (some (.int kl (m : Int))) none none).run P W = .ok (.slice A' (l.length - m) (c - m)) W) ∧
      ∀ w : World, SB w A c l → SB w A' (c - m) (l.drop m) := by
  obtain ⟨A', h1, h2⟩ := SB.cut ht hi hsz kl kl A c l m l.length hm (Nat.le_refl _) hc
  refine ⟨A', fun W => ?_, fun w h => by have := h2 w h; rwa [List.take_length] at this⟩
  have hel : P.elem t = e := by simp [Program.elem, ht]
  have hu : P.underlying t = some (.slice (P.elem t)) := by rw [hel]; exact ht
  have h3 := h1 W
  rw [run_slice_lh (P := P) W t A l.length c hu kl kl (m : Int) (l.length : Int) (Int.natCast_nonneg _) (by omega) (by omega)] at h3
  rw [run_slice_l (P := P) W t A l.length c hu kl (m : Int) (Int.natCast_nonneg _) (by omega)]
  exact h3
/-- 'xs[:n]'. -/
theorem SB.to_ {P : Program} {t e : TypeId} {i : TypeInfo} (ht : P.underlying t = some (.slice e)) (hi : P.info? e = some i) (hsz : i.size = 1) (kh : IntKind) (A : Option Addr) (c : Nat) (l : List UInt8) (n : Nat) (hn : n ≤ l.length) (hc : l.length ≤ c) :
    ∃ A' : Option Addr, (∀ W : World, (Instr.slice t (.slice A l.length c) none (some (.int kh (n : Int))) none).run P W = .ok (.slice A' n c) W) ∧
      ∀ w : World, SB w A c l → SB w A' c (l.take n) := by
  obtain ⟨A', h1, h2⟩ := SB.cut ht hi hsz kh kh A c l 0 n (Nat.zero_le _) hn hc
  refine ⟨A', fun W => ?_, fun w h => by have := h2 w h; simpa using this⟩
  have hel : P.elem t = e := by simp [Program.elem, ht]
  have hu : P.underlying t = some (.slice (P.elem t)) := by rw [hel]; exact ht
  have h3 := h1 W
  rw [run_slice_lh (P := P) W t A l.length c hu kh kh ((0 : Nat) : Int) (n : Int) (Int.natCast_nonneg _) (by omega) (by omega)] at h3
  rw [run_slice_h (P := P) W t A l.length c hu kh (n : Int) (Int.natCast_nonneg _) (by omega)]
  simpa using h3

/-! ### Bytes of the call's own -/
section
variable (E : TypeId)
/-- A slice of bytes in a block of its own, from block 'base' on. -/
def OB (w : World) (base : Nat) (v : Value) (l : List UInt8) : Prop := w.ownsRow base E 1 v l.length (byv l) ∧ l.length ≤ 9223372036854775807
variable {E}
theorem OB.nil (w : World) (base : Nat) : OB E w base (.slice none 0 0) [] := ⟨⟨by simp [byv], .inl ⟨rfl, rfl⟩⟩, by simp⟩
theorem OB.sb {w : World} {base : Nat} {v : Value} {l : List UInt8} (h : OB E w base v l) : ∃ A c, v = .slice A l.length c ∧ SB w A c l ∧ (∀ a, A = some a → base ≤ a.block ∧ a.block < w.heap.size) := by
  obtain ⟨h, hl⟩ := h
  rcases h.2 with ⟨rfl, h0⟩ | ⟨g, cap, cur, rfl, hb, hg, hn, hm, hs, ht⟩
  · refine ⟨none, 0, by rw [h0], ?_, fun a ha => by cases ha⟩
    have : l = [] := List.eq_nil_of_length_eq_zero h0
    subst this
    exact SB.nil w
  · refine ⟨_, cap, rfl, ⟨hn, by simp only [maxLen] at hm; omega, fun hp => ⟨g, 0, rfl, fun j hj => ?_⟩⟩, fun a ha => ?_⟩
    · have := h.cells (g := g) rfl j _ (byv_get l j hj)
      unfold Addr.add at this
      split at this
      · rename_i h0; subst h0; simpa using this
      · simpa using this
    · cases ha
      exact h.lt g rfl
theorem OB.keep {w w1 : World} {base : Nat} {v : Value} {l : List UInt8} (h : OB E w base v l) (hb : Below w.heap.size w w1) : OB E w1 base v l :=
  ⟨h.1.kept (row := none) ⟨hb.os, hb.tape, hb.output, hb.size, fun i hi _ => hb.block i hi⟩ (by cases v.ownBlock <;> simp), h.2⟩
theorem OB.alloc {w : World} {base : Nat} {v : Value} {l : List UInt8} (h : OB E w base v l) (o : Obj) : OB E (w.alloc o) base v l := h.keep ((Below.refl _ _).alloc (Nat.le_refl _) o)
theorem OB.drewN {w : World} {base : Nat} {v : Value} {l : List UInt8} (h : OB E w base v l) (n : Nat) : OB E (w.drewN n) base v l := h.keep (bdrewN (Below.refl _ _) n)
/-- Another row was written. -/
theorem OB.other {w w1 : World} {base : Nat} {v : Value} {l : List UInt8} (h : OB E w base v l) {row : Option Nat} (hg : w.grownBy w1 row) (hne : v.ownBlock = none ∨ v.ownBlock ≠ row) : OB E w1 base v l := ⟨h.1.kept hg hne, h.2⟩
theorem OB.mono {w : World} {base base' : Nat} {v : Value} {l : List UInt8} (h : OB E w base v l) (hb : base' ≤ base) : OB E w base' v l := by
  obtain ⟨⟨h1, h2⟩, hl⟩ := h
  refine ⟨⟨h1, ?_⟩, hl⟩
  rcases h2 with h2 | ⟨g, cap, cur, e, hg, r⟩
  · exact .inl h2
  · exact .inr ⟨g, cap, cur, e, Nat.le_trans hb hg, r⟩
theorem OB.lt {w : World} {base : Nat} {v : Value} {l : List UInt8} (h : OB E w base v l) : ∀ k, v.ownBlock = some k → base ≤ k ∧ k < w.heap.size := h.1.lt
/-- A slice's literal, as the walk lays it. -/
theorem OB.lit (w : World) (base : Nat) (hb : base ≤ w.heap.size) (l : List UInt8) (hl : l.length ≤ 9223372036854775807) : OB E (w.alloc (.cells (byv l).toArray E)) base (.slice (some ⟨w.heap.size, 0, none⟩) l.length l.length) l := by
  have h := World.ownsRow_lit (base := base) (e := E) (size := 1) w (byv l).toArray l.length hb (by simpa [maxLen] using hl) (by simp)
  exact ⟨by simpa using h, hl⟩
theorem SB.lit (w : World) (l : List UInt8) (hl : l.length ≤ 9223372036854775807) : SB (w.alloc (.cells (byv l).toArray E)) (some ⟨w.heap.size, 0, none⟩) l.length l := by
  obtain ⟨A, c, hv, h, _⟩ := (OB.lit (E := E) w 0 (Nat.zero_le _) l hl).sb
  cases hv
  exact h

theorem SB.lit_ (w : World) (l : List UInt8) (cs : List Value) (h : cs = byv l) (hl : l.length ≤ 9223372036854775807) (n : Nat) (hn : n = l.length) : SB (w.alloc (.cells cs.toArray E)) (some ⟨w.heap.size, 0, none⟩) n l := by subst h hn; exact SB.lit w l hl
theorem OB.lit_ (w : World) (base : Nat) (hb : base ≤ w.heap.size) (l : List UInt8) (cs : List Value) (h : cs = byv l) (hl : l.length ≤ 9223372036854775807) (n : Nat) (hn : n = l.length) : OB E (w.alloc (.cells cs.toArray E)) base (.slice (some ⟨w.heap.size, 0, none⟩) n n) l := by subst h hn; exact OB.lit w base hb l hl
/-- What an append leaves: the row, longer; every other row as it was. -/
structure App (W : World) (base : Nat) (v0 : Value) (l : List UInt8) (v1 : Value) (w1 : World) : Prop where
  own : OB E w1 base v1 l
  grown : W.grownBy w1 v0.ownBlock
  at_ : v1.ownBlock = v0.ownBlock ∨ ∃ b, v1.ownBlock = some b ∧ W.heap.size ≤ b

theorem App.below {W w0 w1 : World} {base : Nat} {v0 v1 : Value} {l l0 : List UInt8} (h : App (E := E) W base v0 l v1 w1) (h0 : OB E W base v0 l0) (hb : Below base w0 W) (hB : base ≤ W.heap.size) : Below base w0 w1 :=
  bgrown hb hB h.grown (fun k hk => (h0.lt k hk).1)

/-- Something was made ahead of the append. -/
theorem App.pre {W W1 w1 : World} {base : Nat} {v0 v1 : Value} {l : List UInt8} (h : App (E := E) W1 base v0 l v1 w1) (hb : Below W.heap.size W W1) : App (E := E) W base v0 l v1 w1 :=
  ⟨h.own, World.grownBy.trans ⟨hb.os, hb.tape, hb.output, hb.size, fun i hi _ => hb.block i hi⟩ h.grown, by
    rcases h.at_ with h | ⟨b, h, hb2⟩
    · exact .inl h
    · exact .inr ⟨b, h, Nat.le_trans hb.size hb2⟩⟩
theorem App.post {W w1 w2 : World} {base : Nat} {v0 v1 : Value} {l : List UInt8} (h : App (E := E) W base v0 l v1 w1) (hb : Below w1.heap.size w1 w2) : App (E := E) W base v0 l v1 w2 :=
  ⟨h.own.keep hb, World.grownBy.trans h.grown ⟨hb.os, hb.tape, hb.output, hb.size, fun i hi _ => hb.block i hi⟩, h.at_⟩
/-- One append behind the other. -/
theorem App.trans {W w1 w2 : World} {base : Nat} {v0 v1 v2 : Value} {l l2 : List UInt8} (h : App (E := E) W base v0 l v1 w1) (k : App (E := E) w1 base v1 l2 v2 w2) : App (E := E) W base v0 l2 v2 w2 := by
  have hs := h.grown.size
  refine ⟨k.own, ⟨k.grown.os.trans h.grown.os, k.grown.tape.trans h.grown.tape, k.grown.output.trans h.grown.output, Nat.le_trans hs k.grown.size, fun i hi hne => ?_⟩, ?_⟩
  · refine (k.grown.block i (Nat.lt_of_lt_of_le hi hs) ?_).trans (h.grown.block i hi hne)
    rcases h.at_ with e | ⟨b, e, hb⟩
    · rw [e]; exact hne
    · rw [e]
      intro hh
      injection hh with hh
      omega
  · rcases k.at_ with e | ⟨b, e, hb⟩
    · rw [e]; exact h.at_
    · exact .inr ⟨b, e, Nat.le_trans hs hb⟩
theorem App.refl {W : World} {base : Nat} {v : Value} {l : List UInt8} (h : OB E W base v l) : App (E := E) W base v l v W := ⟨h, World.grownBy.refl W _, .inl rfl⟩
theorem App.size {W w1 : World} {base : Nat} {v0 v1 : Value} {l : List UInt8} (h : App (E := E) W base v0 l v1 w1) : W.heap.size ≤ w1.heap.size := h.grown.size
/-- From nil on nothing that was there is written. -/
theorem App.fresh {W w1 : World} {base : Nat} {v1 : Value} {l : List UInt8} (h : App (E := E) W base (.slice none 0 0) l v1 w1) : Below W.heap.size W w1 :=
  ⟨h.grown.os, h.grown.tape, h.grown.output, h.grown.size, fun i hi => h.grown.block i hi (by simp [Value.ownBlock])⟩
/-- What lies below the base is as it was. -/
theorem App.kept {W w1 : World} {base : Nat} {v0 v1 : Value} {l l0 : List UInt8} (h : App (E := E) W base v0 l v1 w1) (h0 : OB E W base v0 l0) (hB : base ≤ W.heap.size) : Below base W w1 :=
  bgrown (Below.refl _ _) hB h.grown (fun k hk => (h0.lt k hk).1)

section
variable {P : Program} {ops : Array Oper} {rest : List Oper} {o : Oper} {a : Act} {Q : Exit → Act → World → Prop}
/-- 'append(v, xs...)', v a row of the call's own (nil let in), xs any slice of bytes. -/
theorem app_run (t : TypeId) (hinfo : (P.info? E).map (fun i => (i.zero, i.size, i.bytes)) = some (some (.int .u8 0), 1, 1)) (ht : P.underlying t = some (.slice E)) (ty : TypeId)
    (W : World) (base : Nat) (v : Value) (l : List UInt8) (A : Option Addr) (c : Nat) (l2 : List UInt8) (HO : OB E W base v l) (HR : SB W A c l2) (hbase : base ≤ W.heap.size) (hl : l.length + l2.length ≤ 140737488355328) :
    ∃ v1 w1, (Builtin.append_ #[t, t] ty #[v, .slice A l2.length c]).run P W = .ok v1 w1 ∧ App (E := E) W base v (l ++ l2) v1 w1 := by
  obtain ⟨i0, hi, hzz⟩ := Option.map_eq_some_iff.1 hinfo
  simp only [Prod.mk.injEq] at hzz
  obtain ⟨hz0, hz1, hz2⟩ := hzz
  rcases Nat.eq_zero_or_pos l2.length with h0 | h0
  · have e2 : l2 = [] := List.eq_nil_of_length_eq_zero h0
    subst e2
    refine ⟨v, W, ?_, by simpa using HO, World.grownBy.refl W _, .inl rfl⟩
    rcases HO.1.2 with ⟨rfl, hn⟩ | ⟨g, cap, cur, rfl, _, _, hnc, _⟩
    · cases A <;> simp [Builtin.append_, run_underlying ht, sizeOf, typeInfo, hi, Builtin.lenOf, Builtin.firstCells, loadCells, loadCellsFrom]
    · cases A <;> simp [Builtin.append_, run_underlying ht, sizeOf, typeInfo, hi, Builtin.lenOf, Builtin.firstCells, hnc, storeCells, loadCells, loadCellsFrom]
  · obtain ⟨b, off, rfl, hcell⟩ := HR.cells h0
    have hcells : ∀ j u, (byv l2)[j]? = some u → W.cell? ((⟨b, off, none⟩ : Addr).add j) = some u := by
      intro j u hu
      have hj : j < l2.length := by
        rcases Nat.lt_or_ge j l2.length with h | h
        · exact h
        · simp [byv, List.getElem?_eq_none h] at hu
      rw [byv_get l2 j hj] at hu
      cases hu
      have hadd : (⟨b, off, none⟩ : Addr).add j = ⟨b, off + j, none⟩ := by unfold Addr.add; split <;> simp_all
      rw [hadd]
      exact hcell j hj
    obtain ⟨v1, w1, hr, h2, h3, _, h5⟩ := run_append_own_at (P := P) W base t ty E i0 (.int .u8 0) 1 1 ht hi hz0 hz1 hz2 rfl (by omega) v l.length (byv l) HO.1 ⟨b, off, none⟩ l2.length c (byv l2) (by simp) hcells
      (byv_one l2) (by simp only [maxLen]; omega) (by omega) hbase
    refine ⟨v1, w1, hr, ⟨by rw [List.length_append, byv_append]; exact h2, by rw [List.length_append]; omega⟩, h3, ?_⟩
    rcases h5 with h5 | h5
    · exact .inl h5
    · exact .inr ⟨_, h5, Nat.le_refl _⟩
theorem wp_app (s x : Operand) (t : TypeId) (hgd : o.guard = none) (ho : o.op = .call { callee := .builtin .append, args := #[s, x], argTypes := #[t, t] })
    (hinfo : (P.info? E).map (fun i => (i.zero, i.size, i.bytes)) = some (some (.int .u8 0), 1, 1)) (ht : P.underlying t = some (.slice E))
    (W : World) (base : Nat) (v : Value) (l : List UInt8) (A : Option Addr) (c : Nat) (l2 : List UInt8) (hs : a.eval s = v) (hx : a.eval x = .slice A l2.length c) (HO : OB E W base v l) (HR : SB W A c l2) (hbase : base ≤ W.heap.size) (hl : l.length + l2.length ≤ 140737488355328)
    (h : ∀ v1 w1, App (E := E) W base v (l ++ l2) v1 w1 → wpList P ops Q rest (a.put o.dst v1) w1) : wpList P ops Q (o :: rest) a W := by
  obtain ⟨v1, w1, hr, hap⟩ := app_run t hinfo ht o.type W base v l A c l2 HO HR hbase hl
  refine wpList_plain hgd fun K hK => ?_
  unfold Oper.wp execOp
  simp only [ho, resolve, invoke, builtin, Sem.run_bind, Sem.run_pure, Result.andThen_ok, List.map_toArray, List.map_cons, List.map_nil, hs, hx, hr]
  exact hK _ _ (h v1 w1 hap)
/-- The same inside a region that draws its order. -/
theorem app_step {oi : Oper} {N : Option Tmp} {K : Act → World → Prop} (s x : Operand) (t : TypeId) (hw : Region.wanted oi (yielded ops a.tmps) = true) (hN : oi.dst = N) (ho : oi.op = .call { callee := .builtin .append, args := #[s, x], argTypes := #[t, t] })
    (hinfo : (P.info? E).map (fun i => (i.zero, i.size, i.bytes)) = some (some (.int .u8 0), 1, 1)) (ht : P.underlying t = some (.slice E))
    (W : World) (base : Nat) (v : Value) (l : List UInt8) (A : Option Addr) (c : Nat) (l2 : List UInt8) (hs : a.eval s = v) (hx : a.eval x = .slice A l2.length c) (HO : OB E W base v l) (HR : SB W A c l2) (hbase : base ≤ W.heap.size) (hl : l.length + l2.length ≤ 140737488355328)
    (h : ∀ v1 w1, App (E := E) W base v (l ++ l2) v1 w1 → K (a.put N v1) w1) : if Region.wanted oi (yielded ops a.tmps) = true then Oper.wp P oi a W K Q else K (a.put N undef) W := by
  obtain ⟨v1, w1, hr, hap⟩ := app_run t hinfo ht oi.type W base v l A c l2 HO HR hbase hl
  rw [if_pos hw]
  subst hN
  unfold Oper.wp execOp
  simp only [ho, resolve, invoke, builtin, Sem.run_bind, Sem.run_pure, Result.andThen_ok, List.map_toArray, List.map_cons, List.map_nil, hs, hx, hr]
  exact h v1 w1 hap
/-- The bytes of a string. -/
theorem strCells_byv (s : ByteArray) : Lib.strCells s = byv s.data.toList := rfl
/-- 'append(v, s...)', s a string. -/
theorem app_str_run (t ts : TypeId) (hinfo : (P.info? E).map (fun i => (i.zero, i.size, i.bytes)) = some (some (.int .u8 0), 1, 1)) (ht : P.underlying t = some (.slice E)) (hts : P.underlying ts = some .string) (ty : TypeId)
    (W : World) (base : Nat) (v : Value) (l : List UInt8) (s : ByteArray) (HO : OB E W base v l) (hbase : base ≤ W.heap.size) (hl : l.length + s.size ≤ 140737488355328) :
    ∃ v1 w1, (Builtin.append_ #[t, ts] ty #[v, .string s]).run P W = .ok v1 w1 ∧ App (E := E) W base v (l ++ s.data.toList) v1 w1 := by
  obtain ⟨i0, hi, hzz⟩ := Option.map_eq_some_iff.1 hinfo
  simp only [Prod.mk.injEq] at hzz
  obtain ⟨hz0, hz1, hz2⟩ := hzz
  have hsl : s.data.toList.length = s.size := by rw [Array.length_toList]; rfl
  obtain ⟨v1, w1, hr, h2, h3, h4⟩ := Lib.run_append_own_string (P := P) W base t ts ty E i0 ht hts hi hz0 hz1 hz2 v l.length (byv l) HO.1 s (by simp only [maxLen]; omega) (by omega) hbase
  refine ⟨v1, w1, hr, ⟨by rw [List.length_append, byv_append, ← strCells_byv, hsl]; exact h2, by rw [List.length_append, hsl]; omega⟩, h3, ?_⟩
  rcases HO.1.2 with ⟨rfl, hn⟩ | ⟨g, cap, cur, rfl, hbg, hg, hnc, hcm, hcs, htake⟩
  · by_cases h0 : s.size = 0
    · have := h4.2 ⟨rfl, h0⟩
      exact .inl (by rw [this])
    · have e := run_append_nil_string (P := P) W t ts ty E i0 (.int .u8 0) ht hts hi hz0 s (by omega) (by omega) (by rw [hz2]; omega)
      rw [e] at hr
      injection hr with hr _
      exact .inr ⟨W.heap.size, by rw [← hr]; rfl, Nat.le_refl _⟩
  · by_cases hroom : l.length + s.size ≤ cap
    · have e := Lib.run_append_room_string (P := P) W t ts ty E i0 ht hts hi hz1 g l.length cap cur hg s hroom (by omega)
      rw [e] at hr
      injection hr with hr _
      exact .inl (by rw [← hr]; rfl)
    · have holds : ∀ j u, (byv l)[j]? = some u → W.cell? ((⟨g, 0, none⟩ : Addr).add j) = some u := HO.1.cells (g := g) rfl
      have e := Lib.run_append_grow_string (P := P) W t ts ty E i0 (.int .u8 0) ht hts hi hz0 ⟨g, 0, none⟩ l.length cap (byv l) (by rw [hz1]; simp) holds s (by omega) (by omega) (by rw [hz2]; exact growslice_fits (by omega) (by omega))
      rw [e] at hr
      injection hr with hr _
      exact .inr ⟨W.heap.size, by rw [← hr]; rfl, Nat.le_refl _⟩
theorem wp_app_str (s x : Operand) (t ts : TypeId) (hgd : o.guard = none) (ho : o.op = .call { callee := .builtin .append, args := #[s, x], argTypes := #[t, ts] })
    (hinfo : (P.info? E).map (fun i => (i.zero, i.size, i.bytes)) = some (some (.int .u8 0), 1, 1)) (ht : P.underlying t = some (.slice E)) (hts : P.underlying ts = some .string)
    (W : World) (base : Nat) (v : Value) (l : List UInt8) (b : ByteArray) (hs : a.eval s = v) (hx : a.eval x = .string b) (HO : OB E W base v l) (hbase : base ≤ W.heap.size) (hl : l.length + b.size ≤ 140737488355328)
    (h : ∀ v1 w1, App (E := E) W base v (l ++ b.data.toList) v1 w1 → wpList P ops Q rest (a.put o.dst v1) w1) : wpList P ops Q (o :: rest) a W := by
  obtain ⟨v1, w1, hr, hap⟩ := app_str_run t ts hinfo ht hts o.type W base v l b HO hbase hl
  refine wpList_plain hgd fun K hK => ?_
  unfold Oper.wp execOp
  simp only [ho, resolve, invoke, builtin, Sem.run_bind, Sem.run_pure, Result.andThen_ok, List.map_toArray, List.map_cons, List.map_nil, hs, hx, hr]
  exact hK _ _ (h v1 w1 hap)
end
end

theorem toList_data (s : ByteArray) : s.toList = s.data.toList := ByteArray.toList_eq s

/-! ### A string out of bytes, bytes out of a string -/
theorem run_string {P : Program} {src dst e : TypeId} (hs : P.underlying src = some (.slice e)) (he : P.underlying e = some (.int .u8)) (hd : P.underlying dst = some .string) (W : World) (A : Option Addr) (c : Nat) (l : List UInt8) (h : SB W A c l) :
    (convert src dst (.slice A l.length c)).run P W = .ok (.string ⟨l.toArray⟩) W := by
  rcases Nat.eq_zero_or_pos l.length with h0 | h0
  · have : l = [] := List.eq_nil_of_length_eq_zero h0
    subst this
    cases A with
    | none => exact run_convert_bytes_nil W src e hs he 0 c dst hd
    | some a =>
      have hr := run_convert_bytes_arg W src e hs he a.block a.off 0 c [] rfl (fun i hi => absurd hi (Nat.not_lt_zero i)) dst hd
      simp [convert, run_underlying hs, run_underlying hd, run_underlying he, loadCells, loadCellsFrom, strOfNums, go_sem] at hr ⊢
      try exact hr
  · obtain ⟨b, off, rfl, hc⟩ := h.cells h0
    have hr := run_convert_bytes_arg W src e hs he b off l.length c (l.map fun x : UInt8 => (x.toNat : Int)) (by simp) (fun i hi => by rw [hc i hi]; simp [hi]) dst hd
    rw [hr]
    congr 2
    unfold strOfNums
    congr 1
    rw [List.map_map]
    have : (l.map ((fun n : Int => UInt8.ofNat n.toNat) ∘ fun x : UInt8 => (x.toNat : Int))) = l := by
      conv => rhs; rw [← List.map_id l]
      apply List.map_congr_left
      intro x _
      simp
    rw [this]
/-- 'string([]byte{x})'. -/
theorem run_string_one {P : Program} {src dst e : TypeId} (hs : P.underlying src = some (.slice e)) (he : P.underlying e = some (.int .u8)) (hd : P.underlying dst = some .string) (W : World) (x : Int) :
    (convert src dst (.slice (some ⟨W.heap.size, 0, none⟩) 1 1)).run P (W.alloc (.cells #[.int .u8 x] e)) = .ok (.string ⟨#[UInt8.ofNat x.toNat]⟩) (W.alloc (.cells #[.int .u8 x] e)) := by
  have h := run_convert_bytes_arg (P := P) (W.alloc (.cells #[.int .u8 x] e)) src e hs he W.heap.size 0 1 1 [x] rfl (fun i hi => ?_) dst hd
  · rw [h]; rfl
  · have : i = 0 := by omega
    subst this
    have e1 : (W.alloc (.cells #[.int .u8 x] e)).heap[W.heap.size]? = some (.cells #[.int .u8 x] e) := heap_alloc_new W _
    unfold World.cell?
    rw [e1]
    simp
theorem run_string_one_drew {P : Program} {src dst e : TypeId} (hs : P.underlying src = some (.slice e)) (he : P.underlying e = some (.int .u8)) (hd : P.underlying dst = some .string) (W : World) (x : Int) :
    (convert src dst (.slice (some ⟨W.heap.size, 0, none⟩) 1 1)).run P (W.alloc (.cells #[.int .u8 x] e)).drew = .ok (.string ⟨#[UInt8.ofNat x.toNat]⟩) (W.alloc (.cells #[.int .u8 x] e)).drew :=
  run_string_one hs he hd W.drew x
theorem bdrew_left {B : Nat} {W w1 : World} (h : Below B W.drew w1) : Below B W w1 := ⟨h.os, h.tape, h.output, h.size, h.block⟩
/-- The same, a call having come between. -/
theorem run_string_after {P : Program} {src dst e : TypeId} (hs : P.underlying src = some (.slice e)) (he : P.underlying e = some (.int .u8)) (hd : P.underlying dst = some .string) {W w1 : World} {x : Int} (hb : Below (W.alloc (.cells #[.int .u8 x] e)).heap.size (W.alloc (.cells #[.int .u8 x] e)) w1) :
    (convert src dst (.slice (some ⟨W.heap.size, 0, none⟩) 1 1)).run P w1 = .ok (.string ⟨#[UInt8.ofNat x.toNat]⟩) w1 := by
  have h := run_convert_bytes_arg (P := P) w1 src e hs he W.heap.size 0 1 1 [x] rfl (fun i hi => ?_) dst hd
  · rw [h]; rfl
  · have : i = 0 := by omega
    subst this
    have := boxc (w := W) (cs := [.int .u8 x]) (t := e) (fr := (0, 0)) (wr := w1) (by simpa using hb) 0
    simpa using this
section
variable {P : Program} {ops : Array Oper} {rest : List Oper} {o : Oper} {a : Act} {Q : Exit → Act → World → Prop}
/-- The operation 'string(b)'. -/
theorem wp_string {src dst e : TypeId} {x : Operand} (hgd : o.guard = none) (ho : o.op = .convert src dst x) (hs : P.underlying src = some (.slice e)) (he : P.underlying e = some (.int .u8)) (hd : P.underlying dst = some .string)
    (W : World) (A : Option Addr) (c : Nat) (l : List UInt8) (hx : a.eval x = .slice A l.length c) (h : SB W A c l) (k : wpList P ops Q rest (a.put o.dst (.string ⟨l.toArray⟩)) W) : wpList P ops Q (o :: rest) a W := by
  refine wpList_plain hgd fun K hK => ?_
  unfold Oper.wp execOp
  simp only [ho, hx, Sem.run_bind, run_string hs he hd W A c l h, Result.andThen_ok, Sem.run_pure]
  exact hK _ _ k
end
/-- '[]byte(s)'. -/
def bytesAt (E : TypeId) (s : ByteArray) (w : World) : World := Lib.bytesWorld w E s
theorem run_bytes {P : Program} (src dst e : TypeId) {u : TypeDesc} (hs : P.underlying src = some u) (hd : P.underlying dst = some (.slice e)) (he : P.underlying e = some (.int .u8)) (s : ByteArray) (hsz : s.size ≤ 140737488355328) (W : World) :
    ∃ c, (convert src dst (.string s)).run P W = .ok (.slice (some ⟨W.heap.size, 0, none⟩) s.data.toList.length c) (bytesAt e s W) ∧ SB (bytesAt e s W) (some ⟨W.heap.size, 0, none⟩) c s.data.toList ∧ Below W.heap.size W (bytesAt e s W) ∧ (bytesAt e s W).heap.size = W.heap.size + 1 := by
  have hl : s.data.toList.length = s.size := by rw [Array.length_toList]; rfl
  refine ⟨grownCap W s.size 0 e, ?_, ⟨?_, ?_, fun hp => ⟨_, 0, rfl, fun j hj => ?_⟩⟩, ⟨rfl, rfl, rfl, ?_, fun i hi => Lib.bytesWorld_at_old W e s i hi⟩, Lib.bytesWorld_size W e s⟩
  · rw [hl]; exact Lib.run_convert_string_bytes W src dst e s hs hd he
  · rw [hl]; exact grownCap_ge W s.size 0 e
  · have := grownCap_le_maxLen W s.size 0 e (by simp only [maxLen]; omega)
    simp only [maxLen] at this; omega
  · rw [Nat.zero_add]
    have := Lib.bytesWorld_cell W e s j (by omega)
    rw [bytesAt, this]
    simp [List.getD_eq_getElem?_getD, List.getElem?_eq_getElem hj]
  · rw [bytesAt, Lib.bytesWorld_size]; omega

/-! ### Values of documents -/
inductive Val where
  | mk (kind : Int) (text more : ByteArray) (n bits high : Int) (b : List UInt8) (kids : List (ByteArray × Val))
namespace Val
def kind : Val → Int | mk k _ _ _ _ _ _ _ => k
def text : Val → ByteArray | mk _ t _ _ _ _ _ _ => t
def more : Val → ByteArray | mk _ _ t _ _ _ _ _ => t
def n : Val → Int | mk _ _ _ n _ _ _ _ => n
def bits : Val → Int | mk _ _ _ _ n _ _ _ => n
def high : Val → Int | mk _ _ _ _ _ n _ _ => n
def b : Val → List UInt8 | mk _ _ _ _ _ _ b _ => b
def kids : Val → List (ByteArray × Val) | mk _ _ _ _ _ _ _ k => k
end Val

mutual
/-- The eight cells of a value. -/
def RV (w : World) : Val → List Value → Prop
  | .mk kind text more n bits high b kids, cs => ∃ A c K d, cs = [.int .i64 kind, .string text, .string more, .int .i64 n, .int .u64 bits, .int .u64 high, .slice A b.length c, .slice K kids.length d] ∧
      SB w A c b ∧ kids.length ≤ d ∧ d ≤ 9223372036854775807 ∧ (kids = [] ∨ ∃ blk off, K = some ⟨blk, off, none⟩ ∧ RKs w blk off kids)
/-- The cells of elements, nine for each, from an address on. -/
def RKs (w : World) (blk : Nat) (off : Nat) : List (ByteArray × Val) → Prop
  | [] => True
  | (name, v) :: r => (∃ cs, RV w v cs ∧ w.cell? ⟨blk, off, none⟩ = some (.string name) ∧ ∀ j, (h : j < cs.length) → w.cell? ⟨blk, off + 1 + j, none⟩ = some cs[j]) ∧ RKs w blk (off + 9) r
end

theorem RV.len {w : World} {v : Val} {cs : List Value} (h : RV w v cs) : cs.length = 8 := by
  cases v
  simp only [RV] at h
  obtain ⟨A, c, K, d, rfl, _⟩ := h
  rfl
mutual
theorem RV.keep {w w1 : World} (hb : Below w.heap.size w w1) : ∀ {v : Val} {cs : List Value}, RV w v cs → RV w1 v cs
  | .mk kind text more n bits high b kids, cs, h => by
    simp only [RV] at h ⊢
    obtain ⟨A, c, K, d, e, hs, h1, h2, h3⟩ := h
    refine ⟨A, c, K, d, e, hs.keep hb, h1, h2, ?_⟩
    rcases h3 with h3 | ⟨blk, off, e3, h3⟩
    · exact .inl h3
    · exact .inr ⟨blk, off, e3, RKs.keep hb h3⟩
theorem RKs.keep {w w1 : World} (hb : Below w.heap.size w w1) : ∀ {kids : List (ByteArray × Val)} {blk off : Nat}, RKs w blk off kids → RKs w1 blk off kids
  | [], _, _, _ => by simp only [RKs]
  | (name, v) :: r, blk, off, h => by
    simp only [RKs] at h ⊢
    obtain ⟨⟨cs, h1, h2, h3⟩, h4⟩ := h
    exact ⟨⟨cs, RV.keep hb h1, (hb.cell (World.block_lt_of_cell? w _ h2)).trans h2, fun j hj => (hb.cell (World.block_lt_of_cell? w _ (h3 j hj))).trans (h3 j hj)⟩, RKs.keep hb h4⟩
end
/-- One of the elements: its value's eight cells. -/
theorem RKs.at_ {w : World} {blk : Nat} : ∀ {kids : List (ByteArray × Val)} {off : Nat}, RKs w blk off kids → ∀ i, (h : i < kids.length) →
    ∃ cs, RV w (kids[i]).2 cs ∧ w.cell? ⟨blk, off + i * 9, none⟩ = some (.string (kids[i]).1) ∧ ∀ j, (h : j < cs.length) → w.cell? ⟨blk, off + i * 9 + 1 + j, none⟩ = some cs[j]
  | (name, v) :: r, off, h, 0, _ => by
    simp only [RKs] at h
    simpa using h.1
  | (name, v) :: r, off, h, i + 1, hi => by
    simp only [RKs] at h
    have := RKs.at_ h.2 i (by simpa using hi)
    simp only [List.getElem_cons_succ]
    rw [show off + (i + 1) * 9 = off + 9 + i * 9 from by omega]
    exact this
/-- The same, each cell told alone. -/
theorem RKs.cells_ {w : World} {blk : Nat} {kids : List (ByteArray × Val)} {off : Nat} (hk : RKs w blk off kids) (i : Nat) (h : i < kids.length) :
    ∃ c0 c1 c2 c3 c4 c5 c6 c7, RV w (kids[i]).2 [c0, c1, c2, c3, c4, c5, c6, c7] ∧ w.cell? ⟨blk, off + i * 9, none⟩ = some (.string (kids[i]).1) ∧ w.cell? ⟨blk, off + i * 9 + 1, none⟩ = some c0 ∧ w.cell? ⟨blk, off + i * 9 + 1 + 1, none⟩ = some c1 ∧
      w.cell? ⟨blk, off + i * 9 + 1 + 2, none⟩ = some c2 ∧ w.cell? ⟨blk, off + i * 9 + 1 + 3, none⟩ = some c3 ∧ w.cell? ⟨blk, off + i * 9 + 1 + 4, none⟩ = some c4 ∧ w.cell? ⟨blk, off + i * 9 + 1 + 5, none⟩ = some c5 ∧
      w.cell? ⟨blk, off + i * 9 + 1 + 6, none⟩ = some c6 ∧ w.cell? ⟨blk, off + i * 9 + 1 + 7, none⟩ = some c7 := by
  obtain ⟨cs, hv, hn, hc⟩ := hk.at_ i h
  have hl := hv.len
  match cs, hl with
  | [c0, c1, c2, c3, c4, c5, c6, c7], _ =>
    exact ⟨c0, c1, c2, c3, c4, c5, c6, c7, hv, hn, hc 0 (by simp), hc 1 (by simp), hc 2 (by simp), hc 3 (by simp), hc 4 (by simp), hc 5 (by simp), hc 6 (by simp), hc 7 (by simp)⟩
end Go.Proofs.YtdgncemcfhocmaaGreatDoor.X
