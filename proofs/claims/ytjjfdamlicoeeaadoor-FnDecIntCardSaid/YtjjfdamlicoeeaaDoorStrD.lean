/- Words for the walk of decimal128.String. -/
import Derived.Test.YtjjfdamlicoeeaaDoorStrT
import Derived.Test.YtjjfdamlicoeeaaDoorWLast
import Derived.Test.YtjjfdamlicoeeaaDoorWTab
import Derived.Deep.CutBlock
import Derived.Deep.DeepCutAuto
import Derived.Deep.Cut
import Derived.Deep.CutRange
set_option linter.unusedVariables false
set_option linter.unusedSimpArgs false
set_option maxRecDepth 100000
namespace Go.Proofs.YtjjfdamlicoeeaaDoor.X
open Go.RowKit Go.Deep Go.Proofs.YtjjfdamlicoeeaaDoorW.PrintLast
def sgP (h : Int) : Int := if bits .and .u64 (h / 9223372036854775808) 1 = 0 then 1 else 0
def k5P (h : Int) : Int := bits .and .u64 (h / 288230376151711744) 31
def e3P (h : Int) : Int := bits .and .u64 (h / 2305843009213693952) 3
def exP (h : Int) : Int := (if e3P h = 3 then bits .and .u64 (h / 140737488355328) 16383 else bits .and .u64 (h / 562949953421312) 16383) - 6176
def hiP (h : Int) : Int := if e3P h = 3 then 0 else bits .and .u64 h 562949953421311
def loP (h l : Int) : Int := if e3P h = 3 then 0 else l
def HeadRel (h l : Int) (w : World) (p5 e6 h7 l8 : Value) (w' : World) : Prop := p5 = .int .i64 (sgP h) ∧ e6 = .int .i64 (exP h) ∧ h7 = .int .u64 (hiP h) ∧ l8 = .int .u64 (loP h l) ∧ w = w'
def MemR (w0 w : World) (R : Nat → Int) : Prop := (∀ j, j < 48 → w.cell? ⟨w0.heap.size, j, none⟩ = some (.int .u8 (R j))) ∧ (∀ o, w.frozen? ⟨w0.heap.size, o, none⟩ = false) ∧ w0.heap.size < w.heap.size ∧ Below w0.heap.size w0 w
theorem MemR.set {w0 w : World} {R : Nat → Int} (h : MemR w0 w R) (i c : Int) (v : Value) (hv : v = .int .u8 c) : MemR w0 (w.setCell ⟨w0.heap.size, i.toNat, none⟩ v) (setR R i c) := by
  subst hv
  refine ⟨fun j hj => ?_, fun o => by simp [h.2.1], by simpa using h.2.2.1, h.2.2.2.setCell (Nat.le_refl _) _⟩
  unfold setR
  by_cases hji : j = i.toNat
  · subst hji
    have h1 := h.1 _ hj
    have h2 := h.2.2.1
    simp [go_sem, h1, h2]
  · rw [if_neg hji, World.cell?_setCell_other _ _ _ _ (by intro e; injection e with e1 e2; omega)]
    exact h.1 j hj
def ORelS (w0 : World) (T : DS) (e6 h7 l8 l10 i11 d12 r13 d14 : Value) (wr : World) : Prop := ∃ (s : DS) (d : Nat), d ≤ 5 ∧ e6 = .int .i64 s.exp ∧ h7 = .int .u64 s.hi ∧ l8 = .int .u64 s.lo ∧ l10 = .int .i64 s.last ∧ i11 = .int .i64 s.i ∧ d12 = .int .i64 s.dot ∧ r13 = .int .u32 s.rem ∧ d14 = .int .i64 d ∧ Inv s (9 * d) ∧ outr (5 - d) s = T ∧ MemR w0 wr s.R
def IRelS (w0 : World) (H L : Int) (k0 : Nat) (fin : DS × Bool) (e6 l10 i11 d12 r13 j15 : Value) (wr : World) : Prop := ∃ (s : DS) (j : Nat), j ≤ 9 ∧ e6 = .int .i64 s.exp ∧ l10 = .int .i64 s.last ∧ i11 = .int .i64 s.i ∧ d12 = .int .i64 s.dot ∧ r13 = .int .u32 s.rem ∧ j15 = .int .i64 j ∧ s.hi = H ∧ s.lo = L ∧ Inv s (k0 + j) ∧ inn (9 - j) s = fin ∧ MemR w0 wr s.R
def FinS (w0 : World) (T : DS) (e6 l10 : Value) (w' : World) : Prop := e6 = .int .i64 T.exp ∧ l10 = .int .i64 T.last ∧ Okd T ∧ MemR w0 w' T.R
def s0P (E H L : Int) : DS := ⟨H, L, 0, E, 48, 48, 48 + E, fun _ => 0⟩
theorem bits14 (z : Int) (h0 : 0 ≤ z) (h1 : z ≤ 18446744073709551615) : 0 ≤ bits .and .u64 z 16383 ∧ bits .and .u64 z 16383 ≤ 16383 := by
  have h := bits_mask .u64 64 (by decide) wraps_u64 14 (by decide) z h0 (by omega)
  have e : bits .and .u64 z 16383 = z % 16384 := h
  omega
theorem bits49 (z : Int) (h0 : 0 ≤ z) (h1 : z ≤ 18446744073709551615) : 0 ≤ bits .and .u64 z 562949953421311 ∧ bits .and .u64 z 562949953421311 ≤ 562949953421311 := by
  have h := bits_mask .u64 64 (by decide) wraps_u64 49 (by decide) z h0 (by omega)
  have e : bits .and .u64 z 562949953421311 = z % 562949953421312 := h
  omega
theorem exP_bd (h : Int) (h1 : 0 ≤ h) (h2 : h ≤ 18446744073709551615) : -6176 ≤ exP h ∧ exP h ≤ 10207 := by
  have a := bits14 (h / 140737488355328) (by omega) (by omega)
  have b := bits14 (h / 562949953421312) (by omega) (by omega)
  unfold exP
  split <;> omega
theorem hiP_bd (h : Int) (h1 : 0 ≤ h) (h2 : h ≤ 18446744073709551615) : 0 ≤ hiP h ∧ hiP h ≤ 562949953421311 := by
  have a := bits49 h h1 h2
  unfold hiP
  split <;> omega
theorem loP_bd (h l : Int) (h3 : 0 ≤ l) (h4 : l ≤ 18446744073709551615) : 0 ≤ loP h l ∧ loP h l ≤ 18446744073709551615 := by
  unfold loP
  split <;> omega
theorem tab_keep {w w1 : World} (h : Lib.TabIs Tryd.prog w "internal/strconv.uint64pow10" .u64 Lib.pow10Tab) (hb : Below w.heap.size w w1) : Lib.TabIs Tryd.prog w1 "internal/strconv.uint64pow10" .u64 Lib.pow10Tab := by
  have hg : Tryd.prog.globalNamed "internal/strconv.uint64pow10" = some 18 := by kernel_rfl
  have hc : w.cell? ⟨18, 0, none⟩ = some (.int .u64 (Lib.pow10Tab.getD 0 0)) := Lib.TabIs.cell h hg 0 (by decide)
  have hlt : 18 < w.heap.size := World.block_lt_of_cell? w _ hc
  unfold Lib.TabIs
  rw [World.Since.var (⟨hb.os, hb.tape, hb.output, hb.size, hb.block⟩ : w.Since w.heap.size w1) hg hlt]
  exact h
theorem s0P_inv (E H L : Int) (hE : -6176 ≤ E ∧ E ≤ 10207) (hH : 0 ≤ H ∧ H ≤ 562949953421311) (hL : 0 ≤ L ∧ L ≤ 18446744073709551615) : Inv (s0P E H L) (9 * 0) := by
  refine ⟨⟨?_, ?_, ?_, ?_, ?_, ?_, ?_, ?_, ?_, ?_, ?_, ?_, fun j => ⟨?_, ?_⟩⟩, .inl ⟨?_, ?_, ?_, ?_⟩⟩
  all_goals simp only [s0P]
  all_goals omega
theorem start48 (w : World) : MemR w (w.alloc (.cells #[.int .u8 0, .int .u8 0, .int .u8 0, .int .u8 0, .int .u8 0, .int .u8 0, .int .u8 0, .int .u8 0, .int .u8 0, .int .u8 0, .int .u8 0, .int .u8 0, .int .u8 0, .int .u8 0, .int .u8 0, .int .u8 0, .int .u8 0, .int .u8 0, .int .u8 0, .int .u8 0, .int .u8 0, .int .u8 0, .int .u8 0, .int .u8 0, .int .u8 0, .int .u8 0, .int .u8 0, .int .u8 0, .int .u8 0, .int .u8 0, .int .u8 0, .int .u8 0, .int .u8 0, .int .u8 0, .int .u8 0, .int .u8 0, .int .u8 0, .int .u8 0, .int .u8 0, .int .u8 0, .int .u8 0, .int .u8 0, .int .u8 0, .int .u8 0, .int .u8 0, .int .u8 0, .int .u8 0, .int .u8 0] 107)) (fun _ => 0) := by
  refine ⟨fun j hj => ?_, fun o => by simp [go_sem], by simp, balloc (Below.refl _ _) (Nat.le_refl _) _⟩
  have e : (#[.int .u8 0, .int .u8 0, .int .u8 0, .int .u8 0, .int .u8 0, .int .u8 0, .int .u8 0, .int .u8 0, .int .u8 0, .int .u8 0, .int .u8 0, .int .u8 0, .int .u8 0, .int .u8 0, .int .u8 0, .int .u8 0, .int .u8 0, .int .u8 0, .int .u8 0, .int .u8 0, .int .u8 0, .int .u8 0, .int .u8 0, .int .u8 0, .int .u8 0, .int .u8 0, .int .u8 0, .int .u8 0, .int .u8 0, .int .u8 0, .int .u8 0, .int .u8 0, .int .u8 0, .int .u8 0, .int .u8 0, .int .u8 0, .int .u8 0, .int .u8 0, .int .u8 0, .int .u8 0, .int .u8 0, .int .u8 0, .int .u8 0, .int .u8 0, .int .u8 0, .int .u8 0, .int .u8 0, .int .u8 0] : Array Value) = Array.replicate 48 (.int .u8 0) := rfl
  rw [e]
  simp [go_sem, hj]
end Go.Proofs.YtjjfdamlicoeeaaDoor.X
