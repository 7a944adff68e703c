/- Contracts of spec.VectorOf at vectors of 8 bits. -/
import Derived.Test.YtjjfdamlicoeeaaDoorVecK
import Derived.Deep.Heap
set_option linter.unusedVariables false
set_option linter.unusedSimpArgs false
set_option maxRecDepth 100000
namespace Go.Proofs.YtjjfdamlicoeeaaDoor.X
open Go.RowKit Go.Deep Go.Proofs.YtjjfdamlicoeeaaDoorW.PrintLast
def SRel (w0 : World) (V : Nat) (r : List UInt8) (i : Value) (wr : World) : Prop := ∃ (k : Nat) (v : Value), k ≤ r.length ∧ i = .int .i64 k ∧ wr.cell? ⟨V, 0, none⟩ = some (.int .i64 3) ∧ wr.cell? ⟨V, 1, none⟩ = some v ∧ wr.cell? ⟨V, 2, none⟩ = some (.slice none 0 0) ∧ wr.cell? ⟨V, 3, none⟩ = some (.slice none 0 0) ∧ wr.cell? ⟨V, 4, none⟩ = some (.int .i64 0) ∧ (∀ o, wr.frozen? ⟨V, o, none⟩ = false) ∧
  OG 71 wr V v (i8v (b8i (r.take k))) ∧ v.ownBlock ≠ some V ∧ Below V w0 wr ∧ V < wr.heap.size
theorem srel_step (w0 wr w5 : World) (V k : Nat) (v v5 : Value) (r : List UInt8) (o2 : Obj) (hk : k < r.length) (c0 : wr.cell? ⟨V, 0, none⟩ = some (.int .i64 3)) (c1 : wr.cell? ⟨V, 1, none⟩ = some v) (c2 : wr.cell? ⟨V, 2, none⟩ = some (.slice none 0 0)) (c3 : wr.cell? ⟨V, 3, none⟩ = some (.slice none 0 0)) (c4 : wr.cell? ⟨V, 4, none⟩ = some (.int .i64 0)) (hf : ∀ o, wr.frozen? ⟨V, o, none⟩ = false)
    (hog : OG 71 wr V v (i8v (b8i (r.take k)))) (hvo : v.ownBlock ≠ some V) (hb : Below V w0 wr) (hV : V < wr.heap.size) (hap : AppG (E := 71) (wr.alloc o2) V v (i8v (b8i (r.take k)) ++ [.int .i8 (i8of r[k])]) v5 w5) :
    w5.cell? ⟨V, 1, none⟩ = some v ∧ w5.frozen? ⟨V, 1, none⟩ = false ∧ V < w5.heap.size ∧ ∀ i, i = .int .i64 ((k : Int) + 1) → SRel w0 V r i (w5.setCell ⟨V, 1, none⟩ v5) := by
  have hsz := hap.grown.size
  simp only [World.size_alloc] at hsz
  have hblk : w5.heap[V]? = wr.heap[V]? := by
    have h := hap.grown.block V (by simp only [World.size_alloc]; omega) (fun e => hvo e.symm)
    rw [h]
    exact (balloc (Below.refl wr.heap.size wr) (Nat.le_refl _) o2).block V hV
  have kc : ∀ o, w5.cell? ⟨V, o, none⟩ = wr.cell? ⟨V, o, none⟩ := fun o => by unfold World.cell?; simp only [hblk]
  have kf : ∀ o, w5.frozen? ⟨V, o, none⟩ = wr.frozen? ⟨V, o, none⟩ := fun o => by unfold World.frozen?; simp only [hblk]
  have hlt5 : V < w5.heap.size := by omega
  refine ⟨(kc 1).trans c1, (kf 1).trans (hf 1), hlt5, ?_⟩
  rintro i rfl
  have hnew : v5.ownBlock ≠ some V := by
    rcases hap.at_ with e | ⟨b, e, hb2⟩
    · rw [e]; exact hvo
    · rw [e]; intro h; injection h with h; simp only [World.size_alloc] at hb2; omega
  have hown5 : OG 71 (w5.setCell ⟨V, 1, none⟩ v5) V v5 (i8v (b8i (r.take (k + 1)))) := by
    rw [i8v_push r k hk]
    refine ⟨hap.own.1.kept (row := some V) ⟨rfl, rfl, rfl, by simp, fun j _ hj => ?_⟩ (.inr hnew), hap.own.2⟩
    exact Go.Deep.blk_setCell_other _ _ _ _ (fun e => hj (by rw [e]))
  have ot : ∀ o, o ≠ 1 → (w5.setCell ⟨V, 1, none⟩ v5).cell? ⟨V, o, none⟩ = wr.cell? ⟨V, o, none⟩ := fun o ho => by
    rw [World.cell?_setCell_other _ _ _ _ (by intro e; injection e with e1 e2; exact ho e2.symm)]
    exact kc o
  refine ⟨k + 1, v5, by omega, by simp, (ot 0 (by omega)).trans c0, ?_, (ot 2 (by omega)).trans c2, (ot 3 (by omega)).trans c3, (ot 4 (by omega)).trans c4, fun o => by rw [World.frozen?_setCell]; exact (kf o).trans (hf o), hown5, hnew, ?_, by simpa using hlt5⟩
  · have h1 := (kc 1).trans c1
    simp [go_sem, h1, hlt5]
  · have h1 := (balloc hb (by omega) o2).trans (hap.kept (hog.alloc _) (by simp; omega))
    exact h1.setCell (Nat.le_refl _) _
theorem specOf3 (A : Option Addr) (c : Nat) (r : List UInt8) (w : World) (hs : SB w A c (3 :: 0 :: r)) (hl : r.length ≤ 1000000) :
    Calls Tryd.prog 19 #[.int .i64 9, .slice A (r.length + 2) c] w fun e w' => ∃ A' c', e = .returned (.tuple #[ivec3 A' r.length c', .bool true]) ∧ GS w' A' c' (i8v (b8i r)) ∧ Below w.heap.size w w' := by
  obtain ⟨b, off, rfl, hc⟩ := hs.cells (by simp)
  have hc0 := hc 0 (by simp)
  have hc1 := hc 1 (by simp)
  simp at hc0 hc1
  have hblt : b < w.heap.size := World.block_lt_of_cell? w _ hc0
  have hb1 : b < w.heap.size + 1 := by omega
  have hb2 : b < w.heap.size + 1 + 1 := by omega
  obtain ⟨A1, e1, s1⟩ := SB.from_ (P := Tryd.prog) Tryd.underlying38 rfl rfl .i64 (some ⟨b, off, none⟩) c (3 :: 0 :: r) 2 (by simp) hs.le
  have HS1 := Lib.hid (s1 w hs)
  have hle := hs.le
  have hcap := hs.cap
  simp only [List.length_cons, show r.length + 1 + 1 - 2 = r.length from by omega, Int.cast_ofNat_Int] at e1 hle
  obtain ⟨q, hq⟩ : ∃ q, q = r.length := ⟨_, rfl⟩
  rw [← hq] at e1 hle hl
  rw [← hq]
  have hlt2 : decide ((q : Int) + 2 < 2) = false := by simp; omega
  have HQ := Lib.hid hq
  clear hq hs hc s1
  go_enter Tryd.func19, Tryd.ntmps19
  go_wp2_with fail
  go_loopw [39] (fun i wr => SRel (w.alloc (.cells #[.int .i64 0, .slice none 0 0, .slice none 0 0, .slice none 0 0, .int .i64 0] 42)) (w.heap.size + 1) r i wr) (fun i _ => q - (intOf i).toNat)
  case atStart => exact ⟨0, .slice none 0 0, Nat.zero_le _, rfl, by simp [go_sem], by simp [go_sem], by simp [go_sem], by simp [go_sem], by simp [go_sem], fun o => by simp [go_sem], by simpa [b8i, i8v] using OG.nil _ _, by simp [Value.ownBlock], balloc (Below.refl _ _) (by simp) _, by simp⟩
  case round =>
    obtain ⟨k, v, hk, rfl, c0, c1, c2, c3, c4, hf, hog, hvo, hb, hV⟩ := hrel
    have hq := HQ.out
    by_cases hkq : k < q
    · have hkr : k < r.length := by omega
      obtain ⟨b3, o3, hA3, hc3⟩ := HS1.out.cells (by show 0 < r.length; omega)
      have hcw := hc3 k hkr
      have hb3 : b3 < w.heap.size := World.block_lt_of_cell? w _ hcw
      have hx1 : wr.cell? ⟨b3, o3 + k, none⟩ = some (.int .u8 (r[k].toNat : Int)) := by
        rw [hb.cell (p := ⟨b3, o3 + k, none⟩) (by show b3 < w.heap.size + 1; omega), World.cell?_alloc_past _ _ _ hb3, hcw]
        rfl
      obtain ⟨x, hxx⟩ : ∃ x, x = r[k] := ⟨_, rfl⟩
      obtain ⟨y, hy⟩ : ∃ y, y = i8of r[k] := ⟨_, rfl⟩
      have hw8 := i8_wrap x
      rw [hxx, ← hy, ← hxx] at hw8
      rw [← hxx] at hx1
      have hxb := x.toNat_lt
      obtain ⟨L, hL⟩ : ∃ L, L = i8v (b8i (r.take k)) := ⟨_, rfl⟩
      have hl6 : L.length = k := by rw [hL]; simp [i8v, b8i]; omega
      rw [← hL] at hog
      obtain ⟨A6, c6, hv6, hg6, hn6⟩ := hog.sb
      rw [hl6] at hv6
      subst hv6
      have hzb : b3 < wr.heap.size := by have := hb.size; simp at this; omega
      have HOG := Lib.hid hog
      have HVO := Lib.hid hvo
      have HB := Lib.hid hb
      have HL := Lib.hid hL
      have HLL := Lib.hid hl6
      have HY := Lib.hid hy
      have hf1 := hf 1
      have HF := Lib.hid hf
      have HQ2 := Lib.hid hq
      subst hA3
      clear hq hxx hy hL hl6 hog hvo hb hg6 hn6 hf hcw hc3
      go_wp2_with (first | (refine wp_appG (.tmp 44) (.tmp 47) 39 rfl rfl (.int .i8 0) 1 infoI8 rfl Tryd.underlying39 _ (w.heap.size + 1) (.slice A6 k c6) L (some ⟨wr.heap.size, 0, none⟩) 1 [.int .i8 y] rfl rfl ?a1 ?a2 ?a3 ?a4 ?a5 ?a6 ?_) | fail)
      case a1 => exact HOG.out.alloc _
      case a2 => exact GS.lit_ _ [.int .i8 y] _ rfl (by simp) _ rfl
      case a3 => simp; omega
      case a4 => simp [Value.oneCell']
      case a5 => rw [HLL.out]; simp; omega
      case a6 => rw [HLL.out]; simp; omega
      intro v5 w5 hap
      have hst := srel_step (w.alloc (.cells #[.int .i64 0, .slice none 0 0, .slice none 0 0, .slice none 0 0, .int .i64 0] 42)) wr w5 (w.heap.size + 1) k _ v5 r _ hkr c0 c1 c2 c3 c4 HF.out (by rw [← HL.out]; exact HOG.out) HVO.out HB.out hV (by rw [← HL.out, ← HY.out]; exact hap)
      obtain ⟨p1, pf1, hV5, hrl⟩ := hst
      obtain ⟨A7, c7, hv7, hg7, hn7⟩ := hap.own.sb
      have HRL := Lib.hid hrl
      clear hrl hap hg7 hn7
      subst hv7
      go_wp2_with fail
      go_roundw
      case rel => have h := HRL.out _ rfl; simpa using h
      case measure => simp [intOf]; omega
    · obtain rfl : k = q := by omega
      have et : r.take k = r := by rw [hq]; exact List.take_length
      rw [et] at hog
      obtain ⟨A6, c6, hv6, hg6, hn6⟩ := hog.sb
      have hl6 : (i8v (b8i r)).length = k := by simp [i8v, b8i]; omega
      rw [hl6] at hv6
      subst hv6
      have hn : ∀ a, A6 = some a → a.block ≠ w.heap.size := fun a ha => by have := (hn6 a ha).1; omega
      have r0 := hb.cell (p := ⟨w.heap.size, 0, none⟩) (by show w.heap.size < w.heap.size + 1; omega)
      have r1 := hb.cell (p := ⟨w.heap.size, 1, none⟩) (by show w.heap.size < w.heap.size + 1; omega)
      have r2 := hb.cell (p := ⟨w.heap.size, 2, none⟩) (by show w.heap.size < w.heap.size + 1; omega)
      have r3 := hb.cell (p := ⟨w.heap.size, 3, none⟩) (by show w.heap.size < w.heap.size + 1; omega)
      have r4 := hb.cell (p := ⟨w.heap.size, 4, none⟩) (by show w.heap.size < w.heap.size + 1; omega)
      have rf : ∀ o, wr.frozen? ⟨w.heap.size, o, none⟩ = false := fun o => by
        rw [hb.frozen (p := ⟨w.heap.size, o, none⟩) (by show w.heap.size < w.heap.size + 1; omega)]
        simp [go_sem]
      simp [go_sem] at r0 r1 r2 r3 r4
      have hR : w.heap.size < wr.heap.size := by omega
      have HG := Lib.hid hg6
      have HN := Lib.hid hn
      have HE := Lib.hid ((balloc (Below.refl _ w) (Nat.le_refl _) _).trans (hb.mono (by omega)))
      clear hb hog hg6 hn6 hn hvo et hl6 hq hf
      go_wp2_with fail
      have hbb : w.heap.size ≤ w.heap.size := Nat.le_refl _
      exact bodyPost_ret (v := .tuple #[ivec3 A6 k c6, .bool true]) (by simp [results, Tryd.results19, go_sem, ivec3, r0, r1, r2, r3, r4, hR]) rfl ⟨A6, c6, rfl, ((((HG.out.far HN.out _).far HN.out _).far HN.out _).far HN.out _).far HN.out _, ((((HE.out.setCell hbb _).setCell hbb _).setCell hbb _).setCell hbb _).setCell hbb _⟩
end Go.Proofs.YtjjfdamlicoeeaaDoor.X
