/- bytes.Reader's Read. -/
import Derived.Test.YtfhbnlbdmfjhlaaGreatDoorFew0
import Derived.Deep.RegionLaw
import Derived.BigQuiet
import Derived.Outline
set_option linter.unusedVariables false
set_option linter.unusedSimpArgs false
set_option maxRecDepth 100000
namespace Go.Proofs.YtfhbnlbdmfjhlaaGreatDoor.X
open Go.RowKit
namespace Rd
/-- A reader of L that has come to i. -/
def Rdr (w0 W : World) (B : Nat) (L : List UInt8) (i : Nat) : Prop := ∃ A c p, SB w0 A c L ∧ W.heap[B]? = some (.cells #[.slice A L.length c, .int .i64 (i : Int), .int .i64 p] 121 (0, 0))
/-- The errors of package io that readers give. -/
def IoErrs (w : World) : Prop := ∃ a1 a2, w.cell? ⟨4, 0, none⟩ = some (.iface 237 (.pointer (some a1))) ∧ w.cell? ⟨8, 0, none⟩ = some (.iface 237 (.pointer (some a2)))
theorem IoErrs.keep {w w1 : World} (h : IoErrs w) (hb : Below w.heap.size w w1) : IoErrs w1 := by
  obtain ⟨a1, a2, h1, h2⟩ := h
  exact ⟨a1, a2, (hb.cell (World.block_lt_of_cell? _ _ h1)).trans h1, (hb.cell (World.block_lt_of_cell? _ _ h2)).trans h2⟩
theorem readEnd (w0 W : World) (B g : Nat) (L : List UInt8) (i off m c : Nat) (a1 : Addr) (hB : w0.heap.size ≤ B) (hb : Below w0.heap.size w0 W) (hR : Rdr w0 W B L i) (hE : w0.cell? ⟨4, 0, none⟩ = some (.iface 237 (.pointer (some a1)))) (hi : L.length ≤ i) (hi2 : i ≤ 9223372036854775807) :
    Calls Tryz.prog 237 #[.pointer (some ⟨B, 0, none⟩), .slice (some ⟨g, off, none⟩) m c] W fun e w' => e = .returned (.tuple #[.int .i64 0, .iface 237 (.pointer (some a1))]) ∧ Below w0.heap.size w0 w' := by
  obtain ⟨A, cr, p, hs, hf⟩ := hR
  have h0 : W.cell? ⟨B, 0, none⟩ = some (.slice A L.length cr) := by simp only [World.cell?, hf]; rfl
  have h1 : W.cell? ⟨B, 1, none⟩ = some (.int .i64 (i : Int)) := by simp only [World.cell?, hf]; rfl
  have he : W.cell? ⟨4, 0, none⟩ = some (.iface 237 (.pointer (some a1))) := (hb.cell (World.block_lt_of_cell? _ _ hE)).trans hE
  have HB := Lib.hid hb
  obtain ⟨n, hn⟩ : ∃ n, n = L.length := ⟨_, rfl⟩
  rw [← hn] at h0 hi
  have i1 : decide ((n : Int) ≤ (i : Int)) = true := decide_eq_true (by omega)
  have i2 : decide ((i : Int) ≥ (n : Int)) = true := decide_eq_true (by omega)
  clear hs hf hb hE hn hB
  go_enter Tryz.func237, Tryz.ntmps237
  go_wp2_with fail
  go_quiet (fail)
  go_wp2_with fail
  go_quiet (fail)
  go_wp2_with fail
  go_ret2
  exact ⟨rfl, bdrewN (bdrewN HB.out _) _⟩
theorem w64k {n i k : Nat} (h : i + k ≤ n) (h2 : n ≤ 9223372036854775807) : wrap64 ((i : Int) + k) = (i : Int) + k := by unfold wrap64; omega
set_option maxHeartbeats 1000000 in
theorem readSome (w0 W : World) (B g : Nat) (L Lb : List UInt8) (i off m c k : Nat) (t : TypeId) (hB : w0.heap.size ≤ B) (hg : B < g) (hb : Below w0.heap.size w0 W) (hR : Rdr w0 W B L i) (hU : Buf W g t Lb)
    (hm : 0 < m) (hmc : m ≤ c) (hmL : off + m ≤ Lb.length) (hmax : m ≤ 9223372036854775807) (hi : i < L.length) (hk : k = min m (L.length - i)) :
    Calls Tryz.prog 237 #[.pointer (some ⟨B, 0, none⟩), .slice (some ⟨g, off, none⟩) m c] W fun e w' => e = .returned (.tuple #[.int .i64 k, .nilIface]) ∧ Rdr w0 w' B L (i + k) ∧
      Buf w' g t (Lb.take off ++ ((L.drop i).take k ++ Lb.drop (off + k))) ∧ Below w0.heap.size w0 w' := by
  obtain ⟨A, cr, p, hs, hf⟩ := hR
  have hgW : g < W.heap.size := (Array.getElem?_eq_some_iff.1 hU).1
  have h0 : W.cell? ⟨B, 0, none⟩ = some (.slice A L.length cr) := by simp only [World.cell?, hf]; rfl
  have h1 : W.cell? ⟨B, 1, none⟩ = some (.int .i64 (i : Int)) := by simp only [World.cell?, hf]; rfl
  have h2 : W.cell? ⟨B, 2, none⟩ = some (.int .i64 p) := by simp only [World.cell?, hf]; rfl
  have z2 : W.frozen? ⟨B, 2, none⟩ = false := by simp only [World.frozen?, hf]; rfl
  have hltB : B < W.heap.size := by omega
  obtain ⟨A', e0, s0⟩ := SB.from_ (P := Tryz.prog) Tryz.underlying22 rfl rfl .i64 A cr L i (by omega) hs.le
  have hs0 := s0 w0 hs
  have hlen := hs.len
  obtain ⟨b, o, rfl, hc⟩ := hs0.cells (by rw [List.length_drop]; omega)
  obtain ⟨R, hRR⟩ : ∃ R, R = L.drop i := ⟨_, rfl⟩
  rw [← hRR] at hs0 hc ⊢
  have hRl : R.length = L.length - i := by rw [hRR, List.length_drop]
  obtain ⟨n, hn⟩ : ∃ n, n = L.length := ⟨_, rfl⟩
  rw [← hn] at h0 hi hk hf hlen hRl e0
  obtain ⟨C, hC⟩ : ∃ C, C = byv (R.take k) := ⟨_, rfl⟩
  have hCl : C.length = k := by rw [hC]; simp [byv]; omega
  have hCn : C.length = Nat.min (n - i) m := by rw [hCl, hk]; show min m (n - i) = min (n - i) m; omega
  have hlt : b < w0.heap.size := World.block_lt_of_cell? _ _ (hc 0 (by omega))
  have hpos : Hid (∀ w2 : World, Below w0.heap.size w0 w2 → ∀ j v, C[j]? = some v → w2.drew.cell? ((⟨b, o, none⟩ : Addr).add j) = some v) := Lib.hid fun w2 hb2 j v hv => by
    have hadd : (⟨b, o, none⟩ : Addr).add j = ⟨b, o + j, none⟩ := by unfold Addr.add; split <;> simp_all
    have hj : j < k := by
      have := (List.getElem?_eq_some_iff.1 hv).1
      omega
    rw [hadd]
    have : w2.drew.cell? ⟨b, o + j, none⟩ = w2.cell? ⟨b, o + j, none⟩ := rfl
    rw [this, hb2.cell (p := ⟨b, o + j, none⟩) hlt, hc j (by omega)]
    rw [hC, byv_get _ j (by simp; omega)] at hv
    simpa using hv
  have hfit : Hid (off + C.length ≤ (byv Lb).length) := Lib.hid (by simp [byv]; omega)
  have hone : Hid (∀ v ∈ C, v.oneCell' = true) := Lib.hid (by rw [hC]; exact byv_one _)
  have HCn : Hid (C.length = Nat.min (n - i) m) := Lib.hid hCn
  have HCl := Lib.hid hCl
  have hspl : splice (byv Lb) off C = byv (Lb.take off ++ (R.take k ++ Lb.drop (off + k))) := by
    unfold splice
    rw [hCl, hC]
    simp [byv]
  have HSPL := Lib.hid hspl
  have HS := Lib.hid hs
  have HBW := Lib.hid hb
  have HFW := Lib.hid hf
  have HUW : Hid (W.heap[g]? = some (.cells (byv Lb).toArray t (0, 0))) := Lib.hid hU
  have HN := Lib.hid hn
  have HK : Hid (i + k ≤ n ∧ n ≤ 9223372036854775807) := Lib.hid ⟨by omega, hlen⟩
  have i1 : decide ((n : Int) ≤ (i : Int)) = false := decide_eq_false (by omega)
  have i2 : decide ((i : Int) ≥ (n : Int)) = false := decide_eq_false (by omega)
  clear hs hc hC hCl hCn hf hU hb hs0 s0 hspl hk hRR hRl hn hlen hlt
  go_enter Tryz.func237, Tryz.ntmps237
  go_wp2_with fail
  go_quiet (fail)
  go_wp2_with fail
  rename Nat => nq
  obtain ⟨w2, hw2⟩ : ∃ w2, w2 = (W.drewN nq).setCell ⟨B, 2, none⟩ (.int .i64 (-1)) := ⟨_, rfl⟩
  have hf2 : w2.heap[B]? = some (.cells #[.slice A n cr, .int .i64 (i : Int), .int .i64 (-1)] 121 (0, 0)) := by
    rw [hw2]
    have h := heap_setCell_same (W.drewN nq) B 2 _ _ (.int .i64 (-1)) HFW.out
    simpa using h
  have hU2 : w2.heap[g]? = some (.cells (byv Lb).toArray t (0, 0)) := by
    rw [hw2]
    exact (heap_setCell_other (W.drewN nq) ⟨B, 2, none⟩ g _ (by show g ≠ B; omega)).trans HUW.out
  have hb2 : Below w0.heap.size w0 w2 := by
    rw [hw2]
    exact (bdrewN HBW.out nq).setCell hB _
  have HB2 := Lib.hid hb2
  have HF2 := Lib.hid hf2
  have HPOS := Lib.hid (hpos.out w2 hb2)
  have hUd : Hid (w2.drew.heap[g]? = some (.cells (byv Lb).toArray t (0, 0))) := Lib.hid hU2
  have hBd : Hid (Below g w2 w2.drew) := Lib.hid (bdrew (Below.refl _ _))
  have q0 : w2.cell? ⟨B, 0, none⟩ = some (.slice A n cr) := by simp only [World.cell?, hf2]; rfl
  have q1 : w2.cell? ⟨B, 1, none⟩ = some (.int .i64 (i : Int)) := by simp only [World.cell?, hf2]; rfl
  rw [← hw2]
  clear hw2 h0 h1 h2 z2 hf2 hU2 hb2 hpos HBW HFW HUW
  go_region_law (refine step_copy_splice rfl (.tmp 20) (.tmp 29) 22 22 rfl 5 Tryz.underlying22 sizeU8 (some ⟨g, off, none⟩) (some ⟨b, o, none⟩) m c (n - i) (cr - i) (by simp [Act.eval, Act.put]) (by simp [Act.eval, Act.put]) g off (byv Lb) t hUd.out C HCn.out (fun _ => ⟨rfl, _, rfl, HPOS.out⟩) hfit.out hone.out g w2 hBd.out (Nat.le_refl _) ?_; intro w4 hg4 hb4)
  all_goals
    have hf4 := (hb4.block B hg).trans HF2.out
    have hc4 : w4.cell? ⟨B, 1, none⟩ = some (.int .i64 (i : Int)) := by simp only [World.cell?, hf4]; rfl
    have hz4 : w4.frozen? ⟨B, 1, none⟩ = false := by simp only [World.frozen?, hf4]; rfl
    have hsz4 := hb4.size
    have hlt4 : B < w4.heap.size := World.block_lt_of_cell? _ _ hc4
    have HF4 := Lib.hid hf4
    have HB4 := Lib.hid hb4
    clear hb4 hf4 q0 q1
    rw [HCl.out]
    have s1 : wrap64 ((i : Int) + k) = (i : Int) + k := w64k HK.out.1 HK.out.2
    go_wp2_with fail
    go_ret2
    clear s1
    refine ⟨rfl, ⟨A, cr, -1, HS.out, ?_⟩, ?_, ?_⟩
    · rw [← HN.out]
      have h := heap_setCell_same w4 B 1 _ _ (.int .i64 ((i : Int) + k)) HF4.out
      simpa using h
    · unfold Buf
      rw [← HSPL.out]
      exact (heap_setCell_other w4 ⟨B, 1, none⟩ g _ (by show g ≠ B; omega)).trans hg4.out
    · exact (HB2.out.trans (HB4.out.mono (by omega))).setCell hB _
end Rd
end Go.Proofs.YtfhbnlbdmfjhlaaGreatDoor.X
