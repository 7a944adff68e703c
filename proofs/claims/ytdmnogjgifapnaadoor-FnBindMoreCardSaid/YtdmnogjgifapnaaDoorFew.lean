/- few.Read. -/
import Derived.Test.YtdmnogjgifapnaaDoorWords
import Derived.Laws.CopyOwn
import Derived.Deep.RegionLaw
import Derived.Outline
set_option linter.unusedVariables false
set_option linter.unusedSimpArgs false
set_option maxRecDepth 100000
namespace Go.Proofs.YtdmnogjgifapnaaDoor.X
open Go.RowKit
def Buf (W : World) (g : Nat) (t : TypeId) (L : List UInt8) : Prop := W.heap[g]? = some (.cells (byv L).toArray t (0, 0))
def Few (w0 W : World) (B : Nat) (R : List UInt8) (n : Int) : Prop := ∃ A c, SB w0 A c R ∧ W.heap[B]? = some (.cells #[.slice A R.length c, .int .i64 n] 89 (0, 0))
theorem sizeU8 : (Tryd.prog.info? 5).map (·.size) = some 1 := by kernel_rfl
set_option maxHeartbeats 400000 in
theorem fewRead (w0 W : World) (B g : Nat) (R L : List UInt8) (n : Int) (off m c : Nat) (t : TypeId) (hB : w0.heap.size ≤ B) (hg : B < g) (hb : Below w0.heap.size w0 W) (hF : Few w0 W B R n) (hU : Buf W g t L)
    (hm : 0 < m) (hmc : m ≤ c) (hmL : off + m ≤ L.length) (hmax : m ≤ 9223372036854775807) (hR : 0 < R.length) (hn : 1 ≤ n) (hn2 : n ≤ 100) :
    Calls Tryd.prog 152 #[.pointer (some ⟨B, 0, none⟩), .slice (some ⟨g, off, none⟩) m c] W fun e w' => ∃ k : Nat, 1 ≤ k ∧ k ≤ m ∧ k ≤ R.length ∧ e = .returned (.tuple #[.int .i64 k, .nilIface]) ∧ Few w0 w' B (R.drop k) n ∧
      Buf w' g t (L.take off ++ (R.take k ++ L.drop (off + k))) ∧ Below w0.heap.size w0 w' := by
  obtain ⟨A, cr, hs, hf⟩ := hF
  have hgW : g < W.heap.size := (Array.getElem?_eq_some_iff.1 hU).1
  have h0 : W.cell? ⟨B, 0, none⟩ = some (.slice A R.length cr) := by simp only [World.cell?, hf]; rfl
  have h1 : W.cell? ⟨B, 1, none⟩ = some (.int .i64 n) := by simp only [World.cell?, hf]; rfl
  have hz : W.frozen? ⟨B, 0, none⟩ = false := by simp only [World.frozen?, hf]; rfl
  obtain ⟨q, hq⟩ : ∃ q : Nat, (q : Int) = min (m : Int) n := ⟨(min (m : Int) n).toNat, by omega⟩
  have hq1 : 1 ≤ q ∧ q ≤ m := by omega
  obtain ⟨k, hk⟩ : ∃ k, k = min q R.length := ⟨_, rfl⟩
  have hk1 : 1 ≤ k ∧ k ≤ q ∧ k ≤ R.length := by omega
  obtain ⟨A', e0, s0⟩ := SB.from_ (P := Tryd.prog) Tryd.underlying26 rfl rfl .i64 A cr R k hk1.2.2 hs.le
  have hs0 := s0 w0 hs
  obtain ⟨b, o, rfl, hc⟩ := hs.cells hR
  obtain ⟨C, hC⟩ : ∃ C, C = byv (R.take k) := ⟨_, rfl⟩
  have hCl : C.length = k := by rw [hC]; simp [byv]; omega
  have hCn : C.length = Nat.min R.length q := by rw [hCl, hk]; show min q R.length = min R.length q; omega
  have hlt : b < w0.heap.size := World.block_lt_of_cell? _ _ (hc 0 (by omega))
  have hpos : Hid (∀ j v, C[j]? = some v → W.drew.cell? ((⟨b, o, none⟩ : Addr).add j) = some v) := Lib.hid fun j v hv => by
    have hadd : (⟨b, o, none⟩ : Addr).add j = ⟨b, o + j, none⟩ := by unfold Addr.add; split <;> simp_all
    have hj : j < k := by
      have := (List.getElem?_eq_some_iff.1 hv).1
      omega
    rw [hadd]
    have : W.drew.cell? ⟨b, o + j, none⟩ = W.cell? ⟨b, o + j, none⟩ := rfl
    rw [this, hb.cell (p := ⟨b, o + j, none⟩) hlt, hc j (by omega)]
    rw [hC, byv_get _ j (by simp; omega)] at hv
    simpa using hv
  have hfit : Hid (off + C.length ≤ (byv L).length) := Lib.hid (by simp [byv]; omega)
  have hone : Hid (∀ v ∈ C, v.oneCell' = true) := Lib.hid (by rw [hC]; exact byv_one _)
  have hUd : Hid (W.drew.heap[g]? = some (.cells (byv L).toArray t (0, 0))) := Lib.hid hU
  have hBd : Hid (Below g W W.drew) := Lib.hid (bdrew (Below.refl _ _))
  have HCn : Hid (C.length = Nat.min R.length q) := Lib.hid hCn
  have HCl := Lib.hid hCl
  have HC := Lib.hid hC
  have HS0 := Lib.hid hs0
  have hspl : splice (byv L) off C = byv (L.take off ++ (R.take k ++ L.drop (off + k))) := by
    unfold splice
    rw [hCl, hC]
    simp [byv]
  obtain ⟨V, hV⟩ : ∃ V, V = splice (byv L) off C := ⟨_, rfl⟩
  have hrl : (R.drop k).length = R.length - k := List.length_drop
  obtain ⟨r, hr⟩ : ∃ r, r = R.length := ⟨_, rfl⟩
  rw [← hr] at h0 hR hk hk1 e0 HCn hrl
  have HR := Lib.hid hr
  have HRL : Hid ((R.drop k).length = r - k) := Lib.hid hrl
  have HSPL := Lib.hid hspl
  have HK1 := Lib.hid hk1
  have HQ1 := Lib.hid hq1
  have HB := Lib.hid hb
  have HF : Hid (W.heap[B]? = some (.cells #[.slice (some ⟨b, o, none⟩) r cr, .int .i64 n] 89 (0, 0))) := Lib.hid (by rw [hr]; exact hf)
  have d0 : ((r : Int) == 0) = false := by rw [beq_eq_false_iff_ne]; omega
  have i1 : (n < 1) = False := eq_false (by omega)
  have i2 : (if n < (m : Int) then n else (m : Int)) = q := by split <;> omega
  have i3 : (q : Int) ≤ c := by omega
  clear hs hc hr hC hCl hCn hf hU hb hs0 s0 hspl hV hrl hk hk1 hq1 hq
  go_enter Tryd.func152, Tryd.ntmps152
  go_wp2_with fail
  go_region_law (refine step_copy_splice rfl (.tmp 23) (.tmp 27) 26 26 rfl 5 Tryd.underlying26 sizeU8 (some ⟨g, off, none⟩) (some ⟨b, o, none⟩) q c r cr (by simp [Act.eval, Act.put]) (by simp [Act.eval, Act.put]) g off (byv L) t hUd.out C HCn.out (fun _ => ⟨rfl, _, rfl, hpos.out⟩) hfit.out hone.out g W hBd.out (Nat.le_refl _) ?_; intro w4 hg4 hb4)
  all_goals
    have hc4 : w4.cell? ⟨B, 0, none⟩ = some (.slice (some ⟨b, o, none⟩) r cr) := (hb4.cell (p := ⟨B, 0, none⟩) hg).trans h0
    have hz4 : w4.frozen? ⟨B, 0, none⟩ = false := (hb4.frozen (p := ⟨B, 0, none⟩) hg).trans hz
    have hsz4 := hb4.size
    have hf4 : Hid (w4.heap[B]? = some (.cells #[.slice (some ⟨b, o, none⟩) r cr, .int .i64 n] 89 (0, 0))) := Lib.hid ((hb4.block B hg).trans HF.out)
    have HB4 := Lib.hid hb4
    clear hb4
    rw [HCl.out]
    go_wp2_with fail
    go_ret2
    obtain ⟨ka, kb, kc⟩ := HK1.out
    obtain ⟨qa, qb⟩ := HQ1.out
    have hR9 := HR.out
    refine ⟨k, ka, by omega, by omega, rfl, ⟨A', cr - k, HS0.out, ?_⟩, ?_, ?_⟩
    · rw [HRL.out]
      have h := heap_setCell_same w4 B 0 _ _ (.slice A' (r - k) (cr - k)) hf4.out
      simpa using h
    · unfold Buf
      rw [← HSPL.out]
      exact (heap_setCell_other w4 ⟨B, 0, none⟩ g _ (by show g ≠ B; omega)).trans hg4.out
    · exact (HB.out.trans (HB4.out.mono (by omega))).setCell hB _
end Go.Proofs.YtdmnogjgifapnaaDoor.X
