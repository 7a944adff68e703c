/- Contracts of natOf, nat.divW. -/
import Derived.Test.YtjjfdamlicoeeaaDoorNat1
import Derived.Laws.Rows
import Derived.Laws.OwnMore
set_option linter.unusedVariables false
set_option linter.unusedSimpArgs false
set_option maxRecDepth 100000
namespace Go.Proofs.YtjjfdamlicoeeaaDoor.X
open Go.RowKit Go.Deep
theorem natOf (v : Nat) (w : World) (hv : v ≤ 18446744073709551615) :
    Calls Tryd.prog 103 #[.int .u64 (v : Int)] w fun e w' => ∃ A c, e = .returned (.slice A (nat32 v).length c) ∧ GS w' A c (u32v (nat32 v)) ∧ (∀ a, A = some a → w.heap.size ≤ a.block) ∧ Below w.heap.size w w' := by
  have hn : nv [v % 4294967296, v / 4294967296] = v := by simp only [nv]; omega
  have HN := Lib.hid (fun wx (h : GS wx (some ⟨w.heap.size, 0, none⟩) 2 (u32v [v % 4294967296, v / 4294967296])) => norm (some ⟨w.heap.size, 0, none⟩) 2 [v % 4294967296, v / 4294967296] wx h (by simp) (by intro a ha; simp at ha; omega))
  rw [hn] at HN
  have hg := GS.lit_ (E := 45) w (u32v [v % 4294967296, v / 4294967296]) [.int .u32 ((v : Int) % 4294967296), .int .u32 ((v : Int) / 4294967296)] (by simp [u32v]) (by simp [u32v]) 2 (by simp [u32v])
  have HG := Lib.hid hg
  obtain ⟨L, hL⟩ : ∃ L, L = nat32 v := ⟨_, rfl⟩
  rw [← hL] at HN ⊢
  obtain ⟨z, hz⟩ : ∃ z : Int, z = (v : Int) := ⟨_, rfl⟩
  rw [← hz] at HG ⊢
  have hzb : 0 ≤ z ∧ z ≤ 18446744073709551615 := by omega
  clear hn hg hL hz
  go_enter Tryd.func103, Tryd.ntmps103
  go_wp2_with fail
  refine (HN.out _ HG.out).mono ?_
  rintro e w1 ⟨rfl, hs, rfl⟩
  have HS := Lib.hid hs
  clear hs
  go_wp2_with fail
  go_ret
  exact ⟨_, _, rfl, HS.out, (fun a ha => by injection ha with ha; subst ha; exact Nat.le_refl _), balloc (Below.refl _ _) (Nat.le_refl _) _⟩
def DvRel (w0 : World) (Q n : Nat) (l : List Nat) (y : Nat) (c i : Value) (wr : World) : Prop := ∃ (k : Nat) (qs : List Nat) (cc : Nat), k + qs.length = n ∧ i = .int .i64 ((k : Int) - 1) ∧ c = .int .u64 (cc : Int) ∧ cc < y ∧ nv qs * y + cc = nv (l.drop k) ∧ Low qs ∧
  wr.heap[Q]? = some (.cells (u32v (List.replicate k 0 ++ qs)).toArray 45 (0, 0)) ∧ Below Q w0 wr
theorem nv_drop (l : List Nat) (k : Nat) (h : k < l.length) : nv (l.drop k) = l[k] + 4294967296 * nv (l.drop (k + 1)) := by
  rw [List.drop_eq_getElem_cons h]; rfl
theorem made_u32 (n : Nat) : (madeCells #[Value.int .u32 0] n) = (u32v (List.replicate n 0)).toArray := by
  apply Array.ext'
  rw [toList_madeCells_one]
  simp [u32v]
theorem rep_set (k : Nat) (qs : List Nat) (x : Nat) : (u32v (List.replicate (k + 1) 0 ++ qs)).toArray.setIfInBounds k (.int .u32 (x : Int)) = (u32v (List.replicate k 0 ++ x :: qs)).toArray := by
  apply Array.ext'
  simp only [List.setIfInBounds_toArray, u32v]
  rw [List.replicate_succ', List.append_assoc, List.map_append, List.set_append_right k _ (by simp)]
  simp
theorem dv_alg (d V m x cc n : Nat) (hn : n = cc * 4294967296 + x) (hd : d = n / 1000000000) (hm : m = n % 1000000000) : (d + 4294967296 * V) * 1000000000 + m = x + 4294967296 * (V * 1000000000 + cc) := by omega
theorem divW (A : Option Addr) (c : Nat) (N : Nat) (w : World) (hs : GS w A c (u32v (nat32 N))) (hl : (nat32 N).length ≤ 1000000000) :
    Calls Tryd.prog 104 #[.slice A (nat32 N).length c, .int .u32 1000000000] w fun e w' => ∃ A' c', e = .returned (.tuple #[.slice A' (nat32 (N / 1000000000)).length c', .int .u32 ((N % 1000000000 : Nat) : Int)]) ∧ GS w' A' c' (u32v (nat32 (N / 1000000000))) ∧ (∀ a, A' = some a → w.heap.size ≤ a.block) ∧ (∀ a, A' = some a → a.block < w'.heap.size) ∧ Below w.heap.size w w' := by
  have hnl : nv (nat32 N) = N := nv_nat32 N
  have hlow := nat32_low N
  obtain ⟨l, hll⟩ : ∃ l, l = nat32 N := ⟨_, rfl⟩
  rw [← hll] at hs hl hnl hlow ⊢
  have hmk := run_make_row' (P := Tryd.prog) 94 45 (.int .u32 0) 4 Tryd.underlying94 infoU32 rfl .i64 .i64 l.length (by omega) (by omega)
  obtain ⟨q, hq⟩ : ∃ q, q = l.length := ⟨_, rfl⟩
  rw [← hq] at hl hmk ⊢
  have HQ := Lib.hid hq
  have HS := Lib.hid hs
  have HNL := Lib.hid hnl
  have HLOW := Lib.hid hlow
  clear hs hll hq hnl hlow
  go_enter Tryd.func104, Tryd.ntmps104
  go_wp2_with fail
  go_loopw [7, 8] (fun cv i wr => DvRel (w.alloc (.cells (madeCells #[.int .u32 0] q) 45)) w.heap.size q l 1000000000 cv i wr) (fun _ i _ => (intOf i + 1).toNat)
  case atStart => exact ⟨q, [], 0, by simp, by simp, rfl, by omega, by rw [List.drop_eq_nil_of_le (by have := HQ.out; omega)]; simp [nv], (fun a ha => by simp at ha), by rw [List.append_nil, ← made_u32]; exact heap_alloc_new w _, Below.refl _ _⟩
  case round =>
    obtain ⟨k, qs, cc, hk, rfl, rfl, hcc, hval, hql, hblk, hb⟩ := hrel
    have hq := HQ.out
    by_cases h0 : k = 0
    · subst h0
      simp only [Nat.zero_add] at hk
      simp only [List.replicate_zero, List.nil_append] at hblk
      simp only [List.drop_zero] at hval
      rw [HNL.out] at hval
      have hqv : nv qs = N / 1000000000 := by omega
      have hcv : cc = N % 1000000000 := by omega
      have hgs := gs_row hblk (by simp [u32v]; omega)
      rw [show (u32v qs).length = q from by simp [u32v]; omega] at hgs
      have hnm := norm (some ⟨w.heap.size, 0, none⟩) q qs wr hgs (by omega) hql
      rw [hk, hqv] at hnm
      have HNM := Lib.hid hnm
      have HB := Lib.hid ((balloc (Below.refl _ w) (Nat.le_refl _) (.cells (madeCells #[.int .u32 0] q) 45)).trans hb)
      have hcw : IntKind.u32.wrap (cc : Int) = (cc : Int) := IntWalk.u32_in _ (by omega)
      have HCV := Lib.hid hcv
      have hltE : w.heap.size < wr.heap.size := by have := hb.size; simp only [World.size_alloc] at this; omega
      clear hnm hgs hblk hb hq hqv hcv hval hk hql
      go_wp2_with fail
      refine HNM.out.mono ?_
      rintro e w4 ⟨rfl, hs4, rfl⟩
      have HS4 := Lib.hid hs4
      clear hs4
      go_wp2_with fail
      go_ret2
      exact ⟨_, _, by rw [← HCV.out]; rfl, HS4.out, (fun a ha => by injection ha with ha; subst ha; exact Nat.le_refl _), (fun a ha => by injection ha with ha; subst ha; exact hltE), HB.out⟩
    · obtain ⟨p, rfl⟩ : ∃ p, k = p + 1 := ⟨k - 1, by omega⟩
      obtain ⟨b, off, rfl, hc⟩ := HS.out.cells (by simp [u32v]; omega)
      have hcp := hc p (by simp [u32v]; omega)
      have hblt : b < w.heap.size := World.block_lt_of_cell? w _ hcp
      obtain ⟨x, hx⟩ : ∃ x : Nat, x = l[p] := ⟨_, rfl⟩
      have hxl := HLOW.out l[p] (List.getElem_mem (by omega))
      rw [← hx] at hxl
      have hcx : wr.cell? ⟨b, off + p, none⟩ = some (.int .u32 (x : Int)) := by
        rw [hb.cell (p := ⟨b, off + p, none⟩) hblt, World.cell?_alloc_past _ _ _ hblt, hcp, hx]; simp [u32v]
      have hgs := gs_row hblk (by simp [u32v]; omega)
      obtain ⟨b2, o2, e2, hc2⟩ := hgs.cells (by simp [u32v]; omega)
      obtain ⟨rfl, rfl⟩ : w.heap.size = b2 ∧ 0 = o2 := by injection e2 with e3; injection e3 with e4 e5; exact ⟨e4, e5⟩
      have hcq := hc2 p (by simp [u32v]; omega)
      rw [Nat.zero_add] at hcq
      obtain ⟨old, hold⟩ : ∃ old : Int, (u32v (List.replicate (p + 1) 0 ++ qs))[p]'(by simp [u32v]; omega) = .int .u32 old := ⟨_, by simp only [u32v, List.getElem_map]; rfl⟩
      rw [hold] at hcq
      have hfq : wr.frozen? ⟨w.heap.size, p, none⟩ = false := by
        simp [World.frozen?, hblk]
      have hlt := hb.size
      simp only [World.size_alloc] at hlt
      have hlt2 : w.heap.size < wr.heap.size := by omega
      have hbr : b < wr.heap.size := by omega
      have hne : b ≠ w.heap.size := by omega
      obtain ⟨n, hn⟩ : ∃ n : Nat, n = cc * 4294967296 + x := ⟨_, rfl⟩
      obtain ⟨d, hd⟩ : ∃ d : Nat, d = n / 1000000000 := ⟨_, rfl⟩
      obtain ⟨m, hm⟩ : ∃ m : Nat, m = n % 1000000000 := ⟨_, rfl⟩
      have hnb : n < 4294967296 * 1000000000 := by omega
      have hdl : d < 4294967296 := by omega
      have k1 : IntKind.u64.wrap ((cc : Int) * 4294967296) = (cc : Int) * 4294967296 := IntWalk.u64_in _ (by omega)
      have k2 : bits .or .u64 ((cc : Int) * 4294967296) (x : Int) = (n : Int) := by
        rw [or_low (cc : Int) (x : Int) (by omega) (by omega) (by omega) (by omega)]
        omega
      have k3 : (n : Int) / 1000000000 = (d : Int) := by omega
      have k4 : (n : Int) % 1000000000 = (m : Int) := by omega
      have k5 : IntKind.u32.wrap (d : Int) = (d : Int) := IntWalk.u32_in _ (by omega)
      have HREL : Hid (∀ W : World, Below w.heap.size wr W → W.heap[w.heap.size]? = some (.cells (u32v (List.replicate p 0 ++ d :: qs)).toArray 45 (0, 0)) → DvRel (w.alloc (.cells (madeCells #[.int .u32 0] q) 45)) w.heap.size q l 1000000000 (.int .u64 (m : Int)) (.int .i64 ((p : Int) - 1)) W) := Lib.hid fun W hW hWb => by
        refine ⟨p, d :: qs, m, by simp only [List.length_cons]; omega, rfl, rfl, by omega, ?_, ?_, hWb, hb.trans hW⟩
        · rw [nv_drop l p (by omega), ← hval, ← hx]
          exact dv_alg d (nv qs) m x cc n hn hd hm
        · intro a ha
          rcases List.mem_cons.1 ha with rfl | ha
          · exact hdl
          · exact hql a ha
      have HBLK := Lib.hid hblk
      have hpq : p < q := by omega
      clear hn hd hm hval hql hb hblk hx hc hcp hc2 hgs e2 hold hq hk
      go_wp2_with fail
      go_roundw
      case rel =>
        have h := HREL.out (wr.setCell ⟨w.heap.size, p, none⟩ (.int .u32 (d : Int))) ((Below.refl w.heap.size wr).setCell (p := ⟨w.heap.size, p, none⟩) (Nat.le_refl _) _) (by rw [heap_setCell_same _ _ _ _ _ _ HBLK.out, rep_set])
        rw [← k4] at h
        simpa using h
      case measure => simp [intOf]
end Go.Proofs.YtjjfdamlicoeeaaDoor.X
