/- Contracts of the functions that say which values are looked at. -/
import Derived.Test.YtdgncemcfhocmaaGreatDoorWords
set_option linter.unusedVariables false
set_option linter.unusedSimpArgs false
set_option maxRecDepth 100000
namespace Go.Proofs.YtdgncemcfhocmaaGreatDoor.X
open Go.RowKit

mutual
/-- How great a value is. -/
def wt : Val → Nat
  | .mk _ _ _ _ _ _ _ kids => 1 + wtK kids
def wtK : List (ByteArray × Val) → Nat
  | [] => 0
  | (_, v) :: r => 1 + wt v + wtK r
end
theorem wtK_at : ∀ (kids : List (ByteArray × Val)) (i : Nat) (h : i < kids.length), wt (kids[i]).2 < wtK kids
  | (nm, v) :: r, 0, _ => by simp only [wtK, List.getElem_cons_zero]; omega
  | (nm, v) :: r, i + 1, h => by
    have := wtK_at r i (by simpa using h)
    simp only [wtK, List.getElem_cons_succ]; omega
theorem wt_at {kind : Int} {text more : ByteArray} {n bits high : Int} {b : List UInt8} {kids : List (ByteArray × Val)} {N : Nat} (hN : wt (.mk kind text more n bits high b kids) < N + 1) (i : Nat) (h : i < kids.length) : wt (kids[i]).2 < N := by
  have := wtK_at kids i h
  simp only [wt] at hN
  omega

mutual
def count : Val → Int → Int
  | .mk _ _ _ _ _ _ _ kids, most => countK kids most 1
def countK : List (ByteArray × Val) → Int → Int → Int
  | [], _, n => n
  | (_, v) :: r, most, n => if n ≤ most then countK r most (n + count v (most - n)) else n
end
mutual
theorem count_le : ∀ (v : Val) (most : Int), 0 ≤ most → 1 ≤ count v most ∧ count v most ≤ most + 1
  | .mk _ _ _ _ _ _ _ kids, most, h => by
    have := countK_le kids most 1 (by omega) (by omega)
    simp only [count]; omega
theorem countK_le : ∀ (kids : List (ByteArray × Val)) (most n : Int), 1 ≤ n → n ≤ most + 1 → 1 ≤ countK kids most n ∧ countK kids most n ≤ most + 1
  | [], most, n, h0, h1 => by simp only [countK]; omega
  | (nm, v) :: r, most, n, h0, h1 => by
    simp only [countK]
    split
    · have := count_le v (most - n) (by omega)
      exact countK_le r most _ (by omega) (by omega)
    · omega
end
theorem countK_step (kids : List (ByteArray × Val)) (k : Nat) (h : k < kids.length) (most n : Int) (hn : n ≤ most) : countK (kids.drop k) most n = countK (kids.drop (k + 1)) most (n + count (kids[k]).2 (most - n)) := by
  rw [List.drop_eq_getElem_cons h]
  conv => lhs; unfold countK
  obtain ⟨nm, v⟩ := kids[k]
  simp only [if_pos hn]
theorem countK_stop (kids : List (ByteArray × Val)) (most n : Int) (hn : ¬ n ≤ most) : countK kids most n = n := by
  cases kids with
  | nil => simp only [countK]
  | cons x r => obtain ⟨nm, v⟩ := x; simp only [countK, if_neg hn]

theorem ret_int {k : IntKind} {a b : Int} (h : a = b) : Ending.returned (.int k a) = .returned (.int k b) := by rw [h]

set_option maxHeartbeats 400000 in
theorem docCount (N : Nat) : ∀ (v : Val) (cs : List Value) (most : Int) (w : World), wt v < N → 0 ≤ most → most ≤ 100000 → RV w v cs →
    Calls Tryz.prog 15 #[.agg cs.toArray, .int .i64 most] w fun e w' => e = .returned (.int .i64 (count v most)) ∧ Below w.heap.size w w' := by
  induction N with
  | zero => intro v cs most w h; omega
  | succ N ih =>
    intro v cs most w hN h0 h1 hv
    obtain ⟨kind, text, more, n, bits, high, b, kids⟩ := v
    simp only [RV] at hv
    obtain ⟨A, c, K, d, rfl, hs, hd, hd2, hk⟩ := hv
    go_enter Tryz.func15, Tryz.ntmps15
    go_wp2
    go_loopw [5, 6] (fun q i wr => ∃ (k : Nat) (m : Int), k ≤ kids.length ∧ i = .int .i64 k ∧ q = .int .i64 m ∧ 1 ≤ m ∧ m ≤ most + 1 ∧ Hid (countK (kids.drop k) most m = countK kids most 1) ∧
        Below (w.heap.size + 1) (w.alloc (.cells #[.int .i64 kind, .string text, .string more, .int .i64 n, .int .u64 bits, .int .u64 high, .slice A b.length c, .slice K kids.length d] 26)) wr) (fun _ i _ => kids.length - (intOf i).toNat)
    case atStart => exact ⟨0, 1, Nat.zero_le _, rfl, rfl, by omega, by omega, Lib.hid (by simp), by simpa using Below.refl _ _⟩
    case round =>
      obtain ⟨k, m, hk1, rfl, rfl, hm1, hm2, hcnt, hb⟩ := hrel
      have hz := boxs hb
      have hc7 := boxc hb 7
      simp only [List.getElem?_cons_succ, List.getElem?_cons_zero] at hc7
      by_cases hlt : k < kids.length
      · by_cases hle : m ≤ most
        · obtain ⟨blk, off, rfl, hks⟩ : ∃ blk off, K = some ⟨blk, off, none⟩ ∧ RKs w blk off kids := by
            rcases hk with hk | hk
            · rw [hk] at hlt; exact absurd hlt (Nat.not_lt_zero _)
            · exact hk
          obtain ⟨c0, c1, c2, c3, c4, c5, c6, c7, hv, hnm, e0, e1, e2, e3, e4, e5, e6, e7⟩ := (RKs.keep (boxb hb) hks).cells_ k hlt
          go_wp2_with fail
          have hcl := count_le (kids[k]).2 (most - m) (by omega)
          refine (ih (kids[k]).2 _ (most - m) wr (wt_at hN k hlt) (by omega) (by omega) hv).mono ?_
          rintro e w1 ⟨rfl, hb1⟩
          have hb2 := bstep hb (by omega) hb1
          go_wp2_with fail
          go_roundw
          case rel => exact ⟨k + 1, m + count (kids[k]).2 (most - m), by omega, by go_num, rfl, by omega, by omega, Lib.hid (by rw [← countK_step kids k hlt most m hle]; exact hcnt.out), hb2⟩
          case measure => simp [intOf]; omega
        · go_wp2_with fail
          go_ret
          exact ⟨ret_int (by simp only [count]; rw [← hcnt.out, countK_stop _ _ _ (by omega)]), boxb hb⟩
      · go_wp2_with fail
        go_ret
        exact ⟨ret_int (by simp only [count]; rw [← hcnt.out, List.drop_of_length_le (by omega)]; simp only [countK]), boxb hb⟩
end Go.Proofs.YtdgncemcfhocmaaGreatDoor.X
