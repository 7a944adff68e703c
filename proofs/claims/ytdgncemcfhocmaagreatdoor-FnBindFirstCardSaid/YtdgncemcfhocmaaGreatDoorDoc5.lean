/- Contracts of the functions that count a value's bytes, and say which values are looked at. -/
import Derived.Test.YtdgncemcfhocmaaGreatDoorDoc4
set_option linter.unusedVariables false
set_option linter.unusedSimpArgs false
set_option maxRecDepth 100000
namespace Go.Proofs.YtdgncemcfhocmaaGreatDoor.X
open Go.RowKit Go.Proofs.YtdgncemcfhocmaaGreatDoorW.PrintLast
def R17.T5 : Bool × List (List Nat × List Nat) := (true, [([], []), ([], []), ([1], [1]), ([], []), ([2, 3], [2, 3]), ([4], [4]), ([5], [5]), ([6], [6]), ([0, 7], [0, 7]), ([], []), ([9], [9]), ([], []), ([10, 11], [10, 11]), ([12], [12]), ([13], [13]), ([14], [14]), ([8, 15], [8, 15]), ([16, 15, 0, 1, 2, 3, 4, 5, 6, 7, 8, 9, 10, 11, 12, 13, 14, 15, 16], [0, 16])])
def R17.B5 : List Nat := [0, 0, 2, 0, 14, 30, 62, 126, 255, 0, 512, 0, 3584, 7680, 15872, 32256, 65535, 131071]
theorem R17.tab5 : rtab .any (opsOf Tryz.f17 5) = R17.T5 := by kernel_rfl
theorem R17.bits5 : waitsOk R17.T5.2 R17.B5 = true := by kernel_rfl
mutual
def bytesN : Val → Nat
  | .mk _ t m _ _ _ b ks => t.size + m.size + b.length + bytesK ks
def bytesK : List (ByteArray × Val) → Nat
  | [] => 0
  | (nm, v) :: r => nm.size + bytesN v + bytesK r
end
mutual
/-- How many values there are within a value, with it. -/
def nodes : Val → Nat
  | .mk _ _ _ _ _ _ _ ks => 1 + nodesK ks
def nodesK : List (ByteArray × Val) → Nat
  | [] => 0
  | (_, v) :: r => nodes v + nodesK r
end
mutual
theorem count_nodes : ∀ (v : Val) (most : Int), 0 ≤ most → count v most ≤ most → (nodes v : Int) = count v most
  | .mk k t m n bi hi b ks, most, h0, h => by
    have := countK_nodes ks most 1 (by omega) (by simpa only [count] using h)
    simp only [nodes, count]
    omega
theorem countK_nodes : ∀ (ks : List (ByteArray × Val)) (most n : Int), 1 ≤ n → countK ks most n ≤ most → n + (nodesK ks : Int) = countK ks most n
  | [], most, n, _, h => by simp only [nodesK, countK]; omega
  | (nm, v) :: r, most, n, hn, h => by
    simp only [countK] at h ⊢
    by_cases hle : n ≤ most
    · rw [if_pos hle] at h ⊢
      by_cases hc : count v (most - n) ≤ most - n
      · have h1 := count_nodes v (most - n) (by omega) hc
        have h2 := countK_nodes r most (n + count v (most - n)) (by have := count_le v (most - n) (by omega); omega) h
        simp only [nodesK]
        omega
      · exfalso
        have hc2 : most < n + count v (most - n) := by omega
        rw [countK_stop _ _ _ (by omega)] at h
        omega
    · rw [if_neg hle] at h
      omega
end
theorem nodes_pos : ∀ v : Val, 1 ≤ nodes v
  | .mk _ _ _ _ _ _ _ ks => by simp only [nodes]; omega
mutual
theorem bytes_le : ∀ (v : Val), okv v → bytesN v + 140737488351232 ≤ nodes v * 562949953404928
  | .mk k t m n bi hi b ks, h => by
    simp only [okv] at h
    have := bytesK_le ks h.2.2.2.2.2.2.2.2
    simp only [bytesN, nodes]
    omega
theorem bytesK_le : ∀ (ks : List (ByteArray × Val)), okK ks → bytesK ks ≤ nodesK ks * 562949953404928
  | [], _ => by simp [bytesK]
  | (nm, v) :: r, h => by
    simp only [okK] at h
    have h1 := bytes_le v h.2.1
    have h2 := bytesK_le r h.2.2
    have h3 := nodes_pos v
    simp only [bytesK, nodesK]
    omega
end
theorem bytesK_at (ks : List (ByteArray × Val)) (i : Nat) (h : i < ks.length) : bytesK (ks.drop i) = (ks[i]).1.size + bytesN (ks[i]).2 + bytesK (ks.drop (i + 1)) := by
  rw [List.drop_eq_getElem_cons h]
  conv => lhs; unfold bytesK

set_option maxHeartbeats 1600000 in
theorem docBytes (N : Nat) : ∀ (v : Val) (cs : List Value) (w : World), wt v < N → bytesN v ≤ 4611686018427387904 → RV w v cs →
    Calls Tryz.prog 17 #[.agg cs.toArray] w fun e w' => e = .returned (.int .i64 (bytesN v)) ∧ Below w.heap.size w w' := by
  induction N with
  | zero => intro v cs w h; omega
  | succ N ih =>
    intro v cs w hN hok hv
    obtain ⟨k, text, more, n, bits, high, b, kids⟩ := v
    simp only [RV] at hv
    obtain ⟨A, c, K, d, rfl, hs, hd, hd2, hk⟩ := hv
    have HK := Lib.hid hk
    clear hk
    simp only [bytesN] at hok
    have hle0 : text.size + more.size + b.length ≤ 4611686018427387904 := by omega
    go_enter Tryz.func17, Tryz.ntmps17
    go_wp2_with fail
    go_loopw [3, 4] (fun s i wr => ∃ q m : Nat, q ≤ kids.length ∧ i = .int .i64 q ∧ s = .int .i64 m ∧ Hid (m + bytesK (kids.drop q) = text.size + more.size + b.length + bytesK kids) ∧
        Below (w.heap.size + 1) (w.alloc (.cells #[.int .i64 k, .string text, .string more, .int .i64 n, .int .u64 bits, .int .u64 high, .slice A b.length c, .slice K kids.length d] 26)) wr) (fun _ i _ => kids.length - (intOf i).toNat)
    case atStart => exact ⟨0, text.size + more.size + b.length, Nat.zero_le _, rfl, by simp, Lib.hid (by simp), by simpa using Below.refl _ _⟩
    case round =>
      obtain ⟨q, m, hq, rfl, rfl, hr, hb⟩ := hrel
      have hzz := boxs hb
      have hc7 := boxc hb 7
      simp only [List.getElem?_cons_succ, List.getElem?_cons_zero] at hc7
      by_cases hlt : q < kids.length
      · obtain ⟨blk, off, rfl, hks⟩ : ∃ blk off, K = some ⟨blk, off, none⟩ ∧ RKs w blk off kids := by
          rcases HK.out with hk | hk
          · rw [hk] at hlt; exact absurd hlt (Nat.not_lt_zero _)
          · exact hk
        obtain ⟨c0, c1, c2, c3, c4, c5, c6, c7, hv, hnm, f0, f1, f2, f3, f4, f5, f6, f7⟩ := (RKs.keep (boxb hb) hks).cells_ q hlt
        have hst := bytesK_at kids q hlt
        have hr2 := hr.out
        obtain ⟨nm, hnme⟩ : ∃ x, x = (kids[q]).1 := ⟨_, rfl⟩
        obtain ⟨kv, hkve⟩ : ∃ x, x = (kids[q]).2 := ⟨_, rfl⟩
        have hwt := wt_at hN q hlt
        rw [← hnme] at hnm hst
        rw [← hkve] at hv hwt hst
        have hsum : m + nm.size + bytesN kv ≤ 4611686018427387904 := by omega
        have HR3 : Hid (m + nm.size + bytesN kv + bytesK (kids.drop (q + 1)) = text.size + more.size + b.length + bytesK kids) := Lib.hid (by omega)
        clear hst hr2 hr hnme hkve hok
        have hw1 : IntKind.i64.wrap ((m : Int) + (nm.size : Int)) = (m : Int) + (nm.size : Int) := IntWalk.i64_in _ (by omega)
        have hw2 : IntKind.i64.wrap ((m : Int) + (nm.size : Int) + (bytesN kv : Int)) = (m : Int) + (nm.size : Int) + (bytesN kv : Int) := IntWalk.i64_in _ (by omega)
        have hq0 : (0 : Int) ≤ (q : Int) := Int.natCast_nonneg _
        have hq1 : (q : Int) < (kids.length : Int) := by omega
        have HV := Lib.hid hv
        clear hv
        go_wp2_with fail
        refine start_ (n := 18) (S := fun w' => w'.cell? ⟨w.heap.size, 7, none⟩ = some (.slice (some ⟨blk, off, none⟩) kids.length d) ∧ w'.cell? ⟨blk, off + q * 9, none⟩ = some (.string nm) ∧ w'.cell? ⟨blk, off + q * 9 + 1, none⟩ = some c0 ∧ w'.cell? ⟨blk, off + q * 9 + 1 + 1, none⟩ = some c1 ∧ w'.cell? ⟨blk, off + q * 9 + 1 + 2, none⟩ = some c2 ∧ w'.cell? ⟨blk, off + q * 9 + 1 + 3, none⟩ = some c3 ∧ w'.cell? ⟨blk, off + q * 9 + 1 + 4, none⟩ = some c4 ∧ w'.cell? ⟨blk, off + q * 9 + 1 + 5, none⟩ = some c5 ∧ w'.cell? ⟨blk, off + q * 9 + 1 + 6, none⟩ = some c6 ∧ w'.cell? ⟨blk, off + q * 9 + 1 + 7, none⟩ = some c7) (ds := []) #[false, false, false, false, false, false, false, false, false, false, false, false, false, false, false, false, false, false] (by kernel_rfl) rfl rfl ⟨(by go_simp), (by go_simp), (by go_simp), (by go_simp), (by go_simp), (by go_simp), (by go_simp), (by go_simp), (by go_simp), (by go_simp)⟩ (fun hHeld => ?_)
        refine with_tabW R17.tab5 R17.bits5 (fun HT_ HW_ => ?_)
        refine pure_ (i := 0) (N := some 23) (v := ?_) (a' := ?_) #[true, false, false, false, false, false, false, false, false, false, false, false, false, false, false, false, false, false] rfl rfl (any_of HT_.out (by kernel_rfl)) (fun _ _ _ h => h) (Or.inl ⟨by rfl, ?_⟩) ?_ ?_
        rotate_left
        · intro w'
          go_simp
          with_reducible rfl
        rotate_left
        · simp only [Act.put, List.setIfInBounds_toArray, List.set_cons_zero, List.set_cons_succ, i64_w, i32_w]
          rfl
        refine pure_ (i := 1) (N := some 24) (v := ?_) (a' := ?_) #[true, true, false, false, false, false, false, false, false, false, false, false, false, false, false, false, false, false] rfl rfl (any_of HT_.out (by kernel_rfl)) (fun _ _ _ h => h) (Or.inl ⟨by rfl, ?_⟩) ?_ ?_
        rotate_left
        · intro w'
          go_simp
          with_reducible rfl
        rotate_left
        · simp only [Act.put, List.setIfInBounds_toArray, List.set_cons_zero, List.set_cons_succ, i64_w, i32_w]
          rfl
        refine pure_ (i := 3) (N := some 26) (v := ?_) (a' := ?_) #[true, true, false, true, false, false, false, false, false, false, false, false, false, false, false, false, false, false] rfl rfl (any_of HT_.out (by kernel_rfl)) (fun _ _ _ h => h) (Or.inl ⟨by rfl, ?_⟩) ?_ ?_
        rotate_left
        · intro w'
          go_simp
          with_reducible rfl
        rotate_left
        · simp only [Act.put, List.setIfInBounds_toArray, List.set_cons_zero, List.set_cons_succ, i64_w, i32_w]
          rfl
        refine pure_ (i := 9) (N := some 32) (v := ?_) (a' := ?_) #[true, true, false, true, false, false, false, false, false, true, false, false, false, false, false, false, false, false] rfl rfl (any_of HT_.out (by kernel_rfl)) (fun _ _ _ h => h) (Or.inl ⟨by rfl, ?_⟩) ?_ ?_
        rotate_left
        · intro w'
          go_simp
          with_reducible rfl
        rotate_left
        · simp only [Act.put, List.setIfInBounds_toArray, List.set_cons_zero, List.set_cons_succ, i64_w, i32_w]
          rfl
        refine pure_ (i := 11) (N := some 34) (v := ?_) (a' := ?_) #[true, true, false, true, false, false, false, false, false, true, false, true, false, false, false, false, false, false] rfl rfl (any_of HT_.out (by kernel_rfl)) (fun _ _ _ h => h) (Or.inl ⟨by rfl, ?_⟩) ?_ ?_
        rotate_left
        · intro w'
          go_simp
          with_reducible rfl
        rotate_left
        · simp only [Act.put, List.setIfInBounds_toArray, List.set_cons_zero, List.set_cons_succ, i64_w, i32_w]
          rfl
        refine take_ (i := 2) (N := some 25) (v := ?_) (a' := ?_) #[true, true, true, true, false, false, false, false, false, true, false, true, false, false, false, false, false, false] rfl rfl (take_ofW HT_.out HW_.out (by kernel_rfl)) (fun _ _ _ h => h) (Or.inl ⟨by rfl, ?_⟩) hHeld ?_ ?_
        rotate_left
        · rintro w' ⟨s0, s1, s2, s3, s4, s5, s6, s7, s8, s9⟩
          go_simp
          with_reducible rfl
        rotate_left
        · simp only [Act.put, List.setIfInBounds_toArray, List.set_cons_zero, List.set_cons_succ, i64_w, i32_w]
          rfl
        refine pure_ (i := 4) (N := some 27) (v := ?_) (a' := ?_) #[true, true, true, true, true, false, false, false, false, true, false, true, false, false, false, false, false, false] rfl rfl (any_of HT_.out (by kernel_rfl)) (fun _ _ _ h => h) (Or.inl ⟨by rfl, ?_⟩) ?_ ?_
        rotate_left
        · intro w'
          go_simp
          with_reducible rfl
        rotate_left
        · simp only [Act.put, List.setIfInBounds_toArray, List.set_cons_zero, List.set_cons_succ, i64_w, i32_w]
          rfl
        refine pure_ (i := 5) (N := some 28) (v := ?_) (a' := ?_) #[true, true, true, true, true, true, false, false, false, true, false, true, false, false, false, false, false, false] rfl rfl (any_of HT_.out (by kernel_rfl)) (fun _ _ _ h => h) (Or.inl ⟨by rfl, ?_⟩) ?_ ?_
        rotate_left
        · intro w'
          go_simp
          with_reducible rfl
        rotate_left
        · simp only [Act.put, List.setIfInBounds_toArray, List.set_cons_zero, List.set_cons_succ, i64_w, i32_w]
          rfl
        refine take_ (i := 6) (N := some 29) (v := ?_) (a' := ?_) #[true, true, true, true, true, true, true, false, false, true, false, true, false, false, false, false, false, false] rfl rfl (take_ofW HT_.out HW_.out (by kernel_rfl)) (fun _ _ _ h => h) (Or.inl ⟨by rfl, ?_⟩) hHeld ?_ ?_
        rotate_left
        · rintro w' ⟨s0, s1, s2, s3, s4, s5, s6, s7, s8, s9⟩
          go_simp
          with_reducible rfl
        rotate_left
        · simp only [Act.put, List.setIfInBounds_toArray, List.set_cons_zero, List.set_cons_succ, i64_w, i32_w]
          rfl
        refine pure_ (i := 7) (N := some 30) (v := ?_) (a' := ?_) #[true, true, true, true, true, true, true, true, false, true, false, true, false, false, false, false, false, false] rfl rfl (any_of HT_.out (by kernel_rfl)) (fun _ _ _ h => h) (Or.inl ⟨by rfl, ?_⟩) ?_ ?_
        rotate_left
        · intro w'
          go_simp
          with_reducible rfl
        rotate_left
        · simp only [Act.put, List.setIfInBounds_toArray, List.set_cons_zero, List.set_cons_succ, i64_w, i32_w]
          rfl
        refine pure_ (i := 8) (N := some 31) (v := ?_) (a' := ?_) #[true, true, true, true, true, true, true, true, true, true, false, true, false, false, false, false, false, false] rfl rfl (any_of HT_.out (by kernel_rfl)) (fun _ _ _ h => h) (Or.inl ⟨by rfl, ?_⟩) ?_ ?_
        rotate_left
        · intro w'
          go_simp
          with_reducible rfl
        rotate_left
        · simp only [Act.put, List.setIfInBounds_toArray, List.set_cons_zero, List.set_cons_succ, i64_w, i32_w]
          rfl
        refine take_ (i := 10) (N := some 33) (v := ?_) (a' := ?_) #[true, true, true, true, true, true, true, true, true, true, true, true, false, false, false, false, false, false] rfl rfl (take_ofW HT_.out HW_.out (by kernel_rfl)) (fun _ _ _ h => h) (Or.inl ⟨by rfl, ?_⟩) hHeld ?_ ?_
        rotate_left
        · rintro w' ⟨s0, s1, s2, s3, s4, s5, s6, s7, s8, s9⟩
          go_simp
          with_reducible rfl
        rotate_left
        · simp only [Act.put, List.setIfInBounds_toArray, List.set_cons_zero, List.set_cons_succ, i64_w, i32_w]
          rfl
        refine pure_ (i := 12) (N := some 35) (v := ?_) (a' := ?_) #[true, true, true, true, true, true, true, true, true, true, true, true, true, false, false, false, false, false] rfl rfl (any_of HT_.out (by kernel_rfl)) (fun _ _ _ h => h) (Or.inl ⟨by rfl, ?_⟩) ?_ ?_
        rotate_left
        · intro w'
          go_simp
          with_reducible rfl
        rotate_left
        · simp only [Act.put, List.setIfInBounds_toArray, List.set_cons_zero, List.set_cons_succ, i64_w, i32_w]
          rfl
        refine pure_ (i := 13) (N := some 36) (v := ?_) (a' := ?_) #[true, true, true, true, true, true, true, true, true, true, true, true, true, true, false, false, false, false] rfl rfl (any_of HT_.out (by kernel_rfl)) (fun _ _ _ h => h) (Or.inl ⟨by rfl, ?_⟩) ?_ ?_
        rotate_left
        · intro w'
          go_simp
          with_reducible rfl
        rotate_left
        · simp only [Act.put, List.setIfInBounds_toArray, List.set_cons_zero, List.set_cons_succ, i64_w, i32_w]
          rfl
        refine take_ (i := 14) (N := some 37) (v := ?_) (a' := ?_) #[true, true, true, true, true, true, true, true, true, true, true, true, true, true, true, false, false, false] rfl rfl (take_ofW HT_.out HW_.out (by kernel_rfl)) (fun _ _ _ h => h) (Or.inl ⟨by rfl, ?_⟩) hHeld ?_ ?_
        rotate_left
        · rintro w' ⟨s0, s1, s2, s3, s4, s5, s6, s7, s8, s9⟩
          go_simp
          with_reducible rfl
        rotate_left
        · simp only [Act.put, List.setIfInBounds_toArray, List.set_cons_zero, List.set_cons_succ, i64_w, i32_w]
          rfl
        refine one_ (i := 15) (N := some 38) #[true, true, true, true, true, true, true, true, true, true, true, true, true, true, true, true, false, false] rfl rfl (one_of HT_.out (by kernel_rfl)) (by decide) (fun K hK => ?_)
        refine goes_ Tryz.func17 (by kernel_rfl) rfl #[.agg #[c0, c1, c2, c3, c4, c5, c6, c7]] (by rfl) rfl rfl (by simp only [List.map_toArray, List.map_cons, List.map_nil]; rfl) ?_
        with_reducible refine (ih kv _ _ hwt (by omega) (by exact HV.out.keep (bdrew (Below.refl _ _)))).mono ?_
        rintro e w4 ⟨rfl, hb4⟩
        refine ⟨_, rfl, ?_⟩
        refine hK.out _ _ ⟨((hb4.cell (World.block_lt_of_cell? _ _ hHeld.1)).trans hHeld.1), ((hb4.cell (World.block_lt_of_cell? _ _ hHeld.2.1)).trans hHeld.2.1), ((hb4.cell (World.block_lt_of_cell? _ _ hHeld.2.2.1)).trans hHeld.2.2.1), ((hb4.cell (World.block_lt_of_cell? _ _ hHeld.2.2.2.1)).trans hHeld.2.2.2.1), ((hb4.cell (World.block_lt_of_cell? _ _ hHeld.2.2.2.2.1)).trans hHeld.2.2.2.2.1), ((hb4.cell (World.block_lt_of_cell? _ _ hHeld.2.2.2.2.2.1)).trans hHeld.2.2.2.2.2.1), ((hb4.cell (World.block_lt_of_cell? _ _ hHeld.2.2.2.2.2.2.1)).trans hHeld.2.2.2.2.2.2.1), ((hb4.cell (World.block_lt_of_cell? _ _ hHeld.2.2.2.2.2.2.2.1)).trans hHeld.2.2.2.2.2.2.2.1), ((hb4.cell (World.block_lt_of_cell? _ _ hHeld.2.2.2.2.2.2.2.2.1)).trans hHeld.2.2.2.2.2.2.2.2.1), ((hb4.cell (World.block_lt_of_cell? _ _ hHeld.2.2.2.2.2.2.2.2.2)).trans hHeld.2.2.2.2.2.2.2.2.2)⟩ (fun hHeld => ?_)
        clear hK K
        refine norm_ (a' := ?_) ?_ ?_
        rotate_left
        · show Act.put _ (some 38) _ = _
          simp only [Act.put, List.setIfInBounds_toArray, List.set_cons_zero, List.set_cons_succ, i64_w, i32_w]
          rfl
        refine pure_ (i := 16) (N := some 39) (v := ?_) (a' := ?_) #[true, true, true, true, true, true, true, true, true, true, true, true, true, true, true, true, true, false] rfl rfl (any_of HT_.out (by kernel_rfl)) (fun _ _ _ h => h) (Or.inl ⟨by rfl, ?_⟩) ?_ ?_
        rotate_left
        · intro w'
          go_simp
          with_reducible rfl
        rotate_left
        · simp only [Act.put, List.setIfInBounds_toArray, List.set_cons_zero, List.set_cons_succ, i64_w, i32_w]
          rfl
        refine pure_ (i := 17) (N := some 3) (v := ?_) (a' := ?_) #[true, true, true, true, true, true, true, true, true, true, true, true, true, true, true, true, true, true] rfl rfl (any_of HT_.out (by kernel_rfl)) (fun _ _ _ h => h) (Or.inl ⟨by rfl, ?_⟩) ?_ ?_
        rotate_left
        · intro w'
          go_simp
          with_reducible rfl
        rotate_left
        · simp only [Act.put, List.setIfInBounds_toArray, List.set_cons_zero, List.set_cons_succ, i64_w, i32_w]
          rfl
        refine done_ (done_of HT_.out (by kernel_rfl)) ?_
        go_wp2
        have hb5 := bstep (bdrew hb) (by simp; omega) hb4
        go_roundw
        case rel => exact ⟨q + 1, m + nm.size + bytesN kv, by omega, by go_num, by simp, Lib.hid (by have := HR3.out; omega), hb5⟩
        case measure => simp [intOf]; omega
      · go_wp2_with fail
        go_ret
        exact ⟨ret_int (by have := hr.out; rw [List.drop_of_length_le (by omega)] at this; simp only [bytesK, bytesN] at this ⊢; omega), boxb hb⟩

theorem zzFits1 (v : Val) (cs : List Value) (w : World) (hv : RV w v cs) (h : v.text.size ≤ 2147483647 ∧ v.more.size ≤ 2147483647 ∧ v.b.length ≤ 2147483647 ∧ v.kids.length ≤ 2147483647) :
    Calls Tryz.prog 6 #[.agg cs.toArray] w fun e w' => e = .returned (.bool true) ∧ Below w.heap.size w w' := by
  obtain ⟨k, text, more, n, bits, high, b, kids⟩ := v
  simp only [RV] at hv
  obtain ⟨A, c, K, d, rfl, hs, hd, hd2, hk⟩ := hv
  simp only [Val.text, Val.more, Val.b, Val.kids] at h
  obtain ⟨h1, h2, h3, h4⟩ := h
  clear hk
  go_enter Tryz.func6, Tryz.ntmps6
  go_wp2
  go_ret
  exact ⟨rfl, balloc (Below.refl _ _) (Nat.le_refl _) _⟩
theorem zzFits1_not (v : Val) (cs : List Value) (w : World) (hv : RV w v cs) (h : ¬ (v.text.size ≤ 2147483647 ∧ v.more.size ≤ 2147483647 ∧ v.b.length ≤ 2147483647 ∧ v.kids.length ≤ 2147483647)) :
    Calls Tryz.prog 6 #[.agg cs.toArray] w fun e w' => e = .returned (.bool false) ∧ Below w.heap.size w w' := by
  obtain ⟨k, text, more, n, bits, high, b, kids⟩ := v
  simp only [RV] at hv
  obtain ⟨A, c, K, d, rfl, hs, hd, hd2, hk⟩ := hv
  simp only [Val.text, Val.more, Val.b, Val.kids] at h
  clear hk
  have hor : 2147483647 < text.size ∨ text.size ≤ 2147483647 ∧ 2147483647 < more.size ∨ text.size ≤ 2147483647 ∧ more.size ≤ 2147483647 ∧ 2147483647 < b.length ∨ text.size ≤ 2147483647 ∧ more.size ≤ 2147483647 ∧ b.length ≤ 2147483647 ∧ 2147483647 < kids.length := by omega
  clear h
  rcases hor with h | ⟨h1, h⟩ | ⟨h1, h2, h⟩ | ⟨h1, h2, h3, h⟩
  all_goals
    go_enter Tryz.func6, Tryz.ntmps6
    go_wp2
    go_ret
    exact ⟨rfl, balloc (Below.refl _ _) (Nat.le_refl _) _⟩

theorem DocRight (v : Val) (cs : List Value) (w : World) (hok : okv v) (hv : RV w v cs) :
    Calls Tryz.prog 16 #[.agg cs.toArray] w fun e w' => e = .returned (.bool (right v 200)) ∧ Below w.heap.size w w' := by
  have hv0 := Lib.hid hv
  obtain ⟨k, text, more, n, bits, high, b, kids⟩ := v
  simp only [RV] at hv
  obtain ⟨A, c, K, d, rfl, hs, hd, hd2, hk⟩ := hv
  clear hk
  go_enter Tryz.func16, Tryz.ntmps16
  go_wp2_with fail
  refine (docRight (wt (.mk k text more n bits high b kids) + 1) _ _ 200 _ (by omega) (by omega) (by omega) hok (by exact hv0.out.keep (balloc (Below.refl _ _) (Nat.le_refl _) _))).mono ?_
  rintro e w1 ⟨rfl, hb1⟩
  go_wp2_with fail
  go_ret
  exact ⟨rfl, bstep (balloc (Below.refl _ _) (Nat.le_refl _) _) (by simp) hb1⟩

/-- What both guards ask: few values, right ones, few bytes. -/
def fine (v : Val) (most : Int) (bytes : Nat) : Bool := decide (count v most ≤ most) && right v 200 && decide (bytesN v ≤ bytes)
set_option maxHeartbeats 800000 in
theorem bindRight (v : Val) (cs : List Value) (w : World) (hok : okv v) (hv : RV w v cs) :
    Calls Tryz.prog 7 #[.agg cs.toArray] w fun e w' => e = .returned (.bool (fine v 1000 65536)) ∧ Below w.heap.size w w' := by
  have hv0 := Lib.hid hv
  obtain ⟨v0, hv00⟩ : ∃ x, x = v := ⟨_, rfl⟩
  rw [← hv00] at hv0 hok ⊢
  obtain ⟨k, text, more, n, bits, high, b, kids⟩ := v
  simp only [RV] at hv
  obtain ⟨A, c, K, d, rfl, hs, hd, hd2, hk⟩ := hv
  clear hk hv00
  have hcnt : ∀ wx : World, RV wx v0 _ → Calls Tryz.prog 15 #[.agg (List.toArray _), .int .i64 1000] wx fun e w' => e = .returned (.int .i64 (count v0 1000)) ∧ Below wx.heap.size wx w' := fun wx h => docCount (wt v0 + 1) v0 [.int .i64 k, .string text, .string more, .int .i64 n, .int .u64 bits, .int .u64 high, .slice A b.length c, .slice K kids.length d] 1000 wx (by omega) (by omega) (by omega) h
  have HC := Lib.hid hcnt
  clear hcnt
  obtain ⟨q, hq⟩ : ∃ q, q = count v0 1000 := ⟨_, rfl⟩
  have HQ := Lib.hid hq
  by_cases h1 : q ≤ 1000
  · have hn := count_nodes v0 1000 (by omega) (by omega)
    have hbl := bytes_le v0 hok
    have hby : bytesN v0 ≤ 4611686018427387904 := by omega
    clear hn hbl hq
    obtain ⟨r, hr⟩ : ∃ r, r = right v0 200 := ⟨_, rfl⟩
    have HR := Lib.hid hr
    clear hr
    obtain ⟨bn, hbn⟩ : ∃ r, r = bytesN v0 := ⟨_, rfl⟩
    have HB := Lib.hid hbn
    rw [← hbn] at hby
    clear hbn
    cases r with
    | true =>
      go_enter Tryz.func7, Tryz.ntmps7
      go_wp2_with fail
      refine (HC.out _ (by exact hv0.out.keep (balloc (Below.refl _ _) (Nat.le_refl _) _))).mono ?_
      rintro e w1 ⟨rfl, hb1⟩
      rw [← HQ.out]
      obtain ⟨hc1, hf1⟩ := bcell hb1
      have hz1 : w.heap.size < w1.heap.size := by have := hb1.size; simp at this; omega
      have hb1' := bstep (balloc (Below.refl _ _) (Nat.le_refl _) _) (by simp) hb1
      go_wp2_with fail
      refine (DocRight v0 _ _ hok (by exact hv0.out.keep hb1')).mono ?_
      rintro e w2 ⟨rfl, hb2⟩
      rw [← HR.out]
      obtain ⟨hc2, hf2⟩ := bcell hb2
      have hz2 : w.heap.size < w2.heap.size := by have := hb2.size; omega
      have hb2' := bstep hb1' (by omega) hb2
      go_wp2_with fail
      refine (docBytes (wt v0 + 1) v0 _ _ (by omega) (by rw [← HB.out]; exact hby) (by exact hv0.out.keep hb2')).mono ?_
      rintro e w3 ⟨rfl, hb3⟩
      rw [← HB.out]
      have hb3' := bstep hb2' (by omega) hb3
      go_wp2_with fail
      go_ret
      exact ⟨ret_bool (by simp only [fine, ← HQ.out, ← HR.out, ← HB.out, h1]; simp; try omega), hb3'⟩
    | false =>
      go_enter Tryz.func7, Tryz.ntmps7
      go_wp2_with fail
      refine (HC.out _ (by exact hv0.out.keep (balloc (Below.refl _ _) (Nat.le_refl _) _))).mono ?_
      rintro e w1 ⟨rfl, hb1⟩
      rw [← HQ.out]
      obtain ⟨hc1, hf1⟩ := bcell hb1
      have hz1 : w.heap.size < w1.heap.size := by have := hb1.size; simp at this; omega
      have hb1' := bstep (balloc (Below.refl _ _) (Nat.le_refl _) _) (by simp) hb1
      go_wp2_with fail
      refine (DocRight v0 _ _ hok (by exact hv0.out.keep hb1')).mono ?_
      rintro e w2 ⟨rfl, hb2⟩
      rw [← HR.out]
      have hb2' := bstep hb1' (by omega) hb2
      go_wp2_with fail
      go_ret
      exact ⟨ret_bool (by simp only [fine, ← HQ.out, ← HR.out]; simp), hb2'⟩
  · clear hq
    go_enter Tryz.func7, Tryz.ntmps7
    go_wp2_with fail
    refine (HC.out _ (by exact hv0.out.keep (balloc (Below.refl _ _) (Nat.le_refl _) _))).mono ?_
    rintro e w1 ⟨rfl, hb1⟩
    rw [← HQ.out]
    have hb1' := bstep (balloc (Below.refl _ _) (Nat.le_refl _) _) (by simp) hb1
    go_wp2_with fail
    go_ret
    exact ⟨ret_bool (by simp only [fine, ← HQ.out]; simp; omega), hb1'⟩


end Go.Proofs.YtdgncemcfhocmaaGreatDoor.X
