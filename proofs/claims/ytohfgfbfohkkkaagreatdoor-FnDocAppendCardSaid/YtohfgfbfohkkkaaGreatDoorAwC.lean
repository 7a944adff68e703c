/- The builder: an element appended, and the document. -/
import Derived.Test.YtohfgfbfohkkkaaGreatDoorAwB
set_option linter.unusedVariables false
set_option linter.unusedSimpArgs false
set_option maxRecDepth 100000
namespace Go.Proofs.YtohfgfbfohkkkaaGreatDoor.X
open Go.RowKit Go.Proofs.YtohfgfbfohkkkaaGreatDoorW.PrintLast
namespace Aw
def R33.T2 : Bool × List (List Nat × List Nat) := (true, [([], []), ([], []), ([1], [1]), ([2], [2]), ([3], [3]), ([], []), ([5], [5]), ([6], [6]), ([7], [7]), ([], []), ([8, 9], [8, 9]), ([10], [10]), ([4, 11], [4, 11]), ([12], [12]), ([13], [13]), ([13], [13]), ([0, 0, 1, 2, 3, 4, 5, 6, 7, 8, 9, 10, 11, 12, 13, 14], [0]), ([16, 0, 1, 2, 3, 4, 5, 6, 7, 8, 9, 10, 11, 12, 13, 14], [16]), ([17, 14, 12, 0, 1, 2, 3, 4, 5, 6, 7, 8, 9, 10, 11, 12, 13, 14], [14, 17])])
def R33.B2 : List Nat := [0, 0, 2, 6, 14, 0, 32, 96, 224, 0, 992, 2016, 4094, 8190, 16382, 16382, 32767, 98303, 229375]
theorem R33.tab2 : rtab .any (opsOf Tryz.f33 2) = R33.T2 := by kernel_rfl
theorem R33.bits2 : waitsOk R33.T2.2 R33.B2 = true := by kernel_rfl
theorem append7 (W : World) (base B : Nat) (l : List UInt8) (sa : ByteArray) (hsa : sa = ⟨#[97]⟩) (hB : B < base) (hbase : base ≤ W.heap.size) (h : Bld W base B l) (hl : l.length ≤ 1000) :
    Calls Tryz.prog 125 #[.pointer (some ⟨B, 0, none⟩), .string sa, .int .i32 7] W fun e w' => e = .returned (.pointer (some ⟨B, 0, none⟩)) ∧ Bld w' base B (l ++ [16, 97, 0, 7, 0, 0, 0]) ∧ Below B W w' := by
  obtain ⟨A, c, Ai, ci, hbx, ho, hg⟩ := h
  have q0 : W.cell? ⟨B, 0, none⟩ = some (.slice A l.length c) := by simp only [World.cell?, hbx]; rfl
  have f0 : W.frozen? ⟨B, 0, none⟩ = false := by simp only [World.frozen?, hbx]; rfl
  have HC := Lib.hid (appElem7 W base _ l sa hsa ho hbase (by omega))
  have HBX := Lib.hid hbx
  have HO := Lib.hid ho
  have HG := Lib.hid hg
  have HH : Hid (B < base ∧ base ≤ W.heap.size) := Lib.hid ⟨hB, hbase⟩
  have hlt0 : B < W.heap.size := by omega
  obtain ⟨n, hn⟩ : ∃ n, n = l.length := ⟨_, rfl⟩
  rw [← hn] at q0 HC HBX HO
  have HN := Lib.hid hn
  clear hsa hB hbase hl hbx ho hg hn
  go_enter Tryz.func125, Tryz.ntmps125
  go_wp2_with fail
  refine HC.out.mono ?_
  rintro e w1 ⟨v1, rfl, hap⟩
  have hap2 := hap
  obtain ⟨h1, h2⟩ := HH.out
  have hne : some B ≠ (Value.slice A n c).ownBlock := by
    intro e
    have := (HO.out.lt B e.symm).1
    omega
  have hbx1 := (hap.grown.block B (by omega) hne).trans HBX.out
  have hz1 := hap.size
  have q1 : w1.cell? ⟨B, 0, none⟩ = some (.slice A n c) := by simp only [World.cell?, hbx1]; rfl
  have f1 : w1.frozen? ⟨B, 0, none⟩ = false := by simp only [World.frozen?, hbx1]; rfl
  have hlt1 : B < w1.heap.size := by omega
  have hb1 : Below B W w1 := (hap.kept HO.out h2).mono (by omega)
  have hg1 := HG.out.other hap.grown (apart (by decide) HO.out HG.out)
  have ho1 := hap.own
  obtain ⟨A1, c1, rfl, -, -⟩ := ho1.sb
  have HBX1 := Lib.hid hbx1
  have HO1 := Lib.hid ho1
  have HG1 := Lib.hid hg1
  have HB1 := Lib.hid hb1
  obtain ⟨m, hm⟩ : ∃ m, m = (l ++ [16, 97, 0, 7, 0, 0, 0]).length := ⟨_, rfl⟩
  rw [← hm] at HO1 ⊢
  have HM := Lib.hid hm
  clear hap hap2 hne hbx1 hz1 hb1 hg1 ho1 h1 h2 hm q0 f0
  go_wp2_with fail
  go_ret
  refine ⟨rfl, ⟨A1, c1, Ai, ci, ?_, ?_, ?_⟩, HB1.out.setCell (Nat.le_refl _) _⟩
  · have := heap_setCell_same w1 B 0 _ _ (.slice A1 m c1) HBX1.out
    rw [← HM.out]
    simpa using this
  · rw [← HM.out]
    exact OB.far HO1.out HH.out.1 _
  · exact OG.far HG1.out HH.out.1 _
theorem buildDoc (W : World) (base B : Nat) (body : List UInt8) (hB : B < base) (hbase : base ≤ W.heap.size) (h : Bld W base B ([0, 0, 0, 0] ++ body)) (hl : body.length ≤ 1000) :
    Calls Tryz.prog 33 #[.pointer (some ⟨B, 0, none⟩)] W fun e w' => ∃ A c, e = .returned (.slice A (i32 ((body.length : Int) + 5) ++ (body ++ [0])).length c) ∧ SB w' A c (i32 ((body.length : Int) + 5) ++ (body ++ [0])) ∧ Below B W w' := by
  obtain ⟨A, c, Ai, ci, hbx, ho, hg⟩ := h
  have q0 : W.cell? ⟨B, 0, none⟩ = some (.slice A ([0, 0, 0, 0] ++ body).length c) := by simp only [World.cell?, hbx]; rfl
  have q1 : W.cell? ⟨B, 1, none⟩ = some (.slice Ai 1 ci) := by simp only [World.cell?, hbx]; rfl
  have f0 : W.frozen? ⟨B, 0, none⟩ = false := by simp only [World.frozen?, hbx]; rfl
  have f1 : W.frozen? ⟨B, 1, none⟩ = false := by simp only [World.frozen?, hbx]; rfl
  obtain ⟨Aj, cj, hv, hgs, -⟩ := hg.sb
  obtain ⟨gb, go, rfl, hcell⟩ := hgs.cells (by simp)
  obtain ⟨rfl, rfl⟩ : Ai = some ⟨gb, go, none⟩ ∧ ci = cj := by simpa using hv
  have qi : W.cell? ⟨gb, go, none⟩ = some (.int .i32 0) := by have h := hcell 0 (by simp); simpa using h
  have HC : Hid (∀ wx, Below W.heap.size W wx → Calls Tryz.prog 76 #[.slice A ([0, 0, 0, 0] ++ body).length c, .int .i32 0] wx fun e w1 => ∃ v1, e = .returned (.tuple #[v1, .nilIface]) ∧ App (E := 5) wx base (.slice A ([0, 0, 0, 0] ++ body).length c) (i32 ((body.length : Int) + 5) ++ (body ++ [0])) v1 w1) := Lib.hid fun wx hx =>
    docEnd wx base _ [] [0, 0, 0, 0] body (ho.keep hx) rfl (by have := hx.size; omega) (by simp; omega)
  have HBX := Lib.hid hbx
  have HO := Lib.hid ho
  have HAP : Hid (some gb ≠ (Value.slice A ([0, 0, 0, 0] ++ body).length c).ownBlock) := Lib.hid (by
    rcases apart (by decide) ho hg with e | e
    · simp [Value.ownBlock] at e
    · simpa [Value.ownBlock] using e)
  have hltg : Hid (gb < W.heap.size) := Lib.hid (World.block_lt_of_cell? _ _ qi)
  have HH : Hid (B < base ∧ base ≤ W.heap.size) := Lib.hid ⟨hB, hbase⟩
  have hlt0 : B < W.heap.size := by omega
  have hci : 1 ≤ ci := hgs.le
  have hcc := hgs.cap
  obtain ⟨LL, hLL⟩ : ∃ x, x = i32 ((body.length : Int) + 5) ++ (body ++ [0]) := ⟨_, rfl⟩
  rw [← hLL] at HC ⊢
  clear hLL
  obtain ⟨n, hn⟩ : ∃ n, n = ([0, 0, 0, 0] ++ body).length := ⟨_, rfl⟩
  rw [← hn] at q0 HC HBX HO HAP
  have HN := Lib.hid hn
  clear hB hbase hl hbx ho hg hn hv hgs hcell
  go_enter Tryz.func33, Tryz.ntmps33
  go_wp2_with fail
  refine start_ (n := 19) (S := fun w' => w'.cell? ⟨B, 0, none⟩ = some (.slice A n c) ∧ w'.cell? ⟨B, 1, none⟩ = some (.slice (some ⟨gb, go, none⟩) 1 ci) ∧ w'.cell? ⟨gb, go, none⟩ = some (.int .i32 0)) (ds := [18]) #[false, false, false, false, false, false, false, false, false, false, false, false, false, false, false, false, false, false, false] (by kernel_rfl) rfl rfl ⟨(by exact q0), (by exact q1), (by exact qi)⟩ (fun hHeld => ?_)
  refine with_tabW R33.tab2 R33.bits2 (fun HT_ HW_ => ?_)
  refine pure_ (i := 0) (N := some 11) (v := ?_) (a' := ?_) #[true, false, false, false, false, false, false, false, false, false, false, false, false, false, false, false, false, false, false] rfl rfl (any_of HT_.out (by kernel_rfl)) (fun _ _ _ h => h) (Or.inl ⟨by rfl, ?_⟩) ?_ ?_
  rotate_left
  · intro w'
    go_simp
    with_reducible rfl
  rotate_left
  · simp only [Act.put, List.setIfInBounds_toArray, List.set_cons_zero, List.set_cons_succ, i64_w, i32_w]
    rfl
  refine pure_ (i := 1) (N := some 12) (v := ?_) (a' := ?_) #[true, true, false, false, false, false, false, false, false, false, false, false, false, false, false, false, false, false, false] rfl rfl (any_of HT_.out (by kernel_rfl)) (fun _ _ _ h => h) (Or.inl ⟨by rfl, ?_⟩) ?_ ?_
  rotate_left
  · intro w'
    go_simp
    with_reducible rfl
  rotate_left
  · simp only [Act.put, List.setIfInBounds_toArray, List.set_cons_zero, List.set_cons_succ, i64_w, i32_w]
    rfl
  refine pure_ (i := 2) (N := some 13) (v := ?_) (a' := ?_) #[true, true, true, false, false, false, false, false, false, false, false, false, false, false, false, false, false, false, false] rfl rfl (any_of HT_.out (by kernel_rfl)) (fun _ _ _ h => h) (Or.inl ⟨by rfl, ?_⟩) ?_ ?_
  rotate_left
  · intro w'
    go_simp
    with_reducible rfl
  rotate_left
  · simp only [Act.put, List.setIfInBounds_toArray, List.set_cons_zero, List.set_cons_succ, i64_w, i32_w]
    rfl
  refine pure_ (i := 3) (N := some 14) (v := ?_) (a' := ?_) #[true, true, true, true, false, false, false, false, false, false, false, false, false, false, false, false, false, false, false] rfl rfl (any_of HT_.out (by kernel_rfl)) (fun _ _ _ h => h) (Or.inl ⟨by rfl, ?_⟩) ?_ ?_
  rotate_left
  · intro w'
    go_simp
    with_reducible rfl
  rotate_left
  · simp only [Act.put, List.setIfInBounds_toArray, List.set_cons_zero, List.set_cons_succ, i64_w, i32_w]
    rfl
  refine pure_ (i := 5) (N := some 16) (v := ?_) (a' := ?_) #[true, true, true, true, false, true, false, false, false, false, false, false, false, false, false, false, false, false, false] rfl rfl (any_of HT_.out (by kernel_rfl)) (fun _ _ _ h => h) (Or.inl ⟨by rfl, ?_⟩) ?_ ?_
  rotate_left
  · intro w'
    go_simp
    with_reducible rfl
  rotate_left
  · simp only [Act.put, List.setIfInBounds_toArray, List.set_cons_zero, List.set_cons_succ, i64_w, i32_w]
    rfl
  refine pure_ (i := 6) (N := some 17) (v := ?_) (a' := ?_) #[true, true, true, true, false, true, true, false, false, false, false, false, false, false, false, false, false, false, false] rfl rfl (any_of HT_.out (by kernel_rfl)) (fun _ _ _ h => h) (Or.inl ⟨by rfl, ?_⟩) ?_ ?_
  rotate_left
  · intro w'
    go_simp
    with_reducible rfl
  rotate_left
  · simp only [Act.put, List.setIfInBounds_toArray, List.set_cons_zero, List.set_cons_succ, i64_w, i32_w]
    rfl
  refine pure_ (i := 7) (N := some 18) (v := ?_) (a' := ?_) #[true, true, true, true, false, true, true, true, false, false, false, false, false, false, false, false, false, false, false] rfl rfl (any_of HT_.out (by kernel_rfl)) (fun _ _ _ h => h) (Or.inl ⟨by rfl, ?_⟩) ?_ ?_
  rotate_left
  · intro w'
    go_simp
    with_reducible rfl
  rotate_left
  · simp only [Act.put, List.setIfInBounds_toArray, List.set_cons_zero, List.set_cons_succ, i64_w, i32_w]
    rfl
  refine pure_ (i := 9) (N := some 20) (v := ?_) (a' := ?_) #[true, true, true, true, false, true, true, true, false, true, false, false, false, false, false, false, false, false, false] rfl rfl (any_of HT_.out (by kernel_rfl)) (fun _ _ _ h => h) (Or.inl ⟨by rfl, ?_⟩) ?_ ?_
  rotate_left
  · intro w'
    go_simp
    with_reducible rfl
  rotate_left
  · simp only [Act.put, List.setIfInBounds_toArray, List.set_cons_zero, List.set_cons_succ, i64_w, i32_w]
    rfl
  refine take_ (i := 4) (N := some 15) (v := ?_) (a' := ?_) #[true, true, true, true, true, true, true, true, false, true, false, false, false, false, false, false, false, false, false] rfl rfl (take_ofW HT_.out HW_.out (by kernel_rfl)) (fun _ _ _ h => h) (Or.inl ⟨by rfl, ?_⟩) hHeld ?_ ?_
  rotate_left
  · rintro w' ⟨s0, s1, s2⟩
    go_simp
    with_reducible rfl
  rotate_left
  · simp only [Act.put, List.setIfInBounds_toArray, List.set_cons_zero, List.set_cons_succ, i64_w, i32_w]
    rfl
  refine take_ (i := 8) (N := some 19) (v := ?_) (a' := ?_) #[true, true, true, true, true, true, true, true, true, true, false, false, false, false, false, false, false, false, false] rfl rfl (take_ofW HT_.out HW_.out (by kernel_rfl)) (fun _ _ _ h => h) (Or.inl ⟨by rfl, ?_⟩) hHeld ?_ ?_
  rotate_left
  · rintro w' ⟨s0, s1, s2⟩
    go_simp
    with_reducible rfl
  rotate_left
  · simp only [Act.put, List.setIfInBounds_toArray, List.set_cons_zero, List.set_cons_succ, i64_w, i32_w]
    rfl
  refine pure_ (i := 10) (N := some 21) (v := ?_) (a' := ?_) #[true, true, true, true, true, true, true, true, true, true, true, false, false, false, false, false, false, false, false] rfl rfl (any_of HT_.out (by kernel_rfl)) (fun _ _ _ h => h) (Or.inl ⟨by rfl, ?_⟩) ?_ ?_
  rotate_left
  · intro w'
    go_simp
    with_reducible rfl
  rotate_left
  · simp only [Act.put, List.setIfInBounds_toArray, List.set_cons_zero, List.set_cons_succ, i64_w, i32_w]
    rfl
  refine take_ (i := 11) (N := some 22) (v := ?_) (a' := ?_) #[true, true, true, true, true, true, true, true, true, true, true, true, false, false, false, false, false, false, false] rfl rfl (take_ofW HT_.out HW_.out (by kernel_rfl)) (fun _ _ _ h => h) (Or.inl ⟨by rfl, ?_⟩) hHeld ?_ ?_
  rotate_left
  · rintro w' ⟨s0, s1, s2⟩
    go_simp
    with_reducible rfl
  rotate_left
  · simp only [Act.put, List.setIfInBounds_toArray, List.set_cons_zero, List.set_cons_succ, i64_w, i32_w]
    rfl
  refine one_ (i := 12) (N := some 23) #[true, true, true, true, true, true, true, true, true, true, true, true, true, false, false, false, false, false, false] rfl rfl (one_of HT_.out (by kernel_rfl)) (by decide) (fun K hK => ?_)
  refine goes_ Tryz.func76 (by kernel_rfl) rfl #[.slice A n c, .int .i32 0] (by rfl) rfl rfl (by simp only [List.map_toArray, List.map_cons, List.map_nil]; rfl) ?_
  with_reducible refine (HC.out _ (by exact bdrew (Below.refl _ _))).mono ?_
  rintro e w3 ⟨v3, rfl, hap⟩
  refine ⟨_, rfl, ?_⟩
  have hne : some B ≠ (Value.slice A n c).ownBlock := fun e => by have h1 := (HO.out.lt B e.symm).1; have h2 := HH.out.1; omega
  have hbx3 : w3.heap[B]? = _ := (hap.grown.block B (by exact hlt0) hne).trans HBX.out
  have hcg : w3.heap[gb]? = W.heap[gb]? := hap.grown.block gb (by exact hltg.out) HAP.out
  have hz3 := hap.size
  have r0 : w3.cell? ⟨B, 0, none⟩ = some (.slice A n c) := by simp only [World.cell?, hbx3]; rfl
  have r1 : w3.cell? ⟨B, 1, none⟩ = some (.slice (some ⟨gb, go, none⟩) 1 ci) := by simp only [World.cell?, hbx3]; rfl
  have ri : w3.cell? ⟨gb, go, none⟩ = some (.int .i32 0) := by rw [← qi]; simp only [World.cell?, hcg]
  have g0 : w3.frozen? ⟨B, 0, none⟩ = false := by simp only [World.frozen?, hbx3]; rfl
  have hlt3 : B < w3.heap.size := Nat.lt_of_lt_of_le hlt0 hz3
  have ho3 := hap.own
  obtain ⟨A3, c3, rfl, hs3, -⟩ := ho3.sb
  refine hK.out _ _ ⟨r0, r1, ri⟩ (fun hHeld => ?_)
  clear hK K
  refine norm_ (a' := ?_) ?_ ?_
  rotate_left
  · show Act.put _ (some 23) _ = _
    simp only [Act.put, List.setIfInBounds_toArray, List.set_cons_zero, List.set_cons_succ, i64_w, i32_w]
    rfl
  refine pure_ (i := 13) (N := some 10) (v := ?_) (a' := ?_) #[true, true, true, true, true, true, true, true, true, true, true, true, true, true, false, false, false, false, false] rfl rfl (any_of HT_.out (by kernel_rfl)) (fun _ _ _ h => h) (Or.inl ⟨by rfl, ?_⟩) ?_ ?_
  rotate_left
  · intro w'
    go_simp
    with_reducible rfl
  rotate_left
  · simp only [Act.put, List.setIfInBounds_toArray, List.set_cons_zero, List.set_cons_succ, i64_w, i32_w]
    rfl
  refine pure_ (i := 14) (N := some 24) (v := ?_) (a' := ?_) #[true, true, true, true, true, true, true, true, true, true, true, true, true, true, true, false, false, false, false] rfl rfl (any_of HT_.out (by kernel_rfl)) (fun _ _ _ h => h) (Or.inl ⟨by rfl, ?_⟩) ?_ ?_
  rotate_left
  · intro w'
    go_simp
    with_reducible rfl
  rotate_left
  · simp only [Act.put, List.setIfInBounds_toArray, List.set_cons_zero, List.set_cons_succ, i64_w, i32_w]
    rfl
  refine pure_ (i := 15) (N := some 25) (v := ?_) (a' := ?_) #[true, true, true, true, true, true, true, true, true, true, true, true, true, true, true, true, false, false, false] rfl rfl (any_of HT_.out (by kernel_rfl)) (fun _ _ _ h => h) (Or.inl ⟨by rfl, ?_⟩) ?_ ?_
  rotate_left
  · intro w'
    go_simp
    with_reducible rfl
  rotate_left
  · simp only [Act.put, List.setIfInBounds_toArray, List.set_cons_zero, List.set_cons_succ, i64_w, i32_w]
    rfl
  refine pure_ (i := 16) (N := some 26) (v := ?_) (a' := ?_) #[true, true, true, true, true, true, true, true, true, true, true, true, true, true, true, true, true, false, false] rfl rfl (any_of HT_.out (by kernel_rfl)) (fun _ _ _ h => h) (Or.inl ⟨by rfl, ?_⟩) ?_ ?_
  rotate_left
  · intro w'
    go_simp
    with_reducible rfl
  rotate_left
  · simp only [Act.put, List.setIfInBounds_toArray, List.set_cons_zero, List.set_cons_succ, i64_w, i32_w]
    rfl
  refine pure_ (i := 17) (N := some 27) (v := ?_) (a' := ?_) #[true, true, true, true, true, true, true, true, true, true, true, true, true, true, true, true, true, true, false] rfl rfl (any_of HT_.out (by kernel_rfl)) (fun _ _ _ h => h) (Or.inl ⟨by rfl, ?_⟩) ?_ ?_
  rotate_left
  · intro w'
    go_simp
    with_reducible rfl
  rotate_left
  · simp only [Act.put, List.setIfInBounds_toArray, List.set_cons_zero, List.set_cons_succ, i64_w, i32_w]
    rfl
  refine last_ (i := 18) (N := none) #[true, true, true, true, true, true, true, true, true, true, true, true, true, true, true, true, true, true, true] rfl rfl (one_of HT_.out (by kernel_rfl)) (by decide) (fun K hK => ?_)
  refine skip_ (w1 := ?_) (by rfl) rfl ?_ ?_
  rotate_left
  · go_simp
    rfl
  refine hK.out _ _ ?_
  clear hK K
  refine done_ (done_of HT_.out (by kernel_rfl)) ?_
  have hb3 : Below base W w3 := bleft (hap.kept (HO.out.keep (bdrew (Below.refl _ _))) (by exact HH.out.2))
  have g1 : w3.frozen? ⟨B, 1, none⟩ = false := by simp only [World.frozen?, hbx3]; rfl
  have HB3 : Hid (Below B W w3) := Lib.hid (hb3.mono (by have := HH.out.1; omega))
  have hfar : ∀ a, A3 = some a → a.block ≠ B := fun a ha => by have h1 := ho3.newer a ha; have h2 := HH.out.1; omega
  have HF := Lib.hid hfar
  have HS3 := Lib.hid hs3
  clear hap ho3 hs3 hb3 hfar hne hbx3 hcg hz3 HC q0 q1 qi f0 f1 ri
  go_wp2_with fail
  go_ret
  exact ⟨A3, c3, rfl, (HS3.out.far HF.out _).far HF.out _, (HB3.out.setCell (Nat.le_refl _) _).setCell (Nat.le_refl _) _⟩
end Aw
end Go.Proofs.YtohfgfbfohkkkaaGreatDoor.X
