/- Contracts of binaryutil's readers. -/
import Derived.Test.YtfpnhlfmnoikhabLe
import Derived.Test.YtfpnhlfmnoikhabOwn
import Derived.Test.YtfpnhlfmnoikhabWLast
import Derived.Test.YtfpnhlfmnoikhabWTab
set_option linter.unusedVariables false
set_option linter.unusedSimpArgs false
namespace Go.Proofs.Ytfpnhlfmnoikhab.X
open Go.RowKit Go.Proofs.YtfpnhlfmnoikhabW.PrintLast
def R30.T3 : Bool × List (List Nat × List Nat) := (true, [([], []), ([], []), ([0, 1], [0, 1]), ([], []), ([3], [3]), ([2, 2, 0, 1, 2], [2]), ([4, 5, 0, 1, 2, 3, 4, 5], [4]), ([6, 0, 1, 2, 3, 4, 5, 6], [])])
def R30.B3 : List Nat := [0, 0, 3, 0, 8, 7, 63, 127]
theorem R30.tab3 : rtab .any (opsOf Try.f30 3) = R30.T3 := by kernel_rfl
theorem R30.bits3 : waitsOk R30.T3.2 R30.B3 = true := by kernel_rfl
def R32.T3 : Bool × List (List Nat × List Nat) := (true, [([], []), ([], []), ([0, 1], [0, 1]), ([], []), ([3], [3]), ([2, 2, 0, 1, 2], [2]), ([4, 5, 0, 1, 2, 3, 4, 5], [4]), ([6, 0, 1, 2, 3, 4, 5, 6], [])])
def R32.B3 : List Nat := [0, 0, 3, 0, 8, 7, 63, 127]
theorem R32.tab3 : rtab .any (opsOf Try.f32 3) = R32.T3 := by kernel_rfl
theorem R32.bits3 : waitsOk R32.T3.2 R32.B3 = true := by kernel_rfl
set_option maxHeartbeats 1600000 in
theorem readU32 (A : Option Addr) (c : Nat) (b0 b1 b2 b3 : UInt8) (r : List UInt8) (w : World) (hs : SB w A c (b0 :: b1 :: b2 :: b3 :: r)) :
    Calls Try.prog 30 #[.slice A (b0 :: b1 :: b2 :: b3 :: r).length c] w fun e w' => ∃ A1, e = .returned (.tuple #[.int .u32 (Lib.leNat [b0, b1, b2, b3]), .slice A1 r.length (c - 4), .bool true]) ∧ SB w' A1 (c - 4) r ∧ Below w.heap.size w w' := by
  have hU := fun wx (h : Below w.heap.size w wx) => leUint32 A c b0 b1 b2 b3 r wx (hs.keep h)
  have HU := Lib.hid hU
  clear hU
  obtain ⟨nv, hnv⟩ : ∃ x, x = (Lib.leNat [b0, b1, b2, b3]) := ⟨_, rfl⟩
  rw [← hnv] at HU ⊢
  obtain ⟨A1, e1, s1⟩ := SB.from_ (P := Try.prog) Try.underlying25 rfl rfl .i64 A c (b0 :: b1 :: b2 :: b3 :: r) 4 (by simp) hs.le
  have e1' : ∀ W : World, (Instr.slice 25 (.slice A (b0 :: b1 :: b2 :: b3 :: r).length c) (some (.int .i64 4)) none none).run Try.prog W = .ok (.slice A1 r.length (c - 4)) W := fun W => by have h := e1 W; rw [show (b0 :: b1 :: b2 :: b3 :: r).length - 4 = r.length from by simp] at h; exact h
  have t1 := fun wx (h : Below w.heap.size w wx) => s1 wx (hs.keep h)
  have T1 := Lib.hid t1
  obtain ⟨q, hq⟩ : ∃ x, x = (b0 :: b1 :: b2 :: b3 :: r).length := ⟨_, rfl⟩
  rw [← hq] at HU e1' ⊢
  have hq4 : 4 ≤ q := by rw [hq]; simp
  have hcap : r.length + 4 ≤ c := by have := hs.le; simpa using this
  clear hq t1 e1 s1 hs hnv
  go_enter Try.func30, Try.ntmps30
  go_wp2
  refine start_ (n := 8) (S := fun w' => True) (ds := []) #[false, false, false, false, false, false, false, false] (by kernel_rfl) rfl rfl trivial (fun hHeld => ?_)
  refine with_tabW R30.tab3 R30.bits3 (fun HT_ HW_ => ?_)
  refine pure_ (i := 1) (N := some 10) (v := ?_) (a' := ?_) #[false, true, false, false, false, false, false, false] rfl rfl (any_of HT_.out (by kernel_rfl)) (fun _ _ _ h => h) (Or.inl ⟨by rfl, ?_⟩) ?_ ?_
  rotate_left
  · intro w'
    go_simp
    with_reducible rfl
  rotate_left
  · simp only [Act.put, List.setIfInBounds_toArray, List.set_cons_zero, List.set_cons_succ, i64_w, i32_w]
    rfl
  refine pure_ (i := 3) (N := some 12) (v := ?_) (a' := ?_) #[false, true, false, true, false, false, false, false] rfl rfl (any_of HT_.out (by kernel_rfl)) (fun _ _ _ h => h) (Or.inl ⟨by rfl, ?_⟩) ?_ ?_
  rotate_left
  · intro w'
    go_simp
    with_reducible rfl
  rotate_left
  · simp only [Act.put, List.setIfInBounds_toArray, List.set_cons_zero, List.set_cons_succ, i64_w, i32_w]
    rfl
  refine pure_ (i := 4) (N := some 13) (v := ?_) (a' := ?_) #[false, true, false, true, true, false, false, false] rfl rfl (any_of HT_.out (by kernel_rfl)) (fun _ _ _ h => h) (Or.inl ⟨by rfl, ?_⟩) ?_ ?_
  rotate_left
  · intro w'
    go_simp
    with_reducible rfl
  rotate_left
  · simp only [Act.put, List.setIfInBounds_toArray, List.set_cons_zero, List.set_cons_succ, i64_w, i32_w]
    rfl
  refine take_ (i := 0) (N := some 9) (v := ?_) (a' := ?_) #[true, true, false, true, true, false, false, false] rfl rfl (take_ofW HT_.out HW_.out (by kernel_rfl)) (fun _ _ _ h => h) (Or.inl ⟨by rfl, ?_⟩) hHeld ?_ ?_
  rotate_left
  · intro w' _
    go_simp
    with_reducible rfl
  rotate_left
  · simp only [Act.put, List.setIfInBounds_toArray, List.set_cons_zero, List.set_cons_succ, i64_w, i32_w]
    rfl
  refine one_ (i := 2) (N := some 11) #[true, true, true, true, true, false, false, false] rfl rfl (one_of HT_.out (by kernel_rfl)) (by decide) (fun K hK => ?_)
  refine goes_ Try.func37 (by kernel_rfl) rfl #[.agg #[], .slice A q c] (by rfl) rfl rfl (by simp only [List.map_toArray, List.map_cons, List.map_nil]; rfl) ?_
  with_reducible refine (HU.out _ (by exact bdrew (Below.refl _ _))).mono ?_
  rintro e w3 ⟨rfl, hb3⟩
  refine ⟨_, rfl, ?_⟩
  refine hK.out _ _ trivial (fun hHeld => ?_)
  clear hK K
  refine norm_ (a' := ?_) ?_ ?_
  rotate_left
  · show Act.put _ (some 11) _ = _
    simp only [Act.put, List.setIfInBounds_toArray, List.set_cons_zero, List.set_cons_succ, i64_w, i32_w]
    rfl
  refine pure_ (i := 5) (N := some 2) (v := ?_) (a' := ?_) #[true, true, true, true, true, true, false, false] rfl rfl (any_of HT_.out (by kernel_rfl)) (fun _ _ _ h => h) (Or.inl ⟨by rfl, ?_⟩) ?_ ?_
  rotate_left
  · intro w'
    go_simp
    with_reducible rfl
  rotate_left
  · simp only [Act.put, List.setIfInBounds_toArray, List.set_cons_zero, List.set_cons_succ, i64_w, i32_w]
    rfl
  refine pure_ (i := 6) (N := some 3) (v := ?_) (a' := ?_) #[true, true, true, true, true, true, true, false] rfl rfl (any_of HT_.out (by kernel_rfl)) (fun _ _ _ h => h) (Or.inl ⟨by rfl, ?_⟩) ?_ ?_
  rotate_left
  · intro w'
    go_simp
    with_reducible rfl
  rotate_left
  · simp only [Act.put, List.setIfInBounds_toArray, List.set_cons_zero, List.set_cons_succ, i64_w, i32_w]
    rfl
  refine pure_ (i := 7) (N := some 4) (v := ?_) (a' := ?_) #[true, true, true, true, true, true, true, true] rfl rfl (any_of HT_.out (by kernel_rfl)) (fun _ _ _ h => h) (Or.inl ⟨by rfl, ?_⟩) ?_ ?_
  rotate_left
  · intro w'
    go_simp
    with_reducible rfl
  rotate_left
  · simp only [Act.put, List.setIfInBounds_toArray, List.set_cons_zero, List.set_cons_succ, i64_w, i32_w]
    rfl
  refine done_ (done_of HT_.out (by kernel_rfl)) ?_
  have hb : Below w.heap.size w w3 := (bdrew (Below.refl _ _)).trans hb3
  go_wp2
  exact bodyPost_ret (v := .tuple #[.int .u32 nv, .slice A1 r.length (c - 4), .bool true]) (by simp [results, Try.results30, go_sem]) rfl ⟨A1, rfl, by have := T1.out w3 hb; simpa using this, hb⟩
set_option maxHeartbeats 1600000 in
theorem readU64 (A : Option Addr) (c : Nat) (b0 b1 b2 b3 b4 b5 b6 b7 : UInt8) (r : List UInt8) (w : World) (hs : SB w A c (b0 :: b1 :: b2 :: b3 :: b4 :: b5 :: b6 :: b7 :: r)) :
    Calls Try.prog 32 #[.slice A (b0 :: b1 :: b2 :: b3 :: b4 :: b5 :: b6 :: b7 :: r).length c] w fun e w' => ∃ A1, e = .returned (.tuple #[.int .u64 (Lib.leNat [b0, b1, b2, b3, b4, b5, b6, b7]), .slice A1 r.length (c - 8), .bool true]) ∧ SB w' A1 (c - 8) r ∧ Below w.heap.size w w' := by
  have hU := fun wx (h : Below w.heap.size w wx) => leUint64 A c b0 b1 b2 b3 b4 b5 b6 b7 r wx (hs.keep h)
  have HU := Lib.hid hU
  clear hU
  obtain ⟨nv, hnv⟩ : ∃ x, x = (Lib.leNat [b0, b1, b2, b3, b4, b5, b6, b7]) := ⟨_, rfl⟩
  rw [← hnv] at HU ⊢
  obtain ⟨A1, e1, s1⟩ := SB.from_ (P := Try.prog) Try.underlying25 rfl rfl .i64 A c (b0 :: b1 :: b2 :: b3 :: b4 :: b5 :: b6 :: b7 :: r) 8 (by simp) hs.le
  have e1' : ∀ W : World, (Instr.slice 25 (.slice A (b0 :: b1 :: b2 :: b3 :: b4 :: b5 :: b6 :: b7 :: r).length c) (some (.int .i64 8)) none none).run Try.prog W = .ok (.slice A1 r.length (c - 8)) W := fun W => by have h := e1 W; rw [show (b0 :: b1 :: b2 :: b3 :: b4 :: b5 :: b6 :: b7 :: r).length - 8 = r.length from by simp] at h; exact h
  have t1 := fun wx (h : Below w.heap.size w wx) => s1 wx (hs.keep h)
  have T1 := Lib.hid t1
  obtain ⟨q, hq⟩ : ∃ x, x = (b0 :: b1 :: b2 :: b3 :: b4 :: b5 :: b6 :: b7 :: r).length := ⟨_, rfl⟩
  rw [← hq] at HU e1' ⊢
  have hq4 : 8 ≤ q := by rw [hq]; simp
  have hcap : r.length + 8 ≤ c := by have := hs.le; simpa using this
  clear hq t1 e1 s1 hs hnv
  go_enter Try.func32, Try.ntmps32
  go_wp2
  refine start_ (n := 8) (S := fun w' => True) (ds := []) #[false, false, false, false, false, false, false, false] (by kernel_rfl) rfl rfl trivial (fun hHeld => ?_)
  refine with_tabW R32.tab3 R32.bits3 (fun HT_ HW_ => ?_)
  refine pure_ (i := 1) (N := some 10) (v := ?_) (a' := ?_) #[false, true, false, false, false, false, false, false] rfl rfl (any_of HT_.out (by kernel_rfl)) (fun _ _ _ h => h) (Or.inl ⟨by rfl, ?_⟩) ?_ ?_
  rotate_left
  · intro w'
    go_simp
    with_reducible rfl
  rotate_left
  · simp only [Act.put, List.setIfInBounds_toArray, List.set_cons_zero, List.set_cons_succ, i64_w, i32_w]
    rfl
  refine pure_ (i := 3) (N := some 12) (v := ?_) (a' := ?_) #[false, true, false, true, false, false, false, false] rfl rfl (any_of HT_.out (by kernel_rfl)) (fun _ _ _ h => h) (Or.inl ⟨by rfl, ?_⟩) ?_ ?_
  rotate_left
  · intro w'
    go_simp
    with_reducible rfl
  rotate_left
  · simp only [Act.put, List.setIfInBounds_toArray, List.set_cons_zero, List.set_cons_succ, i64_w, i32_w]
    rfl
  refine pure_ (i := 4) (N := some 13) (v := ?_) (a' := ?_) #[false, true, false, true, true, false, false, false] rfl rfl (any_of HT_.out (by kernel_rfl)) (fun _ _ _ h => h) (Or.inl ⟨by rfl, ?_⟩) ?_ ?_
  rotate_left
  · intro w'
    go_simp
    with_reducible rfl
  rotate_left
  · simp only [Act.put, List.setIfInBounds_toArray, List.set_cons_zero, List.set_cons_succ, i64_w, i32_w]
    rfl
  refine take_ (i := 0) (N := some 9) (v := ?_) (a' := ?_) #[true, true, false, true, true, false, false, false] rfl rfl (take_ofW HT_.out HW_.out (by kernel_rfl)) (fun _ _ _ h => h) (Or.inl ⟨by rfl, ?_⟩) hHeld ?_ ?_
  rotate_left
  · intro w' _
    go_simp
    with_reducible rfl
  rotate_left
  · simp only [Act.put, List.setIfInBounds_toArray, List.set_cons_zero, List.set_cons_succ, i64_w, i32_w]
    rfl
  refine one_ (i := 2) (N := some 11) #[true, true, true, true, true, false, false, false] rfl rfl (one_of HT_.out (by kernel_rfl)) (by decide) (fun K hK => ?_)
  refine goes_ Try.func38 (by kernel_rfl) rfl #[.agg #[], .slice A q c] (by rfl) rfl rfl (by simp only [List.map_toArray, List.map_cons, List.map_nil]; rfl) ?_
  with_reducible refine (HU.out _ (by exact bdrew (Below.refl _ _))).mono ?_
  rintro e w3 ⟨rfl, hb3⟩
  refine ⟨_, rfl, ?_⟩
  refine hK.out _ _ trivial (fun hHeld => ?_)
  clear hK K
  refine norm_ (a' := ?_) ?_ ?_
  rotate_left
  · show Act.put _ (some 11) _ = _
    simp only [Act.put, List.setIfInBounds_toArray, List.set_cons_zero, List.set_cons_succ, i64_w, i32_w]
    rfl
  refine pure_ (i := 5) (N := some 2) (v := ?_) (a' := ?_) #[true, true, true, true, true, true, false, false] rfl rfl (any_of HT_.out (by kernel_rfl)) (fun _ _ _ h => h) (Or.inl ⟨by rfl, ?_⟩) ?_ ?_
  rotate_left
  · intro w'
    go_simp
    with_reducible rfl
  rotate_left
  · simp only [Act.put, List.setIfInBounds_toArray, List.set_cons_zero, List.set_cons_succ, i64_w, i32_w]
    rfl
  refine pure_ (i := 6) (N := some 3) (v := ?_) (a' := ?_) #[true, true, true, true, true, true, true, false] rfl rfl (any_of HT_.out (by kernel_rfl)) (fun _ _ _ h => h) (Or.inl ⟨by rfl, ?_⟩) ?_ ?_
  rotate_left
  · intro w'
    go_simp
    with_reducible rfl
  rotate_left
  · simp only [Act.put, List.setIfInBounds_toArray, List.set_cons_zero, List.set_cons_succ, i64_w, i32_w]
    rfl
  refine pure_ (i := 7) (N := some 4) (v := ?_) (a' := ?_) #[true, true, true, true, true, true, true, true] rfl rfl (any_of HT_.out (by kernel_rfl)) (fun _ _ _ h => h) (Or.inl ⟨by rfl, ?_⟩) ?_ ?_
  rotate_left
  · intro w'
    go_simp
    with_reducible rfl
  rotate_left
  · simp only [Act.put, List.setIfInBounds_toArray, List.set_cons_zero, List.set_cons_succ, i64_w, i32_w]
    rfl
  refine done_ (done_of HT_.out (by kernel_rfl)) ?_
  have hb : Below w.heap.size w w3 := (bdrew (Below.refl _ _)).trans hb3
  go_wp2
  exact bodyPost_ret (v := .tuple #[.int .u64 nv, .slice A1 r.length (c - 8), .bool true]) (by simp [results, Try.results32, go_sem]) rfl ⟨A1, rfl, by have := T1.out w3 hb; simpa using this, hb⟩
end Go.Proofs.Ytfpnhlfmnoikhab.X
