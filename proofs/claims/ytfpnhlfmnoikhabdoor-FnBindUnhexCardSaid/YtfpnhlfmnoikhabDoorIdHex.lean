/- Contract of impl.IDFromHex, over what bson.ObjectIDFromHex gives. -/
import Derived.Test.YtfpnhlfmnoikhabDoorOid2
set_option linter.unusedVariables false
set_option linter.unusedSimpArgs false
namespace Go.Proofs.YtfpnhlfmnoikhabDoor.X
open Go.RowKit Go.Proofs.YtfpnhlfmnoikhabDoorW.PrintLast
def R5.T2 : Bool × List (List Nat × List Nat) := (true, [([], []), ([0], [0]), ([], []), ([2], [2]), ([1, 1, 0, 1], [1]), ([3, 4, 0, 1, 2, 3, 4], [3])])
def R5.B2 : List Nat := [0, 1, 0, 4, 3, 31]
theorem R5.tab2 : rtab .any (opsOf Tryd.f5 2) = R5.T2 := by kernel_rfl
theorem R5.bits2 : waitsOk R5.T2.2 R5.B2 = true := by kernel_rfl
theorem byv_12 (b0 b1 b2 b3 b4 b5 b6 b7 b8 b9 b10 b11 : UInt8) : byv [b0, b1, b2, b3, b4, b5, b6, b7, b8, b9, b10, b11] = [.int .u8 b0.toNat, .int .u8 b1.toNat, .int .u8 b2.toNat, .int .u8 b3.toNat, .int .u8 b4.toNat, .int .u8 b5.toNat, .int .u8 b6.toNat, .int .u8 b7.toNat, .int .u8 b8.toNat, .int .u8 b9.toNat, .int .u8 b10.toNat, .int .u8 b11.toNat] := by simp [byv]
set_option maxRecDepth 100000 in
set_option maxHeartbeats 4000000 in
theorem idFromHexOk (s : ByteArray) (w : World) (b0 b1 b2 b3 b4 b5 b6 b7 b8 b9 b10 b11 : UInt8)
    (hC : Calls Tryd.prog 12 #[.string s] w fun e w' => e = .returned (.tuple #[.agg #[.int .u8 b0.toNat, .int .u8 b1.toNat, .int .u8 b2.toNat, .int .u8 b3.toNat, .int .u8 b4.toNat, .int .u8 b5.toNat, .int .u8 b6.toNat, .int .u8 b7.toNat, .int .u8 b8.toNat, .int .u8 b9.toNat, .int .u8 b10.toNat, .int .u8 b11.toNat], .nilIface]) ∧ Below w.heap.size w w') :
    Calls Tryd.prog 5 #[.string s] w fun e w' => ∃ A c, e = .returned (.tuple #[.slice A 12 c, .bool true]) ∧ SB w' A c [b0, b1, b2, b3, b4, b5, b6, b7, b8, b9, b10, b11] ∧ Below w.heap.size w w' := by
  have HC := Lib.hid hC
  clear hC
  go_enter Tryd.func5, Tryd.ntmps5
  go_wp2_with fail
  refine HC.out.mono ?_
  rintro e w1 ⟨rfl, hb1⟩
  have hz1 := hb1.size
  go_wp2_with fail
  have hO : Hid (∀ wx, wx = ((w1.alloc (.cells #[.int .u8 b0.toNat, .int .u8 b1.toNat, .int .u8 b2.toNat, .int .u8 b3.toNat, .int .u8 b4.toNat, .int .u8 b5.toNat, .int .u8 b6.toNat, .int .u8 b7.toNat, .int .u8 b8.toNat, .int .u8 b9.toNat, .int .u8 b10.toNat, .int .u8 b11.toNat] 38)).drew) → Calls Tryd.prog 13 #[.slice (some ⟨w1.heap.size, 0, none⟩) 12 12] wx fun e w' => ∃ A c, e = .returned (.slice A 12 c) ∧ SB w' A c [b0, b1, b2, b3, b4, b5, b6, b7, b8, b9, b10, b11] ∧ Below wx.heap.size wx w') := Lib.hid (by
    rintro wx rfl
    have hs : SB ((w1.alloc (.cells #[.int .u8 b0.toNat, .int .u8 b1.toNat, .int .u8 b2.toNat, .int .u8 b3.toNat, .int .u8 b4.toNat, .int .u8 b5.toNat, .int .u8 b6.toNat, .int .u8 b7.toNat, .int .u8 b8.toNat, .int .u8 b9.toNat, .int .u8 b10.toNat, .int .u8 b11.toNat] 38)).drew) (some ⟨w1.heap.size, 0, none⟩) 12 [b0, b1, b2, b3, b4, b5, b6, b7, b8, b9, b10, b11] := (SB.lit_ (E := 38) w1 [b0, b1, b2, b3, b4, b5, b6, b7, b8, b9, b10, b11] [.int .u8 b0.toNat, .int .u8 b1.toNat, .int .u8 b2.toNat, .int .u8 b3.toNat, .int .u8 b4.toNat, .int .u8 b5.toNat, .int .u8 b6.toNat, .int .u8 b7.toNat, .int .u8 b8.toNat, .int .u8 b9.toNat, .int .u8 b10.toNat, .int .u8 b11.toNat] (byv_12 b0 b1 b2 b3 b4 b5 b6 b7 b8 b9 b10 b11).symm (by simp) 12 rfl).drew
    refine (fresh_of (implOwn _ 12 [b0, b1, b2, b3, b4, b5, b6, b7, b8, b9, b10, b11] _ hs (by simp))).mono ?_
    rintro e w' ⟨A, c, rfl, h1, -, h2⟩
    exact ⟨A, c, rfl, h1, h2⟩)
  refine start_ (n := 6) (S := fun w' => True) (ds := []) #[false, false, false, false, false, false] (by kernel_rfl) rfl rfl trivial (fun hHeld => ?_)
  refine with_tabW R5.tab2 R5.bits2 (fun HT_ HW_ => ?_)
  refine pure_ (i := 0) (N := some 11) (v := ?_) (a' := ?_) #[true, false, false, false, false, false] rfl rfl (any_of HT_.out (by kernel_rfl)) (fun _ _ _ h => h) (Or.inl ⟨by rfl, ?_⟩) ?_ ?_
  rotate_left
  · intro w'
    go_simp
    with_reducible rfl
  rotate_left
  · simp only [Act.put, List.setIfInBounds_toArray, List.set_cons_zero, List.set_cons_succ, i64_w, i32_w]
    rfl
  refine pure_ (i := 2) (N := some 13) (v := ?_) (a' := ?_) #[true, false, true, false, false, false] rfl rfl (any_of HT_.out (by kernel_rfl)) (fun _ _ _ h => h) (Or.inl ⟨by rfl, ?_⟩) ?_ ?_
  rotate_left
  · intro w'
    go_simp
    with_reducible rfl
  rotate_left
  · simp only [Act.put, List.setIfInBounds_toArray, List.set_cons_zero, List.set_cons_succ, i64_w, i32_w]
    rfl
  refine pure_ (i := 3) (N := some 14) (v := ?_) (a' := ?_) #[true, false, true, true, false, false] rfl rfl (any_of HT_.out (by kernel_rfl)) (fun _ _ _ h => h) (Or.inl ⟨by rfl, ?_⟩) ?_ ?_
  rotate_left
  · intro w'
    go_simp
    with_reducible rfl
  rotate_left
  · simp only [Act.put, List.setIfInBounds_toArray, List.set_cons_zero, List.set_cons_succ, i64_w, i32_w]
    rfl
  refine one_ (i := 1) (N := some 12) #[true, true, true, true, false, false] rfl rfl (one_of HT_.out (by kernel_rfl)) (by decide) (fun K hK => ?_)
  refine goes_ Tryd.func13 (by kernel_rfl) rfl #[.slice (some ⟨w1.heap.size, 0, none⟩) 12 12] (by rfl) rfl rfl (by simp only [List.map_toArray, List.map_cons, List.map_nil]; rfl) ?_
  with_reducible refine (hO.out _ rfl).mono ?_
  rintro e w3 ⟨A3, c3, rfl, hs3, hb3⟩
  refine ⟨_, rfl, ?_⟩
  have HS3 := Lib.hid hs3
  have hB3 : Below w.heap.size w w3 := (bdrew (balloc hb1 hz1 _)).trans (hb3.mono (by simp; omega))
  clear hs3 hb3
  refine hK.out _ _ trivial (fun hHeld => ?_)
  clear hK K
  refine norm_ (a' := ?_) ?_ ?_
  rotate_left
  · show Act.put _ (some 12) _ = _
    simp only [Act.put, List.setIfInBounds_toArray, List.set_cons_zero, List.set_cons_succ, i64_w, i32_w]
    rfl
  refine pure_ (i := 4) (N := some 2) (v := ?_) (a' := ?_) #[true, true, true, true, true, false] rfl rfl (any_of HT_.out (by kernel_rfl)) (fun _ _ _ h => h) (Or.inl ⟨by rfl, ?_⟩) ?_ ?_
  rotate_left
  · intro w'
    go_simp
    with_reducible rfl
  rotate_left
  · simp only [Act.put, List.setIfInBounds_toArray, List.set_cons_zero, List.set_cons_succ, i64_w, i32_w]
    rfl
  refine pure_ (i := 5) (N := some 3) (v := ?_) (a' := ?_) #[true, true, true, true, true, true] rfl rfl (any_of HT_.out (by kernel_rfl)) (fun _ _ _ h => h) (Or.inl ⟨by rfl, ?_⟩) ?_ ?_
  rotate_left
  · intro w'
    go_simp
    with_reducible rfl
  rotate_left
  · simp only [Act.put, List.setIfInBounds_toArray, List.set_cons_zero, List.set_cons_succ, i64_w, i32_w]
    rfl
  refine done_ (done_of HT_.out (by kernel_rfl)) ?_
  go_wp2
  exact bodyPost_ret (v := .tuple #[.slice A3 12 c3, .bool true]) (by simp [results, Tryd.results5, go_sem]) rfl ⟨A3, c3, rfl, HS3.out, hB3⟩
set_option maxRecDepth 100000 in
set_option maxHeartbeats 4000000 in
theorem idFromHexBad (s : ByteArray) (w : World) (b0 b1 b2 b3 b4 b5 b6 b7 b8 b9 b10 b11 : UInt8) (T : TypeId) (x : Value)
    (hC : Calls Tryd.prog 12 #[.string s] w fun e w' => e = .returned (.tuple #[.agg #[.int .u8 b0.toNat, .int .u8 b1.toNat, .int .u8 b2.toNat, .int .u8 b3.toNat, .int .u8 b4.toNat, .int .u8 b5.toNat, .int .u8 b6.toNat, .int .u8 b7.toNat, .int .u8 b8.toNat, .int .u8 b9.toNat, .int .u8 b10.toNat, .int .u8 b11.toNat], .iface T x]) ∧ Below w.heap.size w w') :
    Calls Tryd.prog 5 #[.string s] w fun e w' => ∃ A c, e = .returned (.tuple #[.slice A 12 c, .bool false]) ∧ SB w' A c [b0, b1, b2, b3, b4, b5, b6, b7, b8, b9, b10, b11] ∧ Below w.heap.size w w' := by
  have HC := Lib.hid hC
  clear hC
  go_enter Tryd.func5, Tryd.ntmps5
  go_wp2_with fail
  refine HC.out.mono ?_
  rintro e w1 ⟨rfl, hb1⟩
  have hz1 := hb1.size
  go_wp2_with fail
  have hO : Hid (∀ wx, wx = ((w1.alloc (.cells #[.int .u8 b0.toNat, .int .u8 b1.toNat, .int .u8 b2.toNat, .int .u8 b3.toNat, .int .u8 b4.toNat, .int .u8 b5.toNat, .int .u8 b6.toNat, .int .u8 b7.toNat, .int .u8 b8.toNat, .int .u8 b9.toNat, .int .u8 b10.toNat, .int .u8 b11.toNat] 38)).drew) → Calls Tryd.prog 13 #[.slice (some ⟨w1.heap.size, 0, none⟩) 12 12] wx fun e w' => ∃ A c, e = .returned (.slice A 12 c) ∧ SB w' A c [b0, b1, b2, b3, b4, b5, b6, b7, b8, b9, b10, b11] ∧ Below wx.heap.size wx w') := Lib.hid (by
    rintro wx rfl
    have hs : SB ((w1.alloc (.cells #[.int .u8 b0.toNat, .int .u8 b1.toNat, .int .u8 b2.toNat, .int .u8 b3.toNat, .int .u8 b4.toNat, .int .u8 b5.toNat, .int .u8 b6.toNat, .int .u8 b7.toNat, .int .u8 b8.toNat, .int .u8 b9.toNat, .int .u8 b10.toNat, .int .u8 b11.toNat] 38)).drew) (some ⟨w1.heap.size, 0, none⟩) 12 [b0, b1, b2, b3, b4, b5, b6, b7, b8, b9, b10, b11] := (SB.lit_ (E := 38) w1 [b0, b1, b2, b3, b4, b5, b6, b7, b8, b9, b10, b11] [.int .u8 b0.toNat, .int .u8 b1.toNat, .int .u8 b2.toNat, .int .u8 b3.toNat, .int .u8 b4.toNat, .int .u8 b5.toNat, .int .u8 b6.toNat, .int .u8 b7.toNat, .int .u8 b8.toNat, .int .u8 b9.toNat, .int .u8 b10.toNat, .int .u8 b11.toNat] (byv_12 b0 b1 b2 b3 b4 b5 b6 b7 b8 b9 b10 b11).symm (by simp) 12 rfl).drew
    refine (fresh_of (implOwn _ 12 [b0, b1, b2, b3, b4, b5, b6, b7, b8, b9, b10, b11] _ hs (by simp))).mono ?_
    rintro e w' ⟨A, c, rfl, h1, -, h2⟩
    exact ⟨A, c, rfl, h1, h2⟩)
  refine start_ (n := 6) (S := fun w' => True) (ds := []) #[false, false, false, false, false, false] (by kernel_rfl) rfl rfl trivial (fun hHeld => ?_)
  refine with_tabW R5.tab2 R5.bits2 (fun HT_ HW_ => ?_)
  refine pure_ (i := 0) (N := some 11) (v := ?_) (a' := ?_) #[true, false, false, false, false, false] rfl rfl (any_of HT_.out (by kernel_rfl)) (fun _ _ _ h => h) (Or.inl ⟨by rfl, ?_⟩) ?_ ?_
  rotate_left
  · intro w'
    go_simp
    with_reducible rfl
  rotate_left
  · simp only [Act.put, List.setIfInBounds_toArray, List.set_cons_zero, List.set_cons_succ, i64_w, i32_w]
    rfl
  refine pure_ (i := 2) (N := some 13) (v := ?_) (a' := ?_) #[true, false, true, false, false, false] rfl rfl (any_of HT_.out (by kernel_rfl)) (fun _ _ _ h => h) (Or.inl ⟨by rfl, ?_⟩) ?_ ?_
  rotate_left
  · intro w'
    go_simp
    with_reducible rfl
  rotate_left
  · simp only [Act.put, List.setIfInBounds_toArray, List.set_cons_zero, List.set_cons_succ, i64_w, i32_w]
    rfl
  refine pure_ (i := 3) (N := some 14) (v := ?_) (a' := ?_) #[true, false, true, true, false, false] rfl rfl (any_of HT_.out (by kernel_rfl)) (fun _ _ _ h => h) (Or.inl ⟨by rfl, ?_⟩) ?_ ?_
  rotate_left
  · intro w'
    go_simp
    with_reducible rfl
  rotate_left
  · simp only [Act.put, List.setIfInBounds_toArray, List.set_cons_zero, List.set_cons_succ, i64_w, i32_w]
    rfl
  refine one_ (i := 1) (N := some 12) #[true, true, true, true, false, false] rfl rfl (one_of HT_.out (by kernel_rfl)) (by decide) (fun K hK => ?_)
  refine goes_ Tryd.func13 (by kernel_rfl) rfl #[.slice (some ⟨w1.heap.size, 0, none⟩) 12 12] (by rfl) rfl rfl (by simp only [List.map_toArray, List.map_cons, List.map_nil]; rfl) ?_
  with_reducible refine (hO.out _ rfl).mono ?_
  rintro e w3 ⟨A3, c3, rfl, hs3, hb3⟩
  refine ⟨_, rfl, ?_⟩
  have HS3 := Lib.hid hs3
  have hB3 : Below w.heap.size w w3 := (bdrew (balloc hb1 hz1 _)).trans (hb3.mono (by simp; omega))
  clear hs3 hb3
  refine hK.out _ _ trivial (fun hHeld => ?_)
  clear hK K
  refine norm_ (a' := ?_) ?_ ?_
  rotate_left
  · show Act.put _ (some 12) _ = _
    simp only [Act.put, List.setIfInBounds_toArray, List.set_cons_zero, List.set_cons_succ, i64_w, i32_w]
    rfl
  refine pure_ (i := 4) (N := some 2) (v := ?_) (a' := ?_) #[true, true, true, true, true, false] rfl rfl (any_of HT_.out (by kernel_rfl)) (fun _ _ _ h => h) (Or.inl ⟨by rfl, ?_⟩) ?_ ?_
  rotate_left
  · intro w'
    go_simp
    with_reducible rfl
  rotate_left
  · simp only [Act.put, List.setIfInBounds_toArray, List.set_cons_zero, List.set_cons_succ, i64_w, i32_w]
    rfl
  refine pure_ (i := 5) (N := some 3) (v := ?_) (a' := ?_) #[true, true, true, true, true, true] rfl rfl (any_of HT_.out (by kernel_rfl)) (fun _ _ _ h => h) (Or.inl ⟨by rfl, ?_⟩) ?_ ?_
  rotate_left
  · intro w'
    go_simp
    with_reducible rfl
  rotate_left
  · simp only [Act.put, List.setIfInBounds_toArray, List.set_cons_zero, List.set_cons_succ, i64_w, i32_w]
    rfl
  refine done_ (done_of HT_.out (by kernel_rfl)) ?_
  go_wp2
  exact bodyPost_ret (v := .tuple #[.slice A3 12 c3, .bool false]) (by simp [results, Tryd.results5, go_sem]) rfl ⟨A3, c3, rfl, HS3.out, hB3⟩
end Go.Proofs.YtfpnhlfmnoikhabDoor.X
