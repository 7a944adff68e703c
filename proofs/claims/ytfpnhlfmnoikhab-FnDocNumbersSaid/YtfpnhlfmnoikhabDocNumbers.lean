/- Walk of the law FnDocNumbers. -/
import Derived.Test.YtfpnhlfmnoikhabNum
import Derived.Test.YtfpnhlfmnoikhabImplRead
set_option linter.unusedVariables false
set_option linter.unusedSimpArgs false
namespace Go.Proofs.Ytfpnhlfmnoikhab.X
open Go.RowKit Go.Proofs.YtfpnhlfmnoikhabW.PrintLast
def R5.T7 : Bool × List (List Nat × List Nat) := (true, [([], []), ([0], [0]), ([], []), ([2], [2]), ([1, 3, 1], [1, 3]), ([4], [4]), ([], []), ([6], [6]), ([], []), ([8], [8]), ([7, 9], [7, 9]), ([5, 10], [5, 10]), ([11, 4], [11]), ([12], [12]), ([13, 12, 12], [12, 13]), ([12], [12]), ([14, 15, 14, 12], [12, 14, 15]), ([16, 12], [12, 16]), ([12], [12]), ([18, 12], [12, 18]), ([12], [12]), ([20, 12], [12, 20]), ([19, 21, 12], [12, 19, 21]), ([17, 22, 12], [12, 17, 22]), ([12, 23], [12, 23])])
def R5.B7 : List Nat := [0, 1, 0, 4, 15, 31, 0, 64, 0, 256, 960, 2047, 4095, 8191, 16383, 8191, 65535, 131071, 8191, 270335, 8191, 1056767, 3940351, 8388607, 16777215]
theorem R5.tab7 : rtab .any (opsOf Try.f5 7) = R5.T7 := by kernel_rfl
theorem R5.bits7 : waitsOk R5.T7.2 R5.B7 = true := by kernel_rfl
theorem ub_val (n : Int) : ((ub n).toNat : Int) = n % 256 := ub_toNat n
theorem i32_val (n : Int) (h0 : 0 ≤ n) (h1 : n ≤ 4294967295) : leI [ub n, ub (n / 256), ub (n / 65536), ub (n / 16777216)] = n := by
  simp only [leI, ub_toNat]
  omega
theorem i64_val (n : Int) (h0 : 0 ≤ n) (h1 : n ≤ 18446744073709551615) : leI [ub n, ub (n / 256), ub (n / 65536), ub (n / 16777216), ub (n / 4294967296), ub (n / 1099511627776), ub (n / 281474976710656), ub (n / 72057594037927936)] = n := by
  simp only [leI, ub_toNat]
  omega
theorem leN_leI : ∀ l : List UInt8, ((Lib.leNat l : Nat) : Int) = leI l
  | [] => rfl
  | b :: r => by
    simp only [Lib.leNat, leI, ← leN_leI r]
    omega
theorem i64_list (n : Int) : i64 n = [ub n, ub (n / 256), ub (n / 65536), ub (n / 16777216), ub (n / 4294967296), ub (n / 1099511627776), ub (n / 281474976710656), ub (n / 72057594037927936)] := by simp [i64, List.range_succ]
/-- What the readers tell of what was written. -/
theorem back_i32 (A : Option Addr) (c : Nat) (n : Int) (r : List UInt8) (w : World) (h0 : 0 ≤ n) (h1 : n ≤ 18446744073709551615) (hs : SB w A c (i32 (n % 4294967296) ++ r)) (hl : r.length ≤ 100000000000000) :
    Calls Try.prog 17 #[.slice A (i32 (n % 4294967296) ++ r).length c] w fun e w' => ∃ A1 c1, e = .returned (.tuple #[.int .i32 (wrap32 n), .slice A1 r.length c1, .bool true]) ∧ SB w' A1 c1 r ∧ Below w.heap.size w w' := by
  have h := implReadI32 A c _ _ _ _ r w hs hl
  rw [i32_val _ (by omega) (by omega)] at h
  rw [show wrap32 (n % 4294967296) = wrap32 n from by unfold wrap32; omega] at h
  exact h
theorem back_u32 (A : Option Addr) (c : Nat) (n : Int) (r : List UInt8) (w : World) (h0 : 0 ≤ n) (h1 : n ≤ 18446744073709551615) (hs : SB w A c (i32 (n % 4294967296) ++ r)) (hl : r.length ≤ 100000000000000) :
    Calls Try.prog 18 #[.slice A (i32 (n % 4294967296) ++ r).length c] w fun e w' => ∃ A1 c1, e = .returned (.tuple #[.int .u32 (n % 4294967296), .slice A1 r.length c1, .bool true]) ∧ SB w' A1 c1 r ∧ Below w.heap.size w w' := by
  have h := implReadU32 A c _ _ _ _ r w hs hl
  rw [leN_leI, i32_val _ (by omega) (by omega)] at h
  exact h
theorem back_i64 (A : Option Addr) (c : Nat) (n : Int) (r : List UInt8) (w : World) (h0 : 0 ≤ n) (h1 : n ≤ 18446744073709551615) (hs : SB w A c (i64 n ++ r)) (hl : r.length ≤ 100000000000000) :
    Calls Try.prog 19 #[.slice A (i64 n ++ r).length c] w fun e w' => ∃ A1 c1, e = .returned (.tuple #[.int .i64 (wrap64 n), .slice A1 r.length c1, .bool true]) ∧ SB w' A1 c1 r ∧ Below w.heap.size w w' := by
  rw [i64_list] at hs ⊢
  have h := implReadI64 A c _ _ _ _ _ _ _ _ r w hs hl
  rw [i64_val _ h0 h1] at h
  exact h
theorem back_u64 (A : Option Addr) (c : Nat) (n : Int) (r : List UInt8) (w : World) (h0 : 0 ≤ n) (h1 : n ≤ 18446744073709551615) (hs : SB w A c (i64 n ++ r)) (hl : r.length ≤ 100000000000000) :
    Calls Try.prog 20 #[.slice A (i64 n ++ r).length c] w fun e w' => ∃ A1 c1, e = .returned (.tuple #[.int .u64 n, .slice A1 r.length c1, .bool true]) ∧ SB w' A1 c1 r ∧ Below w.heap.size w w' := by
  rw [i64_list] at hs ⊢
  have h := implReadU64 A c _ _ _ _ _ _ _ _ r w hs hl
  rw [leN_leI, i64_val _ h0 h1] at h
  exact h
theorem mk_i32 (n : Int) (w : World) : Calls Try.prog 13 #[.slice none 0 0, .int .i64 n] w fun e w' => ∃ A c, e = .returned (.slice A (i32 n).length c) ∧ SB w' A c (i32 n) ∧ Below w.heap.size w w' := by
  refine (docInt32 w w.heap.size (.slice none 0 0) [] n (OB.nil _ _) (Nat.le_refl _) (by simp)).mono ?_
  rintro e w1 ⟨v1, rfl, h⟩
  obtain ⟨A, c, rfl, hs, -⟩ := h.own.sb
  exact ⟨A, c, rfl, hs, h.fresh⟩
theorem mk_i64 (n : Int) (w : World) : Calls Try.prog 14 #[.slice none 0 0, .int .u64 n] w fun e w' => ∃ A c, e = .returned (.slice A (i64 n).length c) ∧ SB w' A c (i64 n) ∧ Below w.heap.size w w' := by
  refine (docInt64 w w.heap.size (.slice none 0 0) [] n (OB.nil _ _) (Nat.le_refl _) (by simp)).mono ?_
  rintro e w1 ⟨v1, rfl, h⟩
  obtain ⟨A, c, rfl, hs, -⟩ := h.own.sb
  exact ⟨A, c, rfl, hs, h.fresh⟩

set_option maxRecDepth 100000 in
set_option maxHeartbeats 16000000 in
theorem fnDocNumbers_walk (A : Option Addr) (c : Nat) (dst : List UInt8) (n : Int) (B : Option Addr) (d : Nat) (rest : List UInt8) (w : World) (hs : SB w A c dst) (ht : SB w B d rest) (h0 : 0 ≤ n) (h1 : n ≤ 18446744073709551615) (hl : dst.length ≤ 140737488351232) (hm : rest.length ≤ 140737488351232) :
    Calls Try.prog 5 #[.slice A dst.length c, .int .u64 n, .slice B rest.length d] w fun e w' => e = .returned (.bool true) ∧ Below w.heap.size w w' := by
  by_cases a1 : (dst.length : Int) > 2147483647
  · go_enter Try.func5, Try.ntmps5
    go_wp2_with fail
    go_ret
    exact ⟨rfl, Below.refl _ _⟩
  by_cases a2 : (rest.length : Int) > 2147483647
  · go_enter Try.func5, Try.ntmps5
    go_wp2_with fail
    go_ret
    exact ⟨rfl, Below.refl _ _⟩
  by_cases a3 : (dst.length : Int) > 1000
  · go_enter Try.func5, Try.ntmps5
    go_wp2_with fail
    go_ret
    exact ⟨rfl, Below.refl _ _⟩
  by_cases a4 : (rest.length : Int) > 1000
  · go_enter Try.func5, Try.ntmps5
    go_wp2_with fail
    go_ret
    exact ⟨rfl, Below.refl _ _⟩
  have HS := Lib.hid hs
  have HT := Lib.hid ht
  clear hs ht
  go_enter Try.func5, Try.ntmps5
  go_wp2_with fail
  refine (mk_i32 (n % 4294967296) w).mono ?_
  rintro e w1 ⟨A1, c1, rfl, hs1, hb1⟩
  go_wp2_with fail
  refine (mk_i64 n w1).mono ?_
  rintro e w2 ⟨A2, c2, rfl, hs2, hb12⟩
  replace hs1 := hs1.keep hb12
  have hb2 := bthen hb1 hb12
  clear hb1 hb12
  obtain ⟨sd, hsd⟩ : ∃ x, x = (⟨dst.toArray⟩ : ByteArray) := ⟨_, rfl⟩
  obtain ⟨s4, hs4⟩ : ∃ x, x = (⟨(i32 (n % 4294967296)).toArray⟩ : ByteArray) := ⟨_, rfl⟩
  obtain ⟨s8, hs8⟩ : ∃ x, x = (⟨(i64 n).toArray⟩ : ByteArray) := ⟨_, rfl⟩
  have z4 : (9223372036854775807 < sd.size + s4.size) = False := by rw [hsd, hs4, str_size, str_size]; exact eq_false (by simp [i32]; omega)
  have z8 : (9223372036854775807 < sd.size + s8.size) = False := by rw [hsd, hs8, str_size, str_size, i64_len]; exact eq_false (by omega)
  have HD : Hid (∀ wx, Below w2.heap.size w2 wx → (convert 25 9 (.slice A dst.length c)).run Try.prog wx = .ok (.string sd) wx) := Lib.hid fun wx h => by rw [hsd]; exact str_of (HS.out.keep (bthen hb2 h))
  have H4 : Hid (∀ wx, Below w2.heap.size w2 wx → (convert 25 9 (.slice A1 (i32 (n % 4294967296)).length c1)).run Try.prog wx = .ok (.string s4) wx) := Lib.hid fun wx h => by rw [hs4]; exact str_of (hs1.keep h)
  have H8 : Hid (∀ wx, Below w2.heap.size w2 wx → (convert 25 9 (.slice A2 (i64 n).length c2)).run Try.prog wx = .ok (.string s8) wx) := Lib.hid fun wx h => by rw [hs8]; exact str_of (hs2.keep h)
  have P4 : Hid (∀ A' c' wx, SB wx A' c' dst → Calls Try.prog 15 #[.slice A' dst.length c', .int .u32 (n % 4294967296)] wx fun e w' => ∃ A4 c4 n4, e = .returned (.slice A4 n4 c4) ∧ (convert 25 9 (.slice A4 n4 c4)).run Try.prog w' = .ok (.string (sd ++ s4)) w' ∧ Below wx.heap.size wx w') := Lib.hid fun A' c' wx h => by
    refine (fresh_of (implPut32 A' c' dst (n % 4294967296) wx (by omega) (by omega) h (by omega))).mono ?_
    rintro e w' ⟨A4, c4, rfl, h4, -, hb⟩
    exact ⟨A4, c4, _, rfl, by rw [str_of h4, str_app, hsd, hs4], hb⟩
  have P8 : Hid (∀ A' c' wx, SB wx A' c' dst → Calls Try.prog 16 #[.slice A' dst.length c', .int .u64 n] wx fun e w' => ∃ A4 c4 n4, e = .returned (.slice A4 n4 c4) ∧ (convert 25 9 (.slice A4 n4 c4)).run Try.prog w' = .ok (.string (sd ++ s8)) w' ∧ Below wx.heap.size wx w') := Lib.hid fun A' c' wx h => by
    refine (fresh_of (implPut64 A' c' dst n wx h0 h1 h (by omega))).mono ?_
    rintro e w' ⟨A4, c4, rfl, h4, -, hb⟩
    exact ⟨A4, c4, _, rfl, by rw [str_of h4, str_app, hsd, hs8], hb⟩
  have HS1 := Lib.hid hs1
  have HS2 := Lib.hid hs2
  clear hsd hs4 hs8 hs1 hs2
  have HL4 : Hid ((i32 (n % 4294967296)).length = 4) := Lib.hid (by simp [i32])
  go_wp2_with fail
  refine start_ (n := 25) (S := fun w' => (convert 25 9 (.slice A dst.length c)).run Try.prog w' = .ok (.string sd) w' ∧ (convert 25 9 (.slice A1 (i32 (n % 4294967296)).length c1)).run Try.prog w' = .ok (.string s4) w' ∧ (convert 25 9 (.slice A2 (i64 n).length c2)).run Try.prog w' = .ok (.string s8) w') (ds := []) #[false, false, false, false, false, false, false, false, false, false, false, false, false, false, false, false, false, false, false, false, false, false, false, false, false] (by kernel_rfl) rfl rfl ⟨(HD.out _ (bdrew (Below.refl _ _))), (H4.out _ (bdrew (Below.refl _ _))), (H8.out _ (bdrew (Below.refl _ _)))⟩ (fun hHeld => ?_)
  refine with_tabW R5.tab7 R5.bits7 (fun HT_ HW_ => ?_)
  refine pure_ (i := 0) (N := some 44) (v := ?_) (a' := ?_) #[true, false, false, false, false, false, false, false, false, false, false, false, false, false, false, false, false, false, false, false, false, false, false, false, false] rfl rfl (any_of HT_.out (by kernel_rfl)) (fun _ _ _ h => h) (Or.inl ⟨by rfl, ?_⟩) ?_ ?_
  rotate_left
  · intro w'
    go_simp
    with_reducible rfl
  rotate_left
  · simp only [Act.put, List.setIfInBounds_toArray, List.set_cons_zero, List.set_cons_succ, i64_w, i32_w]
    rfl
  refine pure_ (i := 2) (N := some 46) (v := ?_) (a' := ?_) #[true, false, true, false, false, false, false, false, false, false, false, false, false, false, false, false, false, false, false, false, false, false, false, false, false] rfl rfl (any_of HT_.out (by kernel_rfl)) (fun _ _ _ h => h) (Or.inl ⟨by rfl, ?_⟩) ?_ ?_
  rotate_left
  · intro w'
    go_simp
    with_reducible rfl
  rotate_left
  · simp only [Act.put, List.setIfInBounds_toArray, List.set_cons_zero, List.set_cons_succ, i64_w, i32_w]
    rfl
  refine pure_ (i := 3) (N := some 47) (v := ?_) (a' := ?_) #[true, false, true, true, false, false, false, false, false, false, false, false, false, false, false, false, false, false, false, false, false, false, false, false, false] rfl rfl (any_of HT_.out (by kernel_rfl)) (fun _ _ _ h => h) (Or.inl ⟨by rfl, ?_⟩) ?_ ?_
  rotate_left
  · intro w'
    go_simp
    with_reducible rfl
  rotate_left
  · simp only [Act.put, List.setIfInBounds_toArray, List.set_cons_zero, List.set_cons_succ, i64_w, i32_w]
    rfl
  refine pure_ (i := 6) (N := some 50) (v := ?_) (a' := ?_) #[true, false, true, true, false, false, true, false, false, false, false, false, false, false, false, false, false, false, false, false, false, false, false, false, false] rfl rfl (any_of HT_.out (by kernel_rfl)) (fun _ _ _ h => h) (Or.inl ⟨by rfl, ?_⟩) ?_ ?_
  rotate_left
  · intro w'
    go_simp
    with_reducible rfl
  rotate_left
  · simp only [Act.put, List.setIfInBounds_toArray, List.set_cons_zero, List.set_cons_succ, i64_w, i32_w]
    rfl
  refine pure_ (i := 8) (N := some 52) (v := ?_) (a' := ?_) #[true, false, true, true, false, false, true, false, true, false, false, false, false, false, false, false, false, false, false, false, false, false, false, false, false] rfl rfl (any_of HT_.out (by kernel_rfl)) (fun _ _ _ h => h) (Or.inl ⟨by rfl, ?_⟩) ?_ ?_
  rotate_left
  · intro w'
    go_simp
    with_reducible rfl
  rotate_left
  · simp only [Act.put, List.setIfInBounds_toArray, List.set_cons_zero, List.set_cons_succ, i64_w, i32_w]
    rfl
  refine take_ (i := 7) (N := some 51) (v := ?_) (a' := ?_) #[true, false, true, true, false, false, true, true, true, false, false, false, false, false, false, false, false, false, false, false, false, false, false, false, false] rfl rfl (take_ofW HT_.out HW_.out (by kernel_rfl)) (fun _ _ _ h => h) (Or.inl ⟨by rfl, ?_⟩) hHeld ?_ ?_
  rotate_left
  · rintro w' ⟨s0, s1, s2⟩
    go_simp
    with_reducible rfl
  rotate_left
  · simp only [Act.put, List.setIfInBounds_toArray, List.set_cons_zero, List.set_cons_succ, i64_w, i32_w]
    rfl
  refine take_ (i := 9) (N := some 53) (v := ?_) (a' := ?_) #[true, false, true, true, false, false, true, true, true, true, false, false, false, false, false, false, false, false, false, false, false, false, false, false, false] rfl rfl (take_ofW HT_.out HW_.out (by kernel_rfl)) (fun _ _ _ h => h) (Or.inl ⟨by rfl, ?_⟩) hHeld ?_ ?_
  rotate_left
  · rintro w' ⟨s0, s1, s2⟩
    go_simp
    with_reducible rfl
  rotate_left
  · simp only [Act.put, List.setIfInBounds_toArray, List.set_cons_zero, List.set_cons_succ, i64_w, i32_w]
    rfl
  refine pure_ (i := 10) (N := some 54) (v := ?_) (a' := ?_) #[true, false, true, true, false, false, true, true, true, true, true, false, false, false, false, false, false, false, false, false, false, false, false, false, false] rfl rfl (any_of HT_.out (by kernel_rfl)) (fun _ _ _ h => h) (Or.inl ⟨by rfl, ?_⟩) ?_ ?_
  rotate_left
  · intro w'
    go_simp
    with_reducible rfl
  rotate_left
  · simp only [Act.put, List.setIfInBounds_toArray, List.set_cons_zero, List.set_cons_succ, i64_w, i32_w]
    rfl
  refine one_ (i := 1) (N := some 45) #[true, true, true, true, false, false, true, true, true, true, true, false, false, false, false, false, false, false, false, false, false, false, false, false, false] rfl rfl (one_of HT_.out (by kernel_rfl)) (by decide) (fun K hK => ?_)
  refine goes_ Try.func9 (by kernel_rfl) rfl #[.slice A dst.length c] (by rfl) rfl rfl (by simp only [List.map_toArray, List.map_cons, List.map_nil]; rfl) ?_
  with_reducible refine (fresh_of (docCopy A c dst _ (HS.out.keep (bthen hb2 (bdrew (Below.refl _ _)))) (by omega))).mono ?_
  rintro e w3 ⟨A3, c3, rfl, hs3, -, hb3⟩
  refine ⟨_, rfl, ?_⟩
  have hB3 : Below w2.heap.size w2 w3 := bleft hb3
  have HS3 := Lib.hid hs3
  clear hs3
  refine hK.out _ _ ⟨(HD.out _ (hB3)), (H4.out _ (hB3)), (H8.out _ (hB3))⟩ (fun hHeld => ?_)
  clear hK K
  refine norm_ (a' := ?_) ?_ ?_
  rotate_left
  · show Act.put _ (some 45) _ = _
    simp only [Act.put, List.setIfInBounds_toArray, List.set_cons_zero, List.set_cons_succ, i64_w, i32_w]
    rfl
  refine one_ (i := 4) (N := some 48) #[true, true, true, true, true, false, true, true, true, true, true, false, false, false, false, false, false, false, false, false, false, false, false, false, false] rfl rfl (one_of HT_.out (by kernel_rfl)) (by decide) (fun K hK => ?_)
  refine goes_ Try.func15 (by kernel_rfl) rfl #[.slice A3 dst.length c3, .int .u32 (n % 4294967296)] (by rfl) rfl rfl (by simp only [List.map_toArray, List.map_cons, List.map_nil]; rfl) ?_
  with_reducible refine (P4.out _ _ _ HS3.out).mono ?_
  rintro e w4 ⟨A4, c4, n4, rfl, k4, hb4⟩
  refine ⟨_, rfl, ?_⟩
  have hB4 : Below w2.heap.size w2 w4 := bthen hB3 hb4
  refine hK.out _ _ ⟨(HD.out _ (hB4)), (H4.out _ (hB4)), (H8.out _ (hB4))⟩ (fun hHeld => ?_)
  clear hK K
  refine norm_ (a' := ?_) ?_ ?_
  rotate_left
  · show Act.put _ (some 48) _ = _
    simp only [Act.put, List.setIfInBounds_toArray, List.set_cons_zero, List.set_cons_succ, i64_w, i32_w]
    rfl
  refine one_ (i := 5) (N := some 49) #[true, true, true, true, true, true, true, true, true, true, true, false, false, false, false, false, false, false, false, false, false, false, false, false, false] rfl rfl (one_of HT_.out (by kernel_rfl)) (by decide) (fun K hK => ?_)
  refine value_ (w1 := ?_) (v := ?_) (by rfl) rfl ?_ ?_
  rotate_left 2
  · go_simp
    constructor
    · rfl
    · rfl
  refine hK.out _ _ ⟨(HD.out _ (hB4)), (H4.out _ (hB4)), (H8.out _ (hB4))⟩ (fun hHeld => ?_)
  clear hK K
  refine norm_ (a' := ?_) ?_ ?_
  rotate_left
  · show Act.put _ (some 49) _ = _
    simp only [Act.put, List.setIfInBounds_toArray, List.set_cons_zero, List.set_cons_succ, i64_w, i32_w]
    rfl
  refine pure_ (i := 11) (N := some 55) (v := ?_) (a' := ?_) #[true, true, true, true, true, true, true, true, true, true, true, true, false, false, false, false, false, false, false, false, false, false, false, false, false] rfl rfl (any_of HT_.out (by kernel_rfl)) (fun _ _ _ h => h) (Or.inl ⟨by rfl, ?_⟩) ?_ ?_
  rotate_left
  · intro w'
    go_simp
    with_reducible rfl
  rotate_left
  · simp only [Act.put, List.setIfInBounds_toArray, List.set_cons_zero, List.set_cons_succ, i64_w, i32_w]
    rfl
  refine pure_ (i := 12) (N := some 56) (v := ?_) (a' := ?_) #[true, true, true, true, true, true, true, true, true, true, true, true, true, false, false, false, false, false, false, false, false, false, false, false, false] rfl rfl (any_of HT_.out (by kernel_rfl)) (fun _ _ _ h => h) (Or.inl ⟨by rfl, ?_⟩) ?_ ?_
  rotate_left
  · intro w'
    go_simp
    with_reducible rfl
  rotate_left
  · simp only [Act.put, List.setIfInBounds_toArray, List.set_cons_zero, List.set_cons_succ, i64_w, i32_w]
    rfl
  refine pure_ (i := 13) (N := some 57) (v := ?_) (a' := ?_) #[true, true, true, true, true, true, true, true, true, true, true, true, true, true, false, false, false, false, false, false, false, false, false, false, false] rfl rfl (any_of HT_.out (by kernel_rfl)) (fun _ _ _ h => h) (Or.inl ⟨by rfl, ?_⟩) ?_ ?_
  rotate_left
  · intro w'
    go_simp
    with_reducible rfl
  rotate_left
  · simp only [Act.put, List.setIfInBounds_toArray, List.set_cons_zero, List.set_cons_succ, i64_w, i32_w]
    rfl
  refine pure_ (i := 15) (N := some 59) (v := ?_) (a' := ?_) #[true, true, true, true, true, true, true, true, true, true, true, true, true, true, false, true, false, false, false, false, false, false, false, false, false] rfl rfl (any_of HT_.out (by kernel_rfl)) (fun _ _ _ h => h) (Or.inl ⟨by rfl, ?_⟩) ?_ ?_
  rotate_left
  · intro w'
    go_simp
    with_reducible rfl
  rotate_left
  · simp only [Act.put, List.setIfInBounds_toArray, List.set_cons_zero, List.set_cons_succ, i64_w, i32_w]
    rfl
  refine pure_ (i := 18) (N := some 62) (v := ?_) (a' := ?_) #[true, true, true, true, true, true, true, true, true, true, true, true, true, true, false, true, false, false, true, false, false, false, false, false, false] rfl rfl (any_of HT_.out (by kernel_rfl)) (fun _ _ _ h => h) (Or.inl ⟨by rfl, ?_⟩) ?_ ?_
  rotate_left
  · intro w'
    go_simp
    with_reducible rfl
  rotate_left
  · simp only [Act.put, List.setIfInBounds_toArray, List.set_cons_zero, List.set_cons_succ, i64_w, i32_w]
    rfl
  refine pure_ (i := 20) (N := some 64) (v := ?_) (a' := ?_) #[true, true, true, true, true, true, true, true, true, true, true, true, true, true, false, true, false, false, true, false, true, false, false, false, false] rfl rfl (any_of HT_.out (by kernel_rfl)) (fun _ _ _ h => h) (Or.inl ⟨by rfl, ?_⟩) ?_ ?_
  rotate_left
  · intro w'
    go_simp
    with_reducible rfl
  rotate_left
  · simp only [Act.put, List.setIfInBounds_toArray, List.set_cons_zero, List.set_cons_succ, i64_w, i32_w]
    rfl
  refine take_ (i := 19) (N := some 63) (v := ?_) (a' := ?_) #[true, true, true, true, true, true, true, true, true, true, true, true, true, true, false, true, false, false, true, true, true, false, false, false, false] rfl rfl (take_ofW HT_.out HW_.out (by kernel_rfl)) (fun _ _ _ h => h) (Or.inl ⟨by rfl, ?_⟩) hHeld ?_ ?_
  rotate_left
  · rintro w' ⟨s0, s1, s2⟩
    go_simp
    with_reducible rfl
  rotate_left
  · simp only [Act.put, List.setIfInBounds_toArray, List.set_cons_zero, List.set_cons_succ, i64_w, i32_w]
    rfl
  refine take_ (i := 21) (N := some 65) (v := ?_) (a' := ?_) #[true, true, true, true, true, true, true, true, true, true, true, true, true, true, false, true, false, false, true, true, true, true, false, false, false] rfl rfl (take_ofW HT_.out HW_.out (by kernel_rfl)) (fun _ _ _ h => h) (Or.inl ⟨by rfl, ?_⟩) hHeld ?_ ?_
  rotate_left
  · rintro w' ⟨s0, s1, s2⟩
    go_simp
    with_reducible rfl
  rotate_left
  · simp only [Act.put, List.setIfInBounds_toArray, List.set_cons_zero, List.set_cons_succ, i64_w, i32_w]
    rfl
  refine pure_ (i := 22) (N := some 66) (v := ?_) (a' := ?_) #[true, true, true, true, true, true, true, true, true, true, true, true, true, true, false, true, false, false, true, true, true, true, true, false, false] rfl rfl (any_of HT_.out (by kernel_rfl)) (fun _ _ _ h => h) (Or.inl ⟨by rfl, ?_⟩) ?_ ?_
  rotate_left
  · intro w'
    go_simp
    with_reducible rfl
  rotate_left
  · simp only [Act.put, List.setIfInBounds_toArray, List.set_cons_zero, List.set_cons_succ, i64_w, i32_w]
    rfl
  refine one_ (i := 14) (N := some 58) #[true, true, true, true, true, true, true, true, true, true, true, true, true, true, true, true, false, false, true, true, true, true, true, false, false] rfl rfl (one_of HT_.out (by kernel_rfl)) (by decide) (fun K hK => ?_)
  refine goes_ Try.func9 (by kernel_rfl) rfl #[.slice A dst.length c] (by rfl) rfl rfl (by simp only [List.map_toArray, List.map_cons, List.map_nil]; rfl) ?_
  with_reducible refine (fresh_of (docCopy A c dst _ (HS.out.keep (bthen hb2 hB4)) (by omega))).mono ?_
  rintro e w5 ⟨A5, c5, rfl, hs5, -, hb5⟩
  refine ⟨_, rfl, ?_⟩
  have hB5 : Below w2.heap.size w2 w5 := bthen hB4 hb5
  have HS5 := Lib.hid hs5
  clear hs5
  refine hK.out _ _ ⟨(HD.out _ (hB5)), (H4.out _ (hB5)), (H8.out _ (hB5))⟩ (fun hHeld => ?_)
  clear hK K
  refine norm_ (a' := ?_) ?_ ?_
  rotate_left
  · show Act.put _ (some 58) _ = _
    simp only [Act.put, List.setIfInBounds_toArray, List.set_cons_zero, List.set_cons_succ, i64_w, i32_w]
    rfl
  refine one_ (i := 16) (N := some 60) #[true, true, true, true, true, true, true, true, true, true, true, true, true, true, true, true, true, false, true, true, true, true, true, false, false] rfl rfl (one_of HT_.out (by kernel_rfl)) (by decide) (fun K hK => ?_)
  refine goes_ Try.func16 (by kernel_rfl) rfl #[.slice A5 dst.length c5, .int .u64 n] (by rfl) rfl rfl (by simp only [List.map_toArray, List.map_cons, List.map_nil]; rfl) ?_
  with_reducible refine (P8.out _ _ _ HS5.out).mono ?_
  rintro e w6 ⟨A6, c6, n6, rfl, k6, hb6⟩
  refine ⟨_, rfl, ?_⟩
  have hB6 : Below w2.heap.size w2 w6 := bthen hB5 hb6
  refine hK.out _ _ ⟨(HD.out _ (hB6)), (H4.out _ (hB6)), (H8.out _ (hB6))⟩ (fun hHeld => ?_)
  clear hK K
  refine norm_ (a' := ?_) ?_ ?_
  rotate_left
  · show Act.put _ (some 60) _ = _
    simp only [Act.put, List.setIfInBounds_toArray, List.set_cons_zero, List.set_cons_succ, i64_w, i32_w]
    rfl
  refine one_ (i := 17) (N := some 61) #[true, true, true, true, true, true, true, true, true, true, true, true, true, true, true, true, true, true, true, true, true, true, true, false, false] rfl rfl (one_of HT_.out (by kernel_rfl)) (by decide) (fun K hK => ?_)
  refine value_ (w1 := ?_) (v := ?_) (by rfl) rfl ?_ ?_
  rotate_left 2
  · go_simp
    constructor
    · rfl
    · rfl
  refine hK.out _ _ ⟨(HD.out _ (hB6)), (H4.out _ (hB6)), (H8.out _ (hB6))⟩ (fun hHeld => ?_)
  clear hK K
  refine norm_ (a' := ?_) ?_ ?_
  rotate_left
  · show Act.put _ (some 61) _ = _
    simp only [Act.put, List.setIfInBounds_toArray, List.set_cons_zero, List.set_cons_succ, i64_w, i32_w]
    rfl
  refine pure_ (i := 23) (N := some 67) (v := ?_) (a' := ?_) #[true, true, true, true, true, true, true, true, true, true, true, true, true, true, true, true, true, true, true, true, true, true, true, true, false] rfl rfl (any_of HT_.out (by kernel_rfl)) (fun _ _ _ h => h) (Or.inl ⟨by rfl, ?_⟩) ?_ ?_
  rotate_left
  · intro w'
    go_simp
    with_reducible rfl
  rotate_left
  · simp only [Act.put, List.setIfInBounds_toArray, List.set_cons_zero, List.set_cons_succ, i64_w, i32_w]
    rfl
  refine pure_ (i := 24) (N := some 68) (v := ?_) (a' := ?_) #[true, true, true, true, true, true, true, true, true, true, true, true, true, true, true, true, true, true, true, true, true, true, true, true, true] rfl rfl (any_of HT_.out (by kernel_rfl)) (fun _ _ _ h => h) (Or.inl ⟨by rfl, ?_⟩) ?_ ?_
  rotate_left
  · intro w'
    go_simp
    with_reducible rfl
  rotate_left
  · simp only [Act.put, List.setIfInBounds_toArray, List.set_cons_zero, List.set_cons_succ, i64_w, i32_w]
    rfl
  refine done_ (done_of HT_.out (by kernel_rfl)) ?_
  clear HD H4 H8 P4 P8 z4 z8 k4 k6 HS3 HS5 hb3 hb4 hb5 hb6
  go_wp2_with fail
  refine (fresh_of (docCopy A1 c1 (i32 (n % 4294967296)) _ (HS1.out.keep hB6) (by first | omega | (rw [HL4.out]; omega) | (rw [i64_len]; omega)))).mono ?_
  rintro e w7 ⟨A7, c7, rfl, hs7, ho7, hb7⟩
  have hB7 : Below w2.heap.size w2 w7 := bthen hB6 hb7
  have ht7 := HT.out.keep (bthen hb2 hB7)
  go_wp2_with (first | (refine wp_app (.tmp 71) (.tmp 72) 25 rfl rfl infoB Try.underlying25 _ w6.heap.size _ (i32 (n % 4294967296)) B d rest rfl rfl ho7 ht7 hb7.size (by first | omega | (rw [HL4.out]; omega) | (rw [i64_len]; omega)) ?_; intro v8 w8 hap8) | fail)
  have hQ8 : Below w6.heap.size w6 w8 := hb7.trans (hap8.kept ho7 hb7.size)
  have hB8 : Below w2.heap.size w2 w8 := bthen hB6 hQ8
  obtain ⟨A8, c8, hv8, hs8, -⟩ := hap8.own.sb
  rw [hv8]
  clear hs7 ho7 hb7 ht7 hap8 hv8
  go_wp2_with fail
  refine (back_i32 A8 c8 n rest w8 h0 h1 hs8 (by omega)).mono ?_
  rintro e w9 ⟨A9, c9, rfl, hs9, hb9⟩
  have hB9 : Below w2.heap.size w2 w9 := bthen hB8 hb9
  have hP9 : Below w6.heap.size w6 w9 := bthen hQ8 hb9
  have HS9 := Lib.hid hs9
  clear hs8 hs9 hb9 hQ8
  go_wp2_with fail
  refine (fresh_of (docCopy A1 c1 (i32 (n % 4294967296)) _ (HS1.out.keep hB9) (by first | omega | (rw [HL4.out]; omega) | (rw [i64_len]; omega)))).mono ?_
  rintro e w10 ⟨A10, c10, rfl, hs10, ho10, hb10⟩
  have hB10 : Below w2.heap.size w2 w10 := bthen hB9 hb10
  have ht10 := HT.out.keep (bthen hb2 hB10)
  go_wp2_with (first | (refine wp_app (.tmp 80) (.tmp 81) 25 rfl rfl infoB Try.underlying25 _ w9.heap.size _ (i32 (n % 4294967296)) B d rest rfl rfl ho10 ht10 hb10.size (by first | omega | (rw [HL4.out]; omega) | (rw [i64_len]; omega)) ?_; intro v11 w11 hap11) | fail)
  have hQ11 : Below w9.heap.size w9 w11 := hb10.trans (hap11.kept ho10 hb10.size)
  have hB11 : Below w2.heap.size w2 w11 := bthen hB9 hQ11
  obtain ⟨A11, c11, hv11, hs11, -⟩ := hap11.own.sb
  rw [hv11]
  clear hs10 ho10 hb10 ht10 hap11 hv11
  go_wp2_with fail
  refine (back_u32 A11 c11 n rest w11 h0 h1 hs11 (by omega)).mono ?_
  rintro e w12 ⟨A12, c12, rfl, hs12, hb12⟩
  have hB12 : Below w2.heap.size w2 w12 := bthen hB11 hb12
  have hP12 : Below w9.heap.size w9 w12 := bthen hQ11 hb12
  have HS12 := Lib.hid hs12
  clear hs11 hs12 hb12 hQ11
  go_wp2_with fail
  refine (fresh_of (docCopy A2 c2 (i64 n) _ (HS2.out.keep hB12) (by first | omega | (rw [HL4.out]; omega) | (rw [i64_len]; omega)))).mono ?_
  rintro e w13 ⟨A13, c13, rfl, hs13, ho13, hb13⟩
  have hB13 : Below w2.heap.size w2 w13 := bthen hB12 hb13
  have ht13 := HT.out.keep (bthen hb2 hB13)
  go_wp2_with (first | (refine wp_app (.tmp 89) (.tmp 90) 25 rfl rfl infoB Try.underlying25 _ w12.heap.size _ (i64 n) B d rest rfl rfl ho13 ht13 hb13.size (by first | omega | (rw [HL4.out]; omega) | (rw [i64_len]; omega)) ?_; intro v14 w14 hap14) | fail)
  have hQ14 : Below w12.heap.size w12 w14 := hb13.trans (hap14.kept ho13 hb13.size)
  have hB14 : Below w2.heap.size w2 w14 := bthen hB12 hQ14
  obtain ⟨A14, c14, hv14, hs14, -⟩ := hap14.own.sb
  rw [hv14]
  clear hs13 ho13 hb13 ht13 hap14 hv14
  go_wp2_with fail
  refine (back_i64 A14 c14 n rest w14 h0 h1 hs14 (by omega)).mono ?_
  rintro e w15 ⟨A15, c15, rfl, hs15, hb15⟩
  have hB15 : Below w2.heap.size w2 w15 := bthen hB14 hb15
  have hP15 : Below w12.heap.size w12 w15 := bthen hQ14 hb15
  have HS15 := Lib.hid hs15
  clear hs14 hs15 hb15 hQ14
  go_wp2_with fail
  refine (fresh_of (docCopy A2 c2 (i64 n) _ (HS2.out.keep hB15) (by first | omega | (rw [HL4.out]; omega) | (rw [i64_len]; omega)))).mono ?_
  rintro e w16 ⟨A16, c16, rfl, hs16, ho16, hb16⟩
  have hB16 : Below w2.heap.size w2 w16 := bthen hB15 hb16
  have ht16 := HT.out.keep (bthen hb2 hB16)
  go_wp2_with (first | (refine wp_app (.tmp 98) (.tmp 99) 25 rfl rfl infoB Try.underlying25 _ w15.heap.size _ (i64 n) B d rest rfl rfl ho16 ht16 hb16.size (by first | omega | (rw [HL4.out]; omega) | (rw [i64_len]; omega)) ?_; intro v17 w17 hap17) | fail)
  have hQ17 : Below w15.heap.size w15 w17 := hb16.trans (hap17.kept ho16 hb16.size)
  have hB17 : Below w2.heap.size w2 w17 := bthen hB15 hQ17
  obtain ⟨A17, c17, hv17, hs17, -⟩ := hap17.own.sb
  rw [hv17]
  clear hs16 ho16 hb16 ht16 hap17 hv17
  go_wp2_with fail
  refine (back_u64 A17 c17 n rest w17 h0 h1 hs17 (by omega)).mono ?_
  rintro e w18 ⟨A18, c18, rfl, hs18, hb18⟩
  have hB18 : Below w2.heap.size w2 w18 := bthen hB17 hb18
  have hP18 : Below w15.heap.size w15 w18 := bthen hQ17 hb18
  have HS18 := Lib.hid hs18
  clear hs17 hs18 hb18 hQ17
  obtain ⟨sr, hsr⟩ : ∃ x, x = (⟨rest.toArray⟩ : ByteArray) := ⟨_, rfl⟩
  have kr : (convert 25 9 (.slice B rest.length d)).run Try.prog w18 = .ok (.string sr) w18 := by rw [hsr]; exact str_of (HT.out.keep (bthen hb2 hB18))
  have kr1 : (convert 25 9 (.slice A9 rest.length c9)).run Try.prog w18 = .ok (.string sr) w18 := by rw [hsr]; exact str_of (HS9.out.keep (bthen (bthen hP12 hP15) hP18))
  have kr2 : (convert 25 9 (.slice A12 rest.length c12)).run Try.prog w18 = .ok (.string sr) w18 := by rw [hsr]; exact str_of (HS12.out.keep (bthen hP15 hP18))
  have kr3 : (convert 25 9 (.slice A15 rest.length c15)).run Try.prog w18 = .ok (.string sr) w18 := by rw [hsr]; exact str_of (HS15.out.keep hP18)
  have kr4 : (convert 25 9 (.slice A18 rest.length c18)).run Try.prog w18 = .ok (.string sr) w18 := by rw [hsr]; exact str_of HS18.out
  have hend : Below w.heap.size w w18 := bthen hb2 hB18
  clear hP9 hP12 hP15 hP18 hB3 hB4 hB5 hB6 hB7 hB8 hB9 hB10 hB11 hB12 hB13 hB14 hB15 hB16 hB17 hB18 hb2 HS1 HS2 HS9 HS12 HS15 HS18 HS HT hsr HL4
  go_wp2
  go_ret
  exact ⟨rfl, hend⟩
end Go.Proofs.Ytfpnhlfmnoikhab.X
