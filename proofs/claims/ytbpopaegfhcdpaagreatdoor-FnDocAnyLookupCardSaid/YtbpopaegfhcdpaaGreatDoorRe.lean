/- Contract of bsoncore.ReadElement, where an element begins the bytes. -/
import Derived.Test.YtbpopaegfhcdpaaGreatDoorRv
set_option linter.unusedVariables false
set_option linter.unusedSimpArgs false
set_option maxRecDepth 100000
namespace Go.Proofs.YtbpopaegfhcdpaaGreatDoor.X
open Go.RowKit Go.Proofs.YtbpopaegfhcdpaaGreatDoorW.PrintLast
def R128.T16 : Bool × List (List Nat × List Nat) := (true, [([], []), ([], []), ([0, 1], [0, 1]), ([], []), ([], []), ([3, 4], [3, 4]), ([2, 0, 1, 2], [2]), ([5, 6, 0, 1, 2, 3, 4, 5, 6], [5]), ([7, 0, 1, 2, 3, 4, 5, 6, 7], [])])
def R128.B16 : List Nat := [0, 0, 3, 0, 0, 24, 7, 127, 255]
theorem R128.tab16 : rtab .any (opsOf Tryz.f128 16) = R128.T16 := by kernel_rfl
theorem R128.bits16 : waitsOk R128.T16.2 R128.B16 = true := by kernel_rfl
set_option maxRecDepth 100000 in
set_option maxHeartbeats 4000000 in
theorem readElement_ok (A : Option Addr) (c : Nat) (t : UInt8) (nm rest : List UInt8) (n : Nat) (w : World) (hs : SB w A c (t :: (nm ++ 0 :: rest))) (hnm : ∀ x ∈ nm, x ≠ 0) (hv : valLen t.toNat rest = ((n : Int), true)) (hn : n ≤ rest.length) (hmax : (t :: (nm ++ 0 :: rest)).length ≤ 140737488355328) :
    Calls Tryz.prog 128 #[.slice A (t :: (nm ++ 0 :: rest)).length c] w fun e w' => ∃ A1 c1 A2 c2, e = .returned (.tuple #[.slice A1 (nm.length + 2 + n) c1, .slice A2 (rest.length - n) c2, .bool true]) ∧ (∀ wx, SB wx A c (t :: (nm ++ 0 :: rest)) → SB wx A1 c1 (t :: (nm ++ 0 :: rest.take n)) ∧ SB wx A2 c2 (rest.drop n)) ∧ Below w.heap.size w w' := by
  have hlc := hs.le
  have hcc := hs.cap
  have hbd := valLen_bd t.toNat rest
  rw [hv] at hbd
  have hbd2 : (n : Int) ≤ 2147483647 := hbd.2
  clear hbd
  obtain ⟨L, hL⟩ : ∃ L, L = t :: (nm ++ 0 :: rest) := ⟨_, rfl⟩
  have hLl : L.length = nm.length + 2 + rest.length := by rw [hL]; simp; omega
  rw [← hL] at hs hlc hmax ⊢
  have hd1 : L.drop (nm.length + 2) = rest := by rw [hL]; simp
  have htk : L.take (nm.length + 2 + n) = t :: (nm ++ 0 :: rest.take n) := by
    rw [hL, show t :: (nm ++ 0 :: rest) = (t :: (nm ++ [0])) ++ rest from by simp, show nm.length + 2 + n = (t :: (nm ++ [0])).length + n from by simp <;> omega, List.take_length_add_append]
    simp
  have hdp : L.drop (nm.length + 2 + n) = rest.drop n := by rw [← hd1, List.drop_drop]
  obtain ⟨A0, e0, s0⟩ := SB.from_ (P := Tryz.prog) Tryz.underlying22 rfl rfl .i64 A c L (nm.length + 2) (by omega) hlc
  obtain ⟨A1, e1, s1⟩ := SB.to_ (P := Tryz.prog) Tryz.underlying22 rfl rfl .i64 A c L (nm.length + 2 + n) (by omega) hlc
  obtain ⟨A2, e2, s2⟩ := SB.from_ (P := Tryz.prog) Tryz.underlying22 rfl rfl .i64 A c L (nm.length + 2 + n) (by omega) hlc
  rw [hd1] at s0
  rw [htk] at s1
  rw [hdp] at s2
  have HV := Lib.hid (fun wx (h : Below w.heap.size w wx) => valueLength A0 (c - (nm.length + 2)) rest t.toNat wx (s0 wx (hs.keep h)))
  rw [hv] at HV
  have HS := Lib.hid (fun wx (h : SB wx A c L) => And.intro (s1 wx h) (s2 wx h))
  obtain ⟨b, off, rfl, hc⟩ := hs.cells (by omega)
  have hc0 : w.cell? ⟨b, off, none⟩ = some (.int .u8 (t.toNat : Int)) := by have h := hc 0 (by omega); simpa [hL] using h
  have HCm : Hid (∀ m, m < nm.length → ∃ x : Int, w.cell? ⟨b, off + (m + 1), none⟩ = some (.int .u8 x) ∧ (x == 0) = false) := Lib.hid fun m hm => by
    refine ⟨_, hc (m + 1) (by omega), ?_⟩
    have hx : L[m + 1]'(by omega) = nm[m] := by simp only [hL, List.getElem_cons_succ]; rw [List.getElem_append_left hm]
    have h0 := hnm nm[m] (List.getElem_mem hm)
    rw [beq_eq_false_iff_ne, hx]
    intro h
    exact h0 (UInt8.toNat_inj.1 (by simpa using h))
  have HCz : Hid (w.cell? ⟨b, off + (nm.length + 1), none⟩ = some (.int .u8 0)) := Lib.hid (by
    have h := hc (nm.length + 1) (by omega)
    have hx : L[nm.length + 1]'(by omega) = 0 := by simp only [hL, List.getElem_cons_succ]; rw [List.getElem_append_right (by omega)]; simp
    rw [hx] at h
    exact h)
  obtain ⟨tt, htt⟩ : ∃ tt : Int, tt = (t.toNat : Int) := ⟨_, rfl⟩
  rw [← htt] at hc0 HV
  have hq0 : L.length - (nm.length + 2) = rest.length := by omega
  have hq2 : L.length - (nm.length + 2 + n) = rest.length - n := by omega
  rw [hq0] at e0
  rw [hq2] at e2
  obtain ⟨q, hq⟩ : ∃ q, q = L.length := ⟨_, rfl⟩
  obtain ⟨p, hp⟩ : ∃ p, p = nm.length := ⟨_, rfl⟩
  obtain ⟨r, hr⟩ : ∃ r, r = rest.length := ⟨_, rfl⟩
  rw [← hq] at e0 e1 e2 hmax hlc hLl ⊢
  rw [← hp] at e0 e1 e2 HV HS HCm HCz hLl ⊢
  rw [← hr] at e0 e2 HV hLl hn ⊢
  have e0' : ∀ W : World, (Instr.slice 22 (.slice (some ⟨b, off, none⟩) q c) (some (.int .i64 ((p : Int) + 1 + 1))) none none).run Tryz.prog W = .ok (.slice A0 r (c - (p + 2))) W := fun W => by have h := e0 W; rw [show ((p + 2 : Nat) : Int) = (p : Int) + 1 + 1 from by omega] at h; exact h
  have e1' : ∀ W : World, (Instr.slice 22 (.slice (some ⟨b, off, none⟩) q c) none (some (.int .i64 ((p : Int) + 1 + 1 + (n : Int)))) none).run Tryz.prog W = .ok (.slice A1 (p + 2 + n) c) W := fun W => by have h := e1 W; rw [show ((p + 2 + n : Nat) : Int) = (p : Int) + 1 + 1 + (n : Int) from by omega] at h; exact h
  have e2' : ∀ W : World, (Instr.slice 22 (.slice (some ⟨b, off, none⟩) q c) (some (.int .i64 ((p : Int) + 1 + 1 + (n : Int)))) none none).run Tryz.prog W = .ok (.slice A2 (r - n) (c - (p + 2 + n))) W := fun W => by have h := e2 W; rw [show ((p + 2 + n : Nat) : Int) = (p : Int) + 1 + 1 + (n : Int) from by omega] at h; exact h
  have HLl := Lib.hid hLl
  clear hs s0 s1 s2 e0 e1 e2 hd1 htk hdp hL hq hp hr htt hq0 hq2 hv hnm hc
  have hq1 : (1 : Int) ≤ q := by omega
  have hpq : p + 2 ≤ q := by omega
  have hnq : p + 2 + n ≤ q := by omega
  clear hLl
  go_enter Tryz.func128, Tryz.ntmps128
  go_wp2
  go_loop [6] (fun i => ∃ m : Nat, m ≤ p ∧ i = .int .i64 ((m : Int) + 1)) (fun i => p + 1 - (intOf i).toNat)
  case atStart => exact ⟨0, Nat.zero_le _, rfl⟩
  case round =>
    obtain ⟨m, hm, rfl⟩ := hrel
    by_cases hlt : m < p
    · obtain ⟨x, hx, hx0⟩ := HCm.out m hlt
      have g1 : (m : Int) + 1 < q := by omega
      have g2 : ((m : Int) + 1).toNat = m + 1 := by omega
      go_wp2
      go_round
      case rel => exact ⟨m + 1, by omega, by go_num⟩
      case measure => simp [intOf]; omega
    · obtain rfl : m = p := by omega
      have hz := HCz.out
      have g1 : (m : Int) + 1 < q := by omega
      have g2 : ((m : Int) + 1).toNat = m + 1 := by omega
      clear HCm HCz hlt
      go_wp2_with fail
      refine (HV.out _ (Below.refl _ _)).mono ?_
      rintro e w1 ⟨rfl, hb⟩
      have HB := Lib.hid hb
      clear hb HV
      go_wp2_with fail
      have i1 : IntKind.i64.wrap ((m : Int) + 1 + 1 + (n : Int)) = (m : Int) + 1 + 1 + (n : Int) := IntWalk.i64_in _ (by omega)
      refine start_ (n := 9) (S := fun w' => True) (ds := []) #[false, false, false, false, false, false, false, false, false] (by kernel_rfl) rfl rfl trivial (fun hHeld => ?_)
      refine with_tabW R128.tab16 R128.bits16 (fun HT_ HW_ => ?_)
      refine pure_ (i := 0) (N := some 57) (v := ?_) (a' := ?_) #[true, false, false, false, false, false, false, false, false] rfl rfl (any_of HT_.out (by kernel_rfl)) (fun _ _ _ h => h) (Or.inl ⟨by rfl, ?_⟩) ?_ ?_
      rotate_left
      · intro w'
        go_simp
        with_reducible rfl
      rotate_left
      · simp only [Act.put, List.setIfInBounds_toArray, List.set_cons_zero, List.set_cons_succ, i64_w, i32_w]
        rfl
      refine pure_ (i := 1) (N := some 58) (v := ?_) (a' := ?_) #[true, true, false, false, false, false, false, false, false] rfl rfl (any_of HT_.out (by kernel_rfl)) (fun _ _ _ h => h) (Or.inl ⟨by rfl, ?_⟩) ?_ ?_
      rotate_left
      · intro w'
        go_simp
        with_reducible rfl
      rotate_left
      · simp only [Act.put, List.setIfInBounds_toArray, List.set_cons_zero, List.set_cons_succ, i64_w, i32_w]
        rfl
      refine pure_ (i := 2) (N := some 59) (v := ?_) (a' := ?_) #[true, true, true, false, false, false, false, false, false] rfl rfl (any_of HT_.out (by kernel_rfl)) (fun _ _ _ h => h) (Or.inl ⟨by rfl, ?_⟩) ?_ ?_
      rotate_left
      · intro w'
        go_simp
        with_reducible rfl
      rotate_left
      · simp only [Act.put, List.setIfInBounds_toArray, List.set_cons_zero, List.set_cons_succ, i64_w, i32_w]
        rfl
      refine pure_ (i := 3) (N := some 60) (v := ?_) (a' := ?_) #[true, true, true, true, false, false, false, false, false] rfl rfl (any_of HT_.out (by kernel_rfl)) (fun _ _ _ h => h) (Or.inl ⟨by rfl, ?_⟩) ?_ ?_
      rotate_left
      · intro w'
        go_simp
        with_reducible rfl
      rotate_left
      · simp only [Act.put, List.setIfInBounds_toArray, List.set_cons_zero, List.set_cons_succ, i64_w, i32_w]
        rfl
      refine pure_ (i := 4) (N := some 61) (v := ?_) (a' := ?_) #[true, true, true, true, true, false, false, false, false] rfl rfl (any_of HT_.out (by kernel_rfl)) (fun _ _ _ h => h) (Or.inl ⟨by rfl, ?_⟩) ?_ ?_
      rotate_left
      · intro w'
        go_simp
        with_reducible rfl
      rotate_left
      · simp only [Act.put, List.setIfInBounds_toArray, List.set_cons_zero, List.set_cons_succ, i64_w, i32_w]
        rfl
      refine pure_ (i := 5) (N := some 62) (v := ?_) (a' := ?_) #[true, true, true, true, true, true, false, false, false] rfl rfl (any_of HT_.out (by kernel_rfl)) (fun _ _ _ h => h) (Or.inl ⟨by rfl, ?_⟩) ?_ ?_
      rotate_left
      · intro w'
        go_simp
        with_reducible rfl
      rotate_left
      · simp only [Act.put, List.setIfInBounds_toArray, List.set_cons_zero, List.set_cons_succ, i64_w, i32_w]
        rfl
      refine pure_ (i := 6) (N := some 2) (v := ?_) (a' := ?_) #[true, true, true, true, true, true, true, false, false] rfl rfl (any_of HT_.out (by kernel_rfl)) (fun _ _ _ h => h) (Or.inl ⟨by rfl, ?_⟩) ?_ ?_
      rotate_left
      · intro w'
        go_simp
        with_reducible rfl
      rotate_left
      · simp only [Act.put, List.setIfInBounds_toArray, List.set_cons_zero, List.set_cons_succ, i64_w, i32_w]
        rfl
      refine pure_ (i := 7) (N := some 3) (v := ?_) (a' := ?_) #[true, true, true, true, true, true, true, true, false] rfl rfl (any_of HT_.out (by kernel_rfl)) (fun _ _ _ h => h) (Or.inl ⟨by rfl, ?_⟩) ?_ ?_
      rotate_left
      · intro w'
        go_simp
        with_reducible rfl
      rotate_left
      · simp only [Act.put, List.setIfInBounds_toArray, List.set_cons_zero, List.set_cons_succ, i64_w, i32_w]
        rfl
      refine pure_ (i := 8) (N := some 4) (v := ?_) (a' := ?_) #[true, true, true, true, true, true, true, true, true] rfl rfl (any_of HT_.out (by kernel_rfl)) (fun _ _ _ h => h) (Or.inl ⟨by rfl, ?_⟩) ?_ ?_
      rotate_left
      · intro w'
        go_simp
        with_reducible rfl
      rotate_left
      · simp only [Act.put, List.setIfInBounds_toArray, List.set_cons_zero, List.set_cons_succ, i64_w, i32_w]
        rfl
      refine done_ (done_of HT_.out (by kernel_rfl)) ?_
      go_wp2_with fail
      exact bodyPost_ret (v := .tuple #[.slice A1 (m + 2 + n) c, .slice A2 (r - n) (c - (m + 2 + n)), .bool true]) (by simp [results, Tryz.results128, go_sem]) rfl ⟨A1, c, A2, c - (m + 2 + n), rfl, HS.out, bdrew HB.out⟩
end Go.Proofs.YtbpopaegfhcdpaaGreatDoor.X
