/- Contracts of binaryutil.ReadI32 and ReadI64, and what shifted bytes joined by bits come to. -/
import Derived.Test.YtohfgfbfohkkkaaGreatDoorOwn
import Derived.Test.YtohfgfbfohkkkaaGreatDoorWLast
import Derived.Test.YtohfgfbfohkkkaaGreatDoorWTab
import Derived.Laws.BitsLemmas
import Derived.IntWalk
set_option linter.unusedVariables false
set_option linter.unusedSimpArgs false
set_option maxRecDepth 100000
namespace Go.Proofs.YtohfgfbfohkkkaaGreatDoor.X
open Go.RowKit Go.Proofs.YtohfgfbfohkkkaaGreatDoorW.PrintLast
def R103.T4 : Bool × List (List Nat × List Nat) := (true, [([], []), ([0], [0]), ([1], [1]), ([2], [2]), ([], []), ([4], [4]), ([5], [5]), ([6], [6]), ([7], [7]), ([3, 8], [3, 8]), ([], []), ([10], [10]), ([11], [11]), ([12], [12]), ([13], [13]), ([9, 14], [9, 14]), ([], []), ([16], [16]), ([17], [17]), ([18], [18]), ([19], [19]), ([15, 20], [15, 20]), ([21, 0, 1, 2, 3, 4, 5, 6, 7, 8, 9, 10, 11, 12, 13, 14, 15, 16, 17, 18, 19, 20, 21], [21])])
def R103.B4 : List Nat := [0, 1, 3, 7, 0, 16, 48, 112, 240, 511, 0, 1024, 3072, 7168, 15360, 32767, 0, 65536, 196608, 458752, 983040, 2097151, 4194303]
theorem R103.tab4 : rtab .any (opsOf Tryz.f103 4) = R103.T4 := by kernel_rfl
theorem R103.bits4 : waitsOk R103.T4.2 R103.B4 = true := by kernel_rfl
def R103.T5 : Bool × List (List Nat × List Nat) := (true, [([], []), ([], []), ([1], [1]), ([0, 0], [0]), ([2, 3, 0, 1, 2, 3], [2]), ([4, 0, 1, 2, 3, 4], [])])
def R103.B5 : List Nat := [0, 0, 2, 1, 15, 31]
theorem R103.tab5 : rtab .any (opsOf Tryz.f103 5) = R103.T5 := by kernel_rfl
theorem R103.bits5 : waitsOk R103.T5.2 R103.B5 = true := by kernel_rfl
theorem wrap_mod (k : IntKind) (n : Int) : k.wrap n % 2 ^ k.bits = n % 2 ^ k.bits := by
  unfold IntKind.wrap
  simp only []
  split
  · rw [Int.sub_emod, Int.emod_self]; simp
  · simp
theorem or_join (k : IntKind) (x y : Int) (a b i : Nat) (ha : a < 2 ^ i) (hab : a + b * 2 ^ i < 2 ^ k.bits) (hx : x % 2 ^ k.bits = a) (hy : y % 2 ^ k.bits = (b * 2 ^ i : Nat)) :
    bits .or k x y = k.wrap ((a + b * 2 ^ i : Nat) : Int) := by
  have ha2 : a < 2 ^ k.bits := by omega
  have hb2 : b * 2 ^ i < 2 ^ k.bits := by omega
  have ex : BitVec.ofInt k.bits x = BitVec.ofNat k.bits a := by
    apply BitVec.eq_of_toNat_eq
    have : (x % (2 ^ k.bits : Nat)).toNat = a := by
      rw [show ((2 ^ k.bits : Nat) : Int) = 2 ^ k.bits from by simp, hx]; simp
    simp [BitVec.toNat_ofInt, Nat.mod_eq_of_lt ha2]
    simpa using this
  have ey : BitVec.ofInt k.bits y = BitVec.ofNat k.bits (b * 2 ^ i) := by
    apply BitVec.eq_of_toNat_eq
    have : (y % (2 ^ k.bits : Nat)).toNat = b * 2 ^ i := by
      rw [show ((2 ^ k.bits : Nat) : Int) = 2 ^ k.bits from by simp, hy]; exact Int.toNat_natCast _
    simp only [BitVec.toNat_ofInt, BitVec.toNat_ofNat, Nat.mod_eq_of_lt hb2]
    exact this
  simp only [bits, ex, ey, BitVec.toNat_or, BitVec.toNat_ofNat, Nat.mod_eq_of_lt ha2, Nat.mod_eq_of_lt hb2]
  congr 2
  rw [Nat.or_comm, Nat.mul_comm, ← Nat.two_pow_add_eq_or_of_lt ha, Nat.add_comm]
theorem or_mod (k : IntKind) (x y : Int) (a b i : Nat) (ha : a < 2 ^ i) (hab : a + b * 2 ^ i < 2 ^ k.bits) (hx : x % 2 ^ k.bits = a) (hy : y % 2 ^ k.bits = (b * 2 ^ i : Nat)) :
    bits .or k x y % 2 ^ k.bits = ((a + b * 2 ^ i : Nat) : Int) := by
  rw [or_join k x y a b i ha hab hx hy, wrap_mod]
  apply Int.emod_eq_of_lt (by omega)
  exact_mod_cast hab
theorem or4_i32 (b0 b1 b2 b3 : Nat) (y0 y1 y2 y3 : Int) (h0 : b0 < 256) (h1 : b1 < 256) (h2 : b2 < 256) (h3 : b3 < 256)
    (e0 : y0 % 4294967296 = (b0 : Nat)) (e1 : y1 % 4294967296 = (b1 * 256 : Nat)) (e2 : y2 % 4294967296 = (b2 * 65536 : Nat)) (e3 : y3 % 4294967296 = (b3 * 16777216 : Nat)) :
    bits .or .i32 (bits .or .i32 (bits .or .i32 y0 y1) y2) y3 = IntKind.i32.wrap ((b0 + b1 * 256 + b2 * 65536 + b3 * 16777216 : Nat) : Int) := by
  have s1 := or_mod .i32 y0 y1 b0 b1 8 (by omega) (by simp [IntKind.bits]; omega) (by simpa [IntKind.bits] using e0) (by simpa [IntKind.bits] using e1)
  have s2 := or_mod .i32 _ y2 _ b2 16 (by omega) (by simp [IntKind.bits]; omega) s1 (by simpa [IntKind.bits] using e2)
  have s3 := or_join .i32 _ y3 _ b3 24 (by omega) (by simp [IntKind.bits]; omega) s2 (by simpa [IntKind.bits] using e3)
  rw [s3]
theorem or8_i64 (b0 b1 b2 b3 b4 b5 b6 b7 : Nat) (y0 y1 y2 y3 y4 y5 y6 y7 : Int) (h0 : b0 < 256) (h1 : b1 < 256) (h2 : b2 < 256) (h3 : b3 < 256) (h4 : b4 < 256) (h5 : b5 < 256) (h6 : b6 < 256) (h7 : b7 < 256)
    (e0 : y0 % 18446744073709551616 = (b0 : Nat)) (e1 : y1 % 18446744073709551616 = (b1 * 256 : Nat)) (e2 : y2 % 18446744073709551616 = (b2 * 65536 : Nat)) (e3 : y3 % 18446744073709551616 = (b3 * 16777216 : Nat))
    (e4 : y4 % 18446744073709551616 = (b4 * 4294967296 : Nat)) (e5 : y5 % 18446744073709551616 = (b5 * 1099511627776 : Nat)) (e6 : y6 % 18446744073709551616 = (b6 * 281474976710656 : Nat)) (e7 : y7 % 18446744073709551616 = (b7 * 72057594037927936 : Nat)) :
    bits .or .i64 (bits .or .i64 (bits .or .i64 (bits .or .i64 (bits .or .i64 (bits .or .i64 (bits .or .i64 y0 y1) y2) y3) y4) y5) y6) y7 =
      IntKind.i64.wrap ((b0 + b1 * 256 + b2 * 65536 + b3 * 16777216 + b4 * 4294967296 + b5 * 1099511627776 + b6 * 281474976710656 + b7 * 72057594037927936 : Nat) : Int) := by
  have s1 := or_mod .i64 y0 y1 b0 b1 8 (by omega) (by simp [IntKind.bits]; omega) (by simpa [IntKind.bits] using e0) (by simpa [IntKind.bits] using e1)
  have s2 := or_mod .i64 _ y2 _ b2 16 (by omega) (by simp [IntKind.bits]; omega) s1 (by simpa [IntKind.bits] using e2)
  have s3 := or_mod .i64 _ y3 _ b3 24 (by omega) (by simp [IntKind.bits]; omega) s2 (by simpa [IntKind.bits] using e3)
  have s4 := or_mod .i64 _ y4 _ b4 32 (by omega) (by simp [IntKind.bits]; omega) s3 (by simpa [IntKind.bits] using e4)
  have s5 := or_mod .i64 _ y5 _ b5 40 (by omega) (by simp [IntKind.bits]; omega) s4 (by simpa [IntKind.bits] using e5)
  have s6 := or_mod .i64 _ y6 _ b6 48 (by omega) (by simp [IntKind.bits]; omega) s5 (by simpa [IntKind.bits] using e6)
  have s7 := or_join .i64 _ y7 _ b7 56 (by omega) (by simp [IntKind.bits]; omega) s6 (by simpa [IntKind.bits] using e7)
  rw [s7]
theorem wm4 (n : Int) : wrap32 n % 4294967296 = n % 4294967296 := by unfold wrap32; omega
theorem ws4 (b m : Nat) (x : Int) (hx : x = (m : Int)) (hb : b < 256) (h : b * m < 4294967296) : wrap32 (wrap32 (b : Int) * x) % 4294967296 = ((b * m : Nat) : Int) := by
  rw [hx, wm4, show wrap32 (b : Int) = b from by unfold wrap32; omega, ← Int.natCast_mul]
  have h2 : ((b * m : Nat) : Int) < 4294967296 := Int.ofNat_lt.2 h
  exact Int.emod_eq_of_lt (Int.natCast_nonneg _) h2
theorem or4_val (b0 b1 b2 b3 : Nat) (h0 : b0 < 256) (h1 : b1 < 256) (h2 : b2 < 256) (h3 : b3 < 256) : bits .or .i32 (bits .or .i32 (bits .or .i32 (wrap32 (b0 : Int)) (wrap32 ((wrap32 (b1 : Int)) * 256))) (wrap32 ((wrap32 (b2 : Int)) * 65536))) (wrap32 ((wrap32 (b3 : Int)) * 16777216)) = wrap32 ((b0 : Int) + (b1 : Int) * 256 + (b2 : Int) * 65536 + (b3 : Int) * 16777216) := by
  have h := or4_i32 b0 b1 b2 b3 (wrap32 (b0 : Int)) (wrap32 (wrap32 (b1 : Int) * 256)) (wrap32 (wrap32 (b2 : Int) * 65536)) (wrap32 (wrap32 (b3 : Int) * 16777216)) h0 h1 h2 h3 (by rw [wm4]; omega) (ws4 b1 256 _ (by decide) h1 (by omega)) (ws4 b2 65536 _ (by decide) h2 (by omega)) (ws4 b3 16777216 _ (by decide) h3 (by omega))
  have e : ((b0 + b1 * 256 + b2 * 65536 + b3 * 16777216 : Nat) : Int) = (b0 : Int) + (b1 : Int) * 256 + (b2 : Int) * 65536 + (b3 : Int) * 16777216 := by omega
  rw [h, IntKind.wrap_i32, e]
  simp only [wrap32]
def leI : List UInt8 → Int
  | [] => 0
  | b :: r => (b.toNat : Int) + 256 * leI r
set_option maxHeartbeats 1600000 in
theorem readI32 (A : Option Addr) (c : Nat) (b0 b1 b2 b3 : UInt8) (r : List UInt8) (w : World) (hs : SB w A c (b0 :: b1 :: b2 :: b3 :: r)) :
    Calls Tryz.prog 103 #[.slice A (b0 :: b1 :: b2 :: b3 :: r).length c] w fun e w' => ∃ A1, e = .returned (.tuple #[.int .i32 (wrap32 (leI [b0, b1, b2, b3])), .slice A1 r.length (c - 4), .bool true]) ∧ SB w' A1 (c - 4) r ∧ Below w.heap.size w w' := by
  obtain ⟨A1, e1, s1⟩ := SB.from_ (P := Tryz.prog) Tryz.underlying22 rfl rfl .i64 A c (b0 :: b1 :: b2 :: b3 :: r) 4 (by simp) hs.le
  have e1' : ∀ W : World, (Instr.slice 22 (.slice A (b0 :: b1 :: b2 :: b3 :: r).length c) (some (.int .i64 4)) none none).run Tryz.prog W = .ok (.slice A1 r.length (c - 4)) W := fun W => by have h := e1 W; rw [show (b0 :: b1 :: b2 :: b3 :: r).length - 4 = r.length from by simp] at h; exact h
  have t1 := fun wx (h : Below w.heap.size w wx) => s1 wx (hs.keep h)
  have T1 := Lib.hid t1
  have hcap : r.length + 4 ≤ c := by have := hs.le; simpa using this
  have hlen9 : c ≤ 9223372036854775807 := hs.cap
  obtain ⟨b, off, rfl, hc⟩ := hs.cells (by simp)
  have c0 : w.cell? ⟨b, off, none⟩ = some (.int .u8 b0.toNat) := by have h := hc 0 (by simp); exact h
  have c1 : w.cell? ⟨b, off + 1, none⟩ = some (.int .u8 b1.toNat) := by have h := hc 1 (by simp); exact h
  have c2 : w.cell? ⟨b, off + 2, none⟩ = some (.int .u8 b2.toNat) := by have h := hc 2 (by simp); exact h
  have c3 : w.cell? ⟨b, off + 3, none⟩ = some (.int .u8 b3.toNat) := by have h := hc 3 (by simp); exact h
  have hv : bits .or .i32 (bits .or .i32 (bits .or .i32 (wrap32 (b0.toNat : Int)) (wrap32 ((wrap32 (b1.toNat : Int)) * 256))) (wrap32 ((wrap32 (b2.toNat : Int)) * 65536))) (wrap32 ((wrap32 (b3.toNat : Int)) * 16777216)) = wrap32 (leI [b0, b1, b2, b3]) := by
    have hb0 : b0.toNat < 256 := b0.toNat_lt
    have hb1 : b1.toNat < 256 := b1.toNat_lt
    have hb2 : b2.toNat < 256 := b2.toNat_lt
    have hb3 : b3.toNat < 256 := b3.toNat_lt
    have h := or4_val b0.toNat b1.toNat b2.toNat b3.toNat hb0 hb1 hb2 hb3
    rw [h]
    congr 1
    simp only [leI]
    omega
  obtain ⟨x0, h0⟩ : ∃ x, x = (b0.toNat : Int) := ⟨_, rfl⟩
  rw [← h0] at c0 hv
  obtain ⟨x1, h1⟩ : ∃ x, x = (b1.toNat : Int) := ⟨_, rfl⟩
  rw [← h1] at c1 hv
  obtain ⟨x2, h2⟩ : ∃ x, x = (b2.toNat : Int) := ⟨_, rfl⟩
  rw [← h2] at c2 hv
  obtain ⟨x3, h3⟩ : ∃ x, x = (b3.toNat : Int) := ⟨_, rfl⟩
  rw [← h3] at c3 hv
  obtain ⟨xv, hxv⟩ : ∃ x, x = wrap32 (leI [b0, b1, b2, b3]) := ⟨_, rfl⟩
  rw [← hxv] at hv ⊢
  have HV := Lib.hid hv
  obtain ⟨q, hq⟩ : ∃ x, x = (b0 :: b1 :: b2 :: b3 :: r).length := ⟨_, rfl⟩
  have hq4 : 4 ≤ q := by rw [hq]; simp
  rw [← hq] at e1' ⊢
  clear hq hs hc hv hxv t1 e1 s1 h0 h1 h2 h3
  go_enter Tryz.func103, Tryz.ntmps103
  go_wp2
  have g0 : 0 < q := by omega
  have g1 : (1 : Int) < q := by omega
  have g2 : (2 : Int) < q := by omega
  have g3 : (3 : Int) < q := by omega
  refine start_ (n := 23) (S := fun w' => w'.cell? ⟨b, off, none⟩ = some (.int .u8 x0) ∧ w'.cell? ⟨b, off + 1, none⟩ = some (.int .u8 x1) ∧ w'.cell? ⟨b, off + 2, none⟩ = some (.int .u8 x2) ∧ w'.cell? ⟨b, off + 3, none⟩ = some (.int .u8 x3)) (ds := []) #[false, false, false, false, false, false, false, false, false, false, false, false, false, false, false, false, false, false, false, false, false, false, false] (by kernel_rfl) rfl rfl ⟨(by go_simp), (by go_simp), (by go_simp), (by go_simp)⟩ (fun hHeld => ?_)
  refine with_tabW R103.tab4 R103.bits4 (fun HT_ HW_ => ?_)
  refine pure_ (i := 0) (N := some 13) (v := ?_) (a' := ?_) #[true, false, false, false, false, false, false, false, false, false, false, false, false, false, false, false, false, false, false, false, false, false, false] rfl rfl (any_of HT_.out (by kernel_rfl)) (fun _ _ _ h => h) (Or.inl ⟨by rfl, ?_⟩) ?_ ?_
  rotate_left
  · intro w'
    go_simp
    with_reducible rfl
  rotate_left
  · simp only [Act.put, List.setIfInBounds_toArray, List.set_cons_zero, List.set_cons_succ, i64_w, i32_w]
    rfl
  refine pure_ (i := 1) (N := some 14) (v := ?_) (a' := ?_) #[true, true, false, false, false, false, false, false, false, false, false, false, false, false, false, false, false, false, false, false, false, false, false] rfl rfl (any_of HT_.out (by kernel_rfl)) (fun _ _ _ h => h) (Or.inl ⟨by rfl, ?_⟩) ?_ ?_
  rotate_left
  · intro w'
    go_simp
    with_reducible rfl
  rotate_left
  · simp only [Act.put, List.setIfInBounds_toArray, List.set_cons_zero, List.set_cons_succ, i64_w, i32_w]
    rfl
  refine pure_ (i := 4) (N := some 17) (v := ?_) (a' := ?_) #[true, true, false, false, true, false, false, false, false, false, false, false, false, false, false, false, false, false, false, false, false, false, false] rfl rfl (any_of HT_.out (by kernel_rfl)) (fun _ _ _ h => h) (Or.inl ⟨by rfl, ?_⟩) ?_ ?_
  rotate_left
  · intro w'
    go_simp
    with_reducible rfl
  rotate_left
  · simp only [Act.put, List.setIfInBounds_toArray, List.set_cons_zero, List.set_cons_succ, i64_w, i32_w]
    rfl
  refine pure_ (i := 5) (N := some 18) (v := ?_) (a' := ?_) #[true, true, false, false, true, true, false, false, false, false, false, false, false, false, false, false, false, false, false, false, false, false, false] rfl rfl (any_of HT_.out (by kernel_rfl)) (fun _ _ _ h => h) (Or.inl ⟨by rfl, ?_⟩) ?_ ?_
  rotate_left
  · intro w'
    go_simp
    with_reducible rfl
  rotate_left
  · simp only [Act.put, List.setIfInBounds_toArray, List.set_cons_zero, List.set_cons_succ, i64_w, i32_w]
    rfl
  refine pure_ (i := 10) (N := some 23) (v := ?_) (a' := ?_) #[true, true, false, false, true, true, false, false, false, false, true, false, false, false, false, false, false, false, false, false, false, false, false] rfl rfl (any_of HT_.out (by kernel_rfl)) (fun _ _ _ h => h) (Or.inl ⟨by rfl, ?_⟩) ?_ ?_
  rotate_left
  · intro w'
    go_simp
    with_reducible rfl
  rotate_left
  · simp only [Act.put, List.setIfInBounds_toArray, List.set_cons_zero, List.set_cons_succ, i64_w, i32_w]
    rfl
  refine pure_ (i := 11) (N := some 24) (v := ?_) (a' := ?_) #[true, true, false, false, true, true, false, false, false, false, true, true, false, false, false, false, false, false, false, false, false, false, false] rfl rfl (any_of HT_.out (by kernel_rfl)) (fun _ _ _ h => h) (Or.inl ⟨by rfl, ?_⟩) ?_ ?_
  rotate_left
  · intro w'
    go_simp
    with_reducible rfl
  rotate_left
  · simp only [Act.put, List.setIfInBounds_toArray, List.set_cons_zero, List.set_cons_succ, i64_w, i32_w]
    rfl
  refine pure_ (i := 16) (N := some 29) (v := ?_) (a' := ?_) #[true, true, false, false, true, true, false, false, false, false, true, true, false, false, false, false, true, false, false, false, false, false, false] rfl rfl (any_of HT_.out (by kernel_rfl)) (fun _ _ _ h => h) (Or.inl ⟨by rfl, ?_⟩) ?_ ?_
  rotate_left
  · intro w'
    go_simp
    with_reducible rfl
  rotate_left
  · simp only [Act.put, List.setIfInBounds_toArray, List.set_cons_zero, List.set_cons_succ, i64_w, i32_w]
    rfl
  refine pure_ (i := 17) (N := some 30) (v := ?_) (a' := ?_) #[true, true, false, false, true, true, false, false, false, false, true, true, false, false, false, false, true, true, false, false, false, false, false] rfl rfl (any_of HT_.out (by kernel_rfl)) (fun _ _ _ h => h) (Or.inl ⟨by rfl, ?_⟩) ?_ ?_
  rotate_left
  · intro w'
    go_simp
    with_reducible rfl
  rotate_left
  · simp only [Act.put, List.setIfInBounds_toArray, List.set_cons_zero, List.set_cons_succ, i64_w, i32_w]
    rfl
  refine take_ (i := 2) (N := some 15) (v := ?_) (a' := ?_) #[true, true, true, false, true, true, false, false, false, false, true, true, false, false, false, false, true, true, false, false, false, false, false] rfl rfl (take_ofW HT_.out HW_.out (by kernel_rfl)) (fun _ _ _ h => h) (Or.inl ⟨by rfl, ?_⟩) hHeld ?_ ?_
  rotate_left
  · rintro w' ⟨s0, s1, s2, s3⟩
    go_simp
    with_reducible rfl
  rotate_left
  · simp only [Act.put, List.setIfInBounds_toArray, List.set_cons_zero, List.set_cons_succ, i64_w, i32_w]
    rfl
  refine pure_ (i := 3) (N := some 16) (v := ?_) (a' := ?_) #[true, true, true, true, true, true, false, false, false, false, true, true, false, false, false, false, true, true, false, false, false, false, false] rfl rfl (any_of HT_.out (by kernel_rfl)) (fun _ _ _ h => h) (Or.inl ⟨by rfl, ?_⟩) ?_ ?_
  rotate_left
  · intro w'
    go_simp
    with_reducible rfl
  rotate_left
  · simp only [Act.put, List.setIfInBounds_toArray, List.set_cons_zero, List.set_cons_succ, i64_w, i32_w]
    rfl
  refine take_ (i := 6) (N := some 19) (v := ?_) (a' := ?_) #[true, true, true, true, true, true, true, false, false, false, true, true, false, false, false, false, true, true, false, false, false, false, false] rfl rfl (take_ofW HT_.out HW_.out (by kernel_rfl)) (fun _ _ _ h => h) (Or.inl ⟨by rfl, ?_⟩) hHeld ?_ ?_
  rotate_left
  · rintro w' ⟨s0, s1, s2, s3⟩
    go_simp
    with_reducible rfl
  rotate_left
  · simp only [Act.put, List.setIfInBounds_toArray, List.set_cons_zero, List.set_cons_succ, i64_w, i32_w]
    rfl
  refine pure_ (i := 7) (N := some 20) (v := ?_) (a' := ?_) #[true, true, true, true, true, true, true, true, false, false, true, true, false, false, false, false, true, true, false, false, false, false, false] rfl rfl (any_of HT_.out (by kernel_rfl)) (fun _ _ _ h => h) (Or.inl ⟨by rfl, ?_⟩) ?_ ?_
  rotate_left
  · intro w'
    go_simp
    with_reducible rfl
  rotate_left
  · simp only [Act.put, List.setIfInBounds_toArray, List.set_cons_zero, List.set_cons_succ, i64_w, i32_w]
    rfl
  refine pure_ (i := 8) (N := some 21) (v := ?_) (a' := ?_) #[true, true, true, true, true, true, true, true, true, false, true, true, false, false, false, false, true, true, false, false, false, false, false] rfl rfl (any_of HT_.out (by kernel_rfl)) (fun _ _ _ h => h) (Or.inl ⟨by rfl, ?_⟩) ?_ ?_
  rotate_left
  · intro w'
    go_simp
    with_reducible rfl
  rotate_left
  · simp only [Act.put, List.setIfInBounds_toArray, List.set_cons_zero, List.set_cons_succ, i64_w, i32_w]
    rfl
  refine pure_ (i := 9) (N := some 22) (v := ?_) (a' := ?_) #[true, true, true, true, true, true, true, true, true, true, true, true, false, false, false, false, true, true, false, false, false, false, false] rfl rfl (any_of HT_.out (by kernel_rfl)) (fun _ _ _ h => h) (Or.inl ⟨by rfl, ?_⟩) ?_ ?_
  rotate_left
  · intro w'
    go_simp
    with_reducible rfl
  rotate_left
  · simp only [Act.put, List.setIfInBounds_toArray, List.set_cons_zero, List.set_cons_succ, i64_w, i32_w]
    rfl
  refine take_ (i := 12) (N := some 25) (v := ?_) (a' := ?_) #[true, true, true, true, true, true, true, true, true, true, true, true, true, false, false, false, true, true, false, false, false, false, false] rfl rfl (take_ofW HT_.out HW_.out (by kernel_rfl)) (fun _ _ _ h => h) (Or.inl ⟨by rfl, ?_⟩) hHeld ?_ ?_
  rotate_left
  · rintro w' ⟨s0, s1, s2, s3⟩
    go_simp
    with_reducible rfl
  rotate_left
  · simp only [Act.put, List.setIfInBounds_toArray, List.set_cons_zero, List.set_cons_succ, i64_w, i32_w]
    rfl
  refine pure_ (i := 13) (N := some 26) (v := ?_) (a' := ?_) #[true, true, true, true, true, true, true, true, true, true, true, true, true, true, false, false, true, true, false, false, false, false, false] rfl rfl (any_of HT_.out (by kernel_rfl)) (fun _ _ _ h => h) (Or.inl ⟨by rfl, ?_⟩) ?_ ?_
  rotate_left
  · intro w'
    go_simp
    with_reducible rfl
  rotate_left
  · simp only [Act.put, List.setIfInBounds_toArray, List.set_cons_zero, List.set_cons_succ, i64_w, i32_w]
    rfl
  refine pure_ (i := 14) (N := some 27) (v := ?_) (a' := ?_) #[true, true, true, true, true, true, true, true, true, true, true, true, true, true, true, false, true, true, false, false, false, false, false] rfl rfl (any_of HT_.out (by kernel_rfl)) (fun _ _ _ h => h) (Or.inl ⟨by rfl, ?_⟩) ?_ ?_
  rotate_left
  · intro w'
    go_simp
    with_reducible rfl
  rotate_left
  · simp only [Act.put, List.setIfInBounds_toArray, List.set_cons_zero, List.set_cons_succ, i64_w, i32_w]
    rfl
  refine pure_ (i := 15) (N := some 28) (v := ?_) (a' := ?_) #[true, true, true, true, true, true, true, true, true, true, true, true, true, true, true, true, true, true, false, false, false, false, false] rfl rfl (any_of HT_.out (by kernel_rfl)) (fun _ _ _ h => h) (Or.inl ⟨by rfl, ?_⟩) ?_ ?_
  rotate_left
  · intro w'
    go_simp
    with_reducible rfl
  rotate_left
  · simp only [Act.put, List.setIfInBounds_toArray, List.set_cons_zero, List.set_cons_succ, i64_w, i32_w]
    rfl
  refine take_ (i := 18) (N := some 31) (v := ?_) (a' := ?_) #[true, true, true, true, true, true, true, true, true, true, true, true, true, true, true, true, true, true, true, false, false, false, false] rfl rfl (take_ofW HT_.out HW_.out (by kernel_rfl)) (fun _ _ _ h => h) (Or.inl ⟨by rfl, ?_⟩) hHeld ?_ ?_
  rotate_left
  · rintro w' ⟨s0, s1, s2, s3⟩
    go_simp
    with_reducible rfl
  rotate_left
  · simp only [Act.put, List.setIfInBounds_toArray, List.set_cons_zero, List.set_cons_succ, i64_w, i32_w]
    rfl
  refine pure_ (i := 19) (N := some 32) (v := ?_) (a' := ?_) #[true, true, true, true, true, true, true, true, true, true, true, true, true, true, true, true, true, true, true, true, false, false, false] rfl rfl (any_of HT_.out (by kernel_rfl)) (fun _ _ _ h => h) (Or.inl ⟨by rfl, ?_⟩) ?_ ?_
  rotate_left
  · intro w'
    go_simp
    with_reducible rfl
  rotate_left
  · simp only [Act.put, List.setIfInBounds_toArray, List.set_cons_zero, List.set_cons_succ, i64_w, i32_w]
    rfl
  refine pure_ (i := 20) (N := some 33) (v := ?_) (a' := ?_) #[true, true, true, true, true, true, true, true, true, true, true, true, true, true, true, true, true, true, true, true, true, false, false] rfl rfl (any_of HT_.out (by kernel_rfl)) (fun _ _ _ h => h) (Or.inl ⟨by rfl, ?_⟩) ?_ ?_
  rotate_left
  · intro w'
    go_simp
    with_reducible rfl
  rotate_left
  · simp only [Act.put, List.setIfInBounds_toArray, List.set_cons_zero, List.set_cons_succ, i64_w, i32_w]
    rfl
  refine pure_ (i := 21) (N := some 34) (v := ?_) (a' := ?_) #[true, true, true, true, true, true, true, true, true, true, true, true, true, true, true, true, true, true, true, true, true, true, false] rfl rfl (any_of HT_.out (by kernel_rfl)) (fun _ _ _ h => h) (Or.inl ⟨by rfl, ?_⟩) ?_ ?_
  rotate_left
  · intro w'
    go_simp
    with_reducible rfl
  rotate_left
  · simp only [Act.put, List.setIfInBounds_toArray, List.set_cons_zero, List.set_cons_succ, i64_w, i32_w]
    rfl
  refine pure_ (i := 22) (N := some 5) (v := ?_) (a' := ?_) #[true, true, true, true, true, true, true, true, true, true, true, true, true, true, true, true, true, true, true, true, true, true, true] rfl rfl (any_of HT_.out (by kernel_rfl)) (fun _ _ _ h => h) (Or.inl ⟨by rfl, ?_⟩) ?_ ?_
  rotate_left
  · intro w'
    go_simp
    with_reducible rfl
  rotate_left
  · simp only [Act.put, List.setIfInBounds_toArray, List.set_cons_zero, List.set_cons_succ, i64_w, i32_w]
    rfl
  refine done_ (done_of HT_.out (by kernel_rfl)) ?_
  rw [HV.out]
  clear HV hHeld c0 c1 c2 c3
  go_wp2
  refine start_ (n := 6) (S := fun w' => True) (ds := []) #[false, false, false, false, false, false] (by kernel_rfl) rfl rfl trivial (fun hHeld => ?_)
  refine with_tabW R103.tab5 R103.bits5 (fun HT_ HW_ => ?_)
  refine pure_ (i := 0) (N := some 35) (v := ?_) (a' := ?_) #[true, false, false, false, false, false] rfl rfl (any_of HT_.out (by kernel_rfl)) (fun _ _ _ h => h) (Or.inl ⟨by rfl, ?_⟩) ?_ ?_
  rotate_left
  · intro w'
    go_simp
    with_reducible rfl
  rotate_left
  · simp only [Act.put, List.setIfInBounds_toArray, List.set_cons_zero, List.set_cons_succ, i64_w, i32_w]
    rfl
  refine pure_ (i := 1) (N := some 36) (v := ?_) (a' := ?_) #[true, true, false, false, false, false] rfl rfl (any_of HT_.out (by kernel_rfl)) (fun _ _ _ h => h) (Or.inl ⟨by rfl, ?_⟩) ?_ ?_
  rotate_left
  · intro w'
    go_simp
    with_reducible rfl
  rotate_left
  · simp only [Act.put, List.setIfInBounds_toArray, List.set_cons_zero, List.set_cons_succ, i64_w, i32_w]
    rfl
  refine pure_ (i := 2) (N := some 37) (v := ?_) (a' := ?_) #[true, true, true, false, false, false] rfl rfl (any_of HT_.out (by kernel_rfl)) (fun _ _ _ h => h) (Or.inl ⟨by rfl, ?_⟩) ?_ ?_
  rotate_left
  · intro w'
    go_simp
    with_reducible rfl
  rotate_left
  · simp only [Act.put, List.setIfInBounds_toArray, List.set_cons_zero, List.set_cons_succ, i64_w, i32_w]
    rfl
  refine pure_ (i := 3) (N := some 2) (v := ?_) (a' := ?_) #[true, true, true, true, false, false] rfl rfl (any_of HT_.out (by kernel_rfl)) (fun _ _ _ h => h) (Or.inl ⟨by rfl, ?_⟩) ?_ ?_
  rotate_left
  · intro w'
    go_simp
    with_reducible rfl
  rotate_left
  · simp only [Act.put, List.setIfInBounds_toArray, List.set_cons_zero, List.set_cons_succ, i64_w, i32_w]
    rfl
  refine pure_ (i := 4) (N := some 3) (v := ?_) (a' := ?_) #[true, true, true, true, true, false] rfl rfl (any_of HT_.out (by kernel_rfl)) (fun _ _ _ h => h) (Or.inl ⟨by rfl, ?_⟩) ?_ ?_
  rotate_left
  · intro w'
    go_simp
    with_reducible rfl
  rotate_left
  · simp only [Act.put, List.setIfInBounds_toArray, List.set_cons_zero, List.set_cons_succ, i64_w, i32_w]
    rfl
  refine pure_ (i := 5) (N := some 4) (v := ?_) (a' := ?_) #[true, true, true, true, true, true] rfl rfl (any_of HT_.out (by kernel_rfl)) (fun _ _ _ h => h) (Or.inl ⟨by rfl, ?_⟩) ?_ ?_
  rotate_left
  · intro w'
    go_simp
    with_reducible rfl
  rotate_left
  · simp only [Act.put, List.setIfInBounds_toArray, List.set_cons_zero, List.set_cons_succ, i64_w, i32_w]
    rfl
  refine done_ (done_of HT_.out (by kernel_rfl)) ?_
  go_wp2
  exact bodyPost_ret (v := .tuple #[.int .i32 xv, .slice A1 r.length (c - 4), .bool true]) (by simp [results, Tryz.results103, go_sem]) rfl ⟨A1, rfl, T1.out _ (bdrew (bdrew (Below.refl _ _))), bdrew (bdrew (Below.refl _ _))⟩
end Go.Proofs.YtohfgfbfohkkkaaGreatDoor.X
