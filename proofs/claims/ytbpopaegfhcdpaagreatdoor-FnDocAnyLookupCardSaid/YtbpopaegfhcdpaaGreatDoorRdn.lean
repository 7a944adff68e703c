/- Put together: ReadI32, Bytes, Len. -/
import Derived.Test.YtbpopaegfhcdpaaGreatDoorOwn
import Derived.Test.YtbpopaegfhcdpaaGreatDoorWLast
import Derived.Test.YtbpopaegfhcdpaaGreatDoorWTab
import Derived.Laws.BitsLemmas
import Derived.IntWalk
import Derived.Test.YtbpopaegfhcdpaaGreatDoorWords
import Derived.Lib.Strings
import Derived.Lib.Walk
import Derived.Lib.BytesEntry
import Derived.Lib.Bytealg
/- Contracts of binaryutil.ReadI32 and ReadI64, and what shifted bytes joined by bits come to. -/
set_option linter.unusedVariables false
set_option linter.unusedSimpArgs false
set_option maxRecDepth 100000
namespace Go.Proofs.YtbpopaegfhcdpaaGreatDoor.X
open Go.RowKit Go.Proofs.YtbpopaegfhcdpaaGreatDoorW.PrintLast
def R117.T4 : Bool × List (List Nat × List Nat) := (true, [([], []), ([0], [0]), ([1], [1]), ([2], [2]), ([], []), ([4], [4]), ([5], [5]), ([6], [6]), ([7], [7]), ([3, 8], [3, 8]), ([], []), ([10], [10]), ([11], [11]), ([12], [12]), ([13], [13]), ([9, 14], [9, 14]), ([], []), ([16], [16]), ([17], [17]), ([18], [18]), ([19], [19]), ([15, 20], [15, 20]), ([21, 0, 1, 2, 3, 4, 5, 6, 7, 8, 9, 10, 11, 12, 13, 14, 15, 16, 17, 18, 19, 20, 21], [21])])
def R117.B4 : List Nat := [0, 1, 3, 7, 0, 16, 48, 112, 240, 511, 0, 1024, 3072, 7168, 15360, 32767, 0, 65536, 196608, 458752, 983040, 2097151, 4194303]
theorem R117.tab4 : rtab .any (opsOf Tryz.f117 4) = R117.T4 := by kernel_rfl
theorem R117.bits4 : waitsOk R117.T4.2 R117.B4 = true := by kernel_rfl
def R117.T5 : Bool × List (List Nat × List Nat) := (true, [([], []), ([], []), ([1], [1]), ([0, 0], [0]), ([2, 3, 0, 1, 2, 3], [2]), ([4, 0, 1, 2, 3, 4], [])])
def R117.B5 : List Nat := [0, 0, 2, 1, 15, 31]
theorem R117.tab5 : rtab .any (opsOf Tryz.f117 5) = R117.T5 := by kernel_rfl
theorem R117.bits5 : waitsOk R117.T5.2 R117.B5 = true := by kernel_rfl
theorem wrap_mod (k : IntKind) (n : Int) : k.wrap n % 2 ^ k.bits = n % 2 ^ k.bits := by
  unfold IntKind.wrap
  simp only []
  split
  · rw [Int.sub_emod, Int.emod_self]; simp
  · simp
theorem or_join (k : IntKind) (x y : Int) (a b i : Nat) (ha : a < 2 ^ i) (hab : a + b * 2 ^ i < 2 ^ k.bits) (hx : x % 2 ^ k.bits = a) (hy : y % 2 ^ k.bits = (b * 2 ^ i : Nat)) :
    bits .or k x y = k.wrap ((a + b * 2 ^ i : Nat) : Int) := by
  have ha2 : a < 2 ^ k.bits := by omega
  have hb2 : b * 2 ^ i < 2 ^ k.bits := by omega
  have ex : BitVec.ofInt k.bits x = BitVec.ofNat k.bits a := by
    apply BitVec.eq_of_toNat_eq
    have : (x % (2 ^ k.bits : Nat)).toNat = a := by
      rw [show ((2 ^ k.bits : Nat) : Int) = 2 ^ k.bits from by simp, hx]; simp
    simp [BitVec.toNat_ofInt, Nat.mod_eq_of_lt ha2]
    simpa using this
  have ey : BitVec.ofInt k.bits y = BitVec.ofNat k.bits (b * 2 ^ i) := by
    apply BitVec.eq_of_toNat_eq
    have : (y % (2 ^ k.bits : Nat)).toNat = b * 2 ^ i := by
      rw [show ((2 ^ k.bits : Nat) : Int) = 2 ^ k.bits from by simp, hy]; exact Int.toNat_natCast _
    simp only [BitVec.toNat_ofInt, BitVec.toNat_ofNat, Nat.mod_eq_of_lt hb2]
    exact this
  simp only [bits, ex, ey, BitVec.toNat_or, BitVec.toNat_ofNat, Nat.mod_eq_of_lt ha2, Nat.mod_eq_of_lt hb2]
  congr 2
  rw [Nat.or_comm, Nat.mul_comm, ← Nat.two_pow_add_eq_or_of_lt ha, Nat.add_comm]
theorem or_mod (k : IntKind) (x y : Int) (a b i : Nat) (ha : a < 2 ^ i) (hab : a + b * 2 ^ i < 2 ^ k.bits) (hx : x % 2 ^ k.bits = a) (hy : y % 2 ^ k.bits = (b * 2 ^ i : Nat)) :
    bits .or k x y % 2 ^ k.bits = ((a + b * 2 ^ i : Nat) : Int) := by
  rw [or_join k x y a b i ha hab hx hy, wrap_mod]
  apply Int.emod_eq_of_lt (by omega)
  exact_mod_cast hab
theorem or4_i32 (b0 b1 b2 b3 : Nat) (y0 y1 y2 y3 : Int) (h0 : b0 < 256) (h1 : b1 < 256) (h2 : b2 < 256) (h3 : b3 < 256)
    (e0 : y0 % 4294967296 = (b0 : Nat)) (e1 : y1 % 4294967296 = (b1 * 256 : Nat)) (e2 : y2 % 4294967296 = (b2 * 65536 : Nat)) (e3 : y3 % 4294967296 = (b3 * 16777216 : Nat)) :
    bits .or .i32 (bits .or .i32 (bits .or .i32 y0 y1) y2) y3 = IntKind.i32.wrap ((b0 + b1 * 256 + b2 * 65536 + b3 * 16777216 : Nat) : Int) := by
  have s1 := or_mod .i32 y0 y1 b0 b1 8 (by omega) (by simp [IntKind.bits]; omega) (by simpa [IntKind.bits] using e0) (by simpa [IntKind.bits] using e1)
  have s2 := or_mod .i32 _ y2 _ b2 16 (by omega) (by simp [IntKind.bits]; omega) s1 (by simpa [IntKind.bits] using e2)
  have s3 := or_join .i32 _ y3 _ b3 24 (by omega) (by simp [IntKind.bits]; omega) s2 (by simpa [IntKind.bits] using e3)
  rw [s3]
theorem or8_i64 (b0 b1 b2 b3 b4 b5 b6 b7 : Nat) (y0 y1 y2 y3 y4 y5 y6 y7 : Int) (h0 : b0 < 256) (h1 : b1 < 256) (h2 : b2 < 256) (h3 : b3 < 256) (h4 : b4 < 256) (h5 : b5 < 256) (h6 : b6 < 256) (h7 : b7 < 256)
    (e0 : y0 % 18446744073709551616 = (b0 : Nat)) (e1 : y1 % 18446744073709551616 = (b1 * 256 : Nat)) (e2 : y2 % 18446744073709551616 = (b2 * 65536 : Nat)) (e3 : y3 % 18446744073709551616 = (b3 * 16777216 : Nat))
    (e4 : y4 % 18446744073709551616 = (b4 * 4294967296 : Nat)) (e5 : y5 % 18446744073709551616 = (b5 * 1099511627776 : Nat)) (e6 : y6 % 18446744073709551616 = (b6 * 281474976710656 : Nat)) (e7 : y7 % 18446744073709551616 = (b7 * 72057594037927936 : Nat)) :
    bits .or .i64 (bits .or .i64 (bits .or .i64 (bits .or .i64 (bits .or .i64 (bits .or .i64 (bits .or .i64 y0 y1) y2) y3) y4) y5) y6) y7 =
      IntKind.i64.wrap ((b0 + b1 * 256 + b2 * 65536 + b3 * 16777216 + b4 * 4294967296 + b5 * 1099511627776 + b6 * 281474976710656 + b7 * 72057594037927936 : Nat) : Int) := by
  have s1 := or_mod .i64 y0 y1 b0 b1 8 (by omega) (by simp [IntKind.bits]; omega) (by simpa [IntKind.bits] using e0) (by simpa [IntKind.bits] using e1)
  have s2 := or_mod .i64 _ y2 _ b2 16 (by omega) (by simp [IntKind.bits]; omega) s1 (by simpa [IntKind.bits] using e2)
  have s3 := or_mod .i64 _ y3 _ b3 24 (by omega) (by simp [IntKind.bits]; omega) s2 (by simpa [IntKind.bits] using e3)
  have s4 := or_mod .i64 _ y4 _ b4 32 (by omega) (by simp [IntKind.bits]; omega) s3 (by simpa [IntKind.bits] using e4)
  have s5 := or_mod .i64 _ y5 _ b5 40 (by omega) (by simp [IntKind.bits]; omega) s4 (by simpa [IntKind.bits] using e5)
  have s6 := or_mod .i64 _ y6 _ b6 48 (by omega) (by simp [IntKind.bits]; omega) s5 (by simpa [IntKind.bits] using e6)
  have s7 := or_join .i64 _ y7 _ b7 56 (by omega) (by simp [IntKind.bits]; omega) s6 (by simpa [IntKind.bits] using e7)
  rw [s7]
theorem wm4 (n : Int) : wrap32 n % 4294967296 = n % 4294967296 := by unfold wrap32; omega
theorem ws4 (b m : Nat) (x : Int) (hx : x = (m : Int)) (hb : b < 256) (h : b * m < 4294967296) : wrap32 (wrap32 (b : Int) * x) % 4294967296 = ((b * m : Nat) : Int) := by
  rw [hx, wm4, show wrap32 (b : Int) = b from by unfold wrap32; omega, ← Int.natCast_mul]
  have h2 : ((b * m : Nat) : Int) < 4294967296 := Int.ofNat_lt.2 h
  exact Int.emod_eq_of_lt (Int.natCast_nonneg _) h2
theorem or4_val (b0 b1 b2 b3 : Nat) (h0 : b0 < 256) (h1 : b1 < 256) (h2 : b2 < 256) (h3 : b3 < 256) : bits .or .i32 (bits .or .i32 (bits .or .i32 (wrap32 (b0 : Int)) (wrap32 ((wrap32 (b1 : Int)) * 256))) (wrap32 ((wrap32 (b2 : Int)) * 65536))) (wrap32 ((wrap32 (b3 : Int)) * 16777216)) = wrap32 ((b0 : Int) + (b1 : Int) * 256 + (b2 : Int) * 65536 + (b3 : Int) * 16777216) := by
  have h := or4_i32 b0 b1 b2 b3 (wrap32 (b0 : Int)) (wrap32 (wrap32 (b1 : Int) * 256)) (wrap32 (wrap32 (b2 : Int) * 65536)) (wrap32 (wrap32 (b3 : Int) * 16777216)) h0 h1 h2 h3 (by rw [wm4]; omega) (ws4 b1 256 _ (by decide) h1 (by omega)) (ws4 b2 65536 _ (by decide) h2 (by omega)) (ws4 b3 16777216 _ (by decide) h3 (by omega))
  have e : ((b0 + b1 * 256 + b2 * 65536 + b3 * 16777216 : Nat) : Int) = (b0 : Int) + (b1 : Int) * 256 + (b2 : Int) * 65536 + (b3 : Int) * 16777216 := by omega
  rw [h, IntKind.wrap_i32, e]
  simp only [wrap32]
def leI : List UInt8 → Int
  | [] => 0
  | b :: r => (b.toNat : Int) + 256 * leI r
set_option maxHeartbeats 1600000 in
theorem readI32 (A : Option Addr) (c : Nat) (b0 b1 b2 b3 : UInt8) (r : List UInt8) (w : World) (hs : SB w A c (b0 :: b1 :: b2 :: b3 :: r)) :
    Calls Tryz.prog 117 #[.slice A (b0 :: b1 :: b2 :: b3 :: r).length c] w fun e w' => ∃ A1, e = .returned (.tuple #[.int .i32 (wrap32 (leI [b0, b1, b2, b3])), .slice A1 r.length (c - 4), .bool true]) ∧ SB w' A1 (c - 4) r ∧ Below w.heap.size w w' := by
  obtain ⟨A1, e1, s1⟩ := SB.from_ (P := Tryz.prog) Tryz.underlying22 rfl rfl .i64 A c (b0 :: b1 :: b2 :: b3 :: r) 4 (by simp) hs.le
  have e1' : ∀ W : World, (Instr.slice 22 (.slice A (b0 :: b1 :: b2 :: b3 :: r).length c) (some (.int .i64 4)) none none).run Tryz.prog W = .ok (.slice A1 r.length (c - 4)) W := fun W => by have h := e1 W; rw [show (b0 :: b1 :: b2 :: b3 :: r).length - 4 = r.length from by simp] at h; exact h
  have t1 := fun wx (h : Below w.heap.size w wx) => s1 wx (hs.keep h)
  have T1 := Lib.hid t1
  have hcap : r.length + 4 ≤ c := by have := hs.le; simpa using this
  have hlen9 : c ≤ 9223372036854775807 := hs.cap
  obtain ⟨b, off, rfl, hc⟩ := hs.cells (by simp)
  have c0 : w.cell? ⟨b, off, none⟩ = some (.int .u8 b0.toNat) := by have h := hc 0 (by simp); exact h
  have c1 : w.cell? ⟨b, off + 1, none⟩ = some (.int .u8 b1.toNat) := by have h := hc 1 (by simp); exact h
  have c2 : w.cell? ⟨b, off + 2, none⟩ = some (.int .u8 b2.toNat) := by have h := hc 2 (by simp); exact h
  have c3 : w.cell? ⟨b, off + 3, none⟩ = some (.int .u8 b3.toNat) := by have h := hc 3 (by simp); exact h
  have hv : bits .or .i32 (bits .or .i32 (bits .or .i32 (wrap32 (b0.toNat : Int)) (wrap32 ((wrap32 (b1.toNat : Int)) * 256))) (wrap32 ((wrap32 (b2.toNat : Int)) * 65536))) (wrap32 ((wrap32 (b3.toNat : Int)) * 16777216)) = wrap32 (leI [b0, b1, b2, b3]) := by
    have hb0 : b0.toNat < 256 := b0.toNat_lt
    have hb1 : b1.toNat < 256 := b1.toNat_lt
    have hb2 : b2.toNat < 256 := b2.toNat_lt
    have hb3 : b3.toNat < 256 := b3.toNat_lt
    have h := or4_val b0.toNat b1.toNat b2.toNat b3.toNat hb0 hb1 hb2 hb3
    rw [h]
    congr 1
    simp only [leI]
    omega
  obtain ⟨x0, h0⟩ : ∃ x, x = (b0.toNat : Int) := ⟨_, rfl⟩
  rw [← h0] at c0 hv
  obtain ⟨x1, h1⟩ : ∃ x, x = (b1.toNat : Int) := ⟨_, rfl⟩
  rw [← h1] at c1 hv
  obtain ⟨x2, h2⟩ : ∃ x, x = (b2.toNat : Int) := ⟨_, rfl⟩
  rw [← h2] at c2 hv
  obtain ⟨x3, h3⟩ : ∃ x, x = (b3.toNat : Int) := ⟨_, rfl⟩
  rw [← h3] at c3 hv
  obtain ⟨xv, hxv⟩ : ∃ x, x = wrap32 (leI [b0, b1, b2, b3]) := ⟨_, rfl⟩
  rw [← hxv] at hv ⊢
  have HV := Lib.hid hv
  obtain ⟨q, hq⟩ : ∃ x, x = (b0 :: b1 :: b2 :: b3 :: r).length := ⟨_, rfl⟩
  have hq4 : 4 ≤ q := by rw [hq]; simp
  rw [← hq] at e1' ⊢
  clear hq hs hc hv hxv t1 e1 s1 h0 h1 h2 h3
  go_enter Tryz.func117, Tryz.ntmps117
  go_wp2
  have g0 : 0 < q := by omega
  have g1 : (1 : Int) < q := by omega
  have g2 : (2 : Int) < q := by omega
  have g3 : (3 : Int) < q := by omega
  refine start_ (n := 23) (S := fun w' => w'.cell? ⟨b, off, none⟩ = some (.int .u8 x0) ∧ w'.cell? ⟨b, off + 1, none⟩ = some (.int .u8 x1) ∧ w'.cell? ⟨b, off + 2, none⟩ = some (.int .u8 x2) ∧ w'.cell? ⟨b, off + 3, none⟩ = some (.int .u8 x3)) (ds := []) #[false, false, false, false, false, false, false, false, false, false, false, false, false, false, false, false, false, false, false, false, false, false, false] (by kernel_rfl) rfl rfl ⟨(by go_simp), (by go_simp), (by go_simp), (by go_simp)⟩ (fun hHeld => ?_)
  refine with_tabW R117.tab4 R117.bits4 (fun HT_ HW_ => ?_)
  refine pure_ (i := 0) (N := some 13) (v := ?_) (a' := ?_) #[true, false, false, false, false, false, false, false, false, false, false, false, false, false, false, false, false, false, false, false, false, false, false] rfl rfl (any_of HT_.out (by kernel_rfl)) (fun _ _ _ h => h) (Or.inl ⟨by rfl, ?_⟩) ?_ ?_
  rotate_left
  · intro w'
    go_simp
    with_reducible rfl
  rotate_left
  · simp only [Act.put, List.setIfInBounds_toArray, List.set_cons_zero, List.set_cons_succ, i64_w, i32_w]
    rfl
  refine pure_ (i := 1) (N := some 14) (v := ?_) (a' := ?_) #[true, true, false, false, false, false, false, false, false, false, false, false, false, false, false, false, false, false, false, false, false, false, false] rfl rfl (any_of HT_.out (by kernel_rfl)) (fun _ _ _ h => h) (Or.inl ⟨by rfl, ?_⟩) ?_ ?_
  rotate_left
  · intro w'
    go_simp
    with_reducible rfl
  rotate_left
  · simp only [Act.put, List.setIfInBounds_toArray, List.set_cons_zero, List.set_cons_succ, i64_w, i32_w]
    rfl
  refine pure_ (i := 4) (N := some 17) (v := ?_) (a' := ?_) #[true, true, false, false, true, false, false, false, false, false, false, false, false, false, false, false, false, false, false, false, false, false, false] rfl rfl (any_of HT_.out (by kernel_rfl)) (fun _ _ _ h => h) (Or.inl ⟨by rfl, ?_⟩) ?_ ?_
  rotate_left
  · intro w'
    go_simp
    with_reducible rfl
  rotate_left
  · simp only [Act.put, List.setIfInBounds_toArray, List.set_cons_zero, List.set_cons_succ, i64_w, i32_w]
    rfl
  refine pure_ (i := 5) (N := some 18) (v := ?_) (a' := ?_) #[true, true, false, false, true, true, false, false, false, false, false, false, false, false, false, false, false, false, false, false, false, false, false] rfl rfl (any_of HT_.out (by kernel_rfl)) (fun _ _ _ h => h) (Or.inl ⟨by rfl, ?_⟩) ?_ ?_
  rotate_left
  · intro w'
    go_simp
    with_reducible rfl
  rotate_left
  · simp only [Act.put, List.setIfInBounds_toArray, List.set_cons_zero, List.set_cons_succ, i64_w, i32_w]
    rfl
  refine pure_ (i := 10) (N := some 23) (v := ?_) (a' := ?_) #[true, true, false, false, true, true, false, false, false, false, true, false, false, false, false, false, false, false, false, false, false, false, false] rfl rfl (any_of HT_.out (by kernel_rfl)) (fun _ _ _ h => h) (Or.inl ⟨by rfl, ?_⟩) ?_ ?_
  rotate_left
  · intro w'
    go_simp
    with_reducible rfl
  rotate_left
  · simp only [Act.put, List.setIfInBounds_toArray, List.set_cons_zero, List.set_cons_succ, i64_w, i32_w]
    rfl
  refine pure_ (i := 11) (N := some 24) (v := ?_) (a' := ?_) #[true, true, false, false, true, true, false, false, false, false, true, true, false, false, false, false, false, false, false, false, false, false, false] rfl rfl (any_of HT_.out (by kernel_rfl)) (fun _ _ _ h => h) (Or.inl ⟨by rfl, ?_⟩) ?_ ?_
  rotate_left
  · intro w'
    go_simp
    with_reducible rfl
  rotate_left
  · simp only [Act.put, List.setIfInBounds_toArray, List.set_cons_zero, List.set_cons_succ, i64_w, i32_w]
    rfl
  refine pure_ (i := 16) (N := some 29) (v := ?_) (a' := ?_) #[true, true, false, false, true, true, false, false, false, false, true, true, false, false, false, false, true, false, false, false, false, false, false] rfl rfl (any_of HT_.out (by kernel_rfl)) (fun _ _ _ h => h) (Or.inl ⟨by rfl, ?_⟩) ?_ ?_
  rotate_left
  · intro w'
    go_simp
    with_reducible rfl
  rotate_left
  · simp only [Act.put, List.setIfInBounds_toArray, List.set_cons_zero, List.set_cons_succ, i64_w, i32_w]
    rfl
  refine pure_ (i := 17) (N := some 30) (v := ?_) (a' := ?_) #[true, true, false, false, true, true, false, false, false, false, true, true, false, false, false, false, true, true, false, false, false, false, false] rfl rfl (any_of HT_.out (by kernel_rfl)) (fun _ _ _ h => h) (Or.inl ⟨by rfl, ?_⟩) ?_ ?_
  rotate_left
  · intro w'
    go_simp
    with_reducible rfl
  rotate_left
  · simp only [Act.put, List.setIfInBounds_toArray, List.set_cons_zero, List.set_cons_succ, i64_w, i32_w]
    rfl
  refine take_ (i := 2) (N := some 15) (v := ?_) (a' := ?_) #[true, true, true, false, true, true, false, false, false, false, true, true, false, false, false, false, true, true, false, false, false, false, false] rfl rfl (take_ofW HT_.out HW_.out (by kernel_rfl)) (fun _ _ _ h => h) (Or.inl ⟨by rfl, ?_⟩) hHeld ?_ ?_
  rotate_left
  · rintro w' ⟨s0, s1, s2, s3⟩
    go_simp
    with_reducible rfl
  rotate_left
  · simp only [Act.put, List.setIfInBounds_toArray, List.set_cons_zero, List.set_cons_succ, i64_w, i32_w]
    rfl
  refine pure_ (i := 3) (N := some 16) (v := ?_) (a' := ?_) #[true, true, true, true, true, true, false, false, false, false, true, true, false, false, false, false, true, true, false, false, false, false, false] rfl rfl (any_of HT_.out (by kernel_rfl)) (fun _ _ _ h => h) (Or.inl ⟨by rfl, ?_⟩) ?_ ?_
  rotate_left
  · intro w'
    go_simp
    with_reducible rfl
  rotate_left
  · simp only [Act.put, List.setIfInBounds_toArray, List.set_cons_zero, List.set_cons_succ, i64_w, i32_w]
    rfl
  refine take_ (i := 6) (N := some 19) (v := ?_) (a' := ?_) #[true, true, true, true, true, true, true, false, false, false, true, true, false, false, false, false, true, true, false, false, false, false, false] rfl rfl (take_ofW HT_.out HW_.out (by kernel_rfl)) (fun _ _ _ h => h) (Or.inl ⟨by rfl, ?_⟩) hHeld ?_ ?_
  rotate_left
  · rintro w' ⟨s0, s1, s2, s3⟩
    go_simp
    with_reducible rfl
  rotate_left
  · simp only [Act.put, List.setIfInBounds_toArray, List.set_cons_zero, List.set_cons_succ, i64_w, i32_w]
    rfl
  refine pure_ (i := 7) (N := some 20) (v := ?_) (a' := ?_) #[true, true, true, true, true, true, true, true, false, false, true, true, false, false, false, false, true, true, false, false, false, false, false] rfl rfl (any_of HT_.out (by kernel_rfl)) (fun _ _ _ h => h) (Or.inl ⟨by rfl, ?_⟩) ?_ ?_
  rotate_left
  · intro w'
    go_simp
    with_reducible rfl
  rotate_left
  · simp only [Act.put, List.setIfInBounds_toArray, List.set_cons_zero, List.set_cons_succ, i64_w, i32_w]
    rfl
  refine pure_ (i := 8) (N := some 21) (v := ?_) (a' := ?_) #[true, true, true, true, true, true, true, true, true, false, true, true, false, false, false, false, true, true, false, false, false, false, false] rfl rfl (any_of HT_.out (by kernel_rfl)) (fun _ _ _ h => h) (Or.inl ⟨by rfl, ?_⟩) ?_ ?_
  rotate_left
  · intro w'
    go_simp
    with_reducible rfl
  rotate_left
  · simp only [Act.put, List.setIfInBounds_toArray, List.set_cons_zero, List.set_cons_succ, i64_w, i32_w]
    rfl
  refine pure_ (i := 9) (N := some 22) (v := ?_) (a' := ?_) #[true, true, true, true, true, true, true, true, true, true, true, true, false, false, false, false, true, true, false, false, false, false, false] rfl rfl (any_of HT_.out (by kernel_rfl)) (fun _ _ _ h => h) (Or.inl ⟨by rfl, ?_⟩) ?_ ?_
  rotate_left
  · intro w'
    go_simp
    with_reducible rfl
  rotate_left
  · simp only [Act.put, List.setIfInBounds_toArray, List.set_cons_zero, List.set_cons_succ, i64_w, i32_w]
    rfl
  refine take_ (i := 12) (N := some 25) (v := ?_) (a' := ?_) #[true, true, true, true, true, true, true, true, true, true, true, true, true, false, false, false, true, true, false, false, false, false, false] rfl rfl (take_ofW HT_.out HW_.out (by kernel_rfl)) (fun _ _ _ h => h) (Or.inl ⟨by rfl, ?_⟩) hHeld ?_ ?_
  rotate_left
  · rintro w' ⟨s0, s1, s2, s3⟩
    go_simp
    with_reducible rfl
  rotate_left
  · simp only [Act.put, List.setIfInBounds_toArray, List.set_cons_zero, List.set_cons_succ, i64_w, i32_w]
    rfl
  refine pure_ (i := 13) (N := some 26) (v := ?_) (a' := ?_) #[true, true, true, true, true, true, true, true, true, true, true, true, true, true, false, false, true, true, false, false, false, false, false] rfl rfl (any_of HT_.out (by kernel_rfl)) (fun _ _ _ h => h) (Or.inl ⟨by rfl, ?_⟩) ?_ ?_
  rotate_left
  · intro w'
    go_simp
    with_reducible rfl
  rotate_left
  · simp only [Act.put, List.setIfInBounds_toArray, List.set_cons_zero, List.set_cons_succ, i64_w, i32_w]
    rfl
  refine pure_ (i := 14) (N := some 27) (v := ?_) (a' := ?_) #[true, true, true, true, true, true, true, true, true, true, true, true, true, true, true, false, true, true, false, false, false, false, false] rfl rfl (any_of HT_.out (by kernel_rfl)) (fun _ _ _ h => h) (Or.inl ⟨by rfl, ?_⟩) ?_ ?_
  rotate_left
  · intro w'
    go_simp
    with_reducible rfl
  rotate_left
  · simp only [Act.put, List.setIfInBounds_toArray, List.set_cons_zero, List.set_cons_succ, i64_w, i32_w]
    rfl
  refine pure_ (i := 15) (N := some 28) (v := ?_) (a' := ?_) #[true, true, true, true, true, true, true, true, true, true, true, true, true, true, true, true, true, true, false, false, false, false, false] rfl rfl (any_of HT_.out (by kernel_rfl)) (fun _ _ _ h => h) (Or.inl ⟨by rfl, ?_⟩) ?_ ?_
  rotate_left
  · intro w'
    go_simp
    with_reducible rfl
  rotate_left
  · simp only [Act.put, List.setIfInBounds_toArray, List.set_cons_zero, List.set_cons_succ, i64_w, i32_w]
    rfl
  refine take_ (i := 18) (N := some 31) (v := ?_) (a' := ?_) #[true, true, true, true, true, true, true, true, true, true, true, true, true, true, true, true, true, true, true, false, false, false, false] rfl rfl (take_ofW HT_.out HW_.out (by kernel_rfl)) (fun _ _ _ h => h) (Or.inl ⟨by rfl, ?_⟩) hHeld ?_ ?_
  rotate_left
  · rintro w' ⟨s0, s1, s2, s3⟩
    go_simp
    with_reducible rfl
  rotate_left
  · simp only [Act.put, List.setIfInBounds_toArray, List.set_cons_zero, List.set_cons_succ, i64_w, i32_w]
    rfl
  refine pure_ (i := 19) (N := some 32) (v := ?_) (a' := ?_) #[true, true, true, true, true, true, true, true, true, true, true, true, true, true, true, true, true, true, true, true, false, false, false] rfl rfl (any_of HT_.out (by kernel_rfl)) (fun _ _ _ h => h) (Or.inl ⟨by rfl, ?_⟩) ?_ ?_
  rotate_left
  · intro w'
    go_simp
    with_reducible rfl
  rotate_left
  · simp only [Act.put, List.setIfInBounds_toArray, List.set_cons_zero, List.set_cons_succ, i64_w, i32_w]
    rfl
  refine pure_ (i := 20) (N := some 33) (v := ?_) (a' := ?_) #[true, true, true, true, true, true, true, true, true, true, true, true, true, true, true, true, true, true, true, true, true, false, false] rfl rfl (any_of HT_.out (by kernel_rfl)) (fun _ _ _ h => h) (Or.inl ⟨by rfl, ?_⟩) ?_ ?_
  rotate_left
  · intro w'
    go_simp
    with_reducible rfl
  rotate_left
  · simp only [Act.put, List.setIfInBounds_toArray, List.set_cons_zero, List.set_cons_succ, i64_w, i32_w]
    rfl
  refine pure_ (i := 21) (N := some 34) (v := ?_) (a' := ?_) #[true, true, true, true, true, true, true, true, true, true, true, true, true, true, true, true, true, true, true, true, true, true, false] rfl rfl (any_of HT_.out (by kernel_rfl)) (fun _ _ _ h => h) (Or.inl ⟨by rfl, ?_⟩) ?_ ?_
  rotate_left
  · intro w'
    go_simp
    with_reducible rfl
  rotate_left
  · simp only [Act.put, List.setIfInBounds_toArray, List.set_cons_zero, List.set_cons_succ, i64_w, i32_w]
    rfl
  refine pure_ (i := 22) (N := some 5) (v := ?_) (a' := ?_) #[true, true, true, true, true, true, true, true, true, true, true, true, true, true, true, true, true, true, true, true, true, true, true] rfl rfl (any_of HT_.out (by kernel_rfl)) (fun _ _ _ h => h) (Or.inl ⟨by rfl, ?_⟩) ?_ ?_
  rotate_left
  · intro w'
    go_simp
    with_reducible rfl
  rotate_left
  · simp only [Act.put, List.setIfInBounds_toArray, List.set_cons_zero, List.set_cons_succ, i64_w, i32_w]
    rfl
  refine done_ (done_of HT_.out (by kernel_rfl)) ?_
  rw [HV.out]
  clear HV hHeld c0 c1 c2 c3
  go_wp2
  refine start_ (n := 6) (S := fun w' => True) (ds := []) #[false, false, false, false, false, false] (by kernel_rfl) rfl rfl trivial (fun hHeld => ?_)
  refine with_tabW R117.tab5 R117.bits5 (fun HT_ HW_ => ?_)
  refine pure_ (i := 0) (N := some 35) (v := ?_) (a' := ?_) #[true, false, false, false, false, false] rfl rfl (any_of HT_.out (by kernel_rfl)) (fun _ _ _ h => h) (Or.inl ⟨by rfl, ?_⟩) ?_ ?_
  rotate_left
  · intro w'
    go_simp
    with_reducible rfl
  rotate_left
  · simp only [Act.put, List.setIfInBounds_toArray, List.set_cons_zero, List.set_cons_succ, i64_w, i32_w]
    rfl
  refine pure_ (i := 1) (N := some 36) (v := ?_) (a' := ?_) #[true, true, false, false, false, false] rfl rfl (any_of HT_.out (by kernel_rfl)) (fun _ _ _ h => h) (Or.inl ⟨by rfl, ?_⟩) ?_ ?_
  rotate_left
  · intro w'
    go_simp
    with_reducible rfl
  rotate_left
  · simp only [Act.put, List.setIfInBounds_toArray, List.set_cons_zero, List.set_cons_succ, i64_w, i32_w]
    rfl
  refine pure_ (i := 2) (N := some 37) (v := ?_) (a' := ?_) #[true, true, true, false, false, false] rfl rfl (any_of HT_.out (by kernel_rfl)) (fun _ _ _ h => h) (Or.inl ⟨by rfl, ?_⟩) ?_ ?_
  rotate_left
  · intro w'
    go_simp
    with_reducible rfl
  rotate_left
  · simp only [Act.put, List.setIfInBounds_toArray, List.set_cons_zero, List.set_cons_succ, i64_w, i32_w]
    rfl
  refine pure_ (i := 3) (N := some 2) (v := ?_) (a' := ?_) #[true, true, true, true, false, false] rfl rfl (any_of HT_.out (by kernel_rfl)) (fun _ _ _ h => h) (Or.inl ⟨by rfl, ?_⟩) ?_ ?_
  rotate_left
  · intro w'
    go_simp
    with_reducible rfl
  rotate_left
  · simp only [Act.put, List.setIfInBounds_toArray, List.set_cons_zero, List.set_cons_succ, i64_w, i32_w]
    rfl
  refine pure_ (i := 4) (N := some 3) (v := ?_) (a' := ?_) #[true, true, true, true, true, false] rfl rfl (any_of HT_.out (by kernel_rfl)) (fun _ _ _ h => h) (Or.inl ⟨by rfl, ?_⟩) ?_ ?_
  rotate_left
  · intro w'
    go_simp
    with_reducible rfl
  rotate_left
  · simp only [Act.put, List.setIfInBounds_toArray, List.set_cons_zero, List.set_cons_succ, i64_w, i32_w]
    rfl
  refine pure_ (i := 5) (N := some 4) (v := ?_) (a' := ?_) #[true, true, true, true, true, true] rfl rfl (any_of HT_.out (by kernel_rfl)) (fun _ _ _ h => h) (Or.inl ⟨by rfl, ?_⟩) ?_ ?_
  rotate_left
  · intro w'
    go_simp
    with_reducible rfl
  rotate_left
  · simp only [Act.put, List.setIfInBounds_toArray, List.set_cons_zero, List.set_cons_succ, i64_w, i32_w]
    rfl
  refine done_ (done_of HT_.out (by kernel_rfl)) ?_
  go_wp2
  exact bodyPost_ret (v := .tuple #[.int .i32 xv, .slice A1 r.length (c - 4), .bool true]) (by simp [results, Tryz.results117, go_sem]) rfl ⟨A1, rfl, T1.out _ (bdrew (bdrew (Below.refl _ _))), bdrew (bdrew (Below.refl _ _))⟩
end Go.Proofs.YtbpopaegfhcdpaaGreatDoor.X


/- Contracts of bytes.IndexByte and bytes.Equal, over slices that are read. -/
set_option linter.unusedVariables false
set_option linter.unusedSimpArgs false
set_option maxRecDepth 100000
namespace Go.Proofs.YtbpopaegfhcdpaaGreatDoor.X
open Go.RowKit

theorem run_index {P : Program} {w : World} {A : Option Addr} {c : Nat} {l : List UInt8} (hs : SB w A c l) (cv : Int) :
    (Extern.BytealgIndexByte.indexByte #[.slice A l.length c, .int .u8 cv]).run P w = .ok (.int .i64 (Lib.indexByte l cv.toNat.toUInt8)) w := by
  rcases Nat.eq_zero_or_pos l.length with h0 | h0
  · have : l = [] := List.eq_nil_of_length_eq_zero h0
    subst this
    cases A with
    | none => exact Lib.run_indexByteNil w 0 c cv
    | some a => exact Lib.run_indexByteNil w 0 c cv
  · obtain ⟨b, off, rfl, hc⟩ := hs.cells h0
    have h := Lib.run_indexByteSlice (P := P) w b off l.length c (l.map fun x : UInt8 => (x.toNat : Int)) (by simp) (fun i hi => by rw [hc i hi]; simp [hi]) cv
    have e : Lib.bytesOf (l.map fun x : UInt8 => (x.toNat : Int)) = l := by
      unfold Lib.bytesOf
      rw [List.map_map]
      conv => rhs; rw [← List.map_id l]
      apply List.map_congr_left
      intro x _
      simp
    rw [e] at h
    exact h
theorem bytesIndexByte (A : Option Addr) (c : Nat) (l : List UInt8) (z : Int) (w : World) (hs : SB w A c l) :
    Calls Tryz.prog 197 #[.slice A l.length c, .int .u8 z] w fun e w' => e = .returned (.int .i64 (Lib.indexByte l z.toNat.toUInt8)) ∧ w = w' := by
  go_enter Tryz.func197, Tryz.ntmps197
  go_wp2
  rw [run_callFunc_extern Tryz.func224 (by kernel_rfl) (by kernel_rfl) (by kernel_rfl) (e := Extern.BytealgIndexByte.indexByte) (by kernel_rfl), run_index hs z]
  simp only [Result.andThen]
  rw [Oper.upon_value]
  go_wp2
  go_ret
  exact ⟨rfl, rfl⟩
end Go.Proofs.YtbpopaegfhcdpaaGreatDoor.X


/- Contracts of bsoncore.ReadLength and valueLength, for all bytes. -/
set_option linter.unusedVariables false
set_option linter.unusedSimpArgs false
set_option maxRecDepth 100000
namespace Go.Proofs.YtbpopaegfhcdpaaGreatDoor.X
open Go.RowKit Go.Proofs.YtbpopaegfhcdpaaGreatDoorW.PrintLast

theorem readI32_short (A : Option Addr) (c : Nat) (l : List UInt8) (w : World) (h4 : l.length < 4) :
    Calls Tryz.prog 117 #[.slice A l.length c] w fun e w' => e = .returned (.tuple #[.int .i32 0, .slice A l.length c, .bool false]) ∧ Below w.heap.size w w' := by
  go_enter Tryz.func117, Tryz.ntmps117
  go_wp2
  exact bodyPost_ret (v := .tuple #[.int .i32 0, .slice A l.length c, .bool false]) (by simp [results, Tryz.results117, go_sem]) rfl ⟨rfl, Below.refl _ _⟩
/-- What the first four bytes say of a length. -/
def readLen : List UInt8 → Int × Bool
  | b0 :: b1 :: b2 :: b3 :: _ => (wrap32 (leI [b0, b1, b2, b3]), decide (0 ≤ wrap32 (leI [b0, b1, b2, b3])))
  | _ => (0, false)
theorem wrap32_bd (n : Int) : -2147483648 ≤ wrap32 n ∧ wrap32 n ≤ 2147483647 := by unfold wrap32; omega
theorem readLen_bd (l : List UInt8) : -2147483648 ≤ (readLen l).1 ∧ (readLen l).1 ≤ 2147483647 := by
  unfold readLen
  split
  · exact wrap32_bd _
  · simp
theorem readLen_neg {l : List UInt8} (h : (readLen l).2 = true) : 0 ≤ (readLen l).1 ∧ 4 ≤ l.length := by
  unfold readLen at h ⊢
  split at h
  · simp at h; exact ⟨h, by simp⟩
  · cases h
theorem readLength (A : Option Addr) (c : Nat) (l : List UInt8) (w : World) (hs : SB w A c l) :
    Calls Tryz.prog 114 #[.slice A l.length c] w fun e w' => ∃ A1 n1 c1, e = .returned (.tuple #[.int .i32 (readLen l).1, .slice A1 n1 c1, .bool (readLen l).2]) ∧ (4 ≤ l.length → n1 = l.length - 4 ∧ c1 = c - 4 ∧ SB w' A1 c1 (l.drop 4)) ∧ (l.length < 4 → A1 = A ∧ n1 = l.length ∧ c1 = c) ∧ Below w.heap.size w w' := by
  by_cases h4 : l.length < 4
  · have hr : readLen l = (0, false) := by
      match l, h4 with
      | [], _ | [_], _ | [_, _], _ | [_, _, _], _ => rfl
    rw [hr]
    have HC := Lib.hid (readI32_short A c l w h4)
    have H4 := Lib.hid h4
    clear hs hr h4
    go_enter Tryz.func114, Tryz.ntmps114
    go_wp2_with fail
    refine HC.out.mono ?_
    rintro e w1 ⟨rfl, hb⟩
    go_wp2_with fail
    exact bodyPost_ret (v := .tuple #[.int .i32 0, .slice A l.length c, .bool false]) (by simp [results, Tryz.results114, go_sem]) rfl ⟨A, l.length, c, rfl, fun h => absurd h (by have := H4.out; omega), fun _ => ⟨rfl, rfl, rfl⟩, hb⟩
  · obtain ⟨b0, b1, b2, b3, r, rfl⟩ : ∃ b0 b1 b2 b3 r, l = b0 :: b1 :: b2 :: b3 :: r := by
      match l, h4 with
      | b0 :: b1 :: b2 :: b3 :: r, _ => exact ⟨b0, b1, b2, b3, r, rfl⟩
      | [], h => exact absurd (by simp) h
      | [_], h => exact absurd (by simp) h
      | [_, _], h => exact absurd (by simp) h
      | [_, _, _], h => exact absurd (by simp) h
    clear h4
    · skip
      have hc := readI32 A c b0 b1 b2 b3 r w hs
      have hr : readLen (b0 :: b1 :: b2 :: b3 :: r) = (wrap32 (leI [b0, b1, b2, b3]), decide (0 ≤ wrap32 (leI [b0, b1, b2, b3]))) := rfl
      rw [hr]
      obtain ⟨x, hx⟩ : ∃ x, x = wrap32 (leI [b0, b1, b2, b3]) := ⟨_, rfl⟩
      rw [← hx] at hc ⊢
      obtain ⟨q, hq⟩ : ∃ q, q = (b0 :: b1 :: b2 :: b3 :: r).length := ⟨_, rfl⟩
      have hq4 : r.length = q - 4 := by rw [hq]; simp
      rw [← hq] at hc ⊢
      have HC := Lib.hid hc
      have HQ4 := Lib.hid hq4
      have hge : 4 ≤ q := by rw [hq]; simp
      clear hs hx hc hr hq hq4
      by_cases h0 : x < 0
      all_goals
        go_enter Tryz.func114, Tryz.ntmps114
        go_wp2_with fail
        refine HC.out.mono ?_
        rintro e w1 ⟨A1, rfl, hs1, hb⟩
        have HS1 := Lib.hid hs1
        clear hs1
        go_wp2_with fail
        exact bodyPost_ret (v := .tuple #[.int .i32 x, .slice A1 r.length (c - 4), .bool (decide (0 ≤ x))]) (by simp [results, Tryz.results114, go_sem]; try omega) rfl ⟨A1, r.length, c - 4, rfl, fun _ => ⟨HQ4.out, rfl, HS1.out⟩, fun h => by omega, hb⟩
theorem idx_lt : ∀ (l : List UInt8) (z : UInt8), Lib.indexByte l z < l.length ∨ l = []
  | [], _ => .inr rfl
  | b :: r, z => by
    left
    unfold Lib.indexByte
    split
    · simp <;> omega
    · split
      · simp <;> omega
      · rcases idx_lt r z with h | h
        · simp <;> omega
        · subst h; rename_i h2; simp [Lib.indexByte] at h2
/-- What valueLength says ahead of its last test. -/
def valBase (k : Int) (l : List UInt8) : Int × Bool :=
  if k = 4 ∨ k = 3 ∨ k = 15 then readLen l
  else if k = 5 then (wrap32 ((readLen l).1 + 5), (readLen l).2)
  else if k = 8 then (1, true)
  else if k = 12 then (wrap32 ((readLen l).1 + 16), (readLen l).2)
  else if k = 9 ∨ k = 1 ∨ k = 18 ∨ k = 17 then (8, true)
  else if k = 19 then (16, true)
  else if k = 16 then (4, true)
  else if k = 13 ∨ k = 2 ∨ k = 14 then (wrap32 ((readLen l).1 + 4), (readLen l).2)
  else if k = 127 ∨ k = 255 ∨ k = 10 ∨ k = 6 then (0, true)
  else if k = 7 then (12, true)
  else if k = 11 then (if Lib.indexByte l 0 < 0 then (0, false) else if Lib.indexByte (l.drop (Lib.indexByte l 0 + 1).toNat) 0 < 0 then (0, false) else (wrap32 (Lib.indexByte l 0 + 1 + Lib.indexByte (l.drop (Lib.indexByte l 0 + 1).toNat) 0 + 1), true))
  else (0, false)
/-- How long a value of a kind is that begins some bytes. -/
def valLen (k : Int) (l : List UInt8) : Int × Bool := ((valBase k l).1, (valBase k l).2 && decide (0 ≤ (valBase k l).1))

set_option maxRecDepth 100000 in
set_option maxHeartbeats 16000000 in
theorem valueLength (A : Option Addr) (c : Nat) (l : List UInt8) (k : Int) (w : World) (hs : SB w A c l) :
    Calls Tryz.prog 169 #[.slice A l.length c, .int .u8 k] w fun e w' => e = .returned (.tuple #[.int .i32 (valLen k l).1, .bool (valLen k l).2]) ∧ Below w.heap.size w w' := by
  have HR := Lib.hid (readLength A c l w hs)
  have hbd := readLen_bd l
  have hlc := hs.le
  have hcc := hs.cap
  have HS := Lib.hid hs
  obtain ⟨n, hn⟩ : ∃ n, n = (readLen l).1 := ⟨_, rfl⟩
  obtain ⟨b, hb⟩ : ∃ b, b = (readLen l).2 := ⟨_, rfl⟩
  rw [← hn] at hbd
  rw [← hn, ← hb] at HR
  have HN := Lib.hid hn
  have HB := Lib.hid hb
  clear hs hn hb
  by_cases k4 : k = 4
  · subst k4
    have HV : Hid (valLen 4 l = (n, b && decide (0 ≤ n))) := Lib.hid (by simp [valLen, valBase, HN.out, HB.out])
    by_cases hx : n < 0
    · have hd : decide (n < 0) = true := decide_eq_true hx
      go_enter Tryz.func169, Tryz.ntmps169
      go_wp2_with fail
      refine HR.out.mono ?_
      rintro e w1 ⟨A1, n1, c1, rfl, -, -, hb1⟩
      go_wp2_with fail
      exact bodyPost_ret (v := .tuple #[.int .i32 (n), .bool (false)]) (by simp [results, Tryz.results169, go_sem]) rfl ⟨by rw [HV.out]; simp; omega, hb1⟩
    · have hd : decide (n < 0) = false := decide_eq_false hx
      go_enter Tryz.func169, Tryz.ntmps169
      go_wp2_with fail
      refine HR.out.mono ?_
      rintro e w1 ⟨A1, n1, c1, rfl, -, -, hb1⟩
      go_wp2_with fail
      exact bodyPost_ret (v := .tuple #[.int .i32 (n), .bool (b)]) (by simp [results, Tryz.results169, go_sem]) rfl ⟨by rw [HV.out]; simp; omega, hb1⟩
  by_cases k3 : k = 3
  · subst k3
    clear k4
    have HV : Hid (valLen 3 l = (n, b && decide (0 ≤ n))) := Lib.hid (by simp [valLen, valBase, HN.out, HB.out])
    by_cases hx : n < 0
    · have hd : decide (n < 0) = true := decide_eq_true hx
      go_enter Tryz.func169, Tryz.ntmps169
      go_wp2_with fail
      refine HR.out.mono ?_
      rintro e w1 ⟨A1, n1, c1, rfl, -, -, hb1⟩
      go_wp2_with fail
      exact bodyPost_ret (v := .tuple #[.int .i32 (n), .bool (false)]) (by simp [results, Tryz.results169, go_sem]) rfl ⟨by rw [HV.out]; simp; omega, hb1⟩
    · have hd : decide (n < 0) = false := decide_eq_false hx
      go_enter Tryz.func169, Tryz.ntmps169
      go_wp2_with fail
      refine HR.out.mono ?_
      rintro e w1 ⟨A1, n1, c1, rfl, -, -, hb1⟩
      go_wp2_with fail
      exact bodyPost_ret (v := .tuple #[.int .i32 (n), .bool (b)]) (by simp [results, Tryz.results169, go_sem]) rfl ⟨by rw [HV.out]; simp; omega, hb1⟩
  by_cases k15 : k = 15
  · subst k15
    clear k4 k3
    have HV : Hid (valLen 15 l = (n, b && decide (0 ≤ n))) := Lib.hid (by simp [valLen, valBase, HN.out, HB.out])
    by_cases hx : n < 0
    · have hd : decide (n < 0) = true := decide_eq_true hx
      go_enter Tryz.func169, Tryz.ntmps169
      go_wp2_with fail
      refine HR.out.mono ?_
      rintro e w1 ⟨A1, n1, c1, rfl, -, -, hb1⟩
      go_wp2_with fail
      exact bodyPost_ret (v := .tuple #[.int .i32 (n), .bool (false)]) (by simp [results, Tryz.results169, go_sem]) rfl ⟨by rw [HV.out]; simp; omega, hb1⟩
    · have hd : decide (n < 0) = false := decide_eq_false hx
      go_enter Tryz.func169, Tryz.ntmps169
      go_wp2_with fail
      refine HR.out.mono ?_
      rintro e w1 ⟨A1, n1, c1, rfl, -, -, hb1⟩
      go_wp2_with fail
      exact bodyPost_ret (v := .tuple #[.int .i32 (n), .bool (b)]) (by simp [results, Tryz.results169, go_sem]) rfl ⟨by rw [HV.out]; simp; omega, hb1⟩
  by_cases k5 : k = 5
  · subst k5
    clear k4 k3 k15
    have HV : Hid (valLen 5 l = (wrap32 (n + 5), b && decide (0 ≤ wrap32 (n + 5)))) := Lib.hid (by simp [valLen, valBase, HN.out, HB.out])
    by_cases hx : wrap32 (n + 5) < 0
    · have hd : decide (wrap32 (n + 5) < 0) = true := decide_eq_true hx
      go_enter Tryz.func169, Tryz.ntmps169
      go_wp2_with fail
      refine HR.out.mono ?_
      rintro e w1 ⟨A1, n1, c1, rfl, -, -, hb1⟩
      go_wp2_with fail
      exact bodyPost_ret (v := .tuple #[.int .i32 (wrap32 (n + 5)), .bool (false)]) (by simp [results, Tryz.results169, go_sem]) rfl ⟨by rw [HV.out]; simp; omega, hb1⟩
    · have hd : decide (wrap32 (n + 5) < 0) = false := decide_eq_false hx
      go_enter Tryz.func169, Tryz.ntmps169
      go_wp2_with fail
      refine HR.out.mono ?_
      rintro e w1 ⟨A1, n1, c1, rfl, -, -, hb1⟩
      go_wp2_with fail
      exact bodyPost_ret (v := .tuple #[.int .i32 (wrap32 (n + 5)), .bool (b)]) (by simp [results, Tryz.results169, go_sem]) rfl ⟨by rw [HV.out]; simp; omega, hb1⟩
  by_cases k8 : k = 8
  · subst k8
    clear k4 k3 k15 k5
    have HV : Hid (valLen 8 l = (1, true)) := Lib.hid (by simp [valLen, valBase])
    go_enter Tryz.func169, Tryz.ntmps169
    go_wp2_with fail
    exact bodyPost_ret (v := .tuple #[.int .i32 (1), .bool (true)]) (by simp [results, Tryz.results169, go_sem]; try omega) rfl ⟨by rw [HV.out], Below.refl _ _⟩
  by_cases k12 : k = 12
  · subst k12
    clear k4 k3 k15 k5 k8
    have HV : Hid (valLen 12 l = (wrap32 (n + 16), b && decide (0 ≤ wrap32 (n + 16)))) := Lib.hid (by simp [valLen, valBase, HN.out, HB.out])
    by_cases hx : wrap32 (n + 16) < 0
    · have hd : decide (wrap32 (n + 16) < 0) = true := decide_eq_true hx
      go_enter Tryz.func169, Tryz.ntmps169
      go_wp2_with fail
      refine HR.out.mono ?_
      rintro e w1 ⟨A1, n1, c1, rfl, -, -, hb1⟩
      go_wp2_with fail
      exact bodyPost_ret (v := .tuple #[.int .i32 (wrap32 (n + 16)), .bool (false)]) (by simp [results, Tryz.results169, go_sem]) rfl ⟨by rw [HV.out]; simp; omega, hb1⟩
    · have hd : decide (wrap32 (n + 16) < 0) = false := decide_eq_false hx
      go_enter Tryz.func169, Tryz.ntmps169
      go_wp2_with fail
      refine HR.out.mono ?_
      rintro e w1 ⟨A1, n1, c1, rfl, -, -, hb1⟩
      go_wp2_with fail
      exact bodyPost_ret (v := .tuple #[.int .i32 (wrap32 (n + 16)), .bool (b)]) (by simp [results, Tryz.results169, go_sem]) rfl ⟨by rw [HV.out]; simp; omega, hb1⟩
  by_cases k9 : k = 9
  · subst k9
    clear k4 k3 k15 k5 k8 k12
    have HV : Hid (valLen 9 l = (8, true)) := Lib.hid (by simp [valLen, valBase])
    go_enter Tryz.func169, Tryz.ntmps169
    go_wp2_with fail
    exact bodyPost_ret (v := .tuple #[.int .i32 (8), .bool (true)]) (by simp [results, Tryz.results169, go_sem]; try omega) rfl ⟨by rw [HV.out], Below.refl _ _⟩
  by_cases k1 : k = 1
  · subst k1
    clear k4 k3 k15 k5 k8 k12 k9
    have HV : Hid (valLen 1 l = (8, true)) := Lib.hid (by simp [valLen, valBase])
    go_enter Tryz.func169, Tryz.ntmps169
    go_wp2_with fail
    exact bodyPost_ret (v := .tuple #[.int .i32 (8), .bool (true)]) (by simp [results, Tryz.results169, go_sem]; try omega) rfl ⟨by rw [HV.out], Below.refl _ _⟩
  by_cases k18 : k = 18
  · subst k18
    clear k4 k3 k15 k5 k8 k12 k9 k1
    have HV : Hid (valLen 18 l = (8, true)) := Lib.hid (by simp [valLen, valBase])
    go_enter Tryz.func169, Tryz.ntmps169
    go_wp2_with fail
    exact bodyPost_ret (v := .tuple #[.int .i32 (8), .bool (true)]) (by simp [results, Tryz.results169, go_sem]; try omega) rfl ⟨by rw [HV.out], Below.refl _ _⟩
  by_cases k17 : k = 17
  · subst k17
    clear k4 k3 k15 k5 k8 k12 k9 k1 k18
    have HV : Hid (valLen 17 l = (8, true)) := Lib.hid (by simp [valLen, valBase])
    go_enter Tryz.func169, Tryz.ntmps169
    go_wp2_with fail
    exact bodyPost_ret (v := .tuple #[.int .i32 (8), .bool (true)]) (by simp [results, Tryz.results169, go_sem]; try omega) rfl ⟨by rw [HV.out], Below.refl _ _⟩
  by_cases k19 : k = 19
  · subst k19
    clear k4 k3 k15 k5 k8 k12 k9 k1 k18 k17
    have HV : Hid (valLen 19 l = (16, true)) := Lib.hid (by simp [valLen, valBase])
    go_enter Tryz.func169, Tryz.ntmps169
    go_wp2_with fail
    exact bodyPost_ret (v := .tuple #[.int .i32 (16), .bool (true)]) (by simp [results, Tryz.results169, go_sem]; try omega) rfl ⟨by rw [HV.out], Below.refl _ _⟩
  by_cases k16 : k = 16
  · subst k16
    clear k4 k3 k15 k5 k8 k12 k9 k1 k18 k17 k19
    have HV : Hid (valLen 16 l = (4, true)) := Lib.hid (by simp [valLen, valBase])
    go_enter Tryz.func169, Tryz.ntmps169
    go_wp2_with fail
    exact bodyPost_ret (v := .tuple #[.int .i32 (4), .bool (true)]) (by simp [results, Tryz.results169, go_sem]; try omega) rfl ⟨by rw [HV.out], Below.refl _ _⟩
  by_cases k13 : k = 13
  · subst k13
    clear k4 k3 k15 k5 k8 k12 k9 k1 k18 k17 k19 k16
    have HV : Hid (valLen 13 l = (wrap32 (n + 4), b && decide (0 ≤ wrap32 (n + 4)))) := Lib.hid (by simp [valLen, valBase, HN.out, HB.out])
    by_cases hx : wrap32 (n + 4) < 0
    · have hd : decide (wrap32 (n + 4) < 0) = true := decide_eq_true hx
      go_enter Tryz.func169, Tryz.ntmps169
      go_wp2_with fail
      refine HR.out.mono ?_
      rintro e w1 ⟨A1, n1, c1, rfl, -, -, hb1⟩
      go_wp2_with fail
      exact bodyPost_ret (v := .tuple #[.int .i32 (wrap32 (n + 4)), .bool (false)]) (by simp [results, Tryz.results169, go_sem]) rfl ⟨by rw [HV.out]; simp; omega, hb1⟩
    · have hd : decide (wrap32 (n + 4) < 0) = false := decide_eq_false hx
      go_enter Tryz.func169, Tryz.ntmps169
      go_wp2_with fail
      refine HR.out.mono ?_
      rintro e w1 ⟨A1, n1, c1, rfl, -, -, hb1⟩
      go_wp2_with fail
      exact bodyPost_ret (v := .tuple #[.int .i32 (wrap32 (n + 4)), .bool (b)]) (by simp [results, Tryz.results169, go_sem]) rfl ⟨by rw [HV.out]; simp; omega, hb1⟩
  by_cases k2 : k = 2
  · subst k2
    clear k4 k3 k15 k5 k8 k12 k9 k1 k18 k17 k19 k16 k13
    have HV : Hid (valLen 2 l = (wrap32 (n + 4), b && decide (0 ≤ wrap32 (n + 4)))) := Lib.hid (by simp [valLen, valBase, HN.out, HB.out])
    by_cases hx : wrap32 (n + 4) < 0
    · have hd : decide (wrap32 (n + 4) < 0) = true := decide_eq_true hx
      go_enter Tryz.func169, Tryz.ntmps169
      go_wp2_with fail
      refine HR.out.mono ?_
      rintro e w1 ⟨A1, n1, c1, rfl, -, -, hb1⟩
      go_wp2_with fail
      exact bodyPost_ret (v := .tuple #[.int .i32 (wrap32 (n + 4)), .bool (false)]) (by simp [results, Tryz.results169, go_sem]) rfl ⟨by rw [HV.out]; simp; omega, hb1⟩
    · have hd : decide (wrap32 (n + 4) < 0) = false := decide_eq_false hx
      go_enter Tryz.func169, Tryz.ntmps169
      go_wp2_with fail
      refine HR.out.mono ?_
      rintro e w1 ⟨A1, n1, c1, rfl, -, -, hb1⟩
      go_wp2_with fail
      exact bodyPost_ret (v := .tuple #[.int .i32 (wrap32 (n + 4)), .bool (b)]) (by simp [results, Tryz.results169, go_sem]) rfl ⟨by rw [HV.out]; simp; omega, hb1⟩
  by_cases k14 : k = 14
  · subst k14
    clear k4 k3 k15 k5 k8 k12 k9 k1 k18 k17 k19 k16 k13 k2
    have HV : Hid (valLen 14 l = (wrap32 (n + 4), b && decide (0 ≤ wrap32 (n + 4)))) := Lib.hid (by simp [valLen, valBase, HN.out, HB.out])
    by_cases hx : wrap32 (n + 4) < 0
    · have hd : decide (wrap32 (n + 4) < 0) = true := decide_eq_true hx
      go_enter Tryz.func169, Tryz.ntmps169
      go_wp2_with fail
      refine HR.out.mono ?_
      rintro e w1 ⟨A1, n1, c1, rfl, -, -, hb1⟩
      go_wp2_with fail
      exact bodyPost_ret (v := .tuple #[.int .i32 (wrap32 (n + 4)), .bool (false)]) (by simp [results, Tryz.results169, go_sem]) rfl ⟨by rw [HV.out]; simp; omega, hb1⟩
    · have hd : decide (wrap32 (n + 4) < 0) = false := decide_eq_false hx
      go_enter Tryz.func169, Tryz.ntmps169
      go_wp2_with fail
      refine HR.out.mono ?_
      rintro e w1 ⟨A1, n1, c1, rfl, -, -, hb1⟩
      go_wp2_with fail
      exact bodyPost_ret (v := .tuple #[.int .i32 (wrap32 (n + 4)), .bool (b)]) (by simp [results, Tryz.results169, go_sem]) rfl ⟨by rw [HV.out]; simp; omega, hb1⟩
  by_cases k127 : k = 127
  · subst k127
    clear k4 k3 k15 k5 k8 k12 k9 k1 k18 k17 k19 k16 k13 k2 k14
    have HV : Hid (valLen 127 l = (0, true)) := Lib.hid (by simp [valLen, valBase])
    go_enter Tryz.func169, Tryz.ntmps169
    go_wp2_with fail
    exact bodyPost_ret (v := .tuple #[.int .i32 (0), .bool (true)]) (by simp [results, Tryz.results169, go_sem]; try omega) rfl ⟨by rw [HV.out], Below.refl _ _⟩
  by_cases k255 : k = 255
  · subst k255
    clear k4 k3 k15 k5 k8 k12 k9 k1 k18 k17 k19 k16 k13 k2 k14 k127
    have HV : Hid (valLen 255 l = (0, true)) := Lib.hid (by simp [valLen, valBase])
    go_enter Tryz.func169, Tryz.ntmps169
    go_wp2_with fail
    exact bodyPost_ret (v := .tuple #[.int .i32 (0), .bool (true)]) (by simp [results, Tryz.results169, go_sem]; try omega) rfl ⟨by rw [HV.out], Below.refl _ _⟩
  by_cases k10 : k = 10
  · subst k10
    clear k4 k3 k15 k5 k8 k12 k9 k1 k18 k17 k19 k16 k13 k2 k14 k127 k255
    have HV : Hid (valLen 10 l = (0, true)) := Lib.hid (by simp [valLen, valBase])
    go_enter Tryz.func169, Tryz.ntmps169
    go_wp2_with fail
    exact bodyPost_ret (v := .tuple #[.int .i32 (0), .bool (true)]) (by simp [results, Tryz.results169, go_sem]; try omega) rfl ⟨by rw [HV.out], Below.refl _ _⟩
  by_cases k6 : k = 6
  · subst k6
    clear k4 k3 k15 k5 k8 k12 k9 k1 k18 k17 k19 k16 k13 k2 k14 k127 k255 k10
    have HV : Hid (valLen 6 l = (0, true)) := Lib.hid (by simp [valLen, valBase])
    go_enter Tryz.func169, Tryz.ntmps169
    go_wp2_with fail
    exact bodyPost_ret (v := .tuple #[.int .i32 (0), .bool (true)]) (by simp [results, Tryz.results169, go_sem]; try omega) rfl ⟨by rw [HV.out], Below.refl _ _⟩
  by_cases k7 : k = 7
  · subst k7
    clear k4 k3 k15 k5 k8 k12 k9 k1 k18 k17 k19 k16 k13 k2 k14 k127 k255 k10 k6
    have HV : Hid (valLen 7 l = (12, true)) := Lib.hid (by simp [valLen, valBase])
    go_enter Tryz.func169, Tryz.ntmps169
    go_wp2_with fail
    exact bodyPost_ret (v := .tuple #[.int .i32 (12), .bool (true)]) (by simp [results, Tryz.results169, go_sem]; try omega) rfl ⟨by rw [HV.out], Below.refl _ _⟩
  by_cases k11 : k = 11
  · subst k11
    clear k4 k3 k15 k5 k8 k12 k9 k1 k18 k17 k19 k16 k13 k2 k14 k127 k255 k10 k6 k7
    have hi0 := Lib.indexByte_ge l 0
    have hi1 : Lib.indexByte l 0 < l.length ∨ Lib.indexByte l 0 = -1 := (idx_lt l 0).imp_right (fun h => by subst h; rfl)
    have HI := Lib.hid (fun wx (h : Below w.heap.size w wx) => bytesIndexByte A c l 0 wx (HS.out.keep h))
    rw [show (0 : Int).toNat.toUInt8 = 0 from rfl] at HI
    obtain ⟨i, hi⟩ : ∃ i, i = Lib.indexByte l 0 := ⟨_, rfl⟩
    rw [← hi] at HI hi1 hi0
    by_cases hneg : i < 0
    · have HV : Hid (valLen 11 l = (0, false)) := Lib.hid (by simp [valLen, valBase, ← hi, hneg])
      clear hi HN HB HR HS
      go_enter Tryz.func169, Tryz.ntmps169
      go_wp2_with fail
      refine (HI.out _ (Below.refl _ _)).mono ?_
      rintro e w1 ⟨rfl, rfl⟩
      go_wp2_with fail
      exact bodyPost_ret (v := .tuple #[.int .i32 0, .bool false]) (by simp [results, Tryz.results169, go_sem]) rfl ⟨by rw [HV.out], Below.refl _ _⟩
    obtain ⟨m, rfl⟩ : ∃ m : Nat, i = m := ⟨i.toNat, by omega⟩
    have hml : m + 1 ≤ l.length := by omega
    obtain ⟨A2, e2, s2⟩ := SB.from_ (P := Tryz.prog) Tryz.underlying22 rfl rfl .i64 A c l (m + 1) hml hlc
    have e2' : ∀ W : World, (Instr.slice 22 (.slice A l.length c) (some (.int .i64 ((m : Int) + 1))) none none).run Tryz.prog W = .ok (.slice A2 (l.length - (m + 1)) (c - (m + 1))) W := fun W => by have h := e2 W; rw [show ((m + 1 : Nat) : Int) = (m : Int) + 1 from by omega] at h; exact h
    have hj0 := Lib.indexByte_ge (l.drop (m + 1)) 0
    have hj1 : Lib.indexByte (l.drop (m + 1)) 0 < (l.drop (m + 1)).length ∨ Lib.indexByte (l.drop (m + 1)) 0 = -1 := (idx_lt (l.drop (m + 1)) 0).imp_right (fun h => by rw [h]; rfl)
    have HJ := Lib.hid (fun wx (h : Below w.heap.size w wx) => bytesIndexByte A2 (c - (m + 1)) (l.drop (m + 1)) 0 wx (s2 wx (HS.out.keep h)))
    rw [show (0 : Int).toNat.toUInt8 = 0 from rfl, List.length_drop] at HJ
    rw [List.length_drop] at hj1
    obtain ⟨j, hj⟩ : ∃ j, j = Lib.indexByte (l.drop (m + 1)) 0 := ⟨_, rfl⟩
    rw [← hj] at HJ hj1 hj0
    obtain ⟨q, hq⟩ : ∃ q, q = l.length := ⟨_, rfl⟩
    have hm2 : ((m : Int) + 1).toNat = m + 1 := by omega
    have hv2 : valLen 11 l = if j < 0 then (0, false) else (wrap32 ((m : Int) + 1 + j + 1), decide (0 ≤ wrap32 ((m : Int) + 1 + j + 1))) := by
      simp only [valLen, valBase, ← hi]
      rw [if_neg (by omega), if_neg (by omega), if_neg (by omega), if_neg (by omega), if_neg (by omega), if_neg (by omega), if_neg (by omega), if_neg (by omega), if_neg (by omega), if_neg (by omega)]
      simp only [if_true]
      rw [if_neg hneg, hm2, ← hj]
      split <;> simp
    rw [← hq] at HI HJ e2' hml hlc hj1 hi1 ⊢
    clear e2 s2 hi hj hq HN HB HR HS hm2
    by_cases hjn : j < 0
    · rw [if_pos hjn] at hv2
      have HV := Lib.hid hv2
      clear hv2
      go_enter Tryz.func169, Tryz.ntmps169
      go_wp2_with fail
      refine (HI.out _ (Below.refl _ _)).mono ?_
      rintro e w1 ⟨rfl, rfl⟩
      go_wp2_with fail
      refine (HJ.out _ (Below.refl _ _)).mono ?_
      rintro e w1 ⟨rfl, rfl⟩
      go_wp2_with fail
      exact bodyPost_ret (v := .tuple #[.int .i32 0, .bool false]) (by simp [results, Tryz.results169, go_sem]) rfl ⟨by rw [HV.out], Below.refl _ _⟩
    rw [if_neg hjn] at hv2
    have HV := Lib.hid hv2
    clear hv2
    by_cases hx : wrap32 ((m : Int) + 1 + j + 1) < 0
    all_goals
      have hd : decide (wrap32 ((m : Int) + 1 + j + 1) < 0) = decide (wrap32 ((m : Int) + 1 + j + 1) < 0) := rfl
      go_enter Tryz.func169, Tryz.ntmps169
      go_wp2_with fail
      refine (HI.out _ (Below.refl _ _)).mono ?_
      rintro e w1 ⟨rfl, rfl⟩
      go_wp2_with fail
      refine (HJ.out _ (Below.refl _ _)).mono ?_
      rintro e w1 ⟨rfl, rfl⟩
      go_wp2_with fail
      exact bodyPost_ret (v := .tuple #[.int .i32 (wrap32 ((m : Int) + 1 + j + 1)), .bool (decide (0 ≤ wrap32 ((m : Int) + 1 + j + 1)))]) (by simp [results, Tryz.results169, go_sem]; try omega) rfl ⟨by rw [HV.out], Below.refl _ _⟩
  have hne : (k == 4) = false ∧ (k == 3) = false ∧ (k == 15) = false ∧ (k == 5) = false ∧ (k == 8) = false ∧ (k == 12) = false ∧ (k == 9) = false ∧ (k == 1) = false ∧ (k == 18) = false ∧ (k == 17) = false ∧ (k == 19) = false ∧ (k == 16) = false ∧ (k == 13) = false ∧ (k == 2) = false ∧ (k == 14) = false ∧ (k == 127) = false ∧ (k == 255) = false ∧ (k == 10) = false ∧ (k == 6) = false ∧ (k == 7) = false ∧ (k == 11) = false := by simp only [beq_eq_false_iff_ne, ne_eq]; exact ⟨k4, k3, k15, k5, k8, k12, k9, k1, k18, k17, k19, k16, k13, k2, k14, k127, k255, k10, k6, k7, k11⟩
  obtain ⟨e4, e3, e15, e5, e8, e12, e9, e1, e18, e17, e19, e16, e13, e2, e14, e127, e255, e10, e6, e7, e11⟩ := hne
  have HV : Hid (valLen k l = (0, false)) := Lib.hid (by simp [valLen, valBase, k4, k3, k15, k5, k8, k12, k9, k1, k18, k17, k19, k16, k13, k2, k14, k127, k255, k10, k6, k7, k11])
  clear k4 k3 k15 k5 k8 k12 k9 k1 k18 k17 k19 k16 k13 k2 k14 k127 k255 k10 k6 k7 k11
  go_enter Tryz.func169, Tryz.ntmps169
  go_wp2_with fail
  exact bodyPost_ret (v := .tuple #[.int .i32 (0), .bool (false)]) (by simp [results, Tryz.results169, go_sem]; try omega) rfl ⟨by rw [HV.out], Below.refl _ _⟩
end Go.Proofs.YtbpopaegfhcdpaaGreatDoor.X


