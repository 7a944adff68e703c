/- Contract of spec.VectorOf at floats of 32 bits. -/
import Derived.Test.YtjjfdamlicoeeaaDoorVecT
import Derived.Lib.EndianBits
set_option linter.unusedVariables false
set_option linter.unusedSimpArgs false
set_option maxRecDepth 100000
namespace Go.Proofs.YtjjfdamlicoeeaaDoor.X
open Go.RowKit Go.Deep Go.Proofs.YtjjfdamlicoeeaaDoorW.PrintLast
def R19.T21 : Bool × List (List Nat × List Nat) := (true, [([], []), ([0], [0]), ([], []), ([], []), ([2, 3], [2, 3]), ([4], [4]), ([5], [5]), ([], []), ([], []), ([8], [8]), ([7, 9], [7, 9]), ([10], [10]), ([11], [11]), ([12], [12]), ([6, 13], [6, 13]), ([], []), ([], []), ([16], [16]), ([15, 17], [15, 17]), ([18], [18]), ([19], [19]), ([20], [20]), ([14, 21], [14, 21]), ([], []), ([], []), ([24], [24]), ([23, 25], [23, 25]), ([26], [26]), ([27], [27]), ([28], [28]), ([22, 29], [22, 29]), ([30], [30]), ([1, 31], [1, 31]), ([0, 1, 2, 3, 4, 5, 6, 7, 8, 9, 10, 11, 12, 13, 14, 15, 16, 17, 18, 19, 20, 21, 22, 23, 24, 25, 26, 27, 28, 29, 30, 31, 32], []), ([33, 32, 32, 0, 1, 2, 3, 4, 5, 6, 7, 8, 9, 10, 11, 12, 13, 14, 15, 16, 17, 18, 19, 20, 21, 22, 23, 24, 25, 26, 27, 28, 29, 30, 31, 32], [32, 33])])
def R19.B21 : List Nat := [0, 1, 0, 0, 12, 28, 60, 0, 0, 256, 896, 1920, 3968, 8064, 16380, 0, 0, 65536, 229376, 491520, 1015808, 2064384, 4194300, 0, 0, 16777216, 58720256, 125829120, 260046848, 528482304, 1073741820, 2147483644, 4294967295, 8589934591, 17179869183]
theorem R19.tab21 : rtab .any (opsOf Tryd.f19 21) = R19.T21 := by kernel_rfl
theorem R19.bits21 : waitsOk R19.T21.2 R19.B21 = true := by kernel_rfl
def SFRel (w0 : World) (V m : Nat) (r : List UInt8) (i : Value) (wr : World) : Prop := ∃ (k : Nat) (v : Value), k ≤ m ∧ i = .int .i64 (4 * (k : Int)) ∧ FC w0 V (u32v ((quads r).take k)) v wr
theorem getF4 (A : Option Addr) (c k m : Nat) (r : List UInt8) (w : World) (hs : SB w A c r) (hm : r.length = 4 * m) (hk : k < m) : ∃ b off y0 y1 y2 y3, A = some ⟨b, off, none⟩ ∧ b < w.heap.size ∧ (quads r).take (k + 1) = (quads r).take k ++ [Lib.leNat [y0, y1, y2, y3]] ∧
    w.cell? ⟨b, off + 4 * k, none⟩ = some (.int .u8 (y0.toNat : Int)) ∧ w.cell? ⟨b, off + (4 * k + 1), none⟩ = some (.int .u8 (y1.toNat : Int)) ∧ w.cell? ⟨b, off + (4 * k + 2), none⟩ = some (.int .u8 (y2.toNat : Int)) ∧ w.cell? ⟨b, off + (4 * k + 3), none⟩ = some (.int .u8 (y3.toNat : Int)) := by
  obtain ⟨y0, y1, y2, y3, r', hdr, htk⟩ := quads_at k m r hm hk
  obtain ⟨b, off, hA, hc⟩ := hs.cells (by omega)
  have g : ∀ j, (h : 4 * k + j < r.length) → r[4 * k + j] = (y0 :: y1 :: y2 :: y3 :: r')[j]'(by have := congrArg List.length hdr; simp at this; simp; omega) := fun j h => by
    have e : (r.drop (4 * k))[j]? = (y0 :: y1 :: y2 :: y3 :: r')[j]? := by rw [hdr]
    rw [List.getElem?_drop, List.getElem?_eq_getElem h, List.getElem?_eq_getElem (by have := congrArg List.length hdr; simp at this; simp; omega)] at e
    exact Option.some.inj e
  refine ⟨b, off, y0, y1, y2, y3, hA, World.block_lt_of_cell? w _ (hc 0 (by omega)), htk, ?_, ?_, ?_, ?_⟩
  · rw [hc (4 * k) (by omega)]; have := g 0 (by omega); simp only [Nat.add_zero, List.getElem_cons_zero] at this; rw [this]
  · rw [hc (4 * k + 1) (by omega), g 1 (by omega)]; rfl
  · rw [hc (4 * k + 2) (by omega), g 2 (by omega)]; rfl
  · rw [hc (4 * k + 3) (by omega), g 3 (by omega)]; rfl
set_option maxHeartbeats 1000000 in
theorem specOf39 (A : Option Addr) (c m : Nat) (r : List UInt8) (w : World) (hs : SB w A c (39 :: 0 :: r)) (hm : r.length = 4 * m) (hl : r.length ≤ 1000000) :
    Calls Tryd.prog 19 #[.int .i64 9, .slice A (r.length + 2) c] w fun e w' => ∃ A' c', e = .returned (.tuple #[ivec39 A' m c', .bool true]) ∧ GS w' A' c' (u32v (quads r)) ∧ Below w.heap.size w w' := by
  obtain ⟨b, off, rfl, hc⟩ := hs.cells (by simp)
  have hc0 := hc 0 (by simp)
  have hc1 := hc 1 (by simp)
  simp at hc0 hc1
  have hblt : b < w.heap.size := World.block_lt_of_cell? w _ hc0
  have hb1 : b < w.heap.size + 1 := by omega
  have hb2 : b < w.heap.size + 1 + 1 := by omega
  obtain ⟨A1, e1, s1⟩ := SB.from_ (P := Tryd.prog) Tryd.underlying38 rfl rfl .i64 (some ⟨b, off, none⟩) c (39 :: 0 :: r) 2 (by simp) hs.le
  have HS1 := Lib.hid (s1 w hs)
  have hle := hs.le
  have hcap := hs.cap
  have hql := quads_len m r hm
  simp only [List.length_cons, show r.length + 1 + 1 - 2 = r.length from by omega, Int.cast_ofNat_Int] at e1 hle
  obtain ⟨q, hq⟩ : ∃ q, q = r.length := ⟨_, rfl⟩
  rw [← hq] at e1 hle hl
  rw [← hq]
  have hlt2 : decide ((q : Int) + 2 < 2) = false := by simp; omega
  have hrem : ((q : Int) % 4 != 0) = false := by simp; omega
  have HM : Hid (r.length = 4 * m) := Lib.hid hm
  have HQ := Lib.hid hq
  have HQL := Lib.hid hql
  clear hq hs hc s1 hm hql
  go_enter Tryd.func19, Tryd.ntmps19
  go_wp2_with fail
  go_loopw [10] (fun i wr => SFRel (w.alloc (.cells #[.int .i64 0, .slice none 0 0, .slice none 0 0, .slice none 0 0, .int .i64 0] 42)) (w.heap.size + 1) m r i wr) (fun i _ => q - (intOf i).toNat)
  case atStart => exact ⟨0, .slice none 0 0, Nat.zero_le _, by simp, ⟨by simp [go_sem], by simp [go_sem], by simp [go_sem], by simp [go_sem], by simp [go_sem], fun o => by simp [go_sem], by simpa [u32v] using OG.nil _ _, by simp [Value.ownBlock], balloc (Below.refl _ _) (by simp) _, by simp⟩⟩
  case round =>
    obtain ⟨k, v, hk, rfl, fc⟩ := hrel
    have hq := HQ.out
    have hm := HM.out
    by_cases hkm : k < m
    · obtain ⟨b3, o3, y0, y1, y2, y3, hA3, hb3, htk, x0, x1, x2, x3⟩ := getF4 A1 (c - 2) k m r w HS1.out hm hkm
      have kp : ∀ o, wr.cell? ⟨b3, o, none⟩ = w.cell? ⟨b3, o, none⟩ := fun o => by rw [fc.bl.cell (p := ⟨b3, o, none⟩) (by show b3 < w.heap.size + 1; omega), World.cell?_alloc_past _ _ _ hb3]
      have z0 := (kp _).trans x0
      have z1 := (kp _).trans x1
      have z2 := (kp _).trans x2
      have z3 := (kp _).trans x3
      obtain ⟨n, hn⟩ : ∃ n, n = Lib.leNat [y0, y1, y2, y3] := ⟨_, rfl⟩
      rw [← hn] at htk
      have t0 := y0.toNat_lt
      have t1 := y1.toNat_lt
      have t2 := y2.toNat_lt
      have t3 := y3.toNat_lt
      obtain ⟨a0, ha0⟩ : ∃ a : Int, a = (y0.toNat : Int) := ⟨_, rfl⟩
      obtain ⟨a1, ha1⟩ : ∃ a : Int, a = (y1.toNat : Int) := ⟨_, rfl⟩
      obtain ⟨a2, ha2⟩ : ∃ a : Int, a = (y2.toNat : Int) := ⟨_, rfl⟩
      obtain ⟨a3, ha3⟩ : ∃ a : Int, a = (y3.toNat : Int) := ⟨_, rfl⟩
      rw [← ha0] at z0
      rw [← ha1] at z1
      rw [← ha2] at z2
      rw [← ha3] at z3
      have b0 : 0 ≤ a0 ∧ a0 ≤ 255 := by omega
      have b1 : 0 ≤ a1 ∧ a1 ≤ 255 := by omega
      have b2 : 0 ≤ a2 ∧ a2 ≤ 255 := by omega
      have b4 : 0 ≤ a3 ∧ a3 ≤ 255 := by omega
      obtain ⟨y, hy⟩ : ∃ y : Int, y = 4 * (k : Int) := ⟨_, rfl⟩
      rw [← hy]
      have hyb : 0 ≤ y ∧ y + 3 < (q : Int) := by omega
      have hkb : k ≤ 1000000 := by omega
      rw [show o3 + 4 * k = o3 + y.toNat from by omega] at z0
      rw [show o3 + (4 * k + 1) = o3 + (y + 1).toNat from by omega] at z1
      rw [show o3 + (4 * k + 2) = o3 + (y + 2).toNat from by omega] at z2
      rw [show o3 + (4 * k + 3) = o3 + (y + 3).toNat from by omega] at z3
      have i1 : wrap64 (y + 1) = y + 1 := by unfold wrap64; omega
      have i2 : wrap64 (y + 2) = y + 2 := by unfold wrap64; omega
      have i3 : wrap64 (y + 3) = y + 3 := by unfold wrap64; omega
      have l0 : decide (y < (q : Int)) = true := by simp; omega
      have L0 : (y < (q : Int)) = True := by simp; omega
      have M0 : (0 ≤ y) = True := by simp; omega
      have M1 : (0 ≤ y + 1) = True := by simp; omega
      have M2 : (0 ≤ y + 2) = True := by simp; omega
      have M3 : (0 ≤ y + 3) = True := by simp; omega
      have L1 : (y + 1 < (q : Int)) = True := by simp; omega
      have L2 : (y + 2 < (q : Int)) = True := by simp; omega
      have L3 : (y + 3 < (q : Int)) = True := by simp; omega
      have c0 : IntKind.u32.wrap a0 = a0 := IntWalk.u32_in _ (by omega)
      have c1 : IntKind.u32.wrap a1 = a1 := IntWalk.u32_in _ (by omega)
      have c2 : IntKind.u32.wrap a2 = a2 := IntWalk.u32_in _ (by omega)
      have c3 : IntKind.u32.wrap a3 = a3 := IntWalk.u32_in _ (by omega)
      obtain ⟨p1, hp1⟩ : ∃ p : Int, p = a1 * 256 := ⟨_, rfl⟩
      obtain ⟨p2, hp2⟩ : ∃ p : Int, p = a2 * 65536 := ⟨_, rfl⟩
      obtain ⟨p3, hp3⟩ : ∃ p : Int, p = a3 * 16777216 := ⟨_, rfl⟩
      obtain ⟨s1, hs1⟩ : ∃ p : Int, p = a0 + p1 := ⟨_, rfl⟩
      obtain ⟨s2, hs2⟩ : ∃ p : Int, p = s1 + p2 := ⟨_, rfl⟩
      have w1 : IntKind.u32.wrap (a1 * 256) = p1 := by rw [hp1]; exact IntWalk.u32_in _ (by omega)
      have w2 : IntKind.u32.wrap (a2 * 65536) = p2 := by rw [hp2]; exact IntWalk.u32_in _ (by omega)
      have w3 : IntKind.u32.wrap (a3 * 16777216) = p3 := by rw [hp3]; exact IntWalk.u32_in _ (by omega)
      have q1 : bits .or .u32 a0 p1 = s1 := by rw [hs1]; exact Go.u32_or8 _ _ (by omega) (by omega) (by omega) (by omega) (by omega)
      have q2 : bits .or .u32 s1 p2 = s2 := by rw [hs2]; exact Go.u32_or16 _ _ (by omega) (by omega) (by omega) (by omega) (by omega)
      have q3 : bits .or .u32 s2 p3 = (n : Int) := by
        rw [Go.u32_or24 _ _ (by omega) (by omega) (by omega) (by omega) (by omega), hn]
        simp only [Lib.leNat]
        omega
      clear hp1 hp2 hp3 hs1 hs2
      obtain ⟨L, hL⟩ : ∃ L, L = u32v ((quads r).take k) := ⟨_, rfl⟩
      have hl6 : L.length = k := by rw [hL]; simp only [u32v, List.length_map, List.length_take]; have := HQL.out; omega
      rw [← hL] at fc
      obtain ⟨A6, c6, hv6, hg6, hn6⟩ := fc.og.sb
      rw [hl6] at hv6
      subst hv6
      have HL := Lib.hid hL
      have HLL := Lib.hid hl6
      have HTK := Lib.hid htk
      have HNN := Lib.hid hn
      have HA : Hid (a0 = y0.toNat ∧ a1 = y1.toNat ∧ a2 = y2.toNat ∧ a3 = y3.toNat) := Lib.hid ⟨ha0, ha1, ha2, ha3⟩
      have HYY := Lib.hid hy
      have hg2 := fc.c2
      have hgf := fc.fz 2
      have hVlt := fc.lt
      have hbw : b3 < wr.heap.size := by omega
      have HFK := Lib.hid fc
      subst hA3
      clear hn hL hl6 hg6 hn6 fc hy ha0 ha1 ha2 ha3 htk x0 x1 x2 x3 kp hq hm
      go_wp2_with fail
      refine start_ (n := 35) (S := fun w' => w'.cell? ⟨b3, o3 + y.toNat, none⟩ = some (.int .u8 a0) ∧ w'.cell? ⟨b3, o3 + (y + 1).toNat, none⟩ = some (.int .u8 a1) ∧ w'.cell? ⟨b3, o3 + (y + 2).toNat, none⟩ = some (.int .u8 a2) ∧ w'.cell? ⟨b3, o3 + (y + 3).toNat, none⟩ = some (.int .u8 a3) ∧ w'.cell? ⟨w.heap.size + 1, 2, none⟩ = some (.slice A6 k c6)) (ds := [34]) #[false, false, false, false, false, false, false, false, false, false, false, false, false, false, false, false, false, false, false, false, false, false, false, false, false, false, false, false, false, false, false, false, false, false, false] (by kernel_rfl) rfl rfl ⟨(by go_simp), (by go_simp), (by go_simp), (by go_simp), (by go_simp)⟩ (fun hHeld => ?_)
      refine with_tabW R19.tab21 R19.bits21 (fun HT_ HW_ => ?_)
      refine pure_ (i := 0) (N := some 70) (v := ?_) (a' := ?_) #[true, false, false, false, false, false, false, false, false, false, false, false, false, false, false, false, false, false, false, false, false, false, false, false, false, false, false, false, false, false, false, false, false, false, false] rfl rfl (any_of HT_.out (by kernel_rfl)) (fun _ _ _ h => h) (Or.inl ⟨by rfl, ?_⟩) ?_ ?_
      rotate_left
      · intro w'
        go_simp
        with_reducible rfl
      rotate_left
      · simp only [Act.put, List.setIfInBounds_toArray, List.set_cons_zero, List.set_cons_succ, i64_w, i32_w]
        rfl
      refine pure_ (i := 2) (N := some 72) (v := ?_) (a' := ?_) #[true, false, true, false, false, false, false, false, false, false, false, false, false, false, false, false, false, false, false, false, false, false, false, false, false, false, false, false, false, false, false, false, false, false, false] rfl rfl (any_of HT_.out (by kernel_rfl)) (fun _ _ _ h => h) (Or.inl ⟨by rfl, ?_⟩) ?_ ?_
      rotate_left
      · intro w'
        go_simp
        with_reducible rfl
      rotate_left
      · simp only [Act.put, List.setIfInBounds_toArray, List.set_cons_zero, List.set_cons_succ, i64_w, i32_w]
        rfl
      refine pure_ (i := 3) (N := some 73) (v := ?_) (a' := ?_) #[true, false, true, true, false, false, false, false, false, false, false, false, false, false, false, false, false, false, false, false, false, false, false, false, false, false, false, false, false, false, false, false, false, false, false] rfl rfl (any_of HT_.out (by kernel_rfl)) (fun _ _ _ h => h) (Or.inl ⟨by rfl, ?_⟩) ?_ ?_
      rotate_left
      · intro w'
        go_simp
        with_reducible rfl
      rotate_left
      · simp only [Act.put, List.setIfInBounds_toArray, List.set_cons_zero, List.set_cons_succ, i64_w, i32_w]
        rfl
      refine pure_ (i := 4) (N := some 74) (v := ?_) (a' := ?_) #[true, false, true, true, true, false, false, false, false, false, false, false, false, false, false, false, false, false, false, false, false, false, false, false, false, false, false, false, false, false, false, false, false, false, false] rfl rfl (any_of HT_.out (by kernel_rfl)) (fun _ _ _ h => h) (Or.inl ⟨by rfl, ?_⟩) ?_ ?_
      rotate_left
      · intro w'
        go_simp
        with_reducible rfl
      rotate_left
      · simp only [Act.put, List.setIfInBounds_toArray, List.set_cons_zero, List.set_cons_succ, i64_w, i32_w]
        rfl
      refine pure_ (i := 7) (N := some 77) (v := ?_) (a' := ?_) #[true, false, true, true, true, false, false, true, false, false, false, false, false, false, false, false, false, false, false, false, false, false, false, false, false, false, false, false, false, false, false, false, false, false, false] rfl rfl (any_of HT_.out (by kernel_rfl)) (fun _ _ _ h => h) (Or.inl ⟨by rfl, ?_⟩) ?_ ?_
      rotate_left
      · intro w'
        go_simp
        with_reducible rfl
      rotate_left
      · simp only [Act.put, List.setIfInBounds_toArray, List.set_cons_zero, List.set_cons_succ, i64_w, i32_w]
        rfl
      refine pure_ (i := 8) (N := some 78) (v := ?_) (a' := ?_) #[true, false, true, true, true, false, false, true, true, false, false, false, false, false, false, false, false, false, false, false, false, false, false, false, false, false, false, false, false, false, false, false, false, false, false] rfl rfl (any_of HT_.out (by kernel_rfl)) (fun _ _ _ h => h) (Or.inl ⟨by rfl, ?_⟩) ?_ ?_
      rotate_left
      · intro w'
        go_simp
        with_reducible rfl
      rotate_left
      · simp only [Act.put, List.setIfInBounds_toArray, List.set_cons_zero, List.set_cons_succ, i64_w, i32_w]
        rfl
      refine pure_ (i := 9) (N := some 79) (v := ?_) (a' := ?_) #[true, false, true, true, true, false, false, true, true, true, false, false, false, false, false, false, false, false, false, false, false, false, false, false, false, false, false, false, false, false, false, false, false, false, false] rfl rfl (any_of HT_.out (by kernel_rfl)) (fun _ _ _ h => h) (Or.inl ⟨by rfl, ?_⟩) ?_ ?_
      rotate_left
      · intro w'
        go_simp
        with_reducible rfl
      rotate_left
      · simp only [Act.put, List.setIfInBounds_toArray, List.set_cons_zero, List.set_cons_succ, i64_w, i32_w]
        rfl
      refine pure_ (i := 10) (N := some 80) (v := ?_) (a' := ?_) #[true, false, true, true, true, false, false, true, true, true, true, false, false, false, false, false, false, false, false, false, false, false, false, false, false, false, false, false, false, false, false, false, false, false, false] rfl rfl (any_of HT_.out (by kernel_rfl)) (fun _ _ _ h => h) (Or.inl ⟨by rfl, ?_⟩) ?_ ?_
      rotate_left
      · intro w'
        go_simp
        with_reducible rfl
      rotate_left
      · simp only [Act.put, List.setIfInBounds_toArray, List.set_cons_zero, List.set_cons_succ, i64_w, i32_w]
        rfl
      refine pure_ (i := 15) (N := some 85) (v := ?_) (a' := ?_) #[true, false, true, true, true, false, false, true, true, true, true, false, false, false, false, true, false, false, false, false, false, false, false, false, false, false, false, false, false, false, false, false, false, false, false] rfl rfl (any_of HT_.out (by kernel_rfl)) (fun _ _ _ h => h) (Or.inl ⟨by rfl, ?_⟩) ?_ ?_
      rotate_left
      · intro w'
        go_simp
        with_reducible rfl
      rotate_left
      · simp only [Act.put, List.setIfInBounds_toArray, List.set_cons_zero, List.set_cons_succ, i64_w, i32_w]
        rfl
      refine pure_ (i := 16) (N := some 86) (v := ?_) (a' := ?_) #[true, false, true, true, true, false, false, true, true, true, true, false, false, false, false, true, true, false, false, false, false, false, false, false, false, false, false, false, false, false, false, false, false, false, false] rfl rfl (any_of HT_.out (by kernel_rfl)) (fun _ _ _ h => h) (Or.inl ⟨by rfl, ?_⟩) ?_ ?_
      rotate_left
      · intro w'
        go_simp
        with_reducible rfl
      rotate_left
      · simp only [Act.put, List.setIfInBounds_toArray, List.set_cons_zero, List.set_cons_succ, i64_w, i32_w]
        rfl
      refine pure_ (i := 17) (N := some 87) (v := ?_) (a' := ?_) #[true, false, true, true, true, false, false, true, true, true, true, false, false, false, false, true, true, true, false, false, false, false, false, false, false, false, false, false, false, false, false, false, false, false, false] rfl rfl (any_of HT_.out (by kernel_rfl)) (fun _ _ _ h => h) (Or.inl ⟨by rfl, ?_⟩) ?_ ?_
      rotate_left
      · intro w'
        go_simp
        with_reducible rfl
      rotate_left
      · simp only [Act.put, List.setIfInBounds_toArray, List.set_cons_zero, List.set_cons_succ, i64_w, i32_w]
        rfl
      refine pure_ (i := 18) (N := some 88) (v := ?_) (a' := ?_) #[true, false, true, true, true, false, false, true, true, true, true, false, false, false, false, true, true, true, true, false, false, false, false, false, false, false, false, false, false, false, false, false, false, false, false] rfl rfl (any_of HT_.out (by kernel_rfl)) (fun _ _ _ h => h) (Or.inl ⟨by rfl, ?_⟩) ?_ ?_
      rotate_left
      · intro w'
        go_simp
        with_reducible rfl
      rotate_left
      · simp only [Act.put, List.setIfInBounds_toArray, List.set_cons_zero, List.set_cons_succ, i64_w, i32_w]
        rfl
      refine pure_ (i := 23) (N := some 93) (v := ?_) (a' := ?_) #[true, false, true, true, true, false, false, true, true, true, true, false, false, false, false, true, true, true, true, false, false, false, false, true, false, false, false, false, false, false, false, false, false, false, false] rfl rfl (any_of HT_.out (by kernel_rfl)) (fun _ _ _ h => h) (Or.inl ⟨by rfl, ?_⟩) ?_ ?_
      rotate_left
      · intro w'
        go_simp
        with_reducible rfl
      rotate_left
      · simp only [Act.put, List.setIfInBounds_toArray, List.set_cons_zero, List.set_cons_succ, i64_w, i32_w]
        rfl
      refine pure_ (i := 24) (N := some 94) (v := ?_) (a' := ?_) #[true, false, true, true, true, false, false, true, true, true, true, false, false, false, false, true, true, true, true, false, false, false, false, true, true, false, false, false, false, false, false, false, false, false, false] rfl rfl (any_of HT_.out (by kernel_rfl)) (fun _ _ _ h => h) (Or.inl ⟨by rfl, ?_⟩) ?_ ?_
      rotate_left
      · intro w'
        go_simp
        with_reducible rfl
      rotate_left
      · simp only [Act.put, List.setIfInBounds_toArray, List.set_cons_zero, List.set_cons_succ, i64_w, i32_w]
        rfl
      refine pure_ (i := 25) (N := some 95) (v := ?_) (a' := ?_) #[true, false, true, true, true, false, false, true, true, true, true, false, false, false, false, true, true, true, true, false, false, false, false, true, true, true, false, false, false, false, false, false, false, false, false] rfl rfl (any_of HT_.out (by kernel_rfl)) (fun _ _ _ h => h) (Or.inl ⟨by rfl, ?_⟩) ?_ ?_
      rotate_left
      · intro w'
        go_simp
        with_reducible rfl
      rotate_left
      · simp only [Act.put, List.setIfInBounds_toArray, List.set_cons_zero, List.set_cons_succ, i64_w, i32_w]
        rfl
      refine pure_ (i := 26) (N := some 96) (v := ?_) (a' := ?_) #[true, false, true, true, true, false, false, true, true, true, true, false, false, false, false, true, true, true, true, false, false, false, false, true, true, true, true, false, false, false, false, false, false, false, false] rfl rfl (any_of HT_.out (by kernel_rfl)) (fun _ _ _ h => h) (Or.inl ⟨by rfl, ?_⟩) ?_ ?_
      rotate_left
      · intro w'
        go_simp
        with_reducible rfl
      rotate_left
      · simp only [Act.put, List.setIfInBounds_toArray, List.set_cons_zero, List.set_cons_succ, i64_w, i32_w]
        rfl
      refine take_ (i := 1) (N := some 71) (v := ?_) (a' := ?_) #[true, true, true, true, true, false, false, true, true, true, true, false, false, false, false, true, true, true, true, false, false, false, false, true, true, true, true, false, false, false, false, false, false, false, false] rfl rfl (take_ofW HT_.out HW_.out (by kernel_rfl)) (fun _ _ _ h => h) (Or.inl ⟨by rfl, ?_⟩) hHeld ?_ ?_
      rotate_left
      · rintro w' ⟨s0, s1, s2, s3, s4⟩
        go_simp
        with_reducible rfl
      rotate_left
      · simp only [Act.put, List.setIfInBounds_toArray, List.set_cons_zero, List.set_cons_succ, i64_w, i32_w]
        rfl
      refine take_ (i := 5) (N := some 75) (v := ?_) (a' := ?_) #[true, true, true, true, true, true, false, true, true, true, true, false, false, false, false, true, true, true, true, false, false, false, false, true, true, true, true, false, false, false, false, false, false, false, false] rfl rfl (take_ofW HT_.out HW_.out (by kernel_rfl)) (fun _ _ _ h => h) (Or.inl ⟨by rfl, ?_⟩) hHeld ?_ ?_
      rotate_left
      · rintro w' ⟨s0, s1, s2, s3, s4⟩
        go_simp
        with_reducible rfl
      rotate_left
      · simp only [Act.put, List.setIfInBounds_toArray, List.set_cons_zero, List.set_cons_succ, i64_w, i32_w]
        rfl
      refine pure_ (i := 6) (N := some 76) (v := ?_) (a' := ?_) #[true, true, true, true, true, true, true, true, true, true, true, false, false, false, false, true, true, true, true, false, false, false, false, true, true, true, true, false, false, false, false, false, false, false, false] rfl rfl (any_of HT_.out (by kernel_rfl)) (fun _ _ _ h => h) (Or.inl ⟨by rfl, ?_⟩) ?_ ?_
      rotate_left
      · intro w'
        go_simp
        with_reducible rfl
      rotate_left
      · simp only [Act.put, List.setIfInBounds_toArray, List.set_cons_zero, List.set_cons_succ, i64_w, i32_w]
        rfl
      refine take_ (i := 11) (N := some 81) (v := ?_) (a' := ?_) #[true, true, true, true, true, true, true, true, true, true, true, true, false, false, false, true, true, true, true, false, false, false, false, true, true, true, true, false, false, false, false, false, false, false, false] rfl rfl (take_ofW HT_.out HW_.out (by kernel_rfl)) (fun _ _ _ h => h) (Or.inl ⟨by rfl, ?_⟩) hHeld ?_ ?_
      rotate_left
      · rintro w' ⟨s0, s1, s2, s3, s4⟩
        go_simp
        with_reducible rfl
      rotate_left
      · simp only [Act.put, List.setIfInBounds_toArray, List.set_cons_zero, List.set_cons_succ, i64_w, i32_w]
        rfl
      refine pure_ (i := 12) (N := some 82) (v := ?_) (a' := ?_) #[true, true, true, true, true, true, true, true, true, true, true, true, true, false, false, true, true, true, true, false, false, false, false, true, true, true, true, false, false, false, false, false, false, false, false] rfl rfl (any_of HT_.out (by kernel_rfl)) (fun _ _ _ h => h) (Or.inl ⟨by rfl, ?_⟩) ?_ ?_
      rotate_left
      · intro w'
        go_simp
        with_reducible rfl
      rotate_left
      · simp only [Act.put, List.setIfInBounds_toArray, List.set_cons_zero, List.set_cons_succ, i64_w, i32_w]
        rfl
      refine pure_ (i := 13) (N := some 83) (v := ?_) (a' := ?_) #[true, true, true, true, true, true, true, true, true, true, true, true, true, true, false, true, true, true, true, false, false, false, false, true, true, true, true, false, false, false, false, false, false, false, false] rfl rfl (any_of HT_.out (by kernel_rfl)) (fun _ _ _ h => h) (Or.inl ⟨by rfl, ?_⟩) ?_ ?_
      rotate_left
      · intro w'
        go_simp
        with_reducible rfl
      rotate_left
      · simp only [Act.put, List.setIfInBounds_toArray, List.set_cons_zero, List.set_cons_succ, i64_w, i32_w]
        rfl
      refine pure_ (i := 14) (N := some 84) (v := ?_) (a' := ?_) #[true, true, true, true, true, true, true, true, true, true, true, true, true, true, true, true, true, true, true, false, false, false, false, true, true, true, true, false, false, false, false, false, false, false, false] rfl rfl (any_of HT_.out (by kernel_rfl)) (fun _ _ _ h => h) (Or.inl ⟨by rfl, ?_⟩) ?_ ?_
      rotate_left
      · intro w'
        go_simp
        with_reducible rfl
      rotate_left
      · simp only [Act.put, List.setIfInBounds_toArray, List.set_cons_zero, List.set_cons_succ, i64_w, i32_w]
        rfl
      refine take_ (i := 19) (N := some 89) (v := ?_) (a' := ?_) #[true, true, true, true, true, true, true, true, true, true, true, true, true, true, true, true, true, true, true, true, false, false, false, true, true, true, true, false, false, false, false, false, false, false, false] rfl rfl (take_ofW HT_.out HW_.out (by kernel_rfl)) (fun _ _ _ h => h) (Or.inl ⟨by rfl, ?_⟩) hHeld ?_ ?_
      rotate_left
      · rintro w' ⟨s0, s1, s2, s3, s4⟩
        go_simp
        with_reducible rfl
      rotate_left
      · simp only [Act.put, List.setIfInBounds_toArray, List.set_cons_zero, List.set_cons_succ, i64_w, i32_w]
        rfl
      refine pure_ (i := 20) (N := some 90) (v := ?_) (a' := ?_) #[true, true, true, true, true, true, true, true, true, true, true, true, true, true, true, true, true, true, true, true, true, false, false, true, true, true, true, false, false, false, false, false, false, false, false] rfl rfl (any_of HT_.out (by kernel_rfl)) (fun _ _ _ h => h) (Or.inl ⟨by rfl, ?_⟩) ?_ ?_
      rotate_left
      · intro w'
        go_simp
        with_reducible rfl
      rotate_left
      · simp only [Act.put, List.setIfInBounds_toArray, List.set_cons_zero, List.set_cons_succ, i64_w, i32_w]
        rfl
      refine pure_ (i := 21) (N := some 91) (v := ?_) (a' := ?_) #[true, true, true, true, true, true, true, true, true, true, true, true, true, true, true, true, true, true, true, true, true, true, false, true, true, true, true, false, false, false, false, false, false, false, false] rfl rfl (any_of HT_.out (by kernel_rfl)) (fun _ _ _ h => h) (Or.inl ⟨by rfl, ?_⟩) ?_ ?_
      rotate_left
      · intro w'
        go_simp
        with_reducible rfl
      rotate_left
      · simp only [Act.put, List.setIfInBounds_toArray, List.set_cons_zero, List.set_cons_succ, i64_w, i32_w]
        rfl
      refine pure_ (i := 22) (N := some 92) (v := ?_) (a' := ?_) #[true, true, true, true, true, true, true, true, true, true, true, true, true, true, true, true, true, true, true, true, true, true, true, true, true, true, true, false, false, false, false, false, false, false, false] rfl rfl (any_of HT_.out (by kernel_rfl)) (fun _ _ _ h => h) (Or.inl ⟨by rfl, ?_⟩) ?_ ?_
      rotate_left
      · intro w'
        go_simp
        with_reducible rfl
      rotate_left
      · simp only [Act.put, List.setIfInBounds_toArray, List.set_cons_zero, List.set_cons_succ, i64_w, i32_w]
        rfl
      refine take_ (i := 27) (N := some 97) (v := ?_) (a' := ?_) #[true, true, true, true, true, true, true, true, true, true, true, true, true, true, true, true, true, true, true, true, true, true, true, true, true, true, true, true, false, false, false, false, false, false, false] rfl rfl (take_ofW HT_.out HW_.out (by kernel_rfl)) (fun _ _ _ h => h) (Or.inl ⟨by rfl, ?_⟩) hHeld ?_ ?_
      rotate_left
      · rintro w' ⟨s0, s1, s2, s3, s4⟩
        go_simp
        with_reducible rfl
      rotate_left
      · simp only [Act.put, List.setIfInBounds_toArray, List.set_cons_zero, List.set_cons_succ, i64_w, i32_w]
        rfl
      refine pure_ (i := 28) (N := some 98) (v := ?_) (a' := ?_) #[true, true, true, true, true, true, true, true, true, true, true, true, true, true, true, true, true, true, true, true, true, true, true, true, true, true, true, true, true, false, false, false, false, false, false] rfl rfl (any_of HT_.out (by kernel_rfl)) (fun _ _ _ h => h) (Or.inl ⟨by rfl, ?_⟩) ?_ ?_
      rotate_left
      · intro w'
        go_simp
        with_reducible rfl
      rotate_left
      · simp only [Act.put, List.setIfInBounds_toArray, List.set_cons_zero, List.set_cons_succ, i64_w, i32_w]
        rfl
      refine pure_ (i := 29) (N := some 99) (v := ?_) (a' := ?_) #[true, true, true, true, true, true, true, true, true, true, true, true, true, true, true, true, true, true, true, true, true, true, true, true, true, true, true, true, true, true, false, false, false, false, false] rfl rfl (any_of HT_.out (by kernel_rfl)) (fun _ _ _ h => h) (Or.inl ⟨by rfl, ?_⟩) ?_ ?_
      rotate_left
      · intro w'
        go_simp
        with_reducible rfl
      rotate_left
      · simp only [Act.put, List.setIfInBounds_toArray, List.set_cons_zero, List.set_cons_succ, i64_w, i32_w]
        rfl
      refine pure_ (i := 30) (N := some 100) (v := ?_) (a' := ?_) #[true, true, true, true, true, true, true, true, true, true, true, true, true, true, true, true, true, true, true, true, true, true, true, true, true, true, true, true, true, true, true, false, false, false, false] rfl rfl (any_of HT_.out (by kernel_rfl)) (fun _ _ _ h => h) (Or.inl ⟨by rfl, ?_⟩) ?_ ?_
      rotate_left
      · intro w'
        go_simp
        with_reducible rfl
      rotate_left
      · simp only [Act.put, List.setIfInBounds_toArray, List.set_cons_zero, List.set_cons_succ, i64_w, i32_w]
        rfl
      refine one_ (i := 31) (N := some 101) #[true, true, true, true, true, true, true, true, true, true, true, true, true, true, true, true, true, true, true, true, true, true, true, true, true, true, true, true, true, true, true, true, false, false, false] rfl rfl (one_of HT_.out (by kernel_rfl)) (by decide) (fun K hK => ?_)
      refine value_ (w1 := ?_) (v := ?_) (by rfl) rfl ?_ ?_
      rotate_left 2
      · go_simp
        constructor
        · rfl
        · rfl
      refine hK.out _ _ ⟨(((balloc (Below.refl _ _) (Nat.le_refl _) _).cell (World.block_lt_of_cell? _ _ hHeld.1)).trans hHeld.1), (((balloc (Below.refl _ _) (Nat.le_refl _) _).cell (World.block_lt_of_cell? _ _ hHeld.2.1)).trans hHeld.2.1), (((balloc (Below.refl _ _) (Nat.le_refl _) _).cell (World.block_lt_of_cell? _ _ hHeld.2.2.1)).trans hHeld.2.2.1), (((balloc (Below.refl _ _) (Nat.le_refl _) _).cell (World.block_lt_of_cell? _ _ hHeld.2.2.2.1)).trans hHeld.2.2.2.1), (((balloc (Below.refl _ _) (Nat.le_refl _) _).cell (World.block_lt_of_cell? _ _ hHeld.2.2.2.2)).trans hHeld.2.2.2.2)⟩ (fun hHeld => ?_)
      clear hK K
      refine norm_ (a' := ?_) ?_ ?_
      rotate_left
      · show Act.put _ (some 101) _ = _
        simp only [Act.put, List.setIfInBounds_toArray, List.set_cons_zero, List.set_cons_succ, i64_w, i32_w]
        rfl
      refine one_ (i := 32) (N := some 102) #[true, true, true, true, true, true, true, true, true, true, true, true, true, true, true, true, true, true, true, true, true, true, true, true, true, true, true, true, true, true, true, true, true, false, false] rfl rfl (one_of HT_.out (by kernel_rfl)) (by decide) (fun K hK => ?_)
      refine appG_step (.tmp 71) (.tmp 101) 40 (by rfl) rfl rfl (.int .u32 0) 4 infoU32 rfl Tryd.underlying40 _ (w.heap.size + 1) (.slice A6 k c6) L (some ⟨wr.heap.size, 0, none⟩) 1 [.int .u32 (n : Int)] rfl rfl ?a1 ?a2 ?a3 ?a4 ?a5 ?a6 ?_
      case a1 => exact HFK.out.og.keep (bdrew (balloc (Below.refl _ _) (Nat.le_refl _) _))
      case a2 => exact (GS.lit_ _ [.int .u32 (n : Int)] _ rfl (by simp) _ rfl).drew
      case a3 => simp; omega
      case a4 => simp [Value.oneCell']
      case a5 => rw [HLL.out]; simp; omega
      case a6 => rw [HLL.out]; simp; omega
      intro v5 w5a hap
      have hst := HFK.out.step (bdrew (balloc (Below.refl _ _) (Nat.le_refl _) _)) hap
      obtain ⟨p1c, pf1, hV5, hFC5⟩ := hst
      have HFC5 := Lib.hid hFC5
      obtain ⟨A7, c7, hv7, hg7, hn7⟩ := hap.own.sb
      have kf : ∀ o, w5a.cell? ⟨b3, o, none⟩ = wr.cell? ⟨b3, o, none⟩ := fun o => by rw [(hap.kept (HFK.out.og.keep (bdrew (balloc (Below.refl _ _) (Nat.le_refl _) _))) (by simp; omega)).cell (p := ⟨b3, o, none⟩) (by show b3 < w.heap.size + 1; omega)]; simp [go_sem, hbw]
      have f0 := (kf _).trans z0
      have f1 := (kf _).trans z1
      have f2 := (kf _).trans z2
      have f3 := (kf _).trans z3
      clear hFC5 hap hg7 hn7 kf
      subst hv7
      refine hK.out _ _ ⟨f0, f1, f2, f3, p1c⟩ (fun hHeld => ?_)
      clear hK K
      refine norm_ (a' := ?_) ?_ ?_
      rotate_left
      · show Act.put _ (some 102) _ = _
        simp only [Act.put, List.setIfInBounds_toArray, List.set_cons_zero, List.set_cons_succ, i64_w, i32_w]
        rfl
      refine pure_ (i := 33) (N := some 103) (v := ?_) (a' := ?_) #[true, true, true, true, true, true, true, true, true, true, true, true, true, true, true, true, true, true, true, true, true, true, true, true, true, true, true, true, true, true, true, true, true, true, false] rfl rfl (any_of HT_.out (by kernel_rfl)) (fun _ _ _ h => h) (Or.inl ⟨by rfl, ?_⟩) ?_ ?_
      rotate_left
      · intro w'
        go_simp
        with_reducible rfl
      rotate_left
      · simp only [Act.put, List.setIfInBounds_toArray, List.set_cons_zero, List.set_cons_succ, i64_w, i32_w]
        rfl
      refine last_ (i := 34) (N := none) #[true, true, true, true, true, true, true, true, true, true, true, true, true, true, true, true, true, true, true, true, true, true, true, true, true, true, true, true, true, true, true, true, true, true, true] rfl rfl (one_of HT_.out (by kernel_rfl)) (by decide) (fun K hK => ?_)
      refine skip_ (w1 := ?_) (by rfl) rfl ?_ ?_
      rotate_left
      · go_simp
        rfl
      refine hK.out _ _ ?_
      clear hK K
      refine done_ (done_of HT_.out (by kernel_rfl)) ?_
      go_wp2_with fail
      go_roundw
      case rel =>
        refine ⟨k + 1, .slice A7 (L.length + 1) c7, by omega, ?_, ?_⟩
        · have := HYY.out
          congr 1
          omega
        · rw [HTK.out, show u32v (List.take k (quads r) ++ [n]) = L ++ [.int .u32 (n : Int)] from by rw [HL.out]; simp [u32v]]
          have h := HFC5.out
          simpa using h
      case measure => have := HYY.out; simp [intOf]; omega
    · obtain rfl : k = m := by omega
      have et : (quads r).take k = quads r := by rw [← HQL.out]; exact List.take_length
      rw [et] at fc
      have hl6 : (u32v (quads r)).length = k := by simp only [u32v, List.length_map]; exact HQL.out
      obtain ⟨A6, c6, hv6, hg6, hn6⟩ := fc.og.sb
      rw [hl6] at hv6
      subst hv6
      have hn : ∀ a, A6 = some a → a.block ≠ w.heap.size := fun a ha => by have := (hn6 a ha).1; omega
      have g0 := fc.c0
      have g1 := fc.c1
      have g2 := fc.c2
      have g3 := fc.c3
      have g4 := fc.c4
      have hVlt := fc.lt
      have hb := fc.bl
      have r0 := hb.cell (p := ⟨w.heap.size, 0, none⟩) (by show w.heap.size < w.heap.size + 1; omega)
      have r1 := hb.cell (p := ⟨w.heap.size, 1, none⟩) (by show w.heap.size < w.heap.size + 1; omega)
      have r2 := hb.cell (p := ⟨w.heap.size, 2, none⟩) (by show w.heap.size < w.heap.size + 1; omega)
      have r3 := hb.cell (p := ⟨w.heap.size, 3, none⟩) (by show w.heap.size < w.heap.size + 1; omega)
      have r4 := hb.cell (p := ⟨w.heap.size, 4, none⟩) (by show w.heap.size < w.heap.size + 1; omega)
      have rf : ∀ o, wr.frozen? ⟨w.heap.size, o, none⟩ = false := fun o => by
        rw [hb.frozen (p := ⟨w.heap.size, o, none⟩) (by show w.heap.size < w.heap.size + 1; omega)]
        simp [go_sem]
      simp [go_sem] at r0 r1 r2 r3 r4
      have hR : w.heap.size < wr.heap.size := by omega
      obtain ⟨y, hy⟩ : ∃ y : Int, y = 4 * (k : Int) := ⟨_, rfl⟩
      rw [← hy]
      have l0 : decide (y < (q : Int)) = false := by simp; omega
      have HG := Lib.hid hg6
      have HN := Lib.hid hn
      have HE := Lib.hid ((balloc (Below.refl _ w) (Nat.le_refl _) _).trans (hb.mono (by omega)))
      clear hb fc hg6 hn6 hn et hl6 hq hm hy
      go_wp2_with fail
      have hbb : w.heap.size ≤ w.heap.size := Nat.le_refl _
      exact bodyPost_ret (v := .tuple #[ivec39 A6 k c6, .bool true]) (by simp [results, Tryd.results19, go_sem, ivec39, r0, r1, r2, r3, r4, hR]) rfl ⟨A6, c6, rfl, ((((HG.out.far HN.out _).far HN.out _).far HN.out _).far HN.out _).far HN.out _, ((((HE.out.setCell hbb _).setCell hbb _).setCell hbb _).setCell hbb _).setCell hbb _⟩
end Go.Proofs.YtjjfdamlicoeeaaDoor.X
