/- KeyErr and ValueErr of a right element. -/
import Derived.Test.YtohfgfbfohkkkaaGreatDoorElem
import Derived.Test.YtohfgfbfohkkkaaGreatDoorOwn
import Derived.Test.YtohfgfbfohkkkaaGreatDoorDoc2
set_option linter.unusedVariables false
set_option linter.unusedSimpArgs false
set_option maxRecDepth 100000
namespace Go.Proofs.YtohfgfbfohkkkaaGreatDoor.X
open Go.RowKit Go.Proofs.YtohfgfbfohkkkaaGreatDoorW.PrintLast
def R27.T6 : Bool × List (List Nat × List Nat) := (true, [([], []), ([], []), ([1], [1]), ([0, 2], [0, 2]), ([], []), ([4], [4]), ([5], [5]), ([3, 6], [3, 6]), ([7], [7]), ([8], [8]), ([8], [8]), ([8], [8]), ([], []), ([12, 9, 7, 0, 1, 2, 3, 4, 5, 6, 7, 8, 9, 12], [9, 12]), ([10, 13, 0, 1, 2, 3, 4, 5, 6, 7, 8, 9, 10, 12, 13], [10]), ([11, 14, 0, 1, 2, 3, 4, 5, 6, 7, 8, 9, 10, 11, 12, 13, 14], [11])])
def R27.B6 : List Nat := [0, 0, 2, 7, 0, 16, 48, 127, 255, 511, 511, 511, 0, 5119, 14335, 32767]
theorem R27.tab6 : rtab .any (opsOf Tryz.f27 6) = R27.T6 := by kernel_rfl
theorem R27.bits6 : waitsOk R27.T6.2 R27.B6 = true := by kernel_rfl
theorem index_plain (nm r : List UInt8) (h : plainB nm = true) : Lib.indexByte (nm ++ 0 :: r) ((0 : Int).toNat.toUInt8) = nm.length := by
  have e : ((0 : Int).toNat.toUInt8) = 0 := rfl
  rw [e]
  induction nm with
  | nil => simp [Lib.indexByte]
  | cons x l ih =>
    simp only [plainB, List.all_cons, Bool.and_eq_true, decide_eq_true_eq] at h
    have hx : (x == 0) = false := by
      simp only [beq_eq_false_iff_ne, ne_eq]
      intro hx; exact h.1 (by rw [hx]; rfl)
    have := ih (by simpa [plainB] using h.2)
    simp only [List.cons_append, Lib.indexByte, hx, this, List.length_cons]
    have e2 : (((l.length : Int)) == -1) = false := by simp
    simp [e2]
theorem index_none (m : List UInt8) (h : plainB m = true) : Lib.indexByte m ((0 : Int).toNat.toUInt8) = -1 := by
  have e : ((0 : Int).toNat.toUInt8) = 0 := rfl
  rw [e]
  induction m with
  | nil => rfl
  | cons x l ih =>
    simp only [plainB, List.all_cons, Bool.and_eq_true, decide_eq_true_eq] at h
    have hx : (x == 0) = false := by
      simp only [beq_eq_false_iff_ne, ne_eq]
      intro hx; exact h.1 (by rw [hx]; rfl)
    have := ih (by simpa [plainB] using h.2)
    simp [Lib.indexByte, hx, this]
theorem keyBytesErr (A : Option Addr) (c : Nat) (k0 : UInt8) (nm bl : List UInt8) (w : World) (hs : SB w A c (k0 :: (nm ++ 0 :: bl))) (hn : plainB nm = true) (hmax : (k0 :: (nm ++ 0 :: bl)).length ≤ 140737488355328) :
    Calls Tryz.prog 70 #[.slice A (k0 :: (nm ++ 0 :: bl)).length c] w fun e w' => ∃ A1 c1, e = .returned (.tuple #[.slice A1 nm.length c1, .nilIface]) ∧ SB w A1 c1 nm ∧ w = w' := by
  have t2 : SB w (A.map fun x : Addr => (⟨x.block, x.off + 1, none⟩ : Addr)) (c - 1) nm := by
    have hle := hs.le
    have hcap := hs.cap
    simp only [List.length_cons, List.length_append] at hle
    refine ⟨by omega, by omega, fun hp => ?_⟩
    obtain ⟨b, off, rfl, hc⟩ := hs.cells (by simp)
    refine ⟨b, off + 1, rfl, fun j hj => ?_⟩
    have h := hc (j + 1) (by simp; omega)
    rw [show off + 1 + j = off + (j + 1) from by omega, h]
    simp [hj]
  obtain ⟨l, hl⟩ : ∃ l, l = k0 :: (nm ++ 0 :: bl) := ⟨_, rfl⟩
  rw [← hl] at hs hmax ⊢
  have h2 : l.length = nm.length + 2 + bl.length := by rw [hl]; simp; omega
  have hd1 : l.drop 1 = nm ++ 0 :: bl := by rw [hl]; rfl
  have hd2 : l.drop (nm.length + 2) = bl := by rw [hl]; simp
  have hidx := index_plain nm bl hn
  rw [← hd1] at hidx
  have hlc := hs.le
  have hcc := hs.cap
  obtain ⟨A1, e1, s1⟩ := SB.from_ (P := Tryz.prog) Tryz.underlying64 rfl rfl .i64 A c l 1 (by omega) hs.le
  have e1' : ∀ W : World, (Instr.slice 64 (.slice A l.length c) (some (.int .i64 1)) none none).run Tryz.prog W = .ok (.slice A1 (l.drop 1).length (c - 1)) W := fun W => by rw [List.length_drop]; exact e1 W
  have t1 := s1 w hs
  obtain ⟨q, hq⟩ : ∃ q, q = nm.length := ⟨_, rfl⟩
  rw [← hq] at h2 hidx ⊢
  have hqm : ((q : Int) == -1) = false := by simp only [beq_eq_false_iff_ne, ne_eq]; omega
  have h20 : q + 2 ≤ l.length := by omega
  have HI := Lib.hid (bytesIndexByte A1 (c - 1) (l.drop 1) 0 w t1)
  rw [hidx] at HI
  obtain ⟨l1, hl1⟩ : ∃ x, x = (l.drop 1).length := ⟨_, rfl⟩
  rw [← hl1] at e1' HI
  have T2 := Lib.hid t2
  obtain ⟨p, hp⟩ : ∃ p, p = l.length := ⟨_, rfl⟩
  rw [← hp] at e1' hlc h20 hmax ⊢
  clear e1 s1 hl hd1 hn hd2 hq hs t1 t2 h2 hidx hl1 hp
  go_enter Tryz.func70, Tryz.ntmps70
  go_wp2_with fail
  refine HI.out.mono ?_
  rintro e w1 ⟨rfl, rfl⟩
  clear HI
  go_wp2_with fail
  exact bodyPost_ret (v := .tuple #[.slice (A.map fun x : Addr => (⟨x.block, x.off + 1, none⟩ : Addr)) q (c - 1), .nilIface]) (by simp [results, Tryz.results70, go_sem]) rfl ⟨_, _, rfl, T2.out, rfl⟩
theorem keyErr (A : Option Addr) (c : Nat) (k0 : UInt8) (nm bl : List UInt8) (w : World) (hs : SB w A c (k0 :: (nm ++ 0 :: bl))) (hn : plainB nm = true) (hmax : (k0 :: (nm ++ 0 :: bl)).length ≤ 140737488355328) :
    Calls Tryz.prog 26 #[.slice A (k0 :: (nm ++ 0 :: bl)).length c] w fun e w' => e = .returned (.tuple #[.string ⟨nm.toArray⟩, .nilIface]) ∧ w = w' := by
  have HK := Lib.hid (keyBytesErr A c k0 nm bl w hs hn hmax)
  obtain ⟨p, hp⟩ : ∃ p, p = (k0 :: (nm ++ 0 :: bl)).length := ⟨_, rfl⟩
  obtain ⟨s, hse⟩ : ∃ s : ByteArray, s = ⟨nm.toArray⟩ := ⟨_, rfl⟩
  rw [← hp] at HK ⊢
  rw [← hse]
  have HE := Lib.hid hse
  clear hs hn hmax hp hse
  go_enter Tryz.func26, Tryz.ntmps26
  go_wp2_with fail
  refine HK.out.mono ?_
  rintro e w1 ⟨A1, c1, rfl, hs1, rfl⟩
  have k1 := str_of hs1
  rw [← HE.out] at k1
  obtain ⟨q, hq⟩ : ∃ q, q = nm.length := ⟨_, rfl⟩
  rw [← hq] at k1 ⊢
  clear hs1 HK hq
  go_wp2_with fail
  exact bodyPost_ret (v := .tuple #[.string s, .nilIface]) (by simp [results, Tryz.results26, go_sem]) rfl ⟨rfl, rfl⟩
/-- A variable of the call's own that was laid in between. -/
structure Vf (wR : World) (g : Nat) (w' : World) : Prop where
  c0 : w'.cell? ⟨g, 0, none⟩ = some (.int .u8 0)
  k1 : w'.cell? ⟨g, 1, none⟩ = some (.slice none 0 0)
  f0 : w'.frozen? ⟨g, 0, none⟩ = false
  f1 : w'.frozen? ⟨g, 1, none⟩ = false
  ge : wR.heap.size ≤ g
  lt : g < w'.heap.size
  below : Below wR.heap.size wR w'
theorem Vf.of_block {wR w' : World} {g : Nat} {T : TypeId} (hblk : w'.heap[g]? = some (.cells #[.int .u8 0, .slice none 0 0] T (0, 0))) (hge : wR.heap.size ≤ g) (hb : Below wR.heap.size wR w') : Vf wR g w' where
  c0 := by simp [World.cell?, hblk]
  k1 := by simp [World.cell?, hblk]
  f0 := by simp [World.frozen?, hblk]
  f1 := by simp [World.frozen?, hblk]
  ge := hge
  lt := (Array.getElem?_eq_some_iff.1 hblk).1
  below := hb
theorem Vf.stored {wR w' : World} {g : Nat} (h : Vf wR g w') (x y : Value) (w7 : World) (hw : w7 = (w'.setCell ⟨g, 0, none⟩ x).setCell ⟨g, 1, none⟩ y) :
    w7.cell? ⟨g, 0, none⟩ = some x ∧ w7.cell? ⟨g, 1, none⟩ = some y ∧ g < w7.heap.size ∧ Below wR.heap.size wR w7 := by
  subst hw
  have e : (⟨g, 0, none⟩ : Addr) ≠ ⟨g, 1, none⟩ := by simp
  have e' : (⟨g, 1, none⟩ : Addr) ≠ ⟨g, 0, none⟩ := by simp
  refine ⟨?_, ?_, ?_, (h.below.setCell h.ge _).setCell h.ge _⟩
  · rw [World.cell?_setCell_other _ _ _ _ e']; exact World.cell?_setCell_same _ _ _ h.c0
  · exact World.cell?_setCell_same (u := .slice none 0 0) _ _ _ (by rw [World.cell?_setCell_other _ _ _ _ e]; exact h.k1)
  · simpa [World.setCell] using h.lt
set_option maxHeartbeats 8000000 in
theorem valueErr (A : Option Addr) (c : Nat) (k0 : UInt8) (nm bl : List UInt8) (w : World) (hs : SB w A c (k0 :: (nm ++ 0 :: bl))) (hn : plainB nm = true) (hv : valLen (k0.toNat : Int) bl = ((bl.length : Int), true)) (hmax : (k0 :: (nm ++ 0 :: bl)).length ≤ 140737488355328) :
    Calls Tryz.prog 27 #[.slice A (k0 :: (nm ++ 0 :: bl)).length c] w fun e w' => ∃ A1 c1, e = .returned (.tuple #[.agg #[.int .u8 (k0.toNat : Int), .slice A1 bl.length c1], .nilIface]) ∧ (∀ wx, SB wx A c (k0 :: (nm ++ 0 :: bl)) → SB wx A1 c1 bl) ∧ Below w.heap.size w w' := by
  obtain ⟨l, hl⟩ : ∃ l, l = k0 :: (nm ++ 0 :: bl) := ⟨_, rfl⟩
  rw [← hl] at hs hmax ⊢
  have h2 : l.length = nm.length + 2 + bl.length := by rw [hl]; simp; omega
  have hd1 : l.drop 1 = nm ++ 0 :: bl := by rw [hl]; rfl
  have hd2 : l.drop (nm.length + 2) = bl := by rw [hl]; simp
  have hidx := index_plain nm bl hn
  rw [← hd1] at hidx
  have hlc := hs.le
  have hcc := hs.cap
  obtain ⟨A1, e1, s1⟩ := SB.from_ (P := Tryz.prog) Tryz.underlying64 rfl rfl .i64 A c l 1 (by omega) hs.le
  have e1' : ∀ W : World, (Instr.slice 64 (.slice A l.length c) (some (.int .i64 1)) none none).run Tryz.prog W = .ok (.slice A1 (l.drop 1).length (c - 1)) W := fun W => by rw [List.length_drop]; exact e1 W
  obtain ⟨A2, e2, s2⟩ := SB.from_ (P := Tryz.prog) Tryz.underlying64 rfl rfl .i64 A c l (nm.length + 2) (by omega) hs.le
  rw [hd2] at s2
  have hq0 : l.length - (nm.length + 2) = bl.length := by omega
  have e2' : ∀ W : World, (Instr.slice 64 (.slice A l.length c) (some (.int .i64 ((nm.length : Int) + 2))) none none).run Tryz.prog W = .ok (.slice A2 bl.length (c - (nm.length + 2))) W := fun W => by rw [← hq0]; exact e2 W
  have HI := Lib.hid (fun wx (h : Below w.heap.size w wx) => bytesIndexByte A1 (c - 1) (l.drop 1) 0 wx (s1 wx (hs.keep h)))
  rw [hidx] at HI
  obtain ⟨tt, htt⟩ : ∃ tt : Int, tt = (k0.toNat : Int) := ⟨_, rfl⟩
  have HV : Hid (∀ wx : World, Below w.heap.size w wx → Calls Tryz.prog 68 #[.slice A2 bl.length (c - (nm.length + 2)), .int .u8 (k0.toNat : Int)] wx fun e w' => ∃ A3 c3 A4 c4, e = .returned (.tuple #[.agg #[.int .u8 (k0.toNat : Int), .slice A3 bl.length c3], .slice A4 0 c4, .bool true]) ∧ (∀ wy, SB wy A c l → SB wy A3 c3 bl) ∧ Below wx.heap.size wx w') := Lib.hid fun wx h => by
    refine (readValueV_ok A2 (c - (nm.length + 2)) bl (k0.toNat : Int) bl.length wx (s2 wx (hs.keep h)) hv (Nat.le_refl _)).mono ?_
    rintro e w' ⟨A3, c3, A4, c4, rfl, hss, hb⟩
    refine ⟨A3, c3, A4, c4, by rw [Nat.sub_self], ?_, hb⟩
    intro wy hy
    have := (hss wy (s2 wy hy)).1
    rwa [List.take_length] at this
  obtain ⟨b, off, rfl, hc⟩ := hs.cells (by omega)
  have hc0 : w.cell? ⟨b, off, none⟩ = some (.int .u8 tt) := by
    have h := hc 0 (by omega)
    rw [htt]
    subst hl
    simpa using h
  obtain ⟨bl0, hbl0⟩ : ∃ x, x = bl := ⟨_, rfl⟩
  obtain ⟨r, hr⟩ : ∃ r, r = bl.length := ⟨_, rfl⟩
  rw [← htt] at HV ⊢
  rw [← hr] at HV e2' h2 ⊢
  obtain ⟨p, hp⟩ : ∃ p, p = nm.length := ⟨_, rfl⟩
  rw [← hp] at HV e2' h2 HI
  obtain ⟨l1, hl1⟩ : ∃ x, x = (l.drop 1).length := ⟨_, rfl⟩
  rw [← hl1] at e1' HI
  obtain ⟨q, hq⟩ : ∃ q, q = l.length := ⟨_, rfl⟩
  rw [← hq] at e1' e2' hmax h2 ⊢
  clear hs s1 s2 e1 e2 hl hd1 hd2 hidx hlc hcc hq0 hv hn hc hr hp hl1 hq htt hbl0 bl0
  have i1 : IntKind.i64.wrap ((p : Int) + 2) = (p : Int) + 2 := IntWalk.i64_in _ (by omega)
  have hpm : ((p : Int) == -1) = false := by simp only [beq_eq_false_iff_ne, ne_eq]; omega
  have hq1 : 0 < q := by omega
  have hq0 : ((q : Int) == 0) = false := by simp only [beq_eq_false_iff_ne, ne_eq]; omega
  clear h2
  go_enter Tryz.func27, Tryz.ntmps27
  go_wp2_with fail
  refine (HI.out _ (balloc (Below.refl _ _) (Nat.le_refl _) _)).mono ?_
  rintro e w1 ⟨rfl, hw⟩
  have hb1 : Below (w.heap.size + 1) (w.alloc (.cells #[.int .u8 0, .slice none 0 0] 71)) w1 := by
    rw [← hw]
    exact Below.refl _ _
  have hz1 := boxs hb1
  have hB1 := boxb hb1
  have hC0 : w1.cell? ⟨b, off, none⟩ = some (.int .u8 tt) := (hB1.cell (World.block_lt_of_cell? _ _ hc0)).trans hc0
  have HX1 := Lib.hid hb1
  clear HI hw hb1 hc0
  go_wp2_with fail
  refine start_ (n := 16) (S := fun w' => w'.cell? ⟨b, off, none⟩ = some (.int .u8 tt)) (ds := [13]) #[false, false, false, false, false, false, false, false, false, false, false, false, false, false, false, false] (by kernel_rfl) rfl rfl ((by exact hC0)) (fun hHeld => ?_)
  refine with_tabW R27.tab6 R27.bits6 (fun HT_ HW_ => ?_)
  refine pure_ (i := 0) (N := some 21) (v := ?_) (a' := ?_) #[true, false, false, false, false, false, false, false, false, false, false, false, false, false, false, false] rfl rfl (any_of HT_.out (by kernel_rfl)) (fun _ _ _ h => h) (Or.inl ⟨by rfl, ?_⟩) ?_ ?_
  rotate_left
  · intro w'
    go_simp
    with_reducible rfl
  rotate_left
  · simp only [Act.put, List.setIfInBounds_toArray, List.set_cons_zero, List.set_cons_succ, i64_w, i32_w]
    rfl
  refine pure_ (i := 1) (N := some 22) (v := ?_) (a' := ?_) #[true, true, false, false, false, false, false, false, false, false, false, false, false, false, false, false] rfl rfl (any_of HT_.out (by kernel_rfl)) (fun _ _ _ h => h) (Or.inl ⟨by rfl, ?_⟩) ?_ ?_
  rotate_left
  · intro w'
    go_simp
    with_reducible rfl
  rotate_left
  · simp only [Act.put, List.setIfInBounds_toArray, List.set_cons_zero, List.set_cons_succ, i64_w, i32_w]
    rfl
  refine pure_ (i := 2) (N := some 23) (v := ?_) (a' := ?_) #[true, true, true, false, false, false, false, false, false, false, false, false, false, false, false, false] rfl rfl (any_of HT_.out (by kernel_rfl)) (fun _ _ _ h => h) (Or.inl ⟨by rfl, ?_⟩) ?_ ?_
  rotate_left
  · intro w'
    go_simp
    with_reducible rfl
  rotate_left
  · simp only [Act.put, List.setIfInBounds_toArray, List.set_cons_zero, List.set_cons_succ, i64_w, i32_w]
    rfl
  refine pure_ (i := 3) (N := some 24) (v := ?_) (a' := ?_) #[true, true, true, true, false, false, false, false, false, false, false, false, false, false, false, false] rfl rfl (any_of HT_.out (by kernel_rfl)) (fun _ _ _ h => h) (Or.inl ⟨by rfl, ?_⟩) ?_ ?_
  rotate_left
  · intro w'
    go_simp
    with_reducible rfl
  rotate_left
  · simp only [Act.put, List.setIfInBounds_toArray, List.set_cons_zero, List.set_cons_succ, i64_w, i32_w]
    rfl
  refine pure_ (i := 4) (N := some 25) (v := ?_) (a' := ?_) #[true, true, true, true, true, false, false, false, false, false, false, false, false, false, false, false] rfl rfl (any_of HT_.out (by kernel_rfl)) (fun _ _ _ h => h) (Or.inl ⟨by rfl, ?_⟩) ?_ ?_
  rotate_left
  · intro w'
    go_simp
    with_reducible rfl
  rotate_left
  · simp only [Act.put, List.setIfInBounds_toArray, List.set_cons_zero, List.set_cons_succ, i64_w, i32_w]
    rfl
  refine pure_ (i := 5) (N := some 26) (v := ?_) (a' := ?_) #[true, true, true, true, true, true, false, false, false, false, false, false, false, false, false, false] rfl rfl (any_of HT_.out (by kernel_rfl)) (fun _ _ _ h => h) (Or.inl ⟨by rfl, ?_⟩) ?_ ?_
  rotate_left
  · intro w'
    go_simp
    with_reducible rfl
  rotate_left
  · simp only [Act.put, List.setIfInBounds_toArray, List.set_cons_zero, List.set_cons_succ, i64_w, i32_w]
    rfl
  refine take_ (i := 6) (N := some 27) (v := ?_) (a' := ?_) #[true, true, true, true, true, true, true, false, false, false, false, false, false, false, false, false] rfl rfl (take_ofW HT_.out HW_.out (by kernel_rfl)) (fun _ _ _ h => h) (Or.inl ⟨by rfl, ?_⟩) hHeld ?_ ?_
  rotate_left
  · intro w' s0
    go_simp
    with_reducible rfl
  rotate_left
  · simp only [Act.put, List.setIfInBounds_toArray, List.set_cons_zero, List.set_cons_succ, i64_w, i32_w]
    rfl
  refine join_ (σ := Option Addr × Nat × Option Addr × Nat × Nat) 3 #[true, true, true, true, true, true, true, true, true, true, true, true, true, false, false, false] (fun s => [(28, .tuple #[.agg #[.int .u8 tt, .slice s.1 r s.2.1], .slice s.2.2.1 0 s.2.2.2.1, .bool true]), (20, .tuple #[.agg #[.int .u8 tt, .slice s.1 r s.2.1], .slice s.2.2.1 0 s.2.2.2.1, .bool true]), (29, .agg #[.int .u8 tt, .slice s.1 r s.2.1]), (30, .slice s.2.2.1 0 s.2.2.2.1), (31, .bool true), (5, .pointer (some ⟨s.2.2.2.2, 0, none⟩))]) (fun s w' => (∀ wy, SB wy (some ⟨b, off, none⟩) c l → SB wy s.1 s.2.1 bl) ∧ Vf w1 s.2.2.2.2 w' ∧ w'.cell? ⟨b, off, none⟩ = some (.int .u8 tt)) ?_ ?_
  rotate_left
  · intro hCont
    refine two_ (i := 7) (j := 12) (Ni := some 28) (Nj := some 5) #[true, true, true, true, true, true, true, true, false, false, false, false, false, false, false, false] #[true, true, true, true, true, true, true, false, false, false, false, false, true, false, false, false] rfl rfl rfl rfl (two_of HT_.out (by kernel_rfl)) (by decide) (by decide) (fun K hK => ?_) (fun K hK => ?_)
    · skip
      refine goes_ Tryz.func68 (by kernel_rfl) rfl #[.slice A2 r (c - (p + 2)), .int .u8 tt] (by rfl) rfl rfl (by simp only [List.map_toArray, List.map_cons, List.map_nil]; rfl) ?_
      with_reducible refine (HV.out _ (hB1.trans (((bdrew (Below.refl _ _)) : Below w1.heap.size w1 _).mono (by omega)))).mono ?_
      rintro e wA ⟨A3, c3, A4, c4, rfl, hss, hba⟩
      refine ⟨_, rfl, ?_⟩
      have hsA : w1.heap.size ≤ wA.heap.size := by have := hba.size; simp at this; omega
      have hBA : Below w1.heap.size w1 wA := (bdrew (Below.refl _ _)).trans (hba.mono (by simp))
      refine hK.out _ _ ((hba.cell (World.block_lt_of_cell? _ _ hHeld)).trans hHeld) (fun hHeld => ?_)
      clear hK K
      refine norm_ (a' := ?_) ?_ ?_
      rotate_left
      · show Act.put _ (some 28) _ = _
        simp only [Act.put, List.setIfInBounds_toArray, List.set_cons_zero, List.set_cons_succ, i64_w, i32_w]
        rfl
      refine pure_ (i := 8) (N := some 20) (v := ?_) (a' := ?_) #[true, true, true, true, true, true, true, true, true, false, false, false, false, false, false, false] rfl rfl (any_of HT_.out (by kernel_rfl)) (fun _ _ _ h => h) (Or.inl ⟨by rfl, ?_⟩) ?_ ?_
      rotate_left
      · intro w'
        go_simp
        with_reducible rfl
      rotate_left
      · simp only [Act.put, List.setIfInBounds_toArray, List.set_cons_zero, List.set_cons_succ, i64_w, i32_w]
        rfl
      refine pure_ (i := 9) (N := some 29) (v := ?_) (a' := ?_) #[true, true, true, true, true, true, true, true, true, true, false, false, false, false, false, false] rfl rfl (any_of HT_.out (by kernel_rfl)) (fun _ _ _ h => h) (Or.inl ⟨by rfl, ?_⟩) ?_ ?_
      rotate_left
      · intro w'
        go_simp
        with_reducible rfl
      rotate_left
      · simp only [Act.put, List.setIfInBounds_toArray, List.set_cons_zero, List.set_cons_succ, i64_w, i32_w]
        rfl
      refine pure_ (i := 10) (N := some 30) (v := ?_) (a' := ?_) #[true, true, true, true, true, true, true, true, true, true, true, false, false, false, false, false] rfl rfl (any_of HT_.out (by kernel_rfl)) (fun _ _ _ h => h) (Or.inl ⟨by rfl, ?_⟩) ?_ ?_
      rotate_left
      · intro w'
        go_simp
        with_reducible rfl
      rotate_left
      · simp only [Act.put, List.setIfInBounds_toArray, List.set_cons_zero, List.set_cons_succ, i64_w, i32_w]
        rfl
      refine pure_ (i := 11) (N := some 31) (v := ?_) (a' := ?_) #[true, true, true, true, true, true, true, true, true, true, true, true, false, false, false, false] rfl rfl (any_of HT_.out (by kernel_rfl)) (fun _ _ _ h => h) (Or.inl ⟨by rfl, ?_⟩) ?_ ?_
      rotate_left
      · intro w'
        go_simp
        with_reducible rfl
      rotate_left
      · simp only [Act.put, List.setIfInBounds_toArray, List.set_cons_zero, List.set_cons_succ, i64_w, i32_w]
        rfl
      refine one_ (i := 12) (N := some 5) #[true, true, true, true, true, true, true, true, true, true, true, true, true, false, false, false] rfl rfl (one_of HT_.out (by kernel_rfl)) (by decide) (fun K hK => ?_)
      refine value_ (w1 := ?_) (v := ?_) (by rfl) rfl ?_ ?_
      rotate_left 2
      · go_simp
        constructor
        · rfl
        · rfl
      refine hK.out _ _ (((balloc (Below.refl _ _) (Nat.le_refl _) _).cell (World.block_lt_of_cell? _ _ hHeld)).trans hHeld) (fun hHeld => ?_)
      clear hK K
      refine norm_ (a' := ?_) ?_ ?_
      rotate_left
      · show Act.put _ (some 5) _ = _
        simp only [Act.put, List.setIfInBounds_toArray, List.set_cons_zero, List.set_cons_succ, i64_w, i32_w]
        rfl
      exact norm_ (by simp only [putAll, Act.put, List.setIfInBounds_toArray, List.set_cons_zero, List.set_cons_succ]) (hCont (A3, c3, A4, c4, wA.heap.size) _ ⟨hss, Vf.of_block (by exact heap_alloc_new wA _) (by show w1.heap.size ≤ wA.heap.size; omega) (balloc hBA hsA _), hHeld⟩)
    · skip
      refine value_ (w1 := ?_) (v := ?_) (by rfl) rfl ?_ ?_
      rotate_left 2
      · go_simp
        constructor
        · rfl
        · rfl
      refine hK.out _ _ (((balloc (Below.refl _ _) (Nat.le_refl _) _).cell (World.block_lt_of_cell? _ _ hHeld)).trans hHeld) (fun hHeld => ?_)
      clear hK K
      refine norm_ (a' := ?_) ?_ ?_
      rotate_left
      · show Act.put _ (some 5) _ = _
        simp only [Act.put, List.setIfInBounds_toArray, List.set_cons_zero, List.set_cons_succ, i64_w, i32_w]
        rfl
      refine one_ (i := 7) (N := some 28) #[true, true, true, true, true, true, true, true, false, false, false, false, true, false, false, false] rfl rfl (one_of HT_.out (by kernel_rfl)) (by decide) (fun K hK => ?_)
      refine goes_ Tryz.func68 (by kernel_rfl) rfl #[.slice A2 r (c - (p + 2)), .int .u8 tt] (by rfl) rfl rfl (by simp only [List.map_toArray, List.map_cons, List.map_nil]; rfl) ?_
      with_reducible refine (HV.out _ (hB1.trans (((bdrew (balloc (Below.refl _ _) (Nat.le_refl _) _)) : Below w1.heap.size w1 _).mono (by omega)))).mono ?_
      rintro e wA ⟨A3, c3, A4, c4, rfl, hss, hba⟩
      refine ⟨_, rfl, ?_⟩
      have hsA : w1.heap.size ≤ wA.heap.size := by have := hba.size; simp at this; omega
      have hBA : Below w1.heap.size w1 wA := (bdrew (balloc (Below.refl _ _) (Nat.le_refl _) _)).trans (hba.mono (by simp))
      refine hK.out _ _ ((hba.cell (World.block_lt_of_cell? _ _ hHeld)).trans hHeld) (fun hHeld => ?_)
      clear hK K
      refine norm_ (a' := ?_) ?_ ?_
      rotate_left
      · show Act.put _ (some 28) _ = _
        simp only [Act.put, List.setIfInBounds_toArray, List.set_cons_zero, List.set_cons_succ, i64_w, i32_w]
        rfl
      refine pure_ (i := 8) (N := some 20) (v := ?_) (a' := ?_) #[true, true, true, true, true, true, true, true, true, false, false, false, true, false, false, false] rfl rfl (any_of HT_.out (by kernel_rfl)) (fun _ _ _ h => h) (Or.inl ⟨by rfl, ?_⟩) ?_ ?_
      rotate_left
      · intro w'
        go_simp
        with_reducible rfl
      rotate_left
      · simp only [Act.put, List.setIfInBounds_toArray, List.set_cons_zero, List.set_cons_succ, i64_w, i32_w]
        rfl
      refine pure_ (i := 9) (N := some 29) (v := ?_) (a' := ?_) #[true, true, true, true, true, true, true, true, true, true, false, false, true, false, false, false] rfl rfl (any_of HT_.out (by kernel_rfl)) (fun _ _ _ h => h) (Or.inl ⟨by rfl, ?_⟩) ?_ ?_
      rotate_left
      · intro w'
        go_simp
        with_reducible rfl
      rotate_left
      · simp only [Act.put, List.setIfInBounds_toArray, List.set_cons_zero, List.set_cons_succ, i64_w, i32_w]
        rfl
      refine pure_ (i := 10) (N := some 30) (v := ?_) (a' := ?_) #[true, true, true, true, true, true, true, true, true, true, true, false, true, false, false, false] rfl rfl (any_of HT_.out (by kernel_rfl)) (fun _ _ _ h => h) (Or.inl ⟨by rfl, ?_⟩) ?_ ?_
      rotate_left
      · intro w'
        go_simp
        with_reducible rfl
      rotate_left
      · simp only [Act.put, List.setIfInBounds_toArray, List.set_cons_zero, List.set_cons_succ, i64_w, i32_w]
        rfl
      refine pure_ (i := 11) (N := some 31) (v := ?_) (a' := ?_) #[true, true, true, true, true, true, true, true, true, true, true, true, true, false, false, false] rfl rfl (any_of HT_.out (by kernel_rfl)) (fun _ _ _ h => h) (Or.inl ⟨by rfl, ?_⟩) ?_ ?_
      rotate_left
      · intro w'
        go_simp
        with_reducible rfl
      rotate_left
      · simp only [Act.put, List.setIfInBounds_toArray, List.set_cons_zero, List.set_cons_succ, i64_w, i32_w]
        rfl
      exact norm_ (by simp only [putAll, Act.put, List.setIfInBounds_toArray, List.set_cons_zero, List.set_cons_succ]) (hCont (A3, c3, A4, c4, w1.heap.size) _ ⟨hss, Vf.of_block (by rw [hba.block _ (by simp)]; exact heap_alloc_new w1 _) (by show w1.heap.size ≤ w1.heap.size; omega) (hBA), hHeld⟩)
  rintro ⟨A3, c3, A4, c4, g⟩ w6 ⟨hss, hVf, hHeld⟩
  have RC0 := hVf.c0
  have RC1 := hVf.k1
  have RF0 := hVf.f0
  have RF1 := hVf.f1
  have HVF := Lib.hid hVf
  have HSS := Lib.hid hss
  clear hVf hss
  refine norm_ (a' := ?_) ?_ ?_
  rotate_left
  · simp only [putAll, Act.put, List.setIfInBounds_toArray, List.set_cons_zero, List.set_cons_succ]
    rfl
  refine last_ (i := 13) (N := none) #[true, true, true, true, true, true, true, true, true, true, true, true, true, true, false, false] rfl rfl (one_of HT_.out (by kernel_rfl)) (by decide) (fun K hK => ?_)
  refine skip_ (w1 := ?_) (by rfl) rfl ?_ ?_
  rotate_left
  · go_simp
    rfl
  refine hK.out _ _ ?_
  clear hK K
  refine pure_ (i := 14) (N := some 6) (v := ?_) (a' := ?_) #[true, true, true, true, true, true, true, true, true, true, true, true, true, true, true, false] rfl rfl (any_of HT_.out (by kernel_rfl)) (fun _ _ _ h => h) (Or.inl ⟨by rfl, ?_⟩) ?_ ?_
  rotate_left
  · intro w'
    go_simp
    with_reducible rfl
  rotate_left
  · simp only [Act.put, List.setIfInBounds_toArray, List.set_cons_zero, List.set_cons_succ, i64_w, i32_w]
    rfl
  refine pure_ (i := 15) (N := some 7) (v := ?_) (a' := ?_) #[true, true, true, true, true, true, true, true, true, true, true, true, true, true, true, true] rfl rfl (any_of HT_.out (by kernel_rfl)) (fun _ _ _ h => h) (Or.inl ⟨by rfl, ?_⟩) ?_ ?_
  rotate_left
  · intro w'
    go_simp
    with_reducible rfl
  rotate_left
  · simp only [Act.put, List.setIfInBounds_toArray, List.set_cons_zero, List.set_cons_succ, i64_w, i32_w]
    rfl
  refine done_ (done_of HT_.out (by kernel_rfl)) ?_
  obtain ⟨w7, hw7⟩ : ∃ x, x = (w6.setCell ⟨g, 0, none⟩ (.int .u8 tt)).setCell ⟨g, 1, none⟩ (.slice A3 r c3) := ⟨_, rfl⟩
  obtain ⟨g0, g1, hgl, hb7⟩ := HVF.out.stored _ _ w7 hw7
  rw [← hw7]
  have hX7 := HX1.out.trans (hb7.mono hz1)
  have q0 := boxc hX7 0
  have q1 := boxc hX7 1
  simp only [List.getElem?_cons_succ, List.getElem?_cons_zero] at q0 q1
  have f0 := boxf hX7 0
  have f1 := boxf hX7 1
  have hz7 := boxs hX7
  have hlt7 : w.heap.size < w7.heap.size := by omega
  have HB7 := Lib.hid (boxb hX7)
  clear HVF RC0 RC1 RF0 RF1 hw7 hb7 hX7 HX1 hHeld HV
  go_wp2_with fail
  exact bodyPost_ret (v := .tuple #[.agg #[.int .u8 tt, .slice A3 r c3], .nilIface]) (by simp [results, Tryz.results27, go_sem, q0, q1]) rfl ⟨A3, c3, rfl, HSS.out, (HB7.out.setCell (Nat.le_refl _) _).setCell (Nat.le_refl _) _⟩
end Go.Proofs.YtohfgfbfohkkkaaGreatDoor.X
