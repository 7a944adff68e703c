/- Put together: ElemKV, ElemV2, All, All2, AllV, Look, Look2. -/
import Derived.Test.YtbpopaegfhcdpaaGreatDoorElem
import Derived.Test.YtbpopaegfhcdpaaGreatDoorOwn
import Derived.Test.YtbpopaegfhcdpaaGreatDoorDoc2
import Derived.Test.YtbpopaegfhcdpaaGreatDoorRe
/- KeyErr and ValueErr of a right element. -/
set_option linter.unusedVariables false
set_option linter.unusedSimpArgs false
set_option maxRecDepth 100000
namespace Go.Proofs.YtbpopaegfhcdpaaGreatDoor.X
open Go.RowKit Go.Proofs.YtbpopaegfhcdpaaGreatDoorW.PrintLast
def R134.T6 : Bool × List (List Nat × List Nat) := (true, [([], []), ([], []), ([1], [1]), ([0, 2], [0, 2]), ([], []), ([4], [4]), ([5], [5]), ([3, 6], [3, 6]), ([7], [7]), ([8], [8]), ([8], [8]), ([8], [8]), ([], []), ([12, 9, 7, 0, 1, 2, 3, 4, 5, 6, 7, 8, 9, 12], [9, 12]), ([10, 13, 0, 1, 2, 3, 4, 5, 6, 7, 8, 9, 10, 12, 13], [10]), ([11, 14, 0, 1, 2, 3, 4, 5, 6, 7, 8, 9, 10, 11, 12, 13, 14], [11])])
def R134.B6 : List Nat := [0, 0, 2, 7, 0, 16, 48, 127, 255, 511, 511, 511, 0, 5119, 14335, 32767]
theorem R134.tab6 : rtab .any (opsOf Tryz.f134 6) = R134.T6 := by kernel_rfl
theorem R134.bits6 : waitsOk R134.T6.2 R134.B6 = true := by kernel_rfl
theorem index_plain (nm r : List UInt8) (h : plainB nm = true) : Lib.indexByte (nm ++ 0 :: r) ((0 : Int).toNat.toUInt8) = nm.length := by
  have e : ((0 : Int).toNat.toUInt8) = 0 := rfl
  rw [e]
  induction nm with
  | nil => simp [Lib.indexByte]
  | cons x l ih =>
    simp only [plainB, List.all_cons, Bool.and_eq_true, decide_eq_true_eq] at h
    have hx : (x == 0) = false := by
      simp only [beq_eq_false_iff_ne, ne_eq]
      intro hx; exact h.1 (by rw [hx]; rfl)
    have := ih (by simpa [plainB] using h.2)
    simp only [List.cons_append, Lib.indexByte, hx, this, List.length_cons]
    have e2 : (((l.length : Int)) == -1) = false := by simp
    simp [e2]
theorem index_none (m : List UInt8) (h : plainB m = true) : Lib.indexByte m ((0 : Int).toNat.toUInt8) = -1 := by
  have e : ((0 : Int).toNat.toUInt8) = 0 := rfl
  rw [e]
  induction m with
  | nil => rfl
  | cons x l ih =>
    simp only [plainB, List.all_cons, Bool.and_eq_true, decide_eq_true_eq] at h
    have hx : (x == 0) = false := by
      simp only [beq_eq_false_iff_ne, ne_eq]
      intro hx; exact h.1 (by rw [hx]; rfl)
    have := ih (by simpa [plainB] using h.2)
    simp [Lib.indexByte, hx, this]
theorem keyBytesErr (A : Option Addr) (c : Nat) (k0 : UInt8) (nm bl : List UInt8) (w : World) (hs : SB w A c (k0 :: (nm ++ 0 :: bl))) (hn : plainB nm = true) (hmax : (k0 :: (nm ++ 0 :: bl)).length ≤ 140737488355328) :
    Calls Tryz.prog 195 #[.slice A (k0 :: (nm ++ 0 :: bl)).length c] w fun e w' => ∃ A1 c1, e = .returned (.tuple #[.slice A1 nm.length c1, .nilIface]) ∧ SB w A1 c1 nm ∧ w = w' := by
  have t2 : SB w (A.map fun x : Addr => (⟨x.block, x.off + 1, none⟩ : Addr)) (c - 1) nm := by
    have hle := hs.le
    have hcap := hs.cap
    simp only [List.length_cons, List.length_append] at hle
    refine ⟨by omega, by omega, fun hp => ?_⟩
    obtain ⟨b, off, rfl, hc⟩ := hs.cells (by simp)
    refine ⟨b, off + 1, rfl, fun j hj => ?_⟩
    have h := hc (j + 1) (by simp; omega)
    rw [show off + 1 + j = off + (j + 1) from by omega, h]
    simp [hj]
  obtain ⟨l, hl⟩ : ∃ l, l = k0 :: (nm ++ 0 :: bl) := ⟨_, rfl⟩
  rw [← hl] at hs hmax ⊢
  have h2 : l.length = nm.length + 2 + bl.length := by rw [hl]; simp; omega
  have hd1 : l.drop 1 = nm ++ 0 :: bl := by rw [hl]; rfl
  have hd2 : l.drop (nm.length + 2) = bl := by rw [hl]; simp
  have hidx := index_plain nm bl hn
  rw [← hd1] at hidx
  have hlc := hs.le
  have hcc := hs.cap
  obtain ⟨A1, e1, s1⟩ := SB.from_ (P := Tryz.prog) Tryz.underlying182 rfl rfl .i64 A c l 1 (by omega) hs.le
  have e1' : ∀ W : World, (Instr.slice 182 (.slice A l.length c) (some (.int .i64 1)) none none).run Tryz.prog W = .ok (.slice A1 (l.drop 1).length (c - 1)) W := fun W => by rw [List.length_drop]; exact e1 W
  have t1 := s1 w hs
  obtain ⟨q, hq⟩ : ∃ q, q = nm.length := ⟨_, rfl⟩
  rw [← hq] at h2 hidx ⊢
  have hqm : ((q : Int) == -1) = false := by simp only [beq_eq_false_iff_ne, ne_eq]; omega
  have h20 : q + 2 ≤ l.length := by omega
  have HI := Lib.hid (bytesIndexByte A1 (c - 1) (l.drop 1) 0 w t1)
  rw [hidx] at HI
  obtain ⟨l1, hl1⟩ : ∃ x, x = (l.drop 1).length := ⟨_, rfl⟩
  rw [← hl1] at e1' HI
  have T2 := Lib.hid t2
  obtain ⟨p, hp⟩ : ∃ p, p = l.length := ⟨_, rfl⟩
  rw [← hp] at e1' hlc h20 hmax ⊢
  clear e1 s1 hl hd1 hn hd2 hq hs t1 t2 h2 hidx hl1 hp
  go_enter Tryz.func195, Tryz.ntmps195
  go_wp2_with fail
  refine HI.out.mono ?_
  rintro e w1 ⟨rfl, rfl⟩
  clear HI
  go_wp2_with fail
  exact bodyPost_ret (v := .tuple #[.slice (A.map fun x : Addr => (⟨x.block, x.off + 1, none⟩ : Addr)) q (c - 1), .nilIface]) (by simp [results, Tryz.results195, go_sem]) rfl ⟨_, _, rfl, T2.out, rfl⟩
theorem keyErr (A : Option Addr) (c : Nat) (k0 : UInt8) (nm bl : List UInt8) (w : World) (hs : SB w A c (k0 :: (nm ++ 0 :: bl))) (hn : plainB nm = true) (hmax : (k0 :: (nm ++ 0 :: bl)).length ≤ 140737488355328) :
    Calls Tryz.prog 196 #[.slice A (k0 :: (nm ++ 0 :: bl)).length c] w fun e w' => e = .returned (.tuple #[.string ⟨nm.toArray⟩, .nilIface]) ∧ w = w' := by
  have HK := Lib.hid (keyBytesErr A c k0 nm bl w hs hn hmax)
  obtain ⟨p, hp⟩ : ∃ p, p = (k0 :: (nm ++ 0 :: bl)).length := ⟨_, rfl⟩
  obtain ⟨s, hse⟩ : ∃ s : ByteArray, s = ⟨nm.toArray⟩ := ⟨_, rfl⟩
  rw [← hp] at HK ⊢
  rw [← hse]
  have HE := Lib.hid hse
  clear hs hn hmax hp hse
  go_enter Tryz.func196, Tryz.ntmps196
  go_wp2_with fail
  refine HK.out.mono ?_
  rintro e w1 ⟨A1, c1, rfl, hs1, rfl⟩
  have k1 := str_of hs1
  rw [← HE.out] at k1
  obtain ⟨q, hq⟩ : ∃ q, q = nm.length := ⟨_, rfl⟩
  rw [← hq] at k1 ⊢
  clear hs1 HK hq
  go_wp2_with fail
  exact bodyPost_ret (v := .tuple #[.string s, .nilIface]) (by simp [results, Tryz.results196, go_sem]) rfl ⟨rfl, rfl⟩
/-- A variable of the call's own that was laid in between. -/
structure Vf (wR : World) (g : Nat) (w' : World) : Prop where
  c0 : w'.cell? ⟨g, 0, none⟩ = some (.int .u8 0)
  k1 : w'.cell? ⟨g, 1, none⟩ = some (.slice none 0 0)
  f0 : w'.frozen? ⟨g, 0, none⟩ = false
  f1 : w'.frozen? ⟨g, 1, none⟩ = false
  ge : wR.heap.size ≤ g
  lt : g < w'.heap.size
  below : Below wR.heap.size wR w'
theorem Vf.of_block {wR w' : World} {g : Nat} {T : TypeId} (hblk : w'.heap[g]? = some (.cells #[.int .u8 0, .slice none 0 0] T (0, 0))) (hge : wR.heap.size ≤ g) (hb : Below wR.heap.size wR w') : Vf wR g w' where
  c0 := by simp [World.cell?, hblk]
  k1 := by simp [World.cell?, hblk]
  f0 := by simp [World.frozen?, hblk]
  f1 := by simp [World.frozen?, hblk]
  ge := hge
  lt := (Array.getElem?_eq_some_iff.1 hblk).1
  below := hb
theorem Vf.stored {wR w' : World} {g : Nat} (h : Vf wR g w') (x y : Value) (w7 : World) (hw : w7 = (w'.setCell ⟨g, 0, none⟩ x).setCell ⟨g, 1, none⟩ y) :
    w7.cell? ⟨g, 0, none⟩ = some x ∧ w7.cell? ⟨g, 1, none⟩ = some y ∧ g < w7.heap.size ∧ Below wR.heap.size wR w7 := by
  subst hw
  have e : (⟨g, 0, none⟩ : Addr) ≠ ⟨g, 1, none⟩ := by simp
  have e' : (⟨g, 1, none⟩ : Addr) ≠ ⟨g, 0, none⟩ := by simp
  refine ⟨?_, ?_, ?_, (h.below.setCell h.ge _).setCell h.ge _⟩
  · rw [World.cell?_setCell_other _ _ _ _ e']; exact World.cell?_setCell_same _ _ _ h.c0
  · exact World.cell?_setCell_same (u := .slice none 0 0) _ _ _ (by rw [World.cell?_setCell_other _ _ _ _ e]; exact h.k1)
  · simpa [World.setCell] using h.lt
set_option maxHeartbeats 8000000 in
theorem valueErr (A : Option Addr) (c : Nat) (k0 : UInt8) (nm bl : List UInt8) (w : World) (hs : SB w A c (k0 :: (nm ++ 0 :: bl))) (hn : plainB nm = true) (hv : valLen (k0.toNat : Int) bl = ((bl.length : Int), true)) (hmax : (k0 :: (nm ++ 0 :: bl)).length ≤ 140737488355328) :
    Calls Tryz.prog 134 #[.slice A (k0 :: (nm ++ 0 :: bl)).length c] w fun e w' => ∃ A1 c1, e = .returned (.tuple #[.agg #[.int .u8 (k0.toNat : Int), .slice A1 bl.length c1], .nilIface]) ∧ (∀ wx, SB wx A c (k0 :: (nm ++ 0 :: bl)) → SB wx A1 c1 bl) ∧ Below w.heap.size w w' := by
  obtain ⟨l, hl⟩ : ∃ l, l = k0 :: (nm ++ 0 :: bl) := ⟨_, rfl⟩
  rw [← hl] at hs hmax ⊢
  have h2 : l.length = nm.length + 2 + bl.length := by rw [hl]; simp; omega
  have hd1 : l.drop 1 = nm ++ 0 :: bl := by rw [hl]; rfl
  have hd2 : l.drop (nm.length + 2) = bl := by rw [hl]; simp
  have hidx := index_plain nm bl hn
  rw [← hd1] at hidx
  have hlc := hs.le
  have hcc := hs.cap
  obtain ⟨A1, e1, s1⟩ := SB.from_ (P := Tryz.prog) Tryz.underlying182 rfl rfl .i64 A c l 1 (by omega) hs.le
  have e1' : ∀ W : World, (Instr.slice 182 (.slice A l.length c) (some (.int .i64 1)) none none).run Tryz.prog W = .ok (.slice A1 (l.drop 1).length (c - 1)) W := fun W => by rw [List.length_drop]; exact e1 W
  obtain ⟨A2, e2, s2⟩ := SB.from_ (P := Tryz.prog) Tryz.underlying182 rfl rfl .i64 A c l (nm.length + 2) (by omega) hs.le
  rw [hd2] at s2
  have hq0 : l.length - (nm.length + 2) = bl.length := by omega
  have e2' : ∀ W : World, (Instr.slice 182 (.slice A l.length c) (some (.int .i64 ((nm.length : Int) + 2))) none none).run Tryz.prog W = .ok (.slice A2 bl.length (c - (nm.length + 2))) W := fun W => by rw [← hq0]; exact e2 W
  have HI := Lib.hid (fun wx (h : Below w.heap.size w wx) => bytesIndexByte A1 (c - 1) (l.drop 1) 0 wx (s1 wx (hs.keep h)))
  rw [hidx] at HI
  obtain ⟨tt, htt⟩ : ∃ tt : Int, tt = (k0.toNat : Int) := ⟨_, rfl⟩
  have HV : Hid (∀ wx : World, Below w.heap.size w wx → Calls Tryz.prog 64 #[.slice A2 bl.length (c - (nm.length + 2)), .int .u8 (k0.toNat : Int)] wx fun e w' => ∃ A3 c3 A4 c4, e = .returned (.tuple #[.agg #[.int .u8 (k0.toNat : Int), .slice A3 bl.length c3], .slice A4 0 c4, .bool true]) ∧ (∀ wy, SB wy A c l → SB wy A3 c3 bl) ∧ Below wx.heap.size wx w') := Lib.hid fun wx h => by
    refine (readValueV_ok A2 (c - (nm.length + 2)) bl (k0.toNat : Int) bl.length wx (s2 wx (hs.keep h)) hv (Nat.le_refl _)).mono ?_
    rintro e w' ⟨A3, c3, A4, c4, rfl, hss, hb⟩
    refine ⟨A3, c3, A4, c4, by rw [Nat.sub_self], ?_, hb⟩
    intro wy hy
    have := (hss wy (s2 wy hy)).1
    rwa [List.take_length] at this
  obtain ⟨b, off, rfl, hc⟩ := hs.cells (by omega)
  have hc0 : w.cell? ⟨b, off, none⟩ = some (.int .u8 tt) := by
    have h := hc 0 (by omega)
    rw [htt]
    subst hl
    simpa using h
  obtain ⟨bl0, hbl0⟩ : ∃ x, x = bl := ⟨_, rfl⟩
  obtain ⟨r, hr⟩ : ∃ r, r = bl.length := ⟨_, rfl⟩
  rw [← htt] at HV ⊢
  rw [← hr] at HV e2' h2 ⊢
  obtain ⟨p, hp⟩ : ∃ p, p = nm.length := ⟨_, rfl⟩
  rw [← hp] at HV e2' h2 HI
  obtain ⟨l1, hl1⟩ : ∃ x, x = (l.drop 1).length := ⟨_, rfl⟩
  rw [← hl1] at e1' HI
  obtain ⟨q, hq⟩ : ∃ q, q = l.length := ⟨_, rfl⟩
  rw [← hq] at e1' e2' hmax h2 ⊢
  clear hs s1 s2 e1 e2 hl hd1 hd2 hidx hlc hcc hq0 hv hn hc hr hp hl1 hq htt hbl0 bl0
  have i1 : IntKind.i64.wrap ((p : Int) + 2) = (p : Int) + 2 := IntWalk.i64_in _ (by omega)
  have hpm : ((p : Int) == -1) = false := by simp only [beq_eq_false_iff_ne, ne_eq]; omega
  have hq1 : 0 < q := by omega
  have hq0 : ((q : Int) == 0) = false := by simp only [beq_eq_false_iff_ne, ne_eq]; omega
  clear h2
  go_enter Tryz.func134, Tryz.ntmps134
  go_wp2_with fail
  refine (HI.out _ (balloc (Below.refl _ _) (Nat.le_refl _) _)).mono ?_
  rintro e w1 ⟨rfl, hw⟩
  have hb1 : Below (w.heap.size + 1) (w.alloc (.cells #[.int .u8 0, .slice none 0 0] 73)) w1 := by
    rw [← hw]
    exact Below.refl _ _
  have hz1 := boxs hb1
  have hB1 := boxb hb1
  have hC0 : w1.cell? ⟨b, off, none⟩ = some (.int .u8 tt) := (hB1.cell (World.block_lt_of_cell? _ _ hc0)).trans hc0
  have HX1 := Lib.hid hb1
  clear HI hw hb1 hc0
  go_wp2_with fail
  refine start_ (n := 16) (S := fun w' => w'.cell? ⟨b, off, none⟩ = some (.int .u8 tt)) (ds := [13]) #[false, false, false, false, false, false, false, false, false, false, false, false, false, false, false, false] (by kernel_rfl) rfl rfl ((by exact hC0)) (fun hHeld => ?_)
  refine with_tabW R134.tab6 R134.bits6 (fun HT_ HW_ => ?_)
  refine pure_ (i := 0) (N := some 21) (v := ?_) (a' := ?_) #[true, false, false, false, false, false, false, false, false, false, false, false, false, false, false, false] rfl rfl (any_of HT_.out (by kernel_rfl)) (fun _ _ _ h => h) (Or.inl ⟨by rfl, ?_⟩) ?_ ?_
  rotate_left
  · intro w'
    go_simp
    with_reducible rfl
  rotate_left
  · simp only [Act.put, List.setIfInBounds_toArray, List.set_cons_zero, List.set_cons_succ, i64_w, i32_w]
    rfl
  refine pure_ (i := 1) (N := some 22) (v := ?_) (a' := ?_) #[true, true, false, false, false, false, false, false, false, false, false, false, false, false, false, false] rfl rfl (any_of HT_.out (by kernel_rfl)) (fun _ _ _ h => h) (Or.inl ⟨by rfl, ?_⟩) ?_ ?_
  rotate_left
  · intro w'
    go_simp
    with_reducible rfl
  rotate_left
  · simp only [Act.put, List.setIfInBounds_toArray, List.set_cons_zero, List.set_cons_succ, i64_w, i32_w]
    rfl
  refine pure_ (i := 2) (N := some 23) (v := ?_) (a' := ?_) #[true, true, true, false, false, false, false, false, false, false, false, false, false, false, false, false] rfl rfl (any_of HT_.out (by kernel_rfl)) (fun _ _ _ h => h) (Or.inl ⟨by rfl, ?_⟩) ?_ ?_
  rotate_left
  · intro w'
    go_simp
    with_reducible rfl
  rotate_left
  · simp only [Act.put, List.setIfInBounds_toArray, List.set_cons_zero, List.set_cons_succ, i64_w, i32_w]
    rfl
  refine pure_ (i := 3) (N := some 24) (v := ?_) (a' := ?_) #[true, true, true, true, false, false, false, false, false, false, false, false, false, false, false, false] rfl rfl (any_of HT_.out (by kernel_rfl)) (fun _ _ _ h => h) (Or.inl ⟨by rfl, ?_⟩) ?_ ?_
  rotate_left
  · intro w'
    go_simp
    with_reducible rfl
  rotate_left
  · simp only [Act.put, List.setIfInBounds_toArray, List.set_cons_zero, List.set_cons_succ, i64_w, i32_w]
    rfl
  refine pure_ (i := 4) (N := some 25) (v := ?_) (a' := ?_) #[true, true, true, true, true, false, false, false, false, false, false, false, false, false, false, false] rfl rfl (any_of HT_.out (by kernel_rfl)) (fun _ _ _ h => h) (Or.inl ⟨by rfl, ?_⟩) ?_ ?_
  rotate_left
  · intro w'
    go_simp
    with_reducible rfl
  rotate_left
  · simp only [Act.put, List.setIfInBounds_toArray, List.set_cons_zero, List.set_cons_succ, i64_w, i32_w]
    rfl
  refine pure_ (i := 5) (N := some 26) (v := ?_) (a' := ?_) #[true, true, true, true, true, true, false, false, false, false, false, false, false, false, false, false] rfl rfl (any_of HT_.out (by kernel_rfl)) (fun _ _ _ h => h) (Or.inl ⟨by rfl, ?_⟩) ?_ ?_
  rotate_left
  · intro w'
    go_simp
    with_reducible rfl
  rotate_left
  · simp only [Act.put, List.setIfInBounds_toArray, List.set_cons_zero, List.set_cons_succ, i64_w, i32_w]
    rfl
  refine take_ (i := 6) (N := some 27) (v := ?_) (a' := ?_) #[true, true, true, true, true, true, true, false, false, false, false, false, false, false, false, false] rfl rfl (take_ofW HT_.out HW_.out (by kernel_rfl)) (fun _ _ _ h => h) (Or.inl ⟨by rfl, ?_⟩) hHeld ?_ ?_
  rotate_left
  · intro w' s0
    go_simp
    with_reducible rfl
  rotate_left
  · simp only [Act.put, List.setIfInBounds_toArray, List.set_cons_zero, List.set_cons_succ, i64_w, i32_w]
    rfl
  refine join_ (σ := Option Addr × Nat × Option Addr × Nat × Nat) 3 #[true, true, true, true, true, true, true, true, true, true, true, true, true, false, false, false] (fun s => [(28, .tuple #[.agg #[.int .u8 tt, .slice s.1 r s.2.1], .slice s.2.2.1 0 s.2.2.2.1, .bool true]), (20, .tuple #[.agg #[.int .u8 tt, .slice s.1 r s.2.1], .slice s.2.2.1 0 s.2.2.2.1, .bool true]), (29, .agg #[.int .u8 tt, .slice s.1 r s.2.1]), (30, .slice s.2.2.1 0 s.2.2.2.1), (31, .bool true), (5, .pointer (some ⟨s.2.2.2.2, 0, none⟩))]) (fun s w' => (∀ wy, SB wy (some ⟨b, off, none⟩) c l → SB wy s.1 s.2.1 bl) ∧ Vf w1 s.2.2.2.2 w' ∧ w'.cell? ⟨b, off, none⟩ = some (.int .u8 tt)) ?_ ?_
  rotate_left
  · intro hCont
    refine two_ (i := 7) (j := 12) (Ni := some 28) (Nj := some 5) #[true, true, true, true, true, true, true, true, false, false, false, false, false, false, false, false] #[true, true, true, true, true, true, true, false, false, false, false, false, true, false, false, false] rfl rfl rfl rfl (two_of HT_.out (by kernel_rfl)) (by decide) (by decide) (fun K hK => ?_) (fun K hK => ?_)
    · skip
      refine goes_ Tryz.func64 (by kernel_rfl) rfl #[.slice A2 r (c - (p + 2)), .int .u8 tt] (by rfl) rfl rfl (by simp only [List.map_toArray, List.map_cons, List.map_nil]; rfl) ?_
      with_reducible refine (HV.out _ (hB1.trans (((bdrew (Below.refl _ _)) : Below w1.heap.size w1 _).mono (by omega)))).mono ?_
      rintro e wA ⟨A3, c3, A4, c4, rfl, hss, hba⟩
      refine ⟨_, rfl, ?_⟩
      have hsA : w1.heap.size ≤ wA.heap.size := by have := hba.size; simp at this; omega
      have hBA : Below w1.heap.size w1 wA := (bdrew (Below.refl _ _)).trans (hba.mono (by simp))
      refine hK.out _ _ ((hba.cell (World.block_lt_of_cell? _ _ hHeld)).trans hHeld) (fun hHeld => ?_)
      clear hK K
      refine norm_ (a' := ?_) ?_ ?_
      rotate_left
      · show Act.put _ (some 28) _ = _
        simp only [Act.put, List.setIfInBounds_toArray, List.set_cons_zero, List.set_cons_succ, i64_w, i32_w]
        rfl
      refine pure_ (i := 8) (N := some 20) (v := ?_) (a' := ?_) #[true, true, true, true, true, true, true, true, true, false, false, false, false, false, false, false] rfl rfl (any_of HT_.out (by kernel_rfl)) (fun _ _ _ h => h) (Or.inl ⟨by rfl, ?_⟩) ?_ ?_
      rotate_left
      · intro w'
        go_simp
        with_reducible rfl
      rotate_left
      · simp only [Act.put, List.setIfInBounds_toArray, List.set_cons_zero, List.set_cons_succ, i64_w, i32_w]
        rfl
      refine pure_ (i := 9) (N := some 29) (v := ?_) (a' := ?_) #[true, true, true, true, true, true, true, true, true, true, false, false, false, false, false, false] rfl rfl (any_of HT_.out (by kernel_rfl)) (fun _ _ _ h => h) (Or.inl ⟨by rfl, ?_⟩) ?_ ?_
      rotate_left
      · intro w'
        go_simp
        with_reducible rfl
      rotate_left
      · simp only [Act.put, List.setIfInBounds_toArray, List.set_cons_zero, List.set_cons_succ, i64_w, i32_w]
        rfl
      refine pure_ (i := 10) (N := some 30) (v := ?_) (a' := ?_) #[true, true, true, true, true, true, true, true, true, true, true, false, false, false, false, false] rfl rfl (any_of HT_.out (by kernel_rfl)) (fun _ _ _ h => h) (Or.inl ⟨by rfl, ?_⟩) ?_ ?_
      rotate_left
      · intro w'
        go_simp
        with_reducible rfl
      rotate_left
      · simp only [Act.put, List.setIfInBounds_toArray, List.set_cons_zero, List.set_cons_succ, i64_w, i32_w]
        rfl
      refine pure_ (i := 11) (N := some 31) (v := ?_) (a' := ?_) #[true, true, true, true, true, true, true, true, true, true, true, true, false, false, false, false] rfl rfl (any_of HT_.out (by kernel_rfl)) (fun _ _ _ h => h) (Or.inl ⟨by rfl, ?_⟩) ?_ ?_
      rotate_left
      · intro w'
        go_simp
        with_reducible rfl
      rotate_left
      · simp only [Act.put, List.setIfInBounds_toArray, List.set_cons_zero, List.set_cons_succ, i64_w, i32_w]
        rfl
      refine one_ (i := 12) (N := some 5) #[true, true, true, true, true, true, true, true, true, true, true, true, true, false, false, false] rfl rfl (one_of HT_.out (by kernel_rfl)) (by decide) (fun K hK => ?_)
      refine value_ (w1 := ?_) (v := ?_) (by rfl) rfl ?_ ?_
      rotate_left 2
      · go_simp
        constructor
        · rfl
        · rfl
      refine hK.out _ _ (((balloc (Below.refl _ _) (Nat.le_refl _) _).cell (World.block_lt_of_cell? _ _ hHeld)).trans hHeld) (fun hHeld => ?_)
      clear hK K
      refine norm_ (a' := ?_) ?_ ?_
      rotate_left
      · show Act.put _ (some 5) _ = _
        simp only [Act.put, List.setIfInBounds_toArray, List.set_cons_zero, List.set_cons_succ, i64_w, i32_w]
        rfl
      exact norm_ (by simp only [putAll, Act.put, List.setIfInBounds_toArray, List.set_cons_zero, List.set_cons_succ]) (hCont (A3, c3, A4, c4, wA.heap.size) _ ⟨hss, Vf.of_block (by exact heap_alloc_new wA _) (by show w1.heap.size ≤ wA.heap.size; omega) (balloc hBA hsA _), hHeld⟩)
    · skip
      refine value_ (w1 := ?_) (v := ?_) (by rfl) rfl ?_ ?_
      rotate_left 2
      · go_simp
        constructor
        · rfl
        · rfl
      refine hK.out _ _ (((balloc (Below.refl _ _) (Nat.le_refl _) _).cell (World.block_lt_of_cell? _ _ hHeld)).trans hHeld) (fun hHeld => ?_)
      clear hK K
      refine norm_ (a' := ?_) ?_ ?_
      rotate_left
      · show Act.put _ (some 5) _ = _
        simp only [Act.put, List.setIfInBounds_toArray, List.set_cons_zero, List.set_cons_succ, i64_w, i32_w]
        rfl
      refine one_ (i := 7) (N := some 28) #[true, true, true, true, true, true, true, true, false, false, false, false, true, false, false, false] rfl rfl (one_of HT_.out (by kernel_rfl)) (by decide) (fun K hK => ?_)
      refine goes_ Tryz.func64 (by kernel_rfl) rfl #[.slice A2 r (c - (p + 2)), .int .u8 tt] (by rfl) rfl rfl (by simp only [List.map_toArray, List.map_cons, List.map_nil]; rfl) ?_
      with_reducible refine (HV.out _ (hB1.trans (((bdrew (balloc (Below.refl _ _) (Nat.le_refl _) _)) : Below w1.heap.size w1 _).mono (by omega)))).mono ?_
      rintro e wA ⟨A3, c3, A4, c4, rfl, hss, hba⟩
      refine ⟨_, rfl, ?_⟩
      have hsA : w1.heap.size ≤ wA.heap.size := by have := hba.size; simp at this; omega
      have hBA : Below w1.heap.size w1 wA := (bdrew (balloc (Below.refl _ _) (Nat.le_refl _) _)).trans (hba.mono (by simp))
      refine hK.out _ _ ((hba.cell (World.block_lt_of_cell? _ _ hHeld)).trans hHeld) (fun hHeld => ?_)
      clear hK K
      refine norm_ (a' := ?_) ?_ ?_
      rotate_left
      · show Act.put _ (some 28) _ = _
        simp only [Act.put, List.setIfInBounds_toArray, List.set_cons_zero, List.set_cons_succ, i64_w, i32_w]
        rfl
      refine pure_ (i := 8) (N := some 20) (v := ?_) (a' := ?_) #[true, true, true, true, true, true, true, true, true, false, false, false, true, false, false, false] rfl rfl (any_of HT_.out (by kernel_rfl)) (fun _ _ _ h => h) (Or.inl ⟨by rfl, ?_⟩) ?_ ?_
      rotate_left
      · intro w'
        go_simp
        with_reducible rfl
      rotate_left
      · simp only [Act.put, List.setIfInBounds_toArray, List.set_cons_zero, List.set_cons_succ, i64_w, i32_w]
        rfl
      refine pure_ (i := 9) (N := some 29) (v := ?_) (a' := ?_) #[true, true, true, true, true, true, true, true, true, true, false, false, true, false, false, false] rfl rfl (any_of HT_.out (by kernel_rfl)) (fun _ _ _ h => h) (Or.inl ⟨by rfl, ?_⟩) ?_ ?_
      rotate_left
      · intro w'
        go_simp
        with_reducible rfl
      rotate_left
      · simp only [Act.put, List.setIfInBounds_toArray, List.set_cons_zero, List.set_cons_succ, i64_w, i32_w]
        rfl
      refine pure_ (i := 10) (N := some 30) (v := ?_) (a' := ?_) #[true, true, true, true, true, true, true, true, true, true, true, false, true, false, false, false] rfl rfl (any_of HT_.out (by kernel_rfl)) (fun _ _ _ h => h) (Or.inl ⟨by rfl, ?_⟩) ?_ ?_
      rotate_left
      · intro w'
        go_simp
        with_reducible rfl
      rotate_left
      · simp only [Act.put, List.setIfInBounds_toArray, List.set_cons_zero, List.set_cons_succ, i64_w, i32_w]
        rfl
      refine pure_ (i := 11) (N := some 31) (v := ?_) (a' := ?_) #[true, true, true, true, true, true, true, true, true, true, true, true, true, false, false, false] rfl rfl (any_of HT_.out (by kernel_rfl)) (fun _ _ _ h => h) (Or.inl ⟨by rfl, ?_⟩) ?_ ?_
      rotate_left
      · intro w'
        go_simp
        with_reducible rfl
      rotate_left
      · simp only [Act.put, List.setIfInBounds_toArray, List.set_cons_zero, List.set_cons_succ, i64_w, i32_w]
        rfl
      exact norm_ (by simp only [putAll, Act.put, List.setIfInBounds_toArray, List.set_cons_zero, List.set_cons_succ]) (hCont (A3, c3, A4, c4, w1.heap.size) _ ⟨hss, Vf.of_block (by rw [hba.block _ (by simp)]; exact heap_alloc_new w1 _) (by show w1.heap.size ≤ w1.heap.size; omega) (hBA), hHeld⟩)
  rintro ⟨A3, c3, A4, c4, g⟩ w6 ⟨hss, hVf, hHeld⟩
  have RC0 := hVf.c0
  have RC1 := hVf.k1
  have RF0 := hVf.f0
  have RF1 := hVf.f1
  have HVF := Lib.hid hVf
  have HSS := Lib.hid hss
  clear hVf hss
  refine norm_ (a' := ?_) ?_ ?_
  rotate_left
  · simp only [putAll, Act.put, List.setIfInBounds_toArray, List.set_cons_zero, List.set_cons_succ]
    rfl
  refine last_ (i := 13) (N := none) #[true, true, true, true, true, true, true, true, true, true, true, true, true, true, false, false] rfl rfl (one_of HT_.out (by kernel_rfl)) (by decide) (fun K hK => ?_)
  refine skip_ (w1 := ?_) (by rfl) rfl ?_ ?_
  rotate_left
  · go_simp
    rfl
  refine hK.out _ _ ?_
  clear hK K
  refine pure_ (i := 14) (N := some 6) (v := ?_) (a' := ?_) #[true, true, true, true, true, true, true, true, true, true, true, true, true, true, true, false] rfl rfl (any_of HT_.out (by kernel_rfl)) (fun _ _ _ h => h) (Or.inl ⟨by rfl, ?_⟩) ?_ ?_
  rotate_left
  · intro w'
    go_simp
    with_reducible rfl
  rotate_left
  · simp only [Act.put, List.setIfInBounds_toArray, List.set_cons_zero, List.set_cons_succ, i64_w, i32_w]
    rfl
  refine pure_ (i := 15) (N := some 7) (v := ?_) (a' := ?_) #[true, true, true, true, true, true, true, true, true, true, true, true, true, true, true, true] rfl rfl (any_of HT_.out (by kernel_rfl)) (fun _ _ _ h => h) (Or.inl ⟨by rfl, ?_⟩) ?_ ?_
  rotate_left
  · intro w'
    go_simp
    with_reducible rfl
  rotate_left
  · simp only [Act.put, List.setIfInBounds_toArray, List.set_cons_zero, List.set_cons_succ, i64_w, i32_w]
    rfl
  refine done_ (done_of HT_.out (by kernel_rfl)) ?_
  obtain ⟨w7, hw7⟩ : ∃ x, x = (w6.setCell ⟨g, 0, none⟩ (.int .u8 tt)).setCell ⟨g, 1, none⟩ (.slice A3 r c3) := ⟨_, rfl⟩
  obtain ⟨g0, g1, hgl, hb7⟩ := HVF.out.stored _ _ w7 hw7
  rw [← hw7]
  have hX7 := HX1.out.trans (hb7.mono hz1)
  have q0 := boxc hX7 0
  have q1 := boxc hX7 1
  simp only [List.getElem?_cons_succ, List.getElem?_cons_zero] at q0 q1
  have f0 := boxf hX7 0
  have f1 := boxf hX7 1
  have hz7 := boxs hX7
  have hlt7 : w.heap.size < w7.heap.size := by omega
  have HB7 := Lib.hid (boxb hX7)
  clear HVF RC0 RC1 RF0 RF1 hw7 hb7 hX7 HX1 hHeld HV
  go_wp2_with fail
  exact bodyPost_ret (v := .tuple #[.agg #[.int .u8 tt, .slice A3 r c3], .nilIface]) (by simp [results, Tryz.results134, go_sem, q0, q1]) rfl ⟨A3, c3, rfl, HSS.out, (HB7.out.setCell (Nat.le_refl _) _).setCell (Nat.le_refl _) _⟩
end Go.Proofs.YtbpopaegfhcdpaaGreatDoor.X


/- The value of a right element, and when two raw values are the same. -/
set_option linter.unusedVariables false
set_option linter.unusedSimpArgs false
set_option maxRecDepth 100000
namespace Go.Proofs.YtbpopaegfhcdpaaGreatDoor.X
open Go.RowKit Go.Proofs.YtbpopaegfhcdpaaGreatDoorW.PrintLast

end Go.Proofs.YtbpopaegfhcdpaaGreatDoor.X


/- Names and values of elements, for all bytes, with the codes of their errors. -/
set_option linter.unusedVariables false
set_option linter.unusedSimpArgs false
set_option maxRecDepth 100000
namespace Go.Proofs.YtbpopaegfhcdpaaGreatDoor.X
open Go.RowKit Go.Proofs.YtbpopaegfhcdpaaGreatDoorW.PrintLast
namespace Al
def R134.T6 : Bool × List (List Nat × List Nat) := (true, [([], []), ([], []), ([1], [1]), ([0, 2], [0, 2]), ([], []), ([4], [4]), ([5], [5]), ([3, 6], [3, 6]), ([7], [7]), ([8], [8]), ([8], [8]), ([8], [8]), ([], []), ([12, 9, 7, 0, 1, 2, 3, 4, 5, 6, 7, 8, 9, 12], [9, 12]), ([10, 13, 0, 1, 2, 3, 4, 5, 6, 7, 8, 9, 10, 12, 13], [10]), ([11, 14, 0, 1, 2, 3, 4, 5, 6, 7, 8, 9, 10, 11, 12, 13, 14], [11])])
def R134.B6 : List Nat := [0, 0, 2, 7, 0, 16, 48, 127, 255, 511, 511, 511, 0, 5119, 14335, 32767]
theorem R134.tab6 : rtab .any (opsOf Tryz.f134 6) = R134.T6 := by kernel_rfl
theorem R134.bits6 : waitsOk R134.T6.2 R134.B6 = true := by kernel_rfl
/-- An error's value by its code. -/
def CodeIs (n : Int) (v : Value) : Prop := (n = 0 ∧ v = .nilIface) ∨ (n = 5 ∧ ∃ s, v = .iface 191 (.string s)) ∨ (n = 1 ∧ ∃ A n c B m d, v = .iface 180 (.agg #[.slice A n c, .slice B m d]))
theorem code_ex {n : Int} {v : Value} (h : CodeIs n v) (w : World) : Calls Tryz.prog 71 #[v] w fun e w' => e = .returned (.int .i64 n) ∧ Below w.heap.size w w' := by
  rcases h with ⟨rfl, rfl⟩ | ⟨rfl, s, rfl⟩ | ⟨rfl, A, n, c, B, m, d, rfl⟩
  · exact code_nil w
  · exact code_mal s w
  · exact code_insuf A B n c m d w
/-- Whether some bytes have no element's name. -/
def Nameless (l : List UInt8) : Prop := l = [] ∨ Lib.indexByte (l.drop 1) ((0 : Int).toNat.toUInt8) = -1
theorem idx_split : ∀ (r : List UInt8), Lib.indexByte r ((0 : Int).toNat.toUInt8) = -1 ∨ ∃ nm bl, r = nm ++ 0 :: bl ∧ plainB nm = true
  | [] => Or.inl rfl
  | x :: r => by
    by_cases hx : x = 0
    · subst hx; exact Or.inr ⟨[], r, rfl, rfl⟩
    · rcases idx_split r with h | ⟨nm, bl, rfl, hp⟩
      · left
        have hb : (x == ((0 : Int).toNat.toUInt8)) = false := by
          rw [beq_eq_false_iff_ne]; exact hx
        simp only [Lib.indexByte, hb, h]
        rfl
      · exact Or.inr ⟨x :: nm, bl, rfl, by simp only [plainB, List.all_cons, Bool.and_eq_true, decide_eq_true_eq] at hp ⊢; exact ⟨fun h => hx (UInt8.toNat_inj.1 (by simpa using h)), hp⟩⟩
theorem elem_split (l : List UInt8) : Nameless l ∨ ∃ k0 nm bl, l = k0 :: (nm ++ 0 :: bl) ∧ plainB nm = true := by
  cases l with
  | nil => exact Or.inl (Or.inl rfl)
  | cons k0 r =>
    rcases idx_split r with h | ⟨nm, bl, rfl, hp⟩
    · exact Or.inl (Or.inr h)
    · exact Or.inr ⟨k0, nm, bl, rfl, hp⟩
theorem keyBytesErrNo (A : Option Addr) (c : Nat) (l : List UInt8) (w : World) (hs : SB w A c l) (hbad : Nameless l) :
    Calls Tryz.prog 195 #[.slice A l.length c] w fun e w' => ∃ v, e = .returned (.tuple #[.slice none 0 0, v]) ∧ CodeIs 5 v ∧ w = w' := by
  by_cases h0 : l.length = 0
  · have hn : l = [] := List.eq_nil_of_length_eq_zero h0
    subst hn
    go_enter Tryz.func195, Tryz.ntmps195
    go_wp2
    exact bodyPost_ret (v := .tuple #[.slice none 0 0, .iface 191 (.string _)]) (by simp [results, Tryz.results195, go_sem]; rfl) rfl ⟨_, rfl, Or.inr (Or.inl ⟨rfl, _, rfl⟩), rfl⟩
  have hz : Lib.indexByte (l.drop 1) ((0 : Int).toNat.toUInt8) = -1 := by
    rcases hbad with rfl | h
    · simp at h0
    · exact h
  obtain ⟨A1, e1, s1⟩ := SB.from_ (P := Tryz.prog) Tryz.underlying182 rfl rfl .i64 A c l 1 (by omega) hs.le
  have e1' : ∀ W : World, (Instr.slice 182 (.slice A l.length c) (some (.int .i64 1)) none none).run Tryz.prog W = .ok (.slice A1 (l.drop 1).length (c - 1)) W := fun W => by rw [List.length_drop]; exact e1 W
  have HI := Lib.hid (fun wx (h : Below w.heap.size w wx) => bytesIndexByte A1 (c - 1) (l.drop 1) 0 wx (s1 wx (hs.keep h)))
  rw [hz] at HI
  obtain ⟨l1, hl1⟩ : ∃ x, x = (l.drop 1).length := ⟨_, rfl⟩
  rw [← hl1] at e1' HI
  have hlc := hs.le
  obtain ⟨q, hq⟩ : ∃ q, q = l.length := ⟨_, rfl⟩
  rw [← hq] at e1' h0 hlc ⊢
  clear hs s1 e1 hz hbad hl1 hq
  have hq1 : 0 < q := by omega
  have hq0 : ((q : Int) == 0) = false := by simp only [beq_eq_false_iff_ne, ne_eq]; omega
  go_enter Tryz.func195, Tryz.ntmps195
  go_wp2_with fail
  refine (HI.out _ (Below.refl _ _)).mono ?_
  rintro e w1 ⟨rfl, rfl⟩
  clear HI
  go_wp2_with fail
  exact bodyPost_ret (v := .tuple #[.slice none 0 0, .iface 191 (.string _)]) (by simp [results, Tryz.results195, go_sem]; rfl) rfl ⟨_, rfl, Or.inr (Or.inl ⟨rfl, _, rfl⟩), rfl⟩
theorem keyErrNo (A : Option Addr) (c : Nat) (l : List UInt8) (w : World) (hs : SB w A c l) (hbad : Nameless l) :
    Calls Tryz.prog 196 #[.slice A l.length c] w fun e w' => ∃ v, e = .returned (.tuple #[.string ⟨#[]⟩, v]) ∧ CodeIs 5 v ∧ w = w' := by
  have HK := Lib.hid (keyBytesErrNo A c l w hs hbad)
  have k1 : (convert 22 9 (.slice none 0 0)).run Tryz.prog w = .ok (.string ⟨#[]⟩) w := str_of (A := none) (c := 0) (l := []) (SB.nil w)
  clear hs hbad
  go_enter Tryz.func196, Tryz.ntmps196
  go_wp2_with fail
  refine HK.out.mono ?_
  rintro e w1 ⟨v, rfl, hv, rfl⟩
  have HV := Lib.hid hv
  clear HK hv
  go_wp2_with fail
  exact bodyPost_ret (v := .tuple #[.string ⟨#[]⟩, v]) (by simp [results, Tryz.results196, go_sem]) rfl ⟨v, rfl, HV.out, rfl⟩
set_option maxHeartbeats 4000000 in
theorem valueErrNo0 (A : Option Addr) (c : Nat) (l : List UInt8) (w : World) (hs : SB w A c l) (hbad : Nameless l) :
    Calls Tryz.prog 134 #[.slice A l.length c] w fun e w' => ∃ v, e = .returned (.tuple #[.agg #[.int .u8 0, .slice none 0 0], v]) ∧ CodeIs 5 v ∧ Below w.heap.size w w' := by
  by_cases h0 : l.length = 0
  · have hn : l = [] := List.eq_nil_of_length_eq_zero h0
    subst hn
    go_enter Tryz.func134, Tryz.ntmps134
    go_wp2
    exact bodyPost_ret (v := .tuple #[.agg #[.int .u8 0, .slice none 0 0], .iface 191 (.string _)]) (by simp [results, Tryz.results134, go_sem]; rfl) rfl ⟨_, rfl, Or.inr (Or.inl ⟨rfl, _, rfl⟩), by exact balloc (Below.refl _ _) (Nat.le_refl _) _⟩
  have hz : Lib.indexByte (l.drop 1) ((0 : Int).toNat.toUInt8) = -1 := by
    rcases hbad with rfl | h
    · simp at h0
    · exact h
  obtain ⟨A1, e1, s1⟩ := SB.from_ (P := Tryz.prog) Tryz.underlying182 rfl rfl .i64 A c l 1 (by omega) hs.le
  have e1' : ∀ W : World, (Instr.slice 182 (.slice A l.length c) (some (.int .i64 1)) none none).run Tryz.prog W = .ok (.slice A1 (l.drop 1).length (c - 1)) W := fun W => by rw [List.length_drop]; exact e1 W
  have HI := Lib.hid (fun wx (h : Below w.heap.size w wx) => bytesIndexByte A1 (c - 1) (l.drop 1) 0 wx (s1 wx (hs.keep h)))
  rw [hz] at HI
  obtain ⟨l1, hl1⟩ : ∃ x, x = (l.drop 1).length := ⟨_, rfl⟩
  rw [← hl1] at e1' HI
  have hlc := hs.le
  obtain ⟨q, hq⟩ : ∃ q, q = l.length := ⟨_, rfl⟩
  rw [← hq] at e1' h0 hlc ⊢
  clear hs s1 e1 hz hbad hl1 hq
  have hq1 : 0 < q := by omega
  have hq0 : ((q : Int) == 0) = false := by simp only [beq_eq_false_iff_ne, ne_eq]; omega
  go_enter Tryz.func134, Tryz.ntmps134
  go_wp2_with fail
  refine (HI.out _ (balloc (Below.refl _ _) (Nat.le_refl _) _)).mono ?_
  rintro e w1 ⟨rfl, rfl⟩
  clear HI
  go_wp2_with fail
  exact bodyPost_ret (v := .tuple #[.agg #[.int .u8 0, .slice none 0 0], .iface 191 (.string _)]) (by simp [results, Tryz.results134, go_sem]; rfl) rfl ⟨_, rfl, Or.inr (Or.inl ⟨rfl, _, rfl⟩), by exact balloc (Below.refl _ _) (Nat.le_refl _) _⟩
set_option maxHeartbeats 8000000 in
theorem valueErrN (A : Option Addr) (c : Nat) (k0 : UInt8) (nm bl : List UInt8) (w : World) (hs : SB w A c (k0 :: (nm ++ 0 :: bl))) (hn : plainB nm = true) (n : Nat) (hv : valLen (k0.toNat : Int) bl = ((n : Int), true)) (hnl : n ≤ bl.length) (hmax : (k0 :: (nm ++ 0 :: bl)).length ≤ 140737488355328) :
    Calls Tryz.prog 134 #[.slice A (k0 :: (nm ++ 0 :: bl)).length c] w fun e w' => ∃ A1 c1, e = .returned (.tuple #[.agg #[.int .u8 (k0.toNat : Int), .slice A1 n c1], .nilIface]) ∧ (∀ wx, SB wx A c (k0 :: (nm ++ 0 :: bl)) → SB wx A1 c1 (bl.take n)) ∧ Below w.heap.size w w' := by
  obtain ⟨l, hl⟩ : ∃ l, l = k0 :: (nm ++ 0 :: bl) := ⟨_, rfl⟩
  rw [← hl] at hs hmax ⊢
  have h2 : l.length = nm.length + 2 + bl.length := by rw [hl]; simp; omega
  have hd1 : l.drop 1 = nm ++ 0 :: bl := by rw [hl]; rfl
  have hd2 : l.drop (nm.length + 2) = bl := by rw [hl]; simp
  have hidx := index_plain nm bl hn
  rw [← hd1] at hidx
  have hlc := hs.le
  have hcc := hs.cap
  obtain ⟨A1, e1, s1⟩ := SB.from_ (P := Tryz.prog) Tryz.underlying182 rfl rfl .i64 A c l 1 (by omega) hs.le
  have e1' : ∀ W : World, (Instr.slice 182 (.slice A l.length c) (some (.int .i64 1)) none none).run Tryz.prog W = .ok (.slice A1 (l.drop 1).length (c - 1)) W := fun W => by rw [List.length_drop]; exact e1 W
  obtain ⟨A2, e2, s2⟩ := SB.from_ (P := Tryz.prog) Tryz.underlying182 rfl rfl .i64 A c l (nm.length + 2) (by omega) hs.le
  rw [hd2] at s2
  have hq0 : l.length - (nm.length + 2) = bl.length := by omega
  have e2' : ∀ W : World, (Instr.slice 182 (.slice A l.length c) (some (.int .i64 ((nm.length : Int) + 2))) none none).run Tryz.prog W = .ok (.slice A2 bl.length (c - (nm.length + 2))) W := fun W => by rw [← hq0]; exact e2 W
  have HI := Lib.hid (fun wx (h : Below w.heap.size w wx) => bytesIndexByte A1 (c - 1) (l.drop 1) 0 wx (s1 wx (hs.keep h)))
  rw [hidx] at HI
  obtain ⟨tt, htt⟩ : ∃ tt : Int, tt = (k0.toNat : Int) := ⟨_, rfl⟩
  have HV : Hid (∀ wx : World, Below w.heap.size w wx → Calls Tryz.prog 64 #[.slice A2 bl.length (c - (nm.length + 2)), .int .u8 (k0.toNat : Int)] wx fun e w' => ∃ A3 c3 A4 c4, e = .returned (.tuple #[.agg #[.int .u8 (k0.toNat : Int), .slice A3 n c3], .slice A4 (bl.length - n) c4, .bool true]) ∧ (∀ wy, SB wy A c l → SB wy A3 c3 (bl.take n)) ∧ Below wx.heap.size wx w') := Lib.hid fun wx h => by
    refine (readValueV_ok A2 (c - (nm.length + 2)) bl (k0.toNat : Int) n wx (s2 wx (hs.keep h)) hv hnl).mono ?_
    rintro e w' ⟨A3, c3, A4, c4, rfl, hss, hb⟩
    refine ⟨A3, c3, A4, c4, rfl, ?_, hb⟩
    intro wy hy
    exact (hss wy (s2 wy hy)).1
  obtain ⟨b, off, rfl, hc⟩ := hs.cells (by omega)
  have hc0 : w.cell? ⟨b, off, none⟩ = some (.int .u8 tt) := by
    have h := hc 0 (by omega)
    rw [htt]
    subst hl
    simpa using h
  obtain ⟨tl, htl⟩ : ∃ x, x = bl.take n := ⟨_, rfl⟩
  rw [← htl] at HV ⊢
  obtain ⟨r, hr⟩ : ∃ r, r = bl.length := ⟨_, rfl⟩
  rw [← htt] at HV ⊢
  rw [← hr] at HV e2' h2
  obtain ⟨p, hp⟩ : ∃ p, p = nm.length := ⟨_, rfl⟩
  rw [← hp] at HV e2' h2 HI
  obtain ⟨l1, hl1⟩ : ∃ x, x = (l.drop 1).length := ⟨_, rfl⟩
  rw [← hl1] at e1' HI
  obtain ⟨q, hq⟩ : ∃ q, q = l.length := ⟨_, rfl⟩
  rw [← hq] at e1' e2' hmax h2 ⊢
  clear hs s1 s2 e1 e2 hl hd1 hd2 hidx hlc hcc hq0 hv hn hc hr hp hl1 hq htt htl hnl
  have i1 : IntKind.i64.wrap ((p : Int) + 2) = (p : Int) + 2 := IntWalk.i64_in _ (by omega)
  have hpm : ((p : Int) == -1) = false := by simp only [beq_eq_false_iff_ne, ne_eq]; omega
  have hq1 : 0 < q := by omega
  have hq0 : ((q : Int) == 0) = false := by simp only [beq_eq_false_iff_ne, ne_eq]; omega
  clear h2
  go_enter Tryz.func134, Tryz.ntmps134
  go_wp2_with fail
  refine (HI.out _ (balloc (Below.refl _ _) (Nat.le_refl _) _)).mono ?_
  rintro e w1 ⟨rfl, hw⟩
  have hb1 : Below (w.heap.size + 1) (w.alloc (.cells #[.int .u8 0, .slice none 0 0] 73)) w1 := by
    rw [← hw]
    exact Below.refl _ _
  have hz1 := boxs hb1
  have hB1 := boxb hb1
  have hC0 : w1.cell? ⟨b, off, none⟩ = some (.int .u8 tt) := (hB1.cell (World.block_lt_of_cell? _ _ hc0)).trans hc0
  have HX1 := Lib.hid hb1
  clear HI hw hb1 hc0
  go_wp2_with fail
  refine start_ (n := 16) (S := fun w' => w'.cell? ⟨b, off, none⟩ = some (.int .u8 tt)) (ds := [13]) #[false, false, false, false, false, false, false, false, false, false, false, false, false, false, false, false] (by kernel_rfl) rfl rfl ((by exact hC0)) (fun hHeld => ?_)
  refine with_tabW R134.tab6 R134.bits6 (fun HT_ HW_ => ?_)
  refine pure_ (i := 0) (N := some 21) (v := ?_) (a' := ?_) #[true, false, false, false, false, false, false, false, false, false, false, false, false, false, false, false] rfl rfl (any_of HT_.out (by kernel_rfl)) (fun _ _ _ h => h) (Or.inl ⟨by rfl, ?_⟩) ?_ ?_
  rotate_left
  · intro w'
    go_simp
    with_reducible rfl
  rotate_left
  · simp only [Act.put, List.setIfInBounds_toArray, List.set_cons_zero, List.set_cons_succ, i64_w, i32_w]
    rfl
  refine pure_ (i := 1) (N := some 22) (v := ?_) (a' := ?_) #[true, true, false, false, false, false, false, false, false, false, false, false, false, false, false, false] rfl rfl (any_of HT_.out (by kernel_rfl)) (fun _ _ _ h => h) (Or.inl ⟨by rfl, ?_⟩) ?_ ?_
  rotate_left
  · intro w'
    go_simp
    with_reducible rfl
  rotate_left
  · simp only [Act.put, List.setIfInBounds_toArray, List.set_cons_zero, List.set_cons_succ, i64_w, i32_w]
    rfl
  refine pure_ (i := 2) (N := some 23) (v := ?_) (a' := ?_) #[true, true, true, false, false, false, false, false, false, false, false, false, false, false, false, false] rfl rfl (any_of HT_.out (by kernel_rfl)) (fun _ _ _ h => h) (Or.inl ⟨by rfl, ?_⟩) ?_ ?_
  rotate_left
  · intro w'
    go_simp
    with_reducible rfl
  rotate_left
  · simp only [Act.put, List.setIfInBounds_toArray, List.set_cons_zero, List.set_cons_succ, i64_w, i32_w]
    rfl
  refine pure_ (i := 3) (N := some 24) (v := ?_) (a' := ?_) #[true, true, true, true, false, false, false, false, false, false, false, false, false, false, false, false] rfl rfl (any_of HT_.out (by kernel_rfl)) (fun _ _ _ h => h) (Or.inl ⟨by rfl, ?_⟩) ?_ ?_
  rotate_left
  · intro w'
    go_simp
    with_reducible rfl
  rotate_left
  · simp only [Act.put, List.setIfInBounds_toArray, List.set_cons_zero, List.set_cons_succ, i64_w, i32_w]
    rfl
  refine pure_ (i := 4) (N := some 25) (v := ?_) (a' := ?_) #[true, true, true, true, true, false, false, false, false, false, false, false, false, false, false, false] rfl rfl (any_of HT_.out (by kernel_rfl)) (fun _ _ _ h => h) (Or.inl ⟨by rfl, ?_⟩) ?_ ?_
  rotate_left
  · intro w'
    go_simp
    with_reducible rfl
  rotate_left
  · simp only [Act.put, List.setIfInBounds_toArray, List.set_cons_zero, List.set_cons_succ, i64_w, i32_w]
    rfl
  refine pure_ (i := 5) (N := some 26) (v := ?_) (a' := ?_) #[true, true, true, true, true, true, false, false, false, false, false, false, false, false, false, false] rfl rfl (any_of HT_.out (by kernel_rfl)) (fun _ _ _ h => h) (Or.inl ⟨by rfl, ?_⟩) ?_ ?_
  rotate_left
  · intro w'
    go_simp
    with_reducible rfl
  rotate_left
  · simp only [Act.put, List.setIfInBounds_toArray, List.set_cons_zero, List.set_cons_succ, i64_w, i32_w]
    rfl
  refine take_ (i := 6) (N := some 27) (v := ?_) (a' := ?_) #[true, true, true, true, true, true, true, false, false, false, false, false, false, false, false, false] rfl rfl (take_ofW HT_.out HW_.out (by kernel_rfl)) (fun _ _ _ h => h) (Or.inl ⟨by rfl, ?_⟩) hHeld ?_ ?_
  rotate_left
  · intro w' s0
    go_simp
    with_reducible rfl
  rotate_left
  · simp only [Act.put, List.setIfInBounds_toArray, List.set_cons_zero, List.set_cons_succ, i64_w, i32_w]
    rfl
  refine join_ (σ := Option Addr × Nat × Option Addr × Nat × Nat) 3 #[true, true, true, true, true, true, true, true, true, true, true, true, true, false, false, false] (fun s => [(28, .tuple #[.agg #[.int .u8 tt, .slice s.1 n s.2.1], .slice s.2.2.1 (r - n) s.2.2.2.1, .bool true]), (20, .tuple #[.agg #[.int .u8 tt, .slice s.1 n s.2.1], .slice s.2.2.1 (r - n) s.2.2.2.1, .bool true]), (29, .agg #[.int .u8 tt, .slice s.1 n s.2.1]), (30, .slice s.2.2.1 (r - n) s.2.2.2.1), (31, .bool true), (5, .pointer (some ⟨s.2.2.2.2, 0, none⟩))]) (fun s w' => (∀ wy, SB wy (some ⟨b, off, none⟩) c l → SB wy s.1 s.2.1 tl) ∧ Vf w1 s.2.2.2.2 w' ∧ w'.cell? ⟨b, off, none⟩ = some (.int .u8 tt)) ?_ ?_
  rotate_left
  · intro hCont
    refine two_ (i := 7) (j := 12) (Ni := some 28) (Nj := some 5) #[true, true, true, true, true, true, true, true, false, false, false, false, false, false, false, false] #[true, true, true, true, true, true, true, false, false, false, false, false, true, false, false, false] rfl rfl rfl rfl (two_of HT_.out (by kernel_rfl)) (by decide) (by decide) (fun K hK => ?_) (fun K hK => ?_)
    · skip
      refine goes_ Tryz.func64 (by kernel_rfl) rfl #[.slice A2 r (c - (p + 2)), .int .u8 tt] (by rfl) rfl rfl (by simp only [List.map_toArray, List.map_cons, List.map_nil]; rfl) ?_
      with_reducible refine (HV.out _ (hB1.trans (((bdrew (Below.refl _ _)) : Below w1.heap.size w1 _).mono (by omega)))).mono ?_
      rintro e wA ⟨A3, c3, A4, c4, rfl, hss, hba⟩
      refine ⟨_, rfl, ?_⟩
      have hsA : w1.heap.size ≤ wA.heap.size := by have := hba.size; simp at this; omega
      have hBA : Below w1.heap.size w1 wA := (bdrew (Below.refl _ _)).trans (hba.mono (by simp))
      refine hK.out _ _ ((hba.cell (World.block_lt_of_cell? _ _ hHeld)).trans hHeld) (fun hHeld => ?_)
      clear hK K
      refine norm_ (a' := ?_) ?_ ?_
      rotate_left
      · show Act.put _ (some 28) _ = _
        simp only [Act.put, List.setIfInBounds_toArray, List.set_cons_zero, List.set_cons_succ, i64_w, i32_w]
        rfl
      refine pure_ (i := 8) (N := some 20) (v := ?_) (a' := ?_) #[true, true, true, true, true, true, true, true, true, false, false, false, false, false, false, false] rfl rfl (any_of HT_.out (by kernel_rfl)) (fun _ _ _ h => h) (Or.inl ⟨by rfl, ?_⟩) ?_ ?_
      rotate_left
      · intro w'
        go_simp
        with_reducible rfl
      rotate_left
      · simp only [Act.put, List.setIfInBounds_toArray, List.set_cons_zero, List.set_cons_succ, i64_w, i32_w]
        rfl
      refine pure_ (i := 9) (N := some 29) (v := ?_) (a' := ?_) #[true, true, true, true, true, true, true, true, true, true, false, false, false, false, false, false] rfl rfl (any_of HT_.out (by kernel_rfl)) (fun _ _ _ h => h) (Or.inl ⟨by rfl, ?_⟩) ?_ ?_
      rotate_left
      · intro w'
        go_simp
        with_reducible rfl
      rotate_left
      · simp only [Act.put, List.setIfInBounds_toArray, List.set_cons_zero, List.set_cons_succ, i64_w, i32_w]
        rfl
      refine pure_ (i := 10) (N := some 30) (v := ?_) (a' := ?_) #[true, true, true, true, true, true, true, true, true, true, true, false, false, false, false, false] rfl rfl (any_of HT_.out (by kernel_rfl)) (fun _ _ _ h => h) (Or.inl ⟨by rfl, ?_⟩) ?_ ?_
      rotate_left
      · intro w'
        go_simp
        with_reducible rfl
      rotate_left
      · simp only [Act.put, List.setIfInBounds_toArray, List.set_cons_zero, List.set_cons_succ, i64_w, i32_w]
        rfl
      refine pure_ (i := 11) (N := some 31) (v := ?_) (a' := ?_) #[true, true, true, true, true, true, true, true, true, true, true, true, false, false, false, false] rfl rfl (any_of HT_.out (by kernel_rfl)) (fun _ _ _ h => h) (Or.inl ⟨by rfl, ?_⟩) ?_ ?_
      rotate_left
      · intro w'
        go_simp
        with_reducible rfl
      rotate_left
      · simp only [Act.put, List.setIfInBounds_toArray, List.set_cons_zero, List.set_cons_succ, i64_w, i32_w]
        rfl
      refine one_ (i := 12) (N := some 5) #[true, true, true, true, true, true, true, true, true, true, true, true, true, false, false, false] rfl rfl (one_of HT_.out (by kernel_rfl)) (by decide) (fun K hK => ?_)
      refine value_ (w1 := ?_) (v := ?_) (by rfl) rfl ?_ ?_
      rotate_left 2
      · go_simp
        constructor
        · rfl
        · rfl
      refine hK.out _ _ (((balloc (Below.refl _ _) (Nat.le_refl _) _).cell (World.block_lt_of_cell? _ _ hHeld)).trans hHeld) (fun hHeld => ?_)
      clear hK K
      refine norm_ (a' := ?_) ?_ ?_
      rotate_left
      · show Act.put _ (some 5) _ = _
        simp only [Act.put, List.setIfInBounds_toArray, List.set_cons_zero, List.set_cons_succ, i64_w, i32_w]
        rfl
      exact norm_ (by simp only [putAll, Act.put, List.setIfInBounds_toArray, List.set_cons_zero, List.set_cons_succ]) (hCont (A3, c3, A4, c4, wA.heap.size) _ ⟨hss, Vf.of_block (by exact heap_alloc_new wA _) (by show w1.heap.size ≤ wA.heap.size; omega) (balloc hBA hsA _), hHeld⟩)
    · skip
      refine value_ (w1 := ?_) (v := ?_) (by rfl) rfl ?_ ?_
      rotate_left 2
      · go_simp
        constructor
        · rfl
        · rfl
      refine hK.out _ _ (((balloc (Below.refl _ _) (Nat.le_refl _) _).cell (World.block_lt_of_cell? _ _ hHeld)).trans hHeld) (fun hHeld => ?_)
      clear hK K
      refine norm_ (a' := ?_) ?_ ?_
      rotate_left
      · show Act.put _ (some 5) _ = _
        simp only [Act.put, List.setIfInBounds_toArray, List.set_cons_zero, List.set_cons_succ, i64_w, i32_w]
        rfl
      refine one_ (i := 7) (N := some 28) #[true, true, true, true, true, true, true, true, false, false, false, false, true, false, false, false] rfl rfl (one_of HT_.out (by kernel_rfl)) (by decide) (fun K hK => ?_)
      refine goes_ Tryz.func64 (by kernel_rfl) rfl #[.slice A2 r (c - (p + 2)), .int .u8 tt] (by rfl) rfl rfl (by simp only [List.map_toArray, List.map_cons, List.map_nil]; rfl) ?_
      with_reducible refine (HV.out _ (hB1.trans (((bdrew (balloc (Below.refl _ _) (Nat.le_refl _) _)) : Below w1.heap.size w1 _).mono (by omega)))).mono ?_
      rintro e wA ⟨A3, c3, A4, c4, rfl, hss, hba⟩
      refine ⟨_, rfl, ?_⟩
      have hsA : w1.heap.size ≤ wA.heap.size := by have := hba.size; simp at this; omega
      have hBA : Below w1.heap.size w1 wA := (bdrew (balloc (Below.refl _ _) (Nat.le_refl _) _)).trans (hba.mono (by simp))
      refine hK.out _ _ ((hba.cell (World.block_lt_of_cell? _ _ hHeld)).trans hHeld) (fun hHeld => ?_)
      clear hK K
      refine norm_ (a' := ?_) ?_ ?_
      rotate_left
      · show Act.put _ (some 28) _ = _
        simp only [Act.put, List.setIfInBounds_toArray, List.set_cons_zero, List.set_cons_succ, i64_w, i32_w]
        rfl
      refine pure_ (i := 8) (N := some 20) (v := ?_) (a' := ?_) #[true, true, true, true, true, true, true, true, true, false, false, false, true, false, false, false] rfl rfl (any_of HT_.out (by kernel_rfl)) (fun _ _ _ h => h) (Or.inl ⟨by rfl, ?_⟩) ?_ ?_
      rotate_left
      · intro w'
        go_simp
        with_reducible rfl
      rotate_left
      · simp only [Act.put, List.setIfInBounds_toArray, List.set_cons_zero, List.set_cons_succ, i64_w, i32_w]
        rfl
      refine pure_ (i := 9) (N := some 29) (v := ?_) (a' := ?_) #[true, true, true, true, true, true, true, true, true, true, false, false, true, false, false, false] rfl rfl (any_of HT_.out (by kernel_rfl)) (fun _ _ _ h => h) (Or.inl ⟨by rfl, ?_⟩) ?_ ?_
      rotate_left
      · intro w'
        go_simp
        with_reducible rfl
      rotate_left
      · simp only [Act.put, List.setIfInBounds_toArray, List.set_cons_zero, List.set_cons_succ, i64_w, i32_w]
        rfl
      refine pure_ (i := 10) (N := some 30) (v := ?_) (a' := ?_) #[true, true, true, true, true, true, true, true, true, true, true, false, true, false, false, false] rfl rfl (any_of HT_.out (by kernel_rfl)) (fun _ _ _ h => h) (Or.inl ⟨by rfl, ?_⟩) ?_ ?_
      rotate_left
      · intro w'
        go_simp
        with_reducible rfl
      rotate_left
      · simp only [Act.put, List.setIfInBounds_toArray, List.set_cons_zero, List.set_cons_succ, i64_w, i32_w]
        rfl
      refine pure_ (i := 11) (N := some 31) (v := ?_) (a' := ?_) #[true, true, true, true, true, true, true, true, true, true, true, true, true, false, false, false] rfl rfl (any_of HT_.out (by kernel_rfl)) (fun _ _ _ h => h) (Or.inl ⟨by rfl, ?_⟩) ?_ ?_
      rotate_left
      · intro w'
        go_simp
        with_reducible rfl
      rotate_left
      · simp only [Act.put, List.setIfInBounds_toArray, List.set_cons_zero, List.set_cons_succ, i64_w, i32_w]
        rfl
      exact norm_ (by simp only [putAll, Act.put, List.setIfInBounds_toArray, List.set_cons_zero, List.set_cons_succ]) (hCont (A3, c3, A4, c4, w1.heap.size) _ ⟨hss, Vf.of_block (by rw [hba.block _ (by simp)]; exact heap_alloc_new w1 _) (by show w1.heap.size ≤ w1.heap.size; omega) (hBA), hHeld⟩)
  rintro ⟨A3, c3, A4, c4, g⟩ w6 ⟨hss, hVf, hHeld⟩
  have RC0 := hVf.c0
  have RC1 := hVf.k1
  have RF0 := hVf.f0
  have RF1 := hVf.f1
  have HVF := Lib.hid hVf
  have HSS := Lib.hid hss
  clear hVf hss
  refine norm_ (a' := ?_) ?_ ?_
  rotate_left
  · simp only [putAll, Act.put, List.setIfInBounds_toArray, List.set_cons_zero, List.set_cons_succ]
    rfl
  refine last_ (i := 13) (N := none) #[true, true, true, true, true, true, true, true, true, true, true, true, true, true, false, false] rfl rfl (one_of HT_.out (by kernel_rfl)) (by decide) (fun K hK => ?_)
  refine skip_ (w1 := ?_) (by rfl) rfl ?_ ?_
  rotate_left
  · go_simp
    rfl
  refine hK.out _ _ ?_
  clear hK K
  refine pure_ (i := 14) (N := some 6) (v := ?_) (a' := ?_) #[true, true, true, true, true, true, true, true, true, true, true, true, true, true, true, false] rfl rfl (any_of HT_.out (by kernel_rfl)) (fun _ _ _ h => h) (Or.inl ⟨by rfl, ?_⟩) ?_ ?_
  rotate_left
  · intro w'
    go_simp
    with_reducible rfl
  rotate_left
  · simp only [Act.put, List.setIfInBounds_toArray, List.set_cons_zero, List.set_cons_succ, i64_w, i32_w]
    rfl
  refine pure_ (i := 15) (N := some 7) (v := ?_) (a' := ?_) #[true, true, true, true, true, true, true, true, true, true, true, true, true, true, true, true] rfl rfl (any_of HT_.out (by kernel_rfl)) (fun _ _ _ h => h) (Or.inl ⟨by rfl, ?_⟩) ?_ ?_
  rotate_left
  · intro w'
    go_simp
    with_reducible rfl
  rotate_left
  · simp only [Act.put, List.setIfInBounds_toArray, List.set_cons_zero, List.set_cons_succ, i64_w, i32_w]
    rfl
  refine done_ (done_of HT_.out (by kernel_rfl)) ?_
  obtain ⟨w7, hw7⟩ : ∃ x, x = (w6.setCell ⟨g, 0, none⟩ (.int .u8 tt)).setCell ⟨g, 1, none⟩ (.slice A3 n c3) := ⟨_, rfl⟩
  obtain ⟨g0, g1, hgl, hb7⟩ := HVF.out.stored _ _ w7 hw7
  rw [← hw7]
  have hX7 := HX1.out.trans (hb7.mono hz1)
  have q0 := boxc hX7 0
  have q1 := boxc hX7 1
  simp only [List.getElem?_cons_succ, List.getElem?_cons_zero] at q0 q1
  have f0 := boxf hX7 0
  have f1 := boxf hX7 1
  have hz7 := boxs hX7
  have hlt7 : w.heap.size < w7.heap.size := by omega
  have HB7 := Lib.hid (boxb hX7)
  clear HVF RC0 RC1 RF0 RF1 hw7 hb7 hX7 HX1 hHeld HV
  go_wp2_with fail
  exact bodyPost_ret (v := .tuple #[.agg #[.int .u8 tt, .slice A3 n c3], .nilIface]) (by simp [results, Tryz.results134, go_sem, q0, q1]) rfl ⟨A3, c3, rfl, HSS.out, (HB7.out.setCell (Nat.le_refl _) _).setCell (Nat.le_refl _) _⟩
set_option maxHeartbeats 8000000 in
theorem valueErrNo (A : Option Addr) (c : Nat) (k0 : UInt8) (nm bl : List UInt8) (w : World) (hs : SB w A c (k0 :: (nm ++ 0 :: bl))) (hn : plainB nm = true) (hv : valIs (k0.toNat : Int) bl = false) (hmax : (k0 :: (nm ++ 0 :: bl)).length ≤ 140737488355328) :
    Calls Tryz.prog 134 #[.slice A (k0 :: (nm ++ 0 :: bl)).length c] w fun e w' => ∃ v, e = .returned (.tuple #[.agg #[.int .u8 0, .slice none 0 0], v]) ∧ CodeIs 1 v ∧ Below w.heap.size w w' := by
  obtain ⟨l, hl⟩ : ∃ l, l = k0 :: (nm ++ 0 :: bl) := ⟨_, rfl⟩
  rw [← hl] at hs hmax ⊢
  have h2 : l.length = nm.length + 2 + bl.length := by rw [hl]; simp; omega
  have hd1 : l.drop 1 = nm ++ 0 :: bl := by rw [hl]; rfl
  have hd2 : l.drop (nm.length + 2) = bl := by rw [hl]; simp
  have hidx := index_plain nm bl hn
  rw [← hd1] at hidx
  have hlc := hs.le
  have hcc := hs.cap
  obtain ⟨A1, e1, s1⟩ := SB.from_ (P := Tryz.prog) Tryz.underlying182 rfl rfl .i64 A c l 1 (by omega) hs.le
  have e1' : ∀ W : World, (Instr.slice 182 (.slice A l.length c) (some (.int .i64 1)) none none).run Tryz.prog W = .ok (.slice A1 (l.drop 1).length (c - 1)) W := fun W => by rw [List.length_drop]; exact e1 W
  obtain ⟨A2, e2, s2⟩ := SB.from_ (P := Tryz.prog) Tryz.underlying182 rfl rfl .i64 A c l (nm.length + 2) (by omega) hs.le
  rw [hd2] at s2
  have hq0 : l.length - (nm.length + 2) = bl.length := by omega
  have e2' : ∀ W : World, (Instr.slice 182 (.slice A l.length c) (some (.int .i64 ((nm.length : Int) + 2))) none none).run Tryz.prog W = .ok (.slice A2 bl.length (c - (nm.length + 2))) W := fun W => by rw [← hq0]; exact e2 W
  have HI := Lib.hid (fun wx (h : Below w.heap.size w wx) => bytesIndexByte A1 (c - 1) (l.drop 1) 0 wx (s1 wx (hs.keep h)))
  rw [hidx] at HI
  obtain ⟨tt, htt⟩ : ∃ tt : Int, tt = (k0.toNat : Int) := ⟨_, rfl⟩
  have HV : Hid (∀ wx : World, Below w.heap.size w wx → Calls Tryz.prog 64 #[.slice A2 bl.length (c - (nm.length + 2)), .int .u8 (k0.toNat : Int)] wx fun e w' => e = .returned (.tuple #[.agg #[.int .u8 0, .slice none 0 0], .slice A2 bl.length (c - (nm.length + 2)), .bool false]) ∧ Below wx.heap.size wx w') := Lib.hid fun wx h => readValueV_no A2 (c - (nm.length + 2)) bl (k0.toNat : Int) wx (s2 wx (hs.keep h)) hv
  obtain ⟨b, off, rfl, hc⟩ := hs.cells (by omega)
  have hc0 : w.cell? ⟨b, off, none⟩ = some (.int .u8 tt) := by
    have h := hc 0 (by omega)
    rw [htt]
    subst hl
    simpa using h
  obtain ⟨bl0, hbl0⟩ : ∃ x, x = bl := ⟨_, rfl⟩
  obtain ⟨r, hr⟩ : ∃ r, r = bl.length := ⟨_, rfl⟩
  rw [← htt] at HV
  rw [← hr] at HV e2' h2
  obtain ⟨p, hp⟩ : ∃ p, p = nm.length := ⟨_, rfl⟩
  rw [← hp] at HV e2' h2 HI
  obtain ⟨l1, hl1⟩ : ∃ x, x = (l.drop 1).length := ⟨_, rfl⟩
  rw [← hl1] at e1' HI
  obtain ⟨q, hq⟩ : ∃ q, q = l.length := ⟨_, rfl⟩
  rw [← hq] at e1' e2' hmax h2 ⊢
  clear hs s1 s2 e1 e2 hl hd1 hd2 hidx hlc hcc hq0 hv hn hc hr hp hl1 hq htt hbl0 bl0
  have i1 : IntKind.i64.wrap ((p : Int) + 2) = (p : Int) + 2 := IntWalk.i64_in _ (by omega)
  have hpm : ((p : Int) == -1) = false := by simp only [beq_eq_false_iff_ne, ne_eq]; omega
  have hq1 : 0 < q := by omega
  have hq0 : ((q : Int) == 0) = false := by simp only [beq_eq_false_iff_ne, ne_eq]; omega
  clear h2
  go_enter Tryz.func134, Tryz.ntmps134
  go_wp2_with fail
  refine (HI.out _ (balloc (Below.refl _ _) (Nat.le_refl _) _)).mono ?_
  rintro e w1 ⟨rfl, hw⟩
  have hb1 : Below (w.heap.size + 1) (w.alloc (.cells #[.int .u8 0, .slice none 0 0] 73)) w1 := by
    rw [← hw]
    exact Below.refl _ _
  have hz1 := boxs hb1
  have hB1 := boxb hb1
  have hC0 : w1.cell? ⟨b, off, none⟩ = some (.int .u8 tt) := (hB1.cell (World.block_lt_of_cell? _ _ hc0)).trans hc0
  have HX1 := Lib.hid hb1
  clear HI hw hb1 hc0
  go_wp2_with fail
  refine start_ (n := 16) (S := fun w' => w'.cell? ⟨b, off, none⟩ = some (.int .u8 tt)) (ds := [13]) #[false, false, false, false, false, false, false, false, false, false, false, false, false, false, false, false] (by kernel_rfl) rfl rfl ((by exact hC0)) (fun hHeld => ?_)
  refine with_tabW R134.tab6 R134.bits6 (fun HT_ HW_ => ?_)
  refine pure_ (i := 0) (N := some 21) (v := ?_) (a' := ?_) #[true, false, false, false, false, false, false, false, false, false, false, false, false, false, false, false] rfl rfl (any_of HT_.out (by kernel_rfl)) (fun _ _ _ h => h) (Or.inl ⟨by rfl, ?_⟩) ?_ ?_
  rotate_left
  · intro w'
    go_simp
    with_reducible rfl
  rotate_left
  · simp only [Act.put, List.setIfInBounds_toArray, List.set_cons_zero, List.set_cons_succ, i64_w, i32_w]
    rfl
  refine pure_ (i := 1) (N := some 22) (v := ?_) (a' := ?_) #[true, true, false, false, false, false, false, false, false, false, false, false, false, false, false, false] rfl rfl (any_of HT_.out (by kernel_rfl)) (fun _ _ _ h => h) (Or.inl ⟨by rfl, ?_⟩) ?_ ?_
  rotate_left
  · intro w'
    go_simp
    with_reducible rfl
  rotate_left
  · simp only [Act.put, List.setIfInBounds_toArray, List.set_cons_zero, List.set_cons_succ, i64_w, i32_w]
    rfl
  refine pure_ (i := 2) (N := some 23) (v := ?_) (a' := ?_) #[true, true, true, false, false, false, false, false, false, false, false, false, false, false, false, false] rfl rfl (any_of HT_.out (by kernel_rfl)) (fun _ _ _ h => h) (Or.inl ⟨by rfl, ?_⟩) ?_ ?_
  rotate_left
  · intro w'
    go_simp
    with_reducible rfl
  rotate_left
  · simp only [Act.put, List.setIfInBounds_toArray, List.set_cons_zero, List.set_cons_succ, i64_w, i32_w]
    rfl
  refine pure_ (i := 3) (N := some 24) (v := ?_) (a' := ?_) #[true, true, true, true, false, false, false, false, false, false, false, false, false, false, false, false] rfl rfl (any_of HT_.out (by kernel_rfl)) (fun _ _ _ h => h) (Or.inl ⟨by rfl, ?_⟩) ?_ ?_
  rotate_left
  · intro w'
    go_simp
    with_reducible rfl
  rotate_left
  · simp only [Act.put, List.setIfInBounds_toArray, List.set_cons_zero, List.set_cons_succ, i64_w, i32_w]
    rfl
  refine pure_ (i := 4) (N := some 25) (v := ?_) (a' := ?_) #[true, true, true, true, true, false, false, false, false, false, false, false, false, false, false, false] rfl rfl (any_of HT_.out (by kernel_rfl)) (fun _ _ _ h => h) (Or.inl ⟨by rfl, ?_⟩) ?_ ?_
  rotate_left
  · intro w'
    go_simp
    with_reducible rfl
  rotate_left
  · simp only [Act.put, List.setIfInBounds_toArray, List.set_cons_zero, List.set_cons_succ, i64_w, i32_w]
    rfl
  refine pure_ (i := 5) (N := some 26) (v := ?_) (a' := ?_) #[true, true, true, true, true, true, false, false, false, false, false, false, false, false, false, false] rfl rfl (any_of HT_.out (by kernel_rfl)) (fun _ _ _ h => h) (Or.inl ⟨by rfl, ?_⟩) ?_ ?_
  rotate_left
  · intro w'
    go_simp
    with_reducible rfl
  rotate_left
  · simp only [Act.put, List.setIfInBounds_toArray, List.set_cons_zero, List.set_cons_succ, i64_w, i32_w]
    rfl
  refine take_ (i := 6) (N := some 27) (v := ?_) (a' := ?_) #[true, true, true, true, true, true, true, false, false, false, false, false, false, false, false, false] rfl rfl (take_ofW HT_.out HW_.out (by kernel_rfl)) (fun _ _ _ h => h) (Or.inl ⟨by rfl, ?_⟩) hHeld ?_ ?_
  rotate_left
  · intro w' s0
    go_simp
    with_reducible rfl
  rotate_left
  · simp only [Act.put, List.setIfInBounds_toArray, List.set_cons_zero, List.set_cons_succ, i64_w, i32_w]
    rfl
  refine join_ (σ := Nat) 3 #[true, true, true, true, true, true, true, true, true, true, true, true, true, false, false, false] (fun s => [(28, .tuple #[.agg #[.int .u8 0, .slice none 0 0], .slice A2 r (c - (p + 2)), .bool false]), (20, .tuple #[.agg #[.int .u8 0, .slice none 0 0], .slice A2 r (c - (p + 2)), .bool false]), (29, .agg #[.int .u8 0, .slice none 0 0]), (30, .slice A2 r (c - (p + 2))), (31, .bool false), (5, .pointer (some ⟨s, 0, none⟩))]) (fun s w' => Vf w1 s w' ∧ w'.cell? ⟨b, off, none⟩ = some (.int .u8 tt)) ?_ ?_
  rotate_left
  · intro hCont
    refine two_ (i := 7) (j := 12) (Ni := some 28) (Nj := some 5) #[true, true, true, true, true, true, true, true, false, false, false, false, false, false, false, false] #[true, true, true, true, true, true, true, false, false, false, false, false, true, false, false, false] rfl rfl rfl rfl (two_of HT_.out (by kernel_rfl)) (by decide) (by decide) (fun K hK => ?_) (fun K hK => ?_)
    · skip
      refine goes_ Tryz.func64 (by kernel_rfl) rfl #[.slice A2 r (c - (p + 2)), .int .u8 tt] (by rfl) rfl rfl (by simp only [List.map_toArray, List.map_cons, List.map_nil]; rfl) ?_
      with_reducible refine (HV.out _ (hB1.trans (((bdrew (Below.refl _ _)) : Below w1.heap.size w1 _).mono (by omega)))).mono ?_
      rintro e wA ⟨rfl, hba⟩
      refine ⟨_, rfl, ?_⟩
      have hsA : w1.heap.size ≤ wA.heap.size := by have := hba.size; simp at this; omega
      have hBA : Below w1.heap.size w1 wA := (bdrew (Below.refl _ _)).trans (hba.mono (by simp))
      refine hK.out _ _ ((hba.cell (World.block_lt_of_cell? _ _ hHeld)).trans hHeld) (fun hHeld => ?_)
      clear hK K
      refine norm_ (a' := ?_) ?_ ?_
      rotate_left
      · show Act.put _ (some 28) _ = _
        simp only [Act.put, List.setIfInBounds_toArray, List.set_cons_zero, List.set_cons_succ, i64_w, i32_w]
        rfl
      refine pure_ (i := 8) (N := some 20) (v := ?_) (a' := ?_) #[true, true, true, true, true, true, true, true, true, false, false, false, false, false, false, false] rfl rfl (any_of HT_.out (by kernel_rfl)) (fun _ _ _ h => h) (Or.inl ⟨by rfl, ?_⟩) ?_ ?_
      rotate_left
      · intro w'
        go_simp
        with_reducible rfl
      rotate_left
      · simp only [Act.put, List.setIfInBounds_toArray, List.set_cons_zero, List.set_cons_succ, i64_w, i32_w]
        rfl
      refine pure_ (i := 9) (N := some 29) (v := ?_) (a' := ?_) #[true, true, true, true, true, true, true, true, true, true, false, false, false, false, false, false] rfl rfl (any_of HT_.out (by kernel_rfl)) (fun _ _ _ h => h) (Or.inl ⟨by rfl, ?_⟩) ?_ ?_
      rotate_left
      · intro w'
        go_simp
        with_reducible rfl
      rotate_left
      · simp only [Act.put, List.setIfInBounds_toArray, List.set_cons_zero, List.set_cons_succ, i64_w, i32_w]
        rfl
      refine pure_ (i := 10) (N := some 30) (v := ?_) (a' := ?_) #[true, true, true, true, true, true, true, true, true, true, true, false, false, false, false, false] rfl rfl (any_of HT_.out (by kernel_rfl)) (fun _ _ _ h => h) (Or.inl ⟨by rfl, ?_⟩) ?_ ?_
      rotate_left
      · intro w'
        go_simp
        with_reducible rfl
      rotate_left
      · simp only [Act.put, List.setIfInBounds_toArray, List.set_cons_zero, List.set_cons_succ, i64_w, i32_w]
        rfl
      refine pure_ (i := 11) (N := some 31) (v := ?_) (a' := ?_) #[true, true, true, true, true, true, true, true, true, true, true, true, false, false, false, false] rfl rfl (any_of HT_.out (by kernel_rfl)) (fun _ _ _ h => h) (Or.inl ⟨by rfl, ?_⟩) ?_ ?_
      rotate_left
      · intro w'
        go_simp
        with_reducible rfl
      rotate_left
      · simp only [Act.put, List.setIfInBounds_toArray, List.set_cons_zero, List.set_cons_succ, i64_w, i32_w]
        rfl
      refine one_ (i := 12) (N := some 5) #[true, true, true, true, true, true, true, true, true, true, true, true, true, false, false, false] rfl rfl (one_of HT_.out (by kernel_rfl)) (by decide) (fun K hK => ?_)
      refine value_ (w1 := ?_) (v := ?_) (by rfl) rfl ?_ ?_
      rotate_left 2
      · go_simp
        constructor
        · rfl
        · rfl
      refine hK.out _ _ (((balloc (Below.refl _ _) (Nat.le_refl _) _).cell (World.block_lt_of_cell? _ _ hHeld)).trans hHeld) (fun hHeld => ?_)
      clear hK K
      refine norm_ (a' := ?_) ?_ ?_
      rotate_left
      · show Act.put _ (some 5) _ = _
        simp only [Act.put, List.setIfInBounds_toArray, List.set_cons_zero, List.set_cons_succ, i64_w, i32_w]
        rfl
      exact norm_ (by simp only [putAll, Act.put, List.setIfInBounds_toArray, List.set_cons_zero, List.set_cons_succ]) (hCont (wA.heap.size) _ ⟨Vf.of_block (by exact heap_alloc_new wA _) (by show w1.heap.size ≤ wA.heap.size; omega) (balloc hBA hsA _), hHeld⟩)
    · skip
      refine value_ (w1 := ?_) (v := ?_) (by rfl) rfl ?_ ?_
      rotate_left 2
      · go_simp
        constructor
        · rfl
        · rfl
      refine hK.out _ _ (((balloc (Below.refl _ _) (Nat.le_refl _) _).cell (World.block_lt_of_cell? _ _ hHeld)).trans hHeld) (fun hHeld => ?_)
      clear hK K
      refine norm_ (a' := ?_) ?_ ?_
      rotate_left
      · show Act.put _ (some 5) _ = _
        simp only [Act.put, List.setIfInBounds_toArray, List.set_cons_zero, List.set_cons_succ, i64_w, i32_w]
        rfl
      refine one_ (i := 7) (N := some 28) #[true, true, true, true, true, true, true, true, false, false, false, false, true, false, false, false] rfl rfl (one_of HT_.out (by kernel_rfl)) (by decide) (fun K hK => ?_)
      refine goes_ Tryz.func64 (by kernel_rfl) rfl #[.slice A2 r (c - (p + 2)), .int .u8 tt] (by rfl) rfl rfl (by simp only [List.map_toArray, List.map_cons, List.map_nil]; rfl) ?_
      with_reducible refine (HV.out _ (hB1.trans (((bdrew (balloc (Below.refl _ _) (Nat.le_refl _) _)) : Below w1.heap.size w1 _).mono (by omega)))).mono ?_
      rintro e wA ⟨rfl, hba⟩
      refine ⟨_, rfl, ?_⟩
      have hsA : w1.heap.size ≤ wA.heap.size := by have := hba.size; simp at this; omega
      have hBA : Below w1.heap.size w1 wA := (bdrew (balloc (Below.refl _ _) (Nat.le_refl _) _)).trans (hba.mono (by simp))
      refine hK.out _ _ ((hba.cell (World.block_lt_of_cell? _ _ hHeld)).trans hHeld) (fun hHeld => ?_)
      clear hK K
      refine norm_ (a' := ?_) ?_ ?_
      rotate_left
      · show Act.put _ (some 28) _ = _
        simp only [Act.put, List.setIfInBounds_toArray, List.set_cons_zero, List.set_cons_succ, i64_w, i32_w]
        rfl
      refine pure_ (i := 8) (N := some 20) (v := ?_) (a' := ?_) #[true, true, true, true, true, true, true, true, true, false, false, false, true, false, false, false] rfl rfl (any_of HT_.out (by kernel_rfl)) (fun _ _ _ h => h) (Or.inl ⟨by rfl, ?_⟩) ?_ ?_
      rotate_left
      · intro w'
        go_simp
        with_reducible rfl
      rotate_left
      · simp only [Act.put, List.setIfInBounds_toArray, List.set_cons_zero, List.set_cons_succ, i64_w, i32_w]
        rfl
      refine pure_ (i := 9) (N := some 29) (v := ?_) (a' := ?_) #[true, true, true, true, true, true, true, true, true, true, false, false, true, false, false, false] rfl rfl (any_of HT_.out (by kernel_rfl)) (fun _ _ _ h => h) (Or.inl ⟨by rfl, ?_⟩) ?_ ?_
      rotate_left
      · intro w'
        go_simp
        with_reducible rfl
      rotate_left
      · simp only [Act.put, List.setIfInBounds_toArray, List.set_cons_zero, List.set_cons_succ, i64_w, i32_w]
        rfl
      refine pure_ (i := 10) (N := some 30) (v := ?_) (a' := ?_) #[true, true, true, true, true, true, true, true, true, true, true, false, true, false, false, false] rfl rfl (any_of HT_.out (by kernel_rfl)) (fun _ _ _ h => h) (Or.inl ⟨by rfl, ?_⟩) ?_ ?_
      rotate_left
      · intro w'
        go_simp
        with_reducible rfl
      rotate_left
      · simp only [Act.put, List.setIfInBounds_toArray, List.set_cons_zero, List.set_cons_succ, i64_w, i32_w]
        rfl
      refine pure_ (i := 11) (N := some 31) (v := ?_) (a' := ?_) #[true, true, true, true, true, true, true, true, true, true, true, true, true, false, false, false] rfl rfl (any_of HT_.out (by kernel_rfl)) (fun _ _ _ h => h) (Or.inl ⟨by rfl, ?_⟩) ?_ ?_
      rotate_left
      · intro w'
        go_simp
        with_reducible rfl
      rotate_left
      · simp only [Act.put, List.setIfInBounds_toArray, List.set_cons_zero, List.set_cons_succ, i64_w, i32_w]
        rfl
      exact norm_ (by simp only [putAll, Act.put, List.setIfInBounds_toArray, List.set_cons_zero, List.set_cons_succ]) (hCont (w1.heap.size) _ ⟨Vf.of_block (by rw [hba.block _ (by simp)]; exact heap_alloc_new w1 _) (by show w1.heap.size ≤ w1.heap.size; omega) (hBA), hHeld⟩)
  rintro g w6 ⟨hVf, hHeld⟩
  have RC0 := hVf.c0
  have RC1 := hVf.k1
  have RF0 := hVf.f0
  have RF1 := hVf.f1
  have HVF := Lib.hid hVf
  clear hVf
  refine norm_ (a' := ?_) ?_ ?_
  rotate_left
  · simp only [putAll, Act.put, List.setIfInBounds_toArray, List.set_cons_zero, List.set_cons_succ]
    rfl
  refine last_ (i := 13) (N := none) #[true, true, true, true, true, true, true, true, true, true, true, true, true, true, false, false] rfl rfl (one_of HT_.out (by kernel_rfl)) (by decide) (fun K hK => ?_)
  refine skip_ (w1 := ?_) (by rfl) rfl ?_ ?_
  rotate_left
  · go_simp
    rfl
  refine hK.out _ _ ?_
  clear hK K
  refine pure_ (i := 14) (N := some 6) (v := ?_) (a' := ?_) #[true, true, true, true, true, true, true, true, true, true, true, true, true, true, true, false] rfl rfl (any_of HT_.out (by kernel_rfl)) (fun _ _ _ h => h) (Or.inl ⟨by rfl, ?_⟩) ?_ ?_
  rotate_left
  · intro w'
    go_simp
    with_reducible rfl
  rotate_left
  · simp only [Act.put, List.setIfInBounds_toArray, List.set_cons_zero, List.set_cons_succ, i64_w, i32_w]
    rfl
  refine pure_ (i := 15) (N := some 7) (v := ?_) (a' := ?_) #[true, true, true, true, true, true, true, true, true, true, true, true, true, true, true, true] rfl rfl (any_of HT_.out (by kernel_rfl)) (fun _ _ _ h => h) (Or.inl ⟨by rfl, ?_⟩) ?_ ?_
  rotate_left
  · intro w'
    go_simp
    with_reducible rfl
  rotate_left
  · simp only [Act.put, List.setIfInBounds_toArray, List.set_cons_zero, List.set_cons_succ, i64_w, i32_w]
    rfl
  refine done_ (done_of HT_.out (by kernel_rfl)) ?_
  obtain ⟨w7, hw7⟩ : ∃ x, x = (w6.setCell ⟨g, 0, none⟩ (.int .u8 0)).setCell ⟨g, 1, none⟩ (.slice none 0 0) := ⟨_, rfl⟩
  obtain ⟨g0, g1, hgl, hb7⟩ := HVF.out.stored _ _ w7 hw7
  rw [← hw7]
  have hX7 := HX1.out.trans (hb7.mono hz1)
  have q0 := boxc hX7 0
  have q1 := boxc hX7 1
  simp only [List.getElem?_cons_succ, List.getElem?_cons_zero] at q0 q1
  have f0 := boxf hX7 0
  have f1 := boxf hX7 1
  have hz7 := boxs hX7
  have hlt7 : w.heap.size < w7.heap.size := by omega
  have HB7 := Lib.hid (boxb hX7)
  clear HVF RC0 RC1 RF0 RF1 hw7 hb7 hX7 HX1 hHeld HV
  go_wp2_with fail
  refine (newInsuf _ _ _ _ _ _ w7).mono ?_
  rintro e w8 ⟨rfl, hb8⟩
  have q0' := (hb8.cell (World.block_lt_of_cell? _ _ q0)).trans q0
  have q1' := (hb8.cell (World.block_lt_of_cell? _ _ q1)).trans q1
  have f0' := (hb8.frozen (p := ⟨w.heap.size, 0, none⟩) hlt7).trans f0
  have f1' := (hb8.frozen (p := ⟨w.heap.size, 1, none⟩) hlt7).trans f1
  have hlt8 : w.heap.size < w8.heap.size := by have := hb8.size; omega
  have HB8 := Lib.hid (bthen HB7.out hb8)
  clear hb8 q0 q1 f0 f1 g0 g1 HB7
  go_wp2_with fail
  exact bodyPost_ret (v := .tuple #[.agg #[.int .u8 0, .slice none 0 0], .iface 180 (.agg #[.slice (some ⟨b, off, none⟩) q c, .slice A2 r (c - (p + 2))])]) (by simp [results, Tryz.results134, go_sem, q0', q1']) rfl ⟨_, rfl, Or.inr (Or.inr ⟨rfl, _, _, _, _, _, _, rfl⟩), (HB8.out.setCell (Nat.le_refl _) _).setCell (Nat.le_refl _) _⟩
end Al
end Go.Proofs.YtbpopaegfhcdpaaGreatDoor.X


/- The layers' names and values of elements, for all bytes. -/
set_option linter.unusedVariables false
set_option linter.unusedSimpArgs false
set_option maxRecDepth 100000
namespace Go.Proofs.YtbpopaegfhcdpaaGreatDoor.X
open Go.RowKit Go.Proofs.YtbpopaegfhcdpaaGreatDoorW.PrintLast
namespace A2
open Al
def R70.T1 : Bool × List (List Nat × List Nat) := (true, [([], []), ([0], [0]), ([1], [1]), ([], []), ([3], [3]), ([4], [4]), ([2, 5], [2, 5]), ([6, 5, 0, 1, 2, 3, 4, 5, 6], [6])])
def R70.B1 : List Nat := [0, 1, 3, 0, 8, 24, 63, 127]
theorem R70.tab1 : rtab .any (opsOf Tryz.f70 1) = R70.T1 := by kernel_rfl
theorem R70.bits1 : waitsOk R70.T1.2 R70.B1 = true := by kernel_rfl
theorem implRaw (A : Option Addr) (c : Nat) (l : List UInt8) (k : Int) (w : World) (hs : SB w A c l) (h0 : 0 ≤ k) (h1 : k ≤ 255) (hl : l.length ≤ 140737488355328) :
    Calls Tryz.prog 70 #[.agg #[.int .u8 k, .slice A l.length c]] w fun e w' => ∃ A1 c1, e = .returned (.agg #[.int .i64 k, .slice A1 l.length c1]) ∧ SB w' A1 c1 l ∧ (∀ a, A1 = some a → w.heap.size ≤ a.block) ∧ Below w.heap.size w w' := by
  have HC := Lib.hid (fun wx (h : Below w.heap.size w wx) => fresh_of (implOwn A c l wx (hs.keep h) hl))
  have hw : IntKind.i64.wrap k = k := IntWalk.i64_in _ (by omega)
  obtain ⟨q, hq⟩ : ∃ q, q = l.length := ⟨_, rfl⟩
  rw [← hq] at HC ⊢
  clear hq hs hl
  go_enter Tryz.func70, Tryz.ntmps70
  go_wp2_with fail
  refine start_ (n := 8) (S := fun w' => w'.cell? ⟨w.heap.size, 0, none⟩ = some (.int .u8 k) ∧ w'.cell? ⟨w.heap.size, 1, none⟩ = some (.slice A q c) ∧ w'.cell? ⟨w.heap.size + 1, 0, none⟩ = some (.int .i64 0) ∧ w'.cell? ⟨w.heap.size + 1, 1, none⟩ = some (.slice none 0 0) ∧ w'.frozen? ⟨w.heap.size + 1, 0, none⟩ = false ∧ w'.frozen? ⟨w.heap.size + 1, 1, none⟩ = false) (ds := [7]) #[false, false, false, false, false, false, false, false] (by kernel_rfl) rfl rfl ⟨(by go_simp), (by go_simp), (by go_simp), (by go_simp), (by go_simp), (by go_simp)⟩ (fun hHeld => ?_)
  refine with_tabW R70.tab1 R70.bits1 (fun HT_ HW_ => ?_)
  refine pure_ (i := 0) (N := some 3) (v := ?_) (a' := ?_) #[true, false, false, false, false, false, false, false] rfl rfl (any_of HT_.out (by kernel_rfl)) (fun _ _ _ h => h) (Or.inl ⟨by rfl, ?_⟩) ?_ ?_
  rotate_left
  · intro w'
    go_simp
    with_reducible rfl
  rotate_left
  · simp only [Act.put, List.setIfInBounds_toArray, List.set_cons_zero, List.set_cons_succ, i64_w, i32_w]
    rfl
  refine pure_ (i := 3) (N := some 6) (v := ?_) (a' := ?_) #[true, false, false, true, false, false, false, false] rfl rfl (any_of HT_.out (by kernel_rfl)) (fun _ _ _ h => h) (Or.inl ⟨by rfl, ?_⟩) ?_ ?_
  rotate_left
  · intro w'
    go_simp
    with_reducible rfl
  rotate_left
  · simp only [Act.put, List.setIfInBounds_toArray, List.set_cons_zero, List.set_cons_succ, i64_w, i32_w]
    rfl
  refine take_ (i := 1) (N := some 4) (v := ?_) (a' := ?_) #[true, true, false, true, false, false, false, false] rfl rfl (take_ofW HT_.out HW_.out (by kernel_rfl)) (fun _ _ _ h => h) (Or.inl ⟨by rfl, ?_⟩) hHeld ?_ ?_
  rotate_left
  · rintro w' ⟨s0, s1, s2, s3, s4, s5⟩
    go_simp
    with_reducible rfl
  rotate_left
  · simp only [Act.put, List.setIfInBounds_toArray, List.set_cons_zero, List.set_cons_succ, i64_w, i32_w]
    rfl
  refine pure_ (i := 2) (N := some 5) (v := ?_) (a' := ?_) #[true, true, true, true, false, false, false, false] rfl rfl (any_of HT_.out (by kernel_rfl)) (fun _ _ _ h => h) (Or.inl ⟨by rfl, ?_⟩) ?_ ?_
  rotate_left
  · intro w'
    go_simp
    with_reducible rfl
  rotate_left
  · simp only [Act.put, List.setIfInBounds_toArray, List.set_cons_zero, List.set_cons_succ, i64_w, i32_w]
    rfl
  refine take_ (i := 4) (N := some 7) (v := ?_) (a' := ?_) #[true, true, true, true, true, false, false, false] rfl rfl (take_ofW HT_.out HW_.out (by kernel_rfl)) (fun _ _ _ h => h) (Or.inl ⟨by rfl, ?_⟩) hHeld ?_ ?_
  rotate_left
  · rintro w' ⟨s0, s1, s2, s3, s4, s5⟩
    go_simp
    with_reducible rfl
  rotate_left
  · simp only [Act.put, List.setIfInBounds_toArray, List.set_cons_zero, List.set_cons_succ, i64_w, i32_w]
    rfl
  refine one_ (i := 5) (N := some 8) #[true, true, true, true, true, true, false, false] rfl rfl (one_of HT_.out (by kernel_rfl)) (by decide) (fun K hK => ?_)
  refine goes_ Tryz.func40 (by kernel_rfl) rfl #[.slice A q c] (by rfl) rfl rfl (by simp only [List.map_toArray, List.map_cons, List.map_nil]; rfl) ?_
  with_reducible refine (HC.out _ (bdrew (balloc (balloc (Below.refl _ _) (Nat.le_refl _) _) (by simp) _))).mono ?_
  rintro e w3 ⟨A3, c3, rfl, hs3, ho3, hb3⟩
  refine ⟨_, rfl, ?_⟩
  have HS3 := Lib.hid hs3
  have HN3 : Hid (∀ a, A3 = some a → a.block ≠ w.heap.size + 1) := Lib.hid fun a ha => by have h := ho3.newer a ha; simp at h; omega
  have HM3 : Hid (∀ a, A3 = some a → w.heap.size ≤ a.block) := Lib.hid fun a ha => by have h := ho3.newer a ha; simp at h; omega
  clear ho3
  have hB3 : Below w.heap.size w w3 := (bdrew (balloc (balloc (Below.refl _ _) (Nat.le_refl _) _) (by simp) _)).trans (hb3.mono (by simp; omega))
  have HB3 := Lib.hid hB3
  have hlt3 : w.heap.size + 1 < w3.heap.size := by have := hb3.size; simp at this; omega
  clear hs3 hB3
  refine hK.out _ _ ⟨((hb3.cell (World.block_lt_of_cell? _ _ hHeld.1)).trans hHeld.1), ((hb3.cell (World.block_lt_of_cell? _ _ hHeld.2.1)).trans hHeld.2.1), ((hb3.cell (World.block_lt_of_cell? _ _ hHeld.2.2.1)).trans hHeld.2.2.1), ((hb3.cell (World.block_lt_of_cell? _ _ hHeld.2.2.2.1)).trans hHeld.2.2.2.1), ((hb3.frozen (p := ⟨w.heap.size + 1, 0, none⟩) (by simp)).trans hHeld.2.2.2.2.1), ((hb3.frozen (p := ⟨w.heap.size + 1, 1, none⟩) (by simp)).trans hHeld.2.2.2.2.2)⟩ (fun hHeld => ?_)
  clear hK K
  refine norm_ (a' := ?_) ?_ ?_
  rotate_left
  · show Act.put _ (some 8) _ = _
    simp only [Act.put, List.setIfInBounds_toArray, List.set_cons_zero, List.set_cons_succ, i64_w, i32_w]
    rfl
  refine pure_ (i := 6) (N := some 9) (v := ?_) (a' := ?_) #[true, true, true, true, true, true, true, false] rfl rfl (any_of HT_.out (by kernel_rfl)) (fun _ _ _ h => h) (Or.inl ⟨by rfl, ?_⟩) ?_ ?_
  rotate_left
  · intro w'
    go_simp
    with_reducible rfl
  rotate_left
  · simp only [Act.put, List.setIfInBounds_toArray, List.set_cons_zero, List.set_cons_succ, i64_w, i32_w]
    rfl
  refine last_ (i := 7) (N := none) #[true, true, true, true, true, true, true, true] rfl rfl (one_of HT_.out (by kernel_rfl)) (by decide) (fun K hK => ?_)
  refine skip_ (w1 := ?_) (by rfl) rfl ?_ ?_
  rotate_left
  · go_simp
    rfl
  refine hK.out _ _ ?_
  clear hK K
  refine done_ (done_of HT_.out (by kernel_rfl)) ?_
  go_wp2_with fail
  exact bodyPost_ret (v := .agg #[.int .i64 k, .slice A3 q c3]) (by simp [results, Tryz.results70, go_sem, hHeld.2.2.1, hHeld.2.2.2.1]) rfl ⟨A3, c3, rfl, (HS3.out.far HN3.out _).far HN3.out _, HM3.out, (HB3.out.setCell (by simp) _).setCell (by simp) _⟩
def KErr (l : List UInt8) (s : ByteArray) (n : Int) : Prop := ∀ A c w, SB w A c l → Calls Tryz.prog 196 #[.slice A l.length c] w fun e w' => ∃ v, e = .returned (.tuple #[.string s, v]) ∧ CodeIs n v ∧ w = w'
theorem kerr_ex (l : List UInt8) (hmax : l.length ≤ 140737488355328) : ∃ s n, KErr l s n := by
  rcases elem_split l with h | ⟨k0, nm, bl, rfl, hp⟩
  · exact ⟨⟨#[]⟩, 5, fun A c w hs => keyErrNo A c l w hs h⟩
  · refine ⟨⟨nm.toArray⟩, 0, fun A c w hs => (keyErr A c k0 nm bl w hs hp hmax).mono ?_⟩
    rintro e w' ⟨rfl, rfl⟩
    exact ⟨_, rfl, Or.inl ⟨rfl, rfl⟩, rfl⟩
def VErr (l : List UInt8) (kk : Int) (lst : List UInt8) (n : Int) : Prop := ∀ A c w, SB w A c l → Calls Tryz.prog 134 #[.slice A l.length c] w fun e w' => ∃ A1 c1 v, e = .returned (.tuple #[.agg #[.int .u8 kk, .slice A1 lst.length c1], v]) ∧ CodeIs n v ∧ (∀ wy, SB wy A c l → SB wy A1 c1 lst) ∧ Below w.heap.size w w'
theorem verr_ex (l : List UInt8) (hmax : l.length ≤ 140737488355328) : ∃ kk lst n, 0 ≤ kk ∧ kk ≤ 255 ∧ lst.length ≤ 140737488355328 ∧ VErr l kk lst n := by
  rcases elem_split l with h | ⟨k0, nm, bl, rfl, hp⟩
  · refine ⟨0, [], 5, by omega, by omega, by simp, fun A c w hs => (valueErrNo0 A c l w hs h).mono ?_⟩
    rintro e w' ⟨v, rfl, hv, hb⟩
    exact ⟨none, 0, v, rfl, hv, fun wy _ => SB.nil wy, hb⟩
  · have hbl : bl.length ≤ 140737488355328 := by simp at hmax; omega
    have hk1 : (k0.toNat : Int) ≤ 255 := by have := k0.toNat_lt; omega
    cases hvi : valIs (k0.toNat : Int) bl with
    | true =>
      obtain ⟨n, hn1, hn2⟩ := valLen_of_is hvi
      have hl : (bl.take n).length = n := by rw [List.length_take, Nat.min_eq_left hn2]
      refine ⟨(k0.toNat : Int), bl.take n, 0, by omega, hk1, by omega, fun A c w hs => (valueErrN A c k0 nm bl w hs hp n hn1 hn2 hmax).mono ?_⟩
      rintro e w' ⟨A1, c1, rfl, hss, hb⟩
      exact ⟨A1, c1, _, by rw [hl], Or.inl ⟨rfl, rfl⟩, hss, hb⟩
    | false =>
      refine ⟨0, [], 1, by omega, by omega, by simp, fun A c w hs => (valueErrNo A c k0 nm bl w hs hp hvi hmax).mono ?_⟩
      rintro e w' ⟨v, rfl, hv, hb⟩
      exact ⟨none, 0, v, rfl, hv, fun wy _ => SB.nil wy, hb⟩
end A2
end Go.Proofs.YtbpopaegfhcdpaaGreatDoor.X


/- Validate of values and elements, for all bytes, with its codes. -/
set_option linter.unusedVariables false
set_option linter.unusedSimpArgs false
set_option maxRecDepth 100000
namespace Go.Proofs.YtbpopaegfhcdpaaGreatDoor.X
open Go.RowKit Go.Proofs.YtbpopaegfhcdpaaGreatDoorW.PrintLast
namespace Av
open Al
def R194.T6 : Bool × List (List Nat × List Nat) := (true, [([], []), ([0], [0]), ([1], [1]), ([], []), ([], []), ([4], [4]), ([3, 5], [3, 5]), ([2, 6], [2, 6]), ([7], [7]), ([8, 8, 0, 1, 2, 3, 4, 5, 6, 7, 8], [8])])
def R194.B6 : List Nat := [0, 1, 3, 0, 0, 16, 56, 127, 255, 511]
theorem R194.tab6 : rtab .any (opsOf Tryz.f194 6) = R194.T6 := by kernel_rfl
theorem R194.bits6 : waitsOk R194.T6.2 R194.B6 = true := by kernel_rfl
theorem valueValidate (A : Option Addr) (c : Nat) (l : List UInt8) (k : Int) (w : World) (hs : SB w A c l) :
    Calls Tryz.prog 223 #[.agg #[.int .u8 k, .slice A l.length c]] w fun e w' => ∃ v, e = .returned v ∧ CodeIs (if valIs k l = true then 0 else 1) v ∧ Below w.heap.size w w' := by
  obtain ⟨vb, hvb⟩ : ∃ x, x = valIs k l := ⟨_, rfl⟩
  rw [← hvb]
  cases vb with
  | true =>
    obtain ⟨n, hn, hn2⟩ := valLen_of_is hvb.symm
    have HC := Lib.hid (fun wx (h : Below w.heap.size w wx) => readValue_ok A c l k n wx (hs.keep h) hn hn2)
    obtain ⟨q, hq⟩ : ∃ q, q = l.length := ⟨_, rfl⟩
    rw [← hq] at HC ⊢
    clear hs hn hn2 hq hvb
    go_enter Tryz.func223, Tryz.ntmps223
    go_wp2_with fail
    refine (HC.out _ (balloc (Below.refl _ _) (Nat.le_refl _) _)).mono ?_
    rintro e w1 ⟨A1, c1, A2, c2, rfl, hss, hb⟩
    have hb1 : Below (w.heap.size + 1) (w.alloc (.cells #[.int .u8 k, .slice A q c] 73)) w1 := by simpa using hb
    have HB := Lib.hid (boxb hb1)
    clear hss hb hb1 HC
    go_wp2_with fail
    go_ret
    exact ⟨_, rfl, Or.inl ⟨rfl, rfl⟩, HB.out⟩
  | false =>
    have HC := Lib.hid (fun wx (h : Below w.heap.size w wx) => readValue_no A c l k wx (hs.keep h) hvb.symm)
    obtain ⟨q, hq⟩ : ∃ q, q = l.length := ⟨_, rfl⟩
    rw [← hq] at HC ⊢
    clear hs hq hvb
    go_enter Tryz.func223, Tryz.ntmps223
    go_wp2_with fail
    refine (HC.out _ (balloc (Below.refl _ _) (Nat.le_refl _) _)).mono ?_
    rintro e w1 ⟨rfl, hb⟩
    have hb1 : Below (w.heap.size + 1) (w.alloc (.cells #[.int .u8 k, .slice A q c] 73)) w1 := by simpa using hb
    have q0 := boxc hb1 0
    have q1 := boxc hb1 1
    simp only [List.getElem?_cons_succ, List.getElem?_cons_zero] at q0 q1
    have hz1 := boxs hb1
    have hlt : w.heap.size < w1.heap.size := by omega
    have HB := Lib.hid (boxb hb1)
    clear hb hb1 HC
    go_wp2_with fail
    refine (newInsuf A A q c q c w1).mono ?_
    rintro e w2 ⟨rfl, hb2⟩
    have HB2 := Lib.hid (bthen HB.out hb2)
    clear hb2
    go_wp2_with fail
    go_ret
    exact ⟨_, rfl, Or.inr (Or.inr ⟨by simp, _, _, _, _, _, _, rfl⟩), HB2.out⟩
/-- The code of some bytes as an element. -/
def elemCode (l : List UInt8) : Int := if 0 < l.length then (if 0 ≤ Lib.indexByte (l.drop 1) ((0 : Int).toNat.toUInt8) then (if valIs ((l.headD 0).toNat : Int) (l.drop (Lib.indexByte (l.drop 1) ((0 : Int).toNat.toUInt8) + 2).toNat) = true then 0 else 1) else 5) else 5
set_option maxHeartbeats 4000000 in
theorem elemValidate (A : Option Addr) (c : Nat) (l : List UInt8) (w : World) (hs : SB w A c l) (hmax : l.length ≤ 140737488355328) :
    Calls Tryz.prog 194 #[.slice A l.length c] w fun e w' => ∃ v, e = .returned v ∧ CodeIs (elemCode l) v ∧ Below w.heap.size w w' := by
  have hlc := hs.le
  have hcc := hs.cap
  by_cases h0 : l.length < 1
  · have hn : l = [] := List.eq_nil_of_length_eq_zero (by omega)
    subst hn
    go_enter Tryz.func194, Tryz.ntmps194
    go_wp2
    go_ret
    exact ⟨_, rfl, Or.inr (Or.inl ⟨by simp [elemCode], _, rfl⟩), Below.refl _ _⟩
  obtain ⟨A1, e1, s1⟩ := SB.from_ (P := Tryz.prog) Tryz.underlying182 rfl rfl .i64 A c l 1 (by omega) hs.le
  have e1' : ∀ W : World, (Instr.slice 182 (.slice A l.length c) (some (.int .i64 1)) none none).run Tryz.prog W = .ok (.slice A1 (l.drop 1).length (c - 1)) W := fun W => by rw [List.length_drop]; exact e1 W
  have HI := Lib.hid (bytesIndexByte A1 (c - 1) (l.drop 1) 0 w (s1 w hs))
  obtain ⟨z, hz⟩ : ∃ z, z = Lib.indexByte (l.drop 1) ((0 : Int).toNat.toUInt8) := ⟨_, rfl⟩
  have hzlt := idx_lt (l.drop 1) ((0 : Int).toNat.toUInt8)
  rw [← hz] at HI hzlt
  have hei : elemCode l = if 0 ≤ z then (if valIs ((l.headD 0).toNat : Int) (l.drop (z + 2).toNat) = true then 0 else 1) else 5 := by
    unfold elemCode
    rw [← hz, if_pos (by omega : 0 < l.length)]
  rw [hei]
  by_cases hz0 : 0 ≤ z
  · rw [if_pos hz0]
    have hzl : z.toNat + 2 ≤ l.length := by
      rcases hzlt with h | h
      · rw [List.length_drop] at h; omega
      · rw [h] at hz; simp [Lib.indexByte] at hz; omega
    obtain ⟨p, hp⟩ : ∃ p : Nat, z = p := ⟨z.toNat, by omega⟩
    subst hp
    rw [show ((p : Int) + 2).toNat = p + 2 from by omega]
    rw [show ((p : Int)).toNat = p from by omega] at hzl
    obtain ⟨A2, e2, s2⟩ := SB.from_ (P := Tryz.prog) Tryz.underlying182 rfl rfl .i64 A c l (p + 2) hzl hs.le
    have e2' : ∀ W : World, (Instr.slice 182 (.slice A l.length c) (some (.int .i64 ((p : Int) + 2))) none none).run Tryz.prog W = .ok (.slice A2 (l.drop (p + 2)).length (c - (p + 2))) W := fun W => by rw [List.length_drop]; exact e2 W
    obtain ⟨tt, htt⟩ : ∃ tt : Int, tt = ((l.headD 0).toNat : Int) := ⟨_, rfl⟩
    have HV := Lib.hid (fun wx (h : Below w.heap.size w wx) => valueValidate A2 (c - (p + 2)) (l.drop (p + 2)) ((l.headD 0).toNat : Int) wx (s2 wx (hs.keep h)))
    obtain ⟨b, off, rfl, hc⟩ := hs.cells (by omega)
    have hc0 : w.cell? ⟨b, off, none⟩ = some (.int .u8 tt) := by
      have h := hc 0 (by omega)
      rw [htt]
      cases l with
      | nil => simp at h0
      | cons x r => simpa using h
    obtain ⟨vb, hvb⟩ : ∃ x, x = valIs ((l.headD 0).toNat : Int) (l.drop (p + 2)) := ⟨_, rfl⟩
    rw [← hvb] at HV ⊢
    obtain ⟨cc, hcc9⟩ : ∃ cc : Int, cc = (if vb = true then 0 else 1) := ⟨_, rfl⟩
    rw [← hcc9] at HV ⊢
    clear hcc9
    rw [← htt] at HV
    obtain ⟨l1, hl1⟩ : ∃ x, x = (l.drop 1).length := ⟨_, rfl⟩
    obtain ⟨l2, hl2⟩ : ∃ x, x = (l.drop (p + 2)).length := ⟨_, rfl⟩
    rw [← hl1] at e1' HI
    rw [← hl2] at e2' HV
    obtain ⟨q, hq⟩ : ∃ q, q = l.length := ⟨_, rfl⟩
    rw [← hq] at e1' e2' h0 hmax hzl ⊢
    clear hs s1 s2 e1 e2 hz hzlt hei hc hq hl1 hl2 htt hvb hlc hcc hz0
    have i1 : IntKind.i64.wrap ((p : Int) + 2) = (p : Int) + 2 := IntWalk.i64_in _ (by omega)
    have hpm : ((p : Int) == -1) = false := by simp only [beq_eq_false_iff_ne, ne_eq]; omega
    have hq1 : 0 < q := by omega
    have hq0 : ¬ ((q : Int) < 1) := by omega
    go_enter Tryz.func194, Tryz.ntmps194
    go_wp2_with fail
    refine HI.out.mono ?_
    rintro e w1 ⟨rfl, rfl⟩
    clear HI
    go_wp2_with fail
    refine start_ (n := 10) (S := fun w' => w'.cell? ⟨b, off, none⟩ = some (.int .u8 tt)) (ds := []) #[false, false, false, false, false, false, false, false, false, false] (by kernel_rfl) rfl rfl ((by exact hc0)) (fun hHeld => ?_)
    refine with_tabW R194.tab6 R194.bits6 (fun HT_ HW_ => ?_)
    refine pure_ (i := 0) (N := some 14) (v := ?_) (a' := ?_) #[true, false, false, false, false, false, false, false, false, false] rfl rfl (any_of HT_.out (by kernel_rfl)) (fun _ _ _ h => h) (Or.inl ⟨by rfl, ?_⟩) ?_ ?_
    rotate_left
    · intro w'
      go_simp
      with_reducible rfl
    rotate_left
    · simp only [Act.put, List.setIfInBounds_toArray, List.set_cons_zero, List.set_cons_succ, i64_w, i32_w]
      rfl
    refine pure_ (i := 1) (N := some 15) (v := ?_) (a' := ?_) #[true, true, false, false, false, false, false, false, false, false] rfl rfl (any_of HT_.out (by kernel_rfl)) (fun _ _ _ h => h) (Or.inl ⟨by rfl, ?_⟩) ?_ ?_
    rotate_left
    · intro w'
      go_simp
      with_reducible rfl
    rotate_left
    · simp only [Act.put, List.setIfInBounds_toArray, List.set_cons_zero, List.set_cons_succ, i64_w, i32_w]
      rfl
    refine pure_ (i := 3) (N := some 17) (v := ?_) (a' := ?_) #[true, true, false, true, false, false, false, false, false, false] rfl rfl (any_of HT_.out (by kernel_rfl)) (fun _ _ _ h => h) (Or.inl ⟨by rfl, ?_⟩) ?_ ?_
    rotate_left
    · intro w'
      go_simp
      with_reducible rfl
    rotate_left
    · simp only [Act.put, List.setIfInBounds_toArray, List.set_cons_zero, List.set_cons_succ, i64_w, i32_w]
      rfl
    refine pure_ (i := 4) (N := some 18) (v := ?_) (a' := ?_) #[true, true, false, true, true, false, false, false, false, false] rfl rfl (any_of HT_.out (by kernel_rfl)) (fun _ _ _ h => h) (Or.inl ⟨by rfl, ?_⟩) ?_ ?_
    rotate_left
    · intro w'
      go_simp
      with_reducible rfl
    rotate_left
    · simp only [Act.put, List.setIfInBounds_toArray, List.set_cons_zero, List.set_cons_succ, i64_w, i32_w]
      rfl
    refine pure_ (i := 5) (N := some 19) (v := ?_) (a' := ?_) #[true, true, false, true, true, true, false, false, false, false] rfl rfl (any_of HT_.out (by kernel_rfl)) (fun _ _ _ h => h) (Or.inl ⟨by rfl, ?_⟩) ?_ ?_
    rotate_left
    · intro w'
      go_simp
      with_reducible rfl
    rotate_left
    · simp only [Act.put, List.setIfInBounds_toArray, List.set_cons_zero, List.set_cons_succ, i64_w, i32_w]
      rfl
    refine pure_ (i := 6) (N := some 20) (v := ?_) (a' := ?_) #[true, true, false, true, true, true, true, false, false, false] rfl rfl (any_of HT_.out (by kernel_rfl)) (fun _ _ _ h => h) (Or.inl ⟨by rfl, ?_⟩) ?_ ?_
    rotate_left
    · intro w'
      go_simp
      with_reducible rfl
    rotate_left
    · simp only [Act.put, List.setIfInBounds_toArray, List.set_cons_zero, List.set_cons_succ, i64_w, i32_w]
      rfl
    refine take_ (i := 2) (N := some 16) (v := ?_) (a' := ?_) #[true, true, true, true, true, true, true, false, false, false] rfl rfl (take_ofW HT_.out HW_.out (by kernel_rfl)) (fun _ _ _ h => h) (Or.inl ⟨by rfl, ?_⟩) hHeld ?_ ?_
    rotate_left
    · intro w' s0
      go_simp
      with_reducible rfl
    rotate_left
    · simp only [Act.put, List.setIfInBounds_toArray, List.set_cons_zero, List.set_cons_succ, i64_w, i32_w]
      rfl
    refine pure_ (i := 7) (N := some 21) (v := ?_) (a' := ?_) #[true, true, true, true, true, true, true, true, false, false] rfl rfl (any_of HT_.out (by kernel_rfl)) (fun _ _ _ h => h) (Or.inl ⟨by rfl, ?_⟩) ?_ ?_
    rotate_left
    · intro w'
      go_simp
      with_reducible rfl
    rotate_left
    · simp only [Act.put, List.setIfInBounds_toArray, List.set_cons_zero, List.set_cons_succ, i64_w, i32_w]
      rfl
    refine one_ (i := 8) (N := some 22) #[true, true, true, true, true, true, true, true, true, false] rfl rfl (one_of HT_.out (by kernel_rfl)) (by decide) (fun K hK => ?_)
    refine goes_ Tryz.func223 (by kernel_rfl) rfl #[.agg #[.int .u8 tt, .slice A2 l2 (c - (p + 2))]] (by rfl) rfl rfl (by simp only [List.map_toArray, List.map_cons, List.map_nil]; rfl) ?_
    with_reducible refine (HV.out _ (bdrew (Below.refl _ _))).mono ?_
    rintro e w3 ⟨v3, rfl, hv3, hb3⟩
    refine ⟨_, rfl, ?_⟩
    refine hK.out _ _ (((hb3.cell (World.block_lt_of_cell? _ _ hHeld)).trans hHeld)) (fun hHeld => ?_)
    clear hK K
    refine norm_ (a' := ?_) ?_ ?_
    rotate_left
    · show Act.put _ (some 22) _ = _
      simp only [Act.put, List.setIfInBounds_toArray, List.set_cons_zero, List.set_cons_succ, i64_w, i32_w]
      rfl
    refine pure_ (i := 9) (N := some 2) (v := ?_) (a' := ?_) #[true, true, true, true, true, true, true, true, true, true] rfl rfl (any_of HT_.out (by kernel_rfl)) (fun _ _ _ h => h) (Or.inl ⟨by rfl, ?_⟩) ?_ ?_
    rotate_left
    · intro w'
      go_simp
      with_reducible rfl
    rotate_left
    · simp only [Act.put, List.setIfInBounds_toArray, List.set_cons_zero, List.set_cons_succ, i64_w, i32_w]
      rfl
    refine done_ (done_of HT_.out (by kernel_rfl)) ?_
    go_wp2_with fail
    go_ret
    exact ⟨v3, rfl, hv3, bleft hb3⟩
  · rw [if_neg hz0]
    have hzm : z = -1 := by
      have := idx_ge (l.drop 1) ((0 : Int).toNat.toUInt8)
      omega
    obtain ⟨l1, hl1⟩ : ∃ x, x = (l.drop 1).length := ⟨_, rfl⟩
    rw [← hl1] at e1' HI
    obtain ⟨q, hq⟩ : ∃ q, q = l.length := ⟨_, rfl⟩
    rw [← hq] at e1' h0 ⊢
    clear hs s1 e1 hz hzlt hei hq hl1 hlc hcc hz0
    subst hzm
    have hq0 : ¬ ((q : Int) < 1) := by omega
    go_enter Tryz.func194, Tryz.ntmps194
    go_wp2_with fail
    refine HI.out.mono ?_
    rintro e w1 ⟨rfl, rfl⟩
    clear HI
    go_wp2_with fail
    go_ret
    exact ⟨_, rfl, Or.inr (Or.inl ⟨rfl, _, rfl⟩), Below.refl _ _⟩
end Av
end Go.Proofs.YtbpopaegfhcdpaaGreatDoor.X


/- The look-up of one name in one document, in both layers. -/
set_option linter.unusedVariables false
set_option linter.unusedSimpArgs false
set_option maxRecDepth 100000
namespace Go.Proofs.YtbpopaegfhcdpaaGreatDoor.X
open Go.RowKit Go.Proofs.YtbpopaegfhcdpaaGreatDoorW.PrintLast
namespace Lo
open Al A2
def R69.T13 : Bool × List (List Nat × List Nat) := (true, [([], []), ([0], [0]), ([1], [1]), ([], []), ([3], [3]), ([4], [4]), ([2, 5], [2, 5])])
def R69.B13 : List Nat := [0, 1, 3, 0, 8, 24, 63]
theorem R69.tab13 : rtab .any (opsOf Tryz.f69 13) = R69.T13 := by kernel_rfl
theorem R69.bits13 : waitsOk R69.T13.2 R69.B13 = true := by kernel_rfl
theorem SB.notbox {w wr : World} {cs : List Value} {t : TypeId} {fr : Nat × Nat} (hb : Below (w.heap.size + 1) (w.alloc (.cells cs.toArray t fr)) wr) {A : Option Addr} {c : Nat} {l : List UInt8} (hs : SB wr A c l) (hl : cs.length < l.length) : ∀ a, A = some a → a.block ≠ w.heap.size := by
  obtain ⟨b, off, rfl, hc⟩ := hs.cells (by omega)
  rintro a ha
  injection ha with ha
  subst ha
  intro hbk
  have h := hc cs.length hl
  have h2 := boxc hb (off + cs.length)
  have hbk' : b = w.heap.size := hbk
  rw [hbk', h2, List.getElem?_eq_none (by omega)] at h
  cases h
def docB : List UInt8 := [12, 0, 0, 0, 16, 97, 0, 7, 0, 0, 0, 0]
def rest8 : List UInt8 := 16 :: ([97] ++ 0 :: [7, 0, 0, 0, 0])
def el7 : List UInt8 := 16 :: ([97] ++ 0 :: [7, 0, 0, 0])
def l4 : List UInt8 := [7, 0, 0, 0]
theorem keyBytes (A : Option Addr) (c : Nat) (k0 : UInt8) (nm bl : List UInt8) (w : World) (hs : SB w A c (k0 :: (nm ++ 0 :: bl))) (hn : plainB nm = true) (hmax : (k0 :: (nm ++ 0 :: bl)).length ≤ 140737488355328) :
    Calls Tryz.prog 129 #[.slice A (k0 :: (nm ++ 0 :: bl)).length c] w fun e w' => ∃ A1 c1, e = .returned (.slice A1 nm.length c1) ∧ SB w A1 c1 nm ∧ w = w' := by
  have HK := Lib.hid (keyBytesErr A c k0 nm bl w hs hn hmax)
  obtain ⟨p, hp⟩ : ∃ p, p = (k0 :: (nm ++ 0 :: bl)).length := ⟨_, rfl⟩
  obtain ⟨q, hq⟩ : ∃ p, p = nm.length := ⟨_, rfl⟩
  rw [← hp, ← hq] at HK ⊢
  clear hs hn hmax hp hq
  go_enter Tryz.func129, Tryz.ntmps129
  go_wp2_with fail
  refine HK.out.mono ?_
  rintro e w1 ⟨A1, c1, rfl, hs1, rfl⟩
  have HS := Lib.hid hs1
  clear hs1 HK
  go_wp2_with fail
  go_ret
  exact ⟨A1, c1, rfl, HS.out, rfl⟩
set_option maxHeartbeats 1000000 in
theorem lookupErr (A : Option Addr) (c kb ko ck : Nat) (sa : ByteArray) (w : World) (hsa : sa = ⟨#[97]⟩) (hs : SB w A c docB) (hk : w.cell? ⟨kb, ko, none⟩ = some (.string sa)) :
    Calls Tryz.prog 69 #[.slice A 12 c, .slice (some ⟨kb, ko, none⟩) 1 ck] w fun e w' => ∃ A1 c1, e = .returned (.tuple #[.agg #[.int .u8 16, .slice A1 4 c1], .nilIface]) ∧ SB w' A1 c1 l4 ∧ Below w.heap.size w w' := by
  have HL : Hid (∀ wx : World, Below w.heap.size w wx → Calls Tryz.prog 114 #[.slice A 12 c] wx fun e w' => ∃ A1 c1, e = .returned (.tuple #[.int .i32 12, .slice A1 8 c1, .bool true]) ∧ SB w' A1 c1 rest8 ∧ Below wx.heap.size wx w') := Lib.hid fun wx h => by
    refine (readLength A c docB wx (hs.keep h)).mono ?_
    rintro e w' ⟨A1, n1, c1, rfl, h4, -, hb⟩
    obtain ⟨rfl, rfl, h5⟩ := h4 (by decide)
    exact ⟨A1, _, by rw [show readLen docB = (12, true) from by decide +kernel]; rfl, h5, hb⟩
  have HE : Hid (∀ A1 c1 (wx : World), SB wx A1 c1 rest8 → Calls Tryz.prog 128 #[.slice A1 8 c1] wx fun e w' => ∃ A2 c2 A3 c3, e = .returned (.tuple #[.slice A2 7 c2, .slice A3 1 c3, .bool true]) ∧ SB w' A2 c2 el7 ∧ Below wx.heap.size wx w') := Lib.hid fun A1 c1 wx h => by
    refine (readElement_ok A1 c1 16 [97] [7, 0, 0, 0, 0] 4 wx h (by decide) (by decide) (by decide) (by decide)).mono ?_
    rintro e w' ⟨A2, c2, A3, c3, rfl, hss, hb⟩
    exact ⟨A2, c2, A3, c3, rfl, (hss w' (h.keep hb)).1, hb⟩
  have HK : Hid (∀ A1 c1 (wx : World), SB wx A1 c1 el7 → Calls Tryz.prog 129 #[.slice A1 7 c1] wx fun e w' => ∃ A2 n2 c2, e = .returned (.slice A2 n2 c2) ∧ (convert 22 9 (.slice A2 n2 c2)).run Tryz.prog w' = .ok (.string sa) w' ∧ Below wx.heap.size wx w') := Lib.hid fun A1 c1 wx h => by
    refine (keyBytes A1 c1 16 [97] [7, 0, 0, 0] wx h (by decide) (by decide)).mono ?_
    rintro e w' ⟨A2, c2, rfl, h2, rfl⟩
    exact ⟨A2, _, c2, rfl, by rw [hsa]; exact str_of h2, Below.refl _ _⟩
  have HV : Hid (∀ A1 c1 (wx : World), SB wx A1 c1 el7 → Calls Tryz.prog 134 #[.slice A1 7 c1] wx fun e w' => ∃ A2 c2, e = .returned (.tuple #[.agg #[.int .u8 16, .slice A2 4 c2], .nilIface]) ∧ SB w' A2 c2 l4 ∧ Below wx.heap.size wx w') := Lib.hid fun A1 c1 wx h => by
    refine (valueErr A1 c1 16 [97] [7, 0, 0, 0] wx h (by decide) (by decide) (by decide)).mono ?_
    rintro e w' ⟨A2, c2, rfl, hss, hb⟩
    exact ⟨A2, c2, rfl, hss w' (h.keep hb), hb⟩
  have hk2 := World.block_lt_of_cell? _ _ hk
  clear hs hsa
  go_enter Tryz.func69, Tryz.ntmps69
  go_wp2_with fail
  refine (HL.out _ (balloc (Below.refl _ _) (Nat.le_refl _) _)).mono ?_
  rintro e w1 ⟨A1, c1, rfl, hs1, hb⟩
  have hb1 : Below (w.heap.size + 1) (w.alloc (.cells #[.int .u8 0, .slice none 0 0] 73)) w1 := by simpa using hb
  have HB1 := Lib.hid hb1
  have HS1 := Lib.hid hs1
  have hk1 : w1.cell? ⟨kb, ko, none⟩ = some (.string sa) := ((boxb hb1).cell hk2).trans hk
  have hz1 := boxs hb1
  clear hb hb1 hs1 HL hk
  go_wp2_with fail
  go_loop [6, 7] (fun i r => i = .int .i32 8 ∧ r = .slice A1 8 c1) (fun _ _ => 0)
  case atStart => exact ⟨rfl, rfl⟩
  case round =>
    obtain ⟨rfl, rfl⟩ := hrel
    go_wp2_with fail
    refine (HE.out A1 c1 _ HS1.out).mono ?_
    rintro e w2 ⟨A2, c2, A3, c3, rfl, hs2, hb2⟩
    have HB2 := Lib.hid (HB1.out.trans (hb2.mono hz1))
    have HS2 := Lib.hid hs2
    have hkk : w2.cell? ⟨kb, ko, none⟩ = some (.string sa) := (hb2.cell (World.block_lt_of_cell? _ _ hk1)).trans hk1
    clear hs2 hb2 HS1 HB1 HE hk1
    go_wp2_with fail
    refine start_ (n := 7) (S := fun w' => w'.cell? ⟨kb, ko, none⟩ = some (.string sa)) (ds := []) #[false, false, false, false, false, false, false] (by kernel_rfl) rfl rfl ((by exact hkk)) (fun hHeld => ?_)
    refine with_tabW R69.tab13 R69.bits13 (fun HT_ HW_ => ?_)
    refine pure_ (i := 0) (N := some 55) (v := ?_) (a' := ?_) #[true, false, false, false, false, false, false] rfl rfl (any_of HT_.out (by kernel_rfl)) (fun _ _ _ h => h) (Or.inl ⟨by rfl, ?_⟩) ?_ ?_
    rotate_left
    · intro w'
      go_simp
      with_reducible rfl
    rotate_left
    · simp only [Act.put, List.setIfInBounds_toArray, List.set_cons_zero, List.set_cons_succ, i64_w, i32_w]
      rfl
    refine pure_ (i := 3) (N := some 58) (v := ?_) (a' := ?_) #[true, false, false, true, false, false, false] rfl rfl (any_of HT_.out (by kernel_rfl)) (fun _ _ _ h => h) (Or.inl ⟨by rfl, ?_⟩) ?_ ?_
    rotate_left
    · intro w'
      go_simp
      with_reducible rfl
    rotate_left
    · simp only [Act.put, List.setIfInBounds_toArray, List.set_cons_zero, List.set_cons_succ, i64_w, i32_w]
      rfl
    refine pure_ (i := 4) (N := some 59) (v := ?_) (a' := ?_) #[true, false, false, true, true, false, false] rfl rfl (any_of HT_.out (by kernel_rfl)) (fun _ _ _ h => h) (Or.inl ⟨by rfl, ?_⟩) ?_ ?_
    rotate_left
    · intro w'
      go_simp
      with_reducible rfl
    rotate_left
    · simp only [Act.put, List.setIfInBounds_toArray, List.set_cons_zero, List.set_cons_succ, i64_w, i32_w]
      rfl
    refine take_ (i := 5) (N := some 60) (v := ?_) (a' := ?_) #[true, false, false, true, true, true, false] rfl rfl (take_ofW HT_.out HW_.out (by kernel_rfl)) (fun _ _ _ h => h) (Or.inl ⟨by rfl, ?_⟩) hHeld ?_ ?_
    rotate_left
    · intro w' s0
      go_simp
      with_reducible rfl
    rotate_left
    · simp only [Act.put, List.setIfInBounds_toArray, List.set_cons_zero, List.set_cons_succ, i64_w, i32_w]
      rfl
    refine one_ (i := 1) (N := some 56) #[true, true, false, true, true, true, false] rfl rfl (one_of HT_.out (by kernel_rfl)) (by decide) (fun K hK => ?_)
    refine goes_ Tryz.func129 (by kernel_rfl) rfl #[.slice A2 7 c2] (by rfl) rfl rfl (by simp only [List.map_toArray, List.map_cons, List.map_nil]; rfl) ?_
    with_reducible refine (HK.out A2 c2 _ HS2.out.drew).mono ?_
    rintro e w3 ⟨A4, n4, c4, rfl, k4, hb3⟩
    refine ⟨_, rfl, ?_⟩
    refine hK.out _ _ (((hb3.cell (World.block_lt_of_cell? _ _ hHeld)).trans hHeld)) (fun hHeld => ?_)
    clear hK K
    refine norm_ (a' := ?_) ?_ ?_
    rotate_left
    · show Act.put _ (some 56) _ = _
      simp only [Act.put, List.setIfInBounds_toArray, List.set_cons_zero, List.set_cons_succ, i64_w, i32_w]
      rfl
    refine one_ (i := 2) (N := some 57) #[true, true, true, true, true, true, false] rfl rfl (one_of HT_.out (by kernel_rfl)) (by decide) (fun K hK => ?_)
    refine value_ (w1 := ?_) (v := ?_) (by rfl) rfl ?_ ?_
    rotate_left 2
    · go_simp
      constructor
      · rfl
      · rfl
    refine hK.out _ _ (hHeld) (fun hHeld => ?_)
    clear hK K
    refine norm_ (a' := ?_) ?_ ?_
    rotate_left
    · show Act.put _ (some 57) _ = _
      simp only [Act.put, List.setIfInBounds_toArray, List.set_cons_zero, List.set_cons_succ, i64_w, i32_w]
      rfl
    refine pure_ (i := 6) (N := some 61) (v := ?_) (a' := ?_) #[true, true, true, true, true, true, true] rfl rfl (any_of HT_.out (by kernel_rfl)) (fun _ _ _ h => h) (Or.inl ⟨by rfl, ?_⟩) ?_ ?_
    rotate_left
    · intro w'
      go_simp
      with_reducible rfl
    rotate_left
    · simp only [Act.put, List.setIfInBounds_toArray, List.set_cons_zero, List.set_cons_succ, i64_w, i32_w]
      rfl
    refine done_ (done_of HT_.out (by kernel_rfl)) ?_
    have hb23 : Below w2.heap.size w2 w3 := bleft hb3
    have HB3 := Lib.hid (HB2.out.trans (hb23.mono (boxs HB2.out)))
    have HS3 := Lib.hid (HS2.out.keep hb23)
    clear hb3 hb23 HB2 HS2 HK k4 hkk hHeld
    go_wp2_with fail
    refine (HV.out A2 c2 _ HS3.out).mono ?_
    rintro e w4 ⟨A5, c5, rfl, hs5, hb4⟩
    have HB := HB3.out.trans (hb4.mono (boxs HB3.out))
    have HN := Lib.hid (SB.notbox HB hs5 (by decide))
    have HS5 := Lib.hid hs5
    have q0 := boxc HB 0
    have q1 := boxc HB 1
    simp only [List.getElem?_cons_succ, List.getElem?_cons_zero] at q0 q1
    have f0 := boxf HB 0
    have f1 := boxf HB 1
    have hz4 := boxs HB
    have hlt : w.heap.size < w4.heap.size := by omega
    have HB4 := Lib.hid (boxb HB)
    clear hs5 hb4 HB HB3 HS3 HV
    go_wp2_with fail
    exact bodyPost_ret (v := .tuple #[.agg #[.int .u8 16, .slice A5 4 c5], .nilIface]) (by simp [results, Tryz.results69, go_sem, q0, q1]) rfl ⟨A5, c5, rfl, (HS5.out.far HN.out _).far HN.out _, (HB4.out.setCell (Nat.le_refl _) _).setCell (Nat.le_refl _) _⟩
end Lo
end Go.Proofs.YtbpopaegfhcdpaaGreatDoor.X


/- The look-up through bson and impl. -/
set_option linter.unusedVariables false
set_option linter.unusedSimpArgs false
set_option maxRecDepth 100000
namespace Go.Proofs.YtbpopaegfhcdpaaGreatDoor.X
open Go.RowKit Go.Proofs.YtbpopaegfhcdpaaGreatDoorW.PrintLast
namespace Lo
open Al A2
theorem implLookup (A : Option Addr) (c kb ko ck : Nat) (sa : ByteArray) (w : World) (hsa : sa = ⟨#[97]⟩) (hs : SB w A c docB) (hk : w.cell? ⟨kb, ko, none⟩ = some (.string sa)) :
    Calls Tryz.prog 24 #[.slice A 12 c, .slice (some ⟨kb, ko, none⟩) 1 ck] w fun e w' => ∃ A1 c1, e = .returned (.tuple #[.agg #[.int .i64 16, .slice A1 4 c1], .int .i64 0]) ∧ SB w' A1 c1 l4 ∧ Below w.heap.size w w' := by
  have HK := Lib.hid (fun wx (h : Below w.heap.size w wx) => lookupErr A c kb ko ck sa wx hsa (hs.keep h) ((h.cell (World.block_lt_of_cell? _ _ hk)).trans hk))
  have HO : Hid (∀ A1 c1 wx, SB wx A1 c1 l4 → Calls Tryz.prog 70 #[.agg #[.int .u8 16, .slice A1 4 c1]] wx fun e w' => ∃ A3 c3, e = .returned (.agg #[.int .i64 16, .slice A3 4 c3]) ∧ SB w' A3 c3 l4 ∧ (∀ a, A3 = some a → wx.heap.size ≤ a.block) ∧ Below wx.heap.size wx w') := Lib.hid fun A1 c1 wx h => implRaw A1 c1 l4 16 wx h (by omega) (by omega) (by decide)
  clear hs hk hsa
  go_enter Tryz.func24, Tryz.ntmps24
  go_wp2_with fail
  refine (HK.out _ (balloc (Below.refl _ _) (Nat.le_refl _) _)).mono ?_
  rintro e w1 ⟨A1, c1, rfl, hs1, hb⟩
  have hb1 : Below (w.heap.size + 1) (w.alloc (.cells #[.int .i64 0, .slice none 0 0] 32)) w1 := by simpa using hb
  have HS1 := Lib.hid hs1
  have hz1 := boxs hb1
  clear hb HK hs1
  go_wp2_with fail
  refine (HO.out A1 c1 _ (HS1.out.alloc _)).mono ?_
  rintro e w2 ⟨A3, c3, rfl, hs3, hn3, hb2⟩
  have hb2' : Below w1.heap.size w1 w2 := (balloc (Below.refl _ _) (Nat.le_refl _) _).trans (hb2.mono (by simp))
  have hX := hb1.trans (hb2'.mono hz1)
  have HN3 : Hid (∀ a, A3 = some a → a.block ≠ w.heap.size) := Lib.hid fun a ha => by have h := hn3 a ha; simp at h; omega
  have HS3 := Lib.hid hs3
  clear hb2 hb2' hb1 HS1 hs3 hn3 HO
  go_wp2_with fail
  refine (code_nil w2).mono ?_
  rintro e w3 ⟨rfl, hb3⟩
  have hY := hX.trans (hb3.mono (boxs hX))
  have q0 := boxc hY 0
  have q1 := boxc hY 1
  simp only [List.getElem?_cons_succ, List.getElem?_cons_zero] at q0 q1
  have f0 := boxf hY 0
  have f1 := boxf hY 1
  have hz3 := boxs hY
  have hlt : w.heap.size < w3.heap.size := by omega
  have HB := Lib.hid (boxb hY)
  have HS33 := Lib.hid (HS3.out.keep hb3)
  clear hX hY hb3 HS3
  go_wp2_with fail
  exact bodyPost_ret (v := .tuple #[.agg #[.int .i64 16, .slice A3 4 c3], .int .i64 0]) (by simp [results, Tryz.results24, go_sem, q0, q1]) rfl ⟨A3, c3, rfl, (HS33.out.far HN3.out _).far HN3.out _, (HB.out.setCell (Nat.le_refl _) _).setCell (Nat.le_refl _) _⟩
theorem keycell (W : World) (n : Nat) (hn : n = W.heap.size) (sa : ByteArray) (t : TypeId) : (W.alloc (.cells #[.string sa] t)).cell? ⟨n, 0, none⟩ = some (.string sa) := by
  subst hn
  exact boxc (w := W) (cs := [.string sa]) (t := t) (Below.refl _ _) 0
end Lo
end Go.Proofs.YtbpopaegfhcdpaaGreatDoor.X


