/- Contract of impl.VectorOf at floats of 32 bits: the walk. -/
import Derived.Test.YtjjfdamlicoeeaaDoorVecS
set_option linter.unusedVariables false
set_option linter.unusedSimpArgs false
set_option maxRecDepth 100000
namespace Go.Proofs.YtjjfdamlicoeeaaDoor.X
open Go.RowKit Go.Deep Go.Proofs.YtjjfdamlicoeeaaDoorW.PrintLast
def R20.T13 : Bool × List (List Nat × List Nat) := (true, [([], []), ([0], [0]), ([], []), ([2], [2]), ([3], [3]), ([1, 4, 3], [1, 4]), ([0, 1, 2, 3, 4, 5], []), ([6, 5, 5, 0, 1, 2, 3, 4, 5], [5, 6])])
def R20.B13 : List Nat := [0, 1, 0, 4, 12, 31, 63, 127]
theorem R20.tab13 : rtab .any (opsOf Tryd.f20 13) = R20.T13 := by kernel_rfl
theorem R20.bits13 : waitsOk R20.T13.2 R20.B13 = true := by kernel_rfl
def FRel (w0 : World) (V m : Nat) (r : List UInt8) (i : Value) (wr : World) : Prop := ∃ (k : Nat) (v : Value), k ≤ m ∧ i = .int .i64 k ∧ FC w0 V (u32v ((quads r).take k)) v wr
set_option maxHeartbeats 1000000 in
theorem vectorOf39 (A : Option Addr) (c m : Nat) (r : List UInt8) (w : World) (hs : SB w A c (39 :: 0 :: r)) (hm : r.length = 4 * m) (hl : r.length ≤ 1000000) :
    Calls Tryd.prog 20 #[.int .i64 9, .slice A (r.length + 2) c] w fun e w' => ∃ A' c', e = .returned (.tuple #[ivec39 A' m c', .bool true]) ∧ GS w' A' c' (u32v (quads r)) ∧ Below w.heap.size w w' := by
  have HF := Lib.hid (fun wx (h : SB wx A c (39 :: 0 :: r)) => fromBin39 A c m r wx h hm hl)
  obtain ⟨Q, hQ⟩ : ∃ Q, Q = quads r := ⟨_, rfl⟩
  have hql : Q.length = m := by rw [hQ]; exact quads_len m r hm
  have hmb : m ≤ 1000000 := by omega
  obtain ⟨q, hq⟩ : ∃ q, q = r.length := ⟨_, rfl⟩
  rw [← hq, ← hQ] at HF
  rw [← hq, ← hQ]
  have HQL := Lib.hid hql
  have HQQ := Lib.hid hQ
  have hw9 : IntKind.u8.wrap 9 = 9 := IntWalk.u8_in _ (by omega)
  have h9 : wrap64 39 = 39 := by unfold wrap64; omega
  have HS := Lib.hid hs
  clear hs hq hm hql hl hQ
  go_enter Tryd.func20, Tryd.ntmps20
  go_wp2_with fail
  refine (HF.out _ (HS.out.alloc _)).mono ?_
  rintro e w4 ⟨A4, rfl, hs4, hb4⟩
  have HT := Lib.hid (fun wx => fType A4 m m wx)
  have HI := Lib.hid (fun wx => fInt8no A4 m m wx)
  have HF32 := Lib.hid (fun wx => fF32OK A4 m m wx)
  have HPB := Lib.hid (fun wx => fBitsno A4 m m wx)
  unfold vecF32 at HT HI HF32 HPB ⊢
  obtain ⟨hc4, hf4⟩ := bcell hb4
  have hz4 := hb4.size
  simp only [World.size_alloc] at hz4 hc4 hf4
  have R4 : w.heap.size < w4.heap.size := by omega
  have R4' : w.heap.size < w4.heap.size + 1 := by omega
  have d0 := hc4 w.heap.size 0 (by omega)
  have d1 := hc4 w.heap.size 1 (by omega)
  have d2 := hc4 w.heap.size 2 (by omega)
  have d3 := hc4 w.heap.size 3 (by omega)
  have d4 := hc4 w.heap.size 4 (by omega)
  simp [go_sem] at d0 d1 d2 d3 d4
  have rf : ∀ o, w4.frozen? ⟨w.heap.size, o, none⟩ = false := fun o => by rw [hf4 _ _ (by omega)]; simp [go_sem]
  have HE4 := Lib.hid (balloc ((balloc (Below.refl _ w) (Nat.le_refl _) _).trans (hb4.mono (by first | (simp; done) | (simp; omega)))) (by omega) (.cells #[.int .u8 39, .slice none 0 0, .slice A4 m m, .slice none 0 0, .int .u8 0] 74))
  have HS4 := Lib.hid (hs4.alloc (.cells #[.int .u8 39, .slice none 0 0, .slice A4 m m, .slice none 0 0, .int .u8 0] 74))
  have HS4r := Lib.hid hs4
  clear hs4 hb4 HF HS hc4 hf4
  go_wp2_with fail
  refine (HT.out _).mono ?_
  rintro e w5 ⟨rfl, hb5⟩
  obtain ⟨hc5, hf5⟩ := bcell hb5
  have hz5 := hb5.size
  simp only [World.size_alloc] at hz5 hc5 hf5
  have R5 : w.heap.size < w5.heap.size := by omega
  have V5 : w4.heap.size < w5.heap.size := by omega
  have v0 := hc5 w4.heap.size 0 (by omega)
  have v1 := hc5 w4.heap.size 1 (by omega)
  have v2 := hc5 w4.heap.size 2 (by omega)
  have v3 := hc5 w4.heap.size 3 (by omega)
  have v4 := hc5 w4.heap.size 4 (by omega)
  have r0 := hc5 w.heap.size 0 (by omega)
  have r1 := hc5 w.heap.size 1 (by omega)
  have r2 := hc5 w.heap.size 2 (by omega)
  have r3 := hc5 w.heap.size 3 (by omega)
  have r4 := hc5 w.heap.size 4 (by omega)
  simp [go_sem, R4, d0, d1, d2, d3, d4] at v0 v1 v2 v3 v4 r0 r1 r2 r3 r4
  have rf5 : ∀ o, w5.frozen? ⟨w.heap.size, o, none⟩ = false := fun o => by rw [hf5 _ _ (by omega)]; simpa [go_sem, R4] using rf o
  have HE5 := Lib.hid (balloc (bstep HE4.out (by simp; omega) hb5) (by omega) (.cells #[.int .i64 39, .slice none 0 0, .slice none 0 0, .slice none 0 0, .int .i64 0] 42))
  have HS5 := Lib.hid ((HS4.out.keep hb5).alloc (.cells #[.int .i64 39, .slice none 0 0, .slice none 0 0, .slice none 0 0, .int .i64 0] 42))
  clear hb5 HS4 HE4 HT hc5 hf5 d0 d1 d2 d3 d4 rf
  go_wp2_with fail
  refine (HI.out _).mono ?_
  rintro e w6 ⟨rfl, hb6⟩
  obtain ⟨hc6, hf6⟩ := bcell hb6
  have hz6 := hb6.size
  simp only [World.size_alloc] at hz6 hc6 hf6
  have R6 : w.heap.size < w6.heap.size := by omega
  have V6 : w4.heap.size < w6.heap.size := by omega
  have O6 : w5.heap.size < w6.heap.size := by omega
  have v0a := hc6 w4.heap.size 0 (by omega)
  have v1a := hc6 w4.heap.size 1 (by omega)
  have v2a := hc6 w4.heap.size 2 (by omega)
  have v3a := hc6 w4.heap.size 3 (by omega)
  have v4a := hc6 w4.heap.size 4 (by omega)
  have r0a := hc6 w.heap.size 0 (by omega)
  have r1a := hc6 w.heap.size 1 (by omega)
  have r2a := hc6 w.heap.size 2 (by omega)
  have r3a := hc6 w.heap.size 3 (by omega)
  have r4a := hc6 w.heap.size 4 (by omega)
  have o0a := hc6 w5.heap.size 0 (by omega)
  have o1a := hc6 w5.heap.size 1 (by omega)
  have o2a := hc6 w5.heap.size 2 (by omega)
  have o3a := hc6 w5.heap.size 3 (by omega)
  have o4a := hc6 w5.heap.size 4 (by omega)
  simp [go_sem, R5, V5, v0, v1, v2, v3, v4, r0, r1, r2, r3, r4] at v0a v1a v2a v3a v4a r0a r1a r2a r3a r4a o0a o1a o2a o3a o4a
  have rf6 : ∀ o, w6.frozen? ⟨w.heap.size, o, none⟩ = false := fun o => by rw [hf6 _ _ (by omega)]; simpa [go_sem, R5] using rf5 o
  have of6 : ∀ o, w6.frozen? ⟨w5.heap.size, o, none⟩ = false := fun o => by rw [hf6 _ _ (by omega)]; simp [go_sem]
  have HE6 := Lib.hid (bstep HE5.out (by simp; omega) hb6)
  have HS6 := Lib.hid (HS5.out.keep hb6)
  clear hb6 HI hc6 hf6 HE5 HS5 rf5
  go_wp2_with fail
  refine (HF32.out _).mono ?_
  rintro e w7 ⟨rfl, hb7⟩
  obtain ⟨hc7, hf7⟩ := bcell hb7
  have hz7 := hb7.size
  have R7 : w.heap.size < w7.heap.size := by omega
  have V7 : w4.heap.size < w7.heap.size := by omega
  have O7 : w5.heap.size < w7.heap.size := by omega
  have v0b := (hc7 w4.heap.size 0 (by omega)).trans v0a
  have v1b := (hc7 w4.heap.size 1 (by omega)).trans v1a
  have v2b := (hc7 w4.heap.size 2 (by omega)).trans v2a
  have v3b := (hc7 w4.heap.size 3 (by omega)).trans v3a
  have v4b := (hc7 w4.heap.size 4 (by omega)).trans v4a
  have r0b := (hc7 w.heap.size 0 (by omega)).trans r0a
  have r1b := (hc7 w.heap.size 1 (by omega)).trans r1a
  have r2b := (hc7 w.heap.size 2 (by omega)).trans r2a
  have r3b := (hc7 w.heap.size 3 (by omega)).trans r3a
  have r4b := (hc7 w.heap.size 4 (by omega)).trans r4a
  have o0b := (hc7 w5.heap.size 0 (by omega)).trans o0a
  have o1b := (hc7 w5.heap.size 1 (by omega)).trans o1a
  have o2b := (hc7 w5.heap.size 2 (by omega)).trans o2a
  have o3b := (hc7 w5.heap.size 3 (by omega)).trans o3a
  have o4b := (hc7 w5.heap.size 4 (by omega)).trans o4a
  have rf7 : ∀ o, w7.frozen? ⟨w.heap.size, o, none⟩ = false := fun o => (hf7 _ o (by omega)).trans (rf6 o)
  have of7 : ∀ o, w7.frozen? ⟨w5.heap.size, o, none⟩ = false := fun o => (hf7 _ o (by omega)).trans (of6 o)
  have HE7 := Lib.hid (bstep HE6.out (by omega) hb7)
  have HS7 := Lib.hid (HS6.out.keep hb7)
  have HFC : Hid (FRel w7 w5.heap.size m r (.int .i64 0) w7) := Lib.hid ⟨0, .slice none 0 0, Nat.zero_le _, rfl, ⟨o0b, o1b, o2b, o3b, o4b, of7, by simpa [u32v] using OG.nil _ _, by simp [Value.ownBlock], Below.refl _ _, O7⟩⟩
  have HLT : Hid (0 < m → ∀ b o, A4 = some ⟨b, o, none⟩ → b < w5.heap.size) := Lib.hid fun hp b o e => by
    obtain ⟨b2, o2, e2, hc2⟩ := HS4r.out.cells (by simp [f32v]; have := HQL.out; omega)
    rw [e] at e2
    injection e2 with e3
    injection e3 with e4 e5
    have := World.block_lt_of_cell? w4 _ (hc2 0 (by simp [f32v]; have := HQL.out; omega))
    simp only at this
    omega
  clear hb7 HF32 hc7 hf7 HE6 HS6 rf6 of6 v0a v1a v2a v3a v4a r0a r1a r2a r3a r4a o0a o1a o2a o3a o4a v0 v1 v2 v3 v4 r0 r1 r2 r3 r4 hz4 hz5 hz6 hz7 R4' R6 V6 O6 HS4r
  go_wp2_with fail
  go_loopw [52] (fun i wr => FRel w7 w5.heap.size m r i wr) (fun i _ => m - (intOf i).toNat)
  case atStart => exact HFC.out
  case round =>
    obtain ⟨k, v, hk, rfl, fc⟩ := hrel
    by_cases hkm : k < m
    · have hkr : k < Q.length := by have := HQL.out; omega
      obtain ⟨b, off, hA, hc⟩ := HS7.out.cells (by simp only [f32v, List.length_map]; omega)
      have hbV := HLT.out (by omega) b off hA
      have hcw := hc k (by simpa [f32v] using hkr)
      have hx1 : wr.cell? ⟨b, off + k, none⟩ = some (.float .f32 Q[k]) := by
        rw [fc.bl.cell (p := ⟨b, off + k, none⟩) hbV, hcw]
        simp [f32v]
      obtain ⟨n, hn⟩ : ∃ n, n = Q[k] := ⟨_, rfl⟩
      rw [← hn] at hx1
      have HN := Lib.hid hn
      have hfr := tobits n
      obtain ⟨A6, c6, hv6, hg6, hn6⟩ := fc.og.sb
      obtain ⟨L, hL⟩ : ∃ L, L = u32v ((quads r).take k) := ⟨_, rfl⟩
      have hl6 : L.length = k := by rw [hL]; simp only [u32v, List.length_map, List.length_take]; rw [← HQQ.out]; omega
      rw [← hL] at fc hv6
      rw [hl6] at hv6
      subst hv6
      have HL := Lib.hid hL
      have HLL := Lib.hid hl6
      have hg2 := fc.c2
      have hgf := fc.fz 2
      have hVlt := fc.lt
      have hbw : b < wr.heap.size := by omega
      have HFK := Lib.hid fc
      subst hA
      clear hn hL hl6 hg6 hn6 hcw hc fc
      go_wp2_with fail
      refine start_ (n := 8) (S := fun w' => w'.cell? ⟨w5.heap.size, 2, none⟩ = some (.slice A6 k c6)) (ds := [7]) #[false, false, false, false, false, false, false, false] (by kernel_rfl) rfl rfl ((by go_simp)) (fun hHeld => ?_)
      refine with_tabW R20.tab13 R20.bits13 (fun HT_ HW_ => ?_)
      refine pure_ (i := 0) (N := some 56) (v := ?_) (a' := ?_) #[true, false, false, false, false, false, false, false] rfl rfl (any_of HT_.out (by kernel_rfl)) (fun _ _ _ h => h) (Or.inl ⟨by rfl, ?_⟩) ?_ ?_
      rotate_left
      · intro w'
        go_simp
        with_reducible rfl
      rotate_left
      · simp only [Act.put, List.setIfInBounds_toArray, List.set_cons_zero, List.set_cons_succ, i64_w, i32_w]
        rfl
      refine pure_ (i := 2) (N := some 58) (v := ?_) (a' := ?_) #[true, false, true, false, false, false, false, false] rfl rfl (any_of HT_.out (by kernel_rfl)) (fun _ _ _ h => h) (Or.inl ⟨by rfl, ?_⟩) ?_ ?_
      rotate_left
      · intro w'
        go_simp
        with_reducible rfl
      rotate_left
      · simp only [Act.put, List.setIfInBounds_toArray, List.set_cons_zero, List.set_cons_succ, i64_w, i32_w]
        rfl
      refine take_ (i := 1) (N := some 57) (v := ?_) (a' := ?_) #[true, true, true, false, false, false, false, false] rfl rfl (take_ofW HT_.out HW_.out (by kernel_rfl)) (fun _ _ _ h => h) (Or.inl ⟨by rfl, ?_⟩) hHeld ?_ ?_
      rotate_left
      · intro w' s0
        go_simp
        with_reducible rfl
      rotate_left
      · simp only [Act.put, List.setIfInBounds_toArray, List.set_cons_zero, List.set_cons_succ, i64_w, i32_w]
        rfl
      refine take_ (i := 3) (N := some 59) (v := ?_) (a' := ?_) #[true, true, true, true, false, false, false, false] rfl rfl (take_ofW HT_.out HW_.out (by kernel_rfl)) (fun _ _ _ h => h) (Or.inl ⟨by rfl, ?_⟩) hHeld ?_ ?_
      rotate_left
      · intro w' s0
        go_simp
        with_reducible rfl
      rotate_left
      · simp only [Act.put, List.setIfInBounds_toArray, List.set_cons_zero, List.set_cons_succ, i64_w, i32_w]
        rfl
      refine one_ (i := 4) (N := some 60) #[true, true, true, true, true, false, false, false] rfl rfl (one_of HT_.out (by kernel_rfl)) (by decide) (fun K hK => ?_)
      refine value_ (w1 := ?_) (v := ?_) (by rfl) rfl ?_ ?_
      rotate_left 2
      · go_simp
        constructor
        · rfl
        · rfl
      refine hK.out _ _ ((((balloc (Below.refl _ _) (Nat.le_refl _) _).cell (World.block_lt_of_cell? _ _ hHeld)).trans hHeld)) (fun hHeld => ?_)
      clear hK K
      refine norm_ (a' := ?_) ?_ ?_
      rotate_left
      · show Act.put _ (some 60) _ = _
        simp only [Act.put, List.setIfInBounds_toArray, List.set_cons_zero, List.set_cons_succ, i64_w, i32_w]
        rfl
      refine one_ (i := 5) (N := some 61) #[true, true, true, true, true, true, false, false] rfl rfl (one_of HT_.out (by kernel_rfl)) (by decide) (fun K hK => ?_)
      refine appG_step (.tmp 57) (.tmp 60) 40 (by rfl) rfl rfl (.int .u32 0) 4 infoU32 rfl Tryd.underlying40 _ w5.heap.size (.slice A6 k c6) L (some ⟨wr.heap.size, 0, none⟩) 1 [.int .u32 (n : Int)] rfl rfl ?a1 ?a2 ?a3 ?a4 ?a5 ?a6 ?_
      case a1 => exact HFK.out.og.keep (bdrew (balloc (Below.refl _ _) (Nat.le_refl _) _))
      case a2 => exact (GS.lit_ _ [.int .u32 (n : Int)] _ rfl (by simp) _ rfl).drew
      case a3 => simp; omega
      case a4 => simp [Value.oneCell']
      case a5 => rw [HLL.out]; simp; omega
      case a6 => rw [HLL.out]; simp; omega
      intro v5 w5a hap
      have hst := HFK.out.step (bdrew (balloc (Below.refl _ _) (Nat.le_refl _) _)) hap
      obtain ⟨p1, pf1, hV5, hFC5⟩ := hst
      have HFC5 := Lib.hid hFC5
      obtain ⟨A7, c7, hv7, hg7, hn7⟩ := hap.own.sb
      clear hFC5 hap hg7 hn7
      subst hv7
      refine hK.out _ _ (p1) (fun hHeld => ?_)
      clear hK K
      refine norm_ (a' := ?_) ?_ ?_
      rotate_left
      · show Act.put _ (some 61) _ = _
        simp only [Act.put, List.setIfInBounds_toArray, List.set_cons_zero, List.set_cons_succ, i64_w, i32_w]
        rfl
      refine pure_ (i := 6) (N := some 62) (v := ?_) (a' := ?_) #[true, true, true, true, true, true, true, false] rfl rfl (any_of HT_.out (by kernel_rfl)) (fun _ _ _ h => h) (Or.inl ⟨by rfl, ?_⟩) ?_ ?_
      rotate_left
      · intro w'
        go_simp
        with_reducible rfl
      rotate_left
      · simp only [Act.put, List.setIfInBounds_toArray, List.set_cons_zero, List.set_cons_succ, i64_w, i32_w]
        rfl
      refine last_ (i := 7) (N := none) #[true, true, true, true, true, true, true, true] rfl rfl (one_of HT_.out (by kernel_rfl)) (by decide) (fun K hK => ?_)
      refine skip_ (w1 := ?_) (by rfl) rfl ?_ ?_
      rotate_left
      · go_simp
        rfl
      refine hK.out _ _ ?_
      clear hK K
      refine done_ (done_of HT_.out (by kernel_rfl)) ?_
      go_wp2_with fail
      go_roundw
      case rel =>
        refine ⟨k + 1, .slice A7 (L.length + 1) c7, by omega, by simp, ?_⟩
        rw [← HQQ.out, u32v_push Q k hkr, ← HN.out, show u32v (Q.take k) = L from by rw [HL.out, HQQ.out]]
        have h := HFC5.out
        simpa using h
      case measure => simp [intOf]; omega
    · obtain rfl : k = m := by omega
      have et : (quads r).take k = quads r := by rw [← HQQ.out, ← HQL.out]; exact List.take_length
      rw [et] at fc
      have hl6 : (u32v (quads r)).length = k := by rw [← HQQ.out]; simp only [u32v, List.length_map]; exact HQL.out
      obtain ⟨A9, c9, hv9, hs9, hn9⟩ := fc.og.sb
      rw [hl6] at hv9
      subst hv9
      have g0 := fc.c0
      have g1 := fc.c1
      have g2 := fc.c2
      have g3 := fc.c3
      have g4 := fc.c4
      have gf := fc.fz
      have hVlt := fc.lt
      have hbl := fc.bl
      have hWV : w.heap.size < w5.heap.size := R5
      have v0c := (hbl.cell (p := ⟨w4.heap.size, 0, none⟩) (by show w4.heap.size < w5.heap.size; omega)).trans v0b
      have v1c := (hbl.cell (p := ⟨w4.heap.size, 1, none⟩) (by show w4.heap.size < w5.heap.size; omega)).trans v1b
      have v2c := (hbl.cell (p := ⟨w4.heap.size, 2, none⟩) (by show w4.heap.size < w5.heap.size; omega)).trans v2b
      have v3c := (hbl.cell (p := ⟨w4.heap.size, 3, none⟩) (by show w4.heap.size < w5.heap.size; omega)).trans v3b
      have v4c := (hbl.cell (p := ⟨w4.heap.size, 4, none⟩) (by show w4.heap.size < w5.heap.size; omega)).trans v4b
      have r0c := (hbl.cell (p := ⟨w.heap.size, 0, none⟩) (by show w.heap.size < w5.heap.size; omega)).trans r0b
      have r1c := (hbl.cell (p := ⟨w.heap.size, 1, none⟩) (by show w.heap.size < w5.heap.size; omega)).trans r1b
      have r2c := (hbl.cell (p := ⟨w.heap.size, 2, none⟩) (by show w.heap.size < w5.heap.size; omega)).trans r2b
      have r3c := (hbl.cell (p := ⟨w.heap.size, 3, none⟩) (by show w.heap.size < w5.heap.size; omega)).trans r3b
      have r4c := (hbl.cell (p := ⟨w.heap.size, 4, none⟩) (by show w.heap.size < w5.heap.size; omega)).trans r4b
      have rfc : ∀ o, wr.frozen? ⟨w.heap.size, o, none⟩ = false := fun o => (hbl.frozen (p := ⟨w.heap.size, o, none⟩) (by show w.heap.size < w5.heap.size; omega)).trans (rf7 o)
      have HE9 := Lib.hid (HE7.out.trans (hbl.mono (by omega)))
      have HS9 := Lib.hid hs9
      have HN9 : Hid (∀ a, A9 = some a → w5.heap.size ≤ a.block ∧ a.block ≠ w5.heap.size) := Lib.hid fun a ha => ⟨(hn9 a ha).1, fun e => fc.own (by subst ha; show some a.block = some w5.heap.size; rw [e])⟩
      have RW : w.heap.size < wr.heap.size := by omega
      have RB : w4.heap.size < wr.heap.size := by omega
      clear hbl fc hs9 hn9 HE7 rf7 et hl6 v0b v1b v2b v3b v4b r0b r1b r2b r3b r4b o0b o1b o2b o3b o4b
      go_wp2_with fail
      refine (HPB.out _).mono ?_
      rintro e w8 ⟨rfl, hb8⟩
      obtain ⟨hc8, hf8⟩ := bcell hb8
      have hz8 := hb8.size
      have R8 : w.heap.size < w8.heap.size := by omega
      have O8 : w5.heap.size < w8.heap.size := by omega
      have k0 := (hc8 w5.heap.size 0 (by omega)).trans g0
      have k1 := (hc8 w5.heap.size 1 (by omega)).trans g1
      have k2 := (hc8 w5.heap.size 2 (by omega)).trans g2
      have k3 := (hc8 w5.heap.size 3 (by omega)).trans g3
      have k4 := (hc8 w5.heap.size 4 (by omega)).trans g4
      have r0d := (hc8 w.heap.size 0 (by omega)).trans r0c
      have r1d := (hc8 w.heap.size 1 (by omega)).trans r1c
      have r2d := (hc8 w.heap.size 2 (by omega)).trans r2c
      have r3d := (hc8 w.heap.size 3 (by omega)).trans r3c
      have r4d := (hc8 w.heap.size 4 (by omega)).trans r4c
      have rf8 : ∀ o, w8.frozen? ⟨w.heap.size, o, none⟩ = false := fun o => (hf8 _ o (by omega)).trans (rfc o)
      have HE8 := Lib.hid (bstep HE9.out (by omega) hb8)
      have HS8 := Lib.hid (HS9.out.keep hb8)
      have n1 : Hid (∀ a, A9 = some a → a.block ≠ w.heap.size) := Lib.hid fun a ha => by have := (HN9.out a ha).1; omega
      have hne1 : w.heap.size ≠ w5.heap.size := by omega
      have hne2 : w5.heap.size ≠ w.heap.size := by omega
      clear hb8 HPB hc8 hf8 HE9 HS9 rfc g0 g1 g2 g3 g4 gf v0c v1c v2c v3c v4c r0c r1c r2c r3c r4c
      go_wp2_with fail
      have hbb : w.heap.size ≤ w.heap.size := Nat.le_refl _
      exact bodyPost_ret (v := .tuple #[ivec39 A9 k c9, .bool true]) (by simp [results, Tryd.results20, go_sem, ivec39, r0d, r1d, r2d, r3d, r4d, R8, O8, hne1, hne2]) rfl ⟨A9, c9, rfl, by rw [HQQ.out]; exact ((((HS8.out.far n1.out _).far n1.out _).far n1.out _).far n1.out _).far n1.out _, ((((HE8.out.setCell hbb _).setCell hbb _).setCell hbb _).setCell hbb _).setCell hbb _⟩
end Go.Proofs.YtjjfdamlicoeeaaDoor.X
