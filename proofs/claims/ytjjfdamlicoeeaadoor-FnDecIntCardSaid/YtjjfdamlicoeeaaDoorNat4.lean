/- Contracts of NewInt(0), SetBits, Neg, String. -/
import Derived.Test.YtjjfdamlicoeeaaDoorNat3
set_option linter.unusedVariables false
set_option linter.unusedSimpArgs false
set_option maxRecDepth 100000
namespace Go.Proofs.YtjjfdamlicoeeaaDoor.X
open Go.RowKit Go.Deep Go.Proofs.YtjjfdamlicoeeaaDoorW.PrintLast
def R52.T1 : Bool × List (List Nat × List Nat) := (true, [([], []), ([], []), ([], []), ([2], [2]), ([3], [3]), ([4], [4]), ([], []), ([6], [6]), ([7], [7]), ([8], [8]), ([9], [9]), ([10], [10]), ([11], [11]), ([12], [12]), ([13, 12], [12, 13]), ([14, 12], [12, 14]), ([15, 12], [12, 15]), ([16, 12], [12, 16]), ([12, 17], [12, 17]), ([0, 0, 2, 3, 4, 5, 9, 16], [0]), ([19, 0, 2, 3, 4, 5, 9, 16], [19]), ([20, 5, 12, 0, 2, 3, 4, 5, 9, 16], [5, 20]), ([1, 0, 1, 2, 3, 4, 5, 6, 7, 8, 9, 10, 11, 12, 13, 14, 15, 16, 17, 18, 19, 20, 21], [1]), ([22, 0, 1, 2, 3, 4, 5, 6, 7, 8, 9, 10, 11, 12, 13, 14, 15, 16, 17, 18, 19, 20, 21], [22]), ([23, 18, 21, 0, 1, 2, 3, 4, 5, 6, 7, 8, 9, 10, 11, 12, 13, 14, 15, 16, 17, 18, 19, 20, 21], [18, 23])])
def R52.B1 : List Nat := [0, 0, 0, 4, 12, 28, 0, 64, 192, 448, 960, 1984, 4032, 8128, 16320, 32704, 65472, 131008, 262080, 131069, 655357, 1703933, 4194303, 8388607, 16777215]
theorem R52.tab1 : rtab .any (opsOf Tryd.f52 1) = R52.T1 := by kernel_rfl
theorem R52.bits1 : waitsOk R52.T1.2 R52.B1 = true := by kernel_rfl
def R55.T3 : Bool × List (List Nat × List Nat) := (true, [([], []), ([0], [0]), ([1], [1]), ([2], [2]), ([], []), ([4], [4]), ([5], [5]), ([6], [6]), ([], []), ([3, 7, 8], [3, 7, 8]), ([9], [9]), ([10, 9, 0, 1, 2, 3, 4, 5, 6, 7, 8, 9, 10], [10])])
def R55.B3 : List Nat := [0, 1, 3, 7, 0, 16, 48, 112, 0, 511, 1023, 2047]
theorem R55.tab3 : rtab .any (opsOf Tryd.f55 3) = R55.T3 := by kernel_rfl
theorem R55.bits3 : waitsOk R55.T3.2 R55.B3 = true := by kernel_rfl
/-- A whole number behind a pointer. -/
structure IR (w : World) (B : Nat) (ng : Bool) (N : Nat) : Prop where
  ex : ∃ A c, w.cell? ⟨B, 0, none⟩ = some (.bool ng) ∧ w.cell? ⟨B, 1, none⟩ = some (.slice A (nat32 N).length c) ∧ GS w A c (u32v (nat32 N)) ∧ (∀ a, A = some a → a.block ≠ B)
  fz : ∀ o, w.frozen? ⟨B, o, none⟩ = false
theorem IR.lt {w : World} {B : Nat} {ng : Bool} {N : Nat} (h : IR w B ng N) : B < w.heap.size := by
  obtain ⟨A, c, h0, -⟩ := h.ex
  exact World.block_lt_of_cell? w _ h0
theorem IR.keep {w w1 : World} {B : Nat} {ng : Bool} {N : Nat} (h : IR w B ng N) (hb : Below w.heap.size w w1) : IR w1 B ng N := by
  obtain ⟨A, c, h0, h1, h2, h3⟩ := h.ex
  have hl := h.lt
  exact ⟨⟨A, c, (hb.cell (p := ⟨B, 0, none⟩) hl).trans h0, (hb.cell (p := ⟨B, 1, none⟩) hl).trans h1, h2.keep hb, h3⟩, fun o => (hb.frozen (p := ⟨B, o, none⟩) hl).trans (h.fz o)⟩
/-- The two fields are written. -/
theorem IR.made {w : World} {B : Nat} {A : Option Addr} {c N : Nat} {ng : Bool} (hl : B < w.heap.size) {v0 v1 : Value} (h0 : w.cell? ⟨B, 0, none⟩ = some v0) (h1 : w.cell? ⟨B, 1, none⟩ = some v1) (hf : ∀ o, w.frozen? ⟨B, o, none⟩ = false) (hs : GS w A c (u32v (nat32 N))) (hA : ∀ a, A = some a → a.block ≠ B) :
    IR ((w.setCell ⟨B, 1, none⟩ (.slice A (nat32 N).length c)).setCell ⟨B, 0, none⟩ (.bool ng)) B ng N :=
  ⟨⟨A, c, by simp [go_sem, h0, h1, hl], by simp [go_sem, h0, h1, hl], (hs.far hA _).far hA _, hA⟩, fun o => by simp [go_sem, hf]⟩
theorem setInt0 (B : Nat) (w : World) {v0 v1 : Value} (h0 : w.cell? ⟨B, 0, none⟩ = some v0) (h1 : w.cell? ⟨B, 1, none⟩ = some v1) (hf : ∀ o, w.frozen? ⟨B, o, none⟩ = false) (hv0 : v0.cells.size = 1) (hv1 : v1.cells.size = 1) :
    Calls Tryd.prog 76 #[.pointer (some ⟨B, 0, none⟩), .int .i64 0] w fun e w' => e = .returned (.pointer (some ⟨B, 0, none⟩)) ∧ IR w' B false 0 ∧ w.heap.size ≤ w'.heap.size ∧ Below B w w' := by
  have hl : B < w.heap.size := World.block_lt_of_cell? w _ h0
  have HN := Lib.hid (natOf 0 w (by omega))
  rw [show (((0 : Nat) : Int)) = 0 from rfl] at HN
  have hw0 : IntKind.u64.wrap 0 = 0 := IntWalk.u64_in _ (by omega)
  go_enter Tryd.func76, Tryd.ntmps76
  go_wp2_with fail
  refine HN.out.mono ?_
  rintro e w1 ⟨A, c, rfl, hs, hA, hb⟩
  have k0 := (hb.cell (p := ⟨B, 0, none⟩) hl).trans h0
  have k1 := (hb.cell (p := ⟨B, 1, none⟩) hl).trans h1
  have kf : ∀ o, w1.frozen? ⟨B, o, none⟩ = false := fun o => (hb.frozen (p := ⟨B, o, none⟩) hl).trans (hf o)
  have hl1 : B < w1.heap.size := by have := hb.size; omega
  have HIR := Lib.hid (IR.made (ng := false) hl1 k0 k1 kf hs (fun a ha => by have := hA a ha; omega))
  have HB := Lib.hid (hb.mono (Nat.le_of_lt hl))
  have hsz := hb.size
  clear hb hs hA h0 h1 hf HN
  go_wp2_with fail
  go_ret
  exact ⟨rfl, HIR.out, by simpa using hsz, (HB.out.setCell (Nat.le_refl _) _).setCell (Nat.le_refl _) _⟩
theorem newInt0 (w : World) :
    Calls Tryd.prog 50 #[.int .i64 0] w fun e w' => ∃ B, e = .returned (.pointer (some ⟨B, 0, none⟩)) ∧ IR w' B false 0 ∧ w.heap.size ≤ B ∧ Below w.heap.size w w' := by
  have HS := Lib.hid (fun wx v0 v1 h0 h1 hf hv0 hv1 => setInt0 w.heap.size wx (v0 := v0) (v1 := v1) h0 h1 hf hv0 hv1)
  go_enter Tryd.func50, Tryd.ntmps50
  go_wp2_with fail
  refine (HS.out _ (.bool false) (.slice none 0 0) (by simp [go_sem]) (by simp [go_sem]) (fun o => by simp [go_sem]) rfl rfl).mono ?_
  rintro e w1 ⟨rfl, hir, hsz, hb⟩
  have HIR := Lib.hid hir
  have HB := Lib.hid ((balloc (Below.refl _ w) (Nat.le_refl _) _).trans hb)
  clear hir hsz hb
  go_wp2_with fail
  go_ret
  exact ⟨_, rfl, HIR.out, Nat.le_refl _, HB.out⟩
def w4 (lo hi : Nat) : List Nat := [lo % 4294967296, lo / 4294967296, hi % 4294967296, hi / 4294967296]
theorem w4_nv (lo hi : Nat) : nv (w4 lo hi) = lo + 18446744073709551616 * hi := by simp only [w4, nv]; omega
theorem setBits (B : Nat) (A : Option Addr) (c : Nat) (lo hi : Nat) (w : World) {v0 v1 : Value} (h0 : w.cell? ⟨B, 0, none⟩ = some v0) (h1 : w.cell? ⟨B, 1, none⟩ = some v1) (hf : ∀ o, w.frozen? ⟨B, o, none⟩ = false) (hv0 : v0.cells.size = 1) (hv1 : v1.cells.size = 1)
    (hs : GS w A c [.int .u64 (lo : Int), .int .u64 (hi : Int)]) (hlo : lo ≤ 18446744073709551615) (hhi : hi ≤ 18446744073709551615) :
    Calls Tryd.prog 51 #[.pointer (some ⟨B, 0, none⟩), .slice A 2 c] w fun e w' => e = .returned (.pointer (some ⟨B, 0, none⟩)) ∧ IR w' B false (lo + 18446744073709551616 * hi) ∧ w.heap.size ≤ w'.heap.size ∧ Below B w w' := by
  have hl : B < w.heap.size := World.block_lt_of_cell? w _ h0
  obtain ⟨b, off, rfl, hc⟩ := hs.cells (by simp)
  have hc0 := hc 0 (by simp)
  have hc1 := hc 1 (by simp)
  simp at hc0 hc1
  have hblt : b < w.heap.size := World.block_lt_of_cell? w _ hc0
  obtain ⟨zl, hzl⟩ : ∃ z : Int, z = (lo : Int) := ⟨_, rfl⟩
  obtain ⟨zh, hzh⟩ : ∃ z : Int, z = (hi : Int) := ⟨_, rfl⟩
  rw [← hzl] at hc0
  rw [← hzh] at hc1
  have hbl : 0 ≤ zl ∧ zl ≤ 18446744073709551615 := by omega
  have hbh : 0 ≤ zh ∧ zh ≤ 18446744073709551615 := by omega
  have HL : Hid (u32v [lo % 4294967296, lo / 4294967296] = [.int .u32 (zl % 4294967296), .int .u32 (zl / 4294967296)]) := Lib.hid (by simp [u32v, hzl])
  have HH : Hid (u32v [hi % 4294967296, hi / 4294967296] = [.int .u32 (zh % 4294967296), .int .u32 (zh / 4294967296)]) := Lib.hid (by simp [u32v, hzh])
  have hnv := w4_nv lo hi
  have hlow : Low (w4 lo hi) := by intro a ha; simp only [w4, List.mem_cons, List.mem_nil_iff, or_false] at ha; rcases ha with rfl | rfl | rfl | rfl <;> omega
  have HNV := Lib.hid hnv
  have HLOW := Lib.hid hlow
  clear hs hc hzl hzh hnv hlow hlo hhi
  go_enter Tryd.func51, Tryd.ntmps51
  go_wp2_with fail
  refine wp_loop_rounds 3 ?_
  rw [rounds_succ]
  go_wp2_with (first | (refine wp_appG (.tmp 14) (.tmp 20) 94 rfl rfl (.int .u32 0) 4 infoU32 rfl Tryd.underlying94 _ w.heap.size (.slice none 0 0) [] (some ⟨w.heap.size, 0, none⟩) 2 [.int .u32 (zl % 4294967296), .int .u32 (zl / 4294967296)] rfl rfl ?a1 ?a2 ?a3 ?a4 ?a5 ?a6 ?_) | fail)
  case a1 => exact OG.nil _ _
  case a2 => exact GS.lit_ _ [.int .u32 (zl % 4294967296), .int .u32 (zl / 4294967296)] _ rfl (by simp) _ rfl
  case a3 => simp
  case a4 => simp [Value.oneCell']
  case a5 => simp
  case a6 => simp
  intro v1 w1 hap
  obtain ⟨A1, c1, hv1, hg1, hn1⟩ := hap.own.sb
  have hb1 := (balloc (Below.refl _ w) (Nat.le_refl _) _).trans (hap.kept ((OG.nil w w.heap.size).alloc _) (by simp))
  have HO1 := Lib.hid hap.own
  have hz1 := hb1.size
  have e1 := (hb1.cell (p := ⟨b, off + 1, none⟩) hblt).trans hc1
  have hbl1 : b < w1.heap.size := by omega
  have HB1 := Lib.hid hb1
  clear hap hg1 hn1 hb1
  subst hv1
  go_wp2_with fail
  rw [rounds_succ]
  go_wp2_with (first | (refine wp_appG (.tmp 14) (.tmp 20) 94 rfl rfl (.int .u32 0) 4 infoU32 rfl Tryd.underlying94 _ w.heap.size (.slice A1 2 c1) [.int .u32 (zl % 4294967296), .int .u32 (zl / 4294967296)] (some ⟨w1.heap.size, 0, none⟩) 2 [.int .u32 (zh % 4294967296), .int .u32 (zh / 4294967296)] rfl rfl ?a1 ?a2 ?a3 ?a4 ?a5 ?a6 ?_) | fail)
  case a1 => exact HO1.out.alloc _
  case a2 => exact GS.lit_ _ [.int .u32 (zh % 4294967296), .int .u32 (zh / 4294967296)] _ rfl (by simp) _ rfl
  case a3 => simp; omega
  case a4 => simp [Value.oneCell']
  case a5 => simp
  case a6 => simp
  intro v2 w2 hap
  have hb2 := (balloc HB1.out (by omega) (.cells #[.int .u32 (zh % 4294967296), .int .u32 (zh / 4294967296)] 45)).trans (hap.kept (HO1.out.alloc _) (by simp; omega))
  obtain ⟨A2, c2, hv2, hg2, hn2⟩ := hap.own.sb
  have hl4 : u32v (w4 lo hi) = [.int .u32 (zl % 4294967296), .int .u32 (zl / 4294967296), .int .u32 (zh % 4294967296), .int .u32 (zh / 4294967296)] := by
    have e : u32v (w4 lo hi) = u32v [lo % 4294967296, lo / 4294967296] ++ u32v [hi % 4294967296, hi / 4294967296] := rfl
    rw [e, HL.out, HH.out]
    rfl
  have hg2 : GS w2 A2 c2 (u32v (w4 lo hi)) := by rw [hl4]; exact hg2
  have hnm := norm A2 c2 (w4 lo hi) w2 hg2 (by simp [w4]) HLOW.out
  rw [HNV.out, show (w4 lo hi).length = 4 from rfl] at hnm
  have HNM := Lib.hid hnm
  have k0 := (hb2.cell (p := ⟨B, 0, none⟩) hl).trans h0
  have k1 := (hb2.cell (p := ⟨B, 1, none⟩) hl).trans h1
  have kf : ∀ o, w2.frozen? ⟨B, o, none⟩ = false := fun o => (hb2.frozen (p := ⟨B, o, none⟩) hl).trans (hf o)
  have hz2 := hb2.size
  have hl2 : B < w2.heap.size := by omega
  have HN2 : Hid (∀ a, A2 = some a → a.block ≠ B) := Lib.hid fun a ha => by have := (hn2 a ha).1; omega
  have HB2 := Lib.hid (hb2.mono (Nat.le_of_lt hl))
  have hv2' : v2 = .slice A2 4 c2 := by rw [hv2]; rfl
  clear hb2 hap hg2 hn2 hl4 hnm h0 h1 hf HO1 HB1 hv2
  subst hv2'
  go_wp2_with fail
  rw [rounds_succ]
  go_wp2_with fail
  refine HNM.out.mono ?_
  rintro e w3 ⟨rfl, hs3, rfl⟩
  have HIR := Lib.hid (IR.made (ng := false) hl2 k0 k1 kf hs3 HN2.out)
  clear hs3
  go_wp2_with fail
  go_ret
  exact ⟨rfl, HIR.out, by simpa using hz2, (HB2.out.setCell (Nat.le_refl _) _).setCell (Nat.le_refl _) _⟩
theorem neg (B : Nat) (N : Nat) (w : World) (h : IR w B false N) (hN : (nat32 N).length ≤ 1000000) :
    Calls Tryd.prog 52 #[.pointer (some ⟨B, 0, none⟩), .pointer (some ⟨B, 0, none⟩)] w fun e w' => e = .returned (.pointer (some ⟨B, 0, none⟩)) ∧ IR w' B (decide (N ≠ 0)) N ∧ w.heap.size ≤ w'.heap.size ∧ Below B w w' := by
  have hl := h.lt
  obtain ⟨A, c, h0, h1, hs, hA⟩ := h.ex
  have hf0 := h.fz 0
  have hf1 := h.fz 1
  have hf := h.fz
  have HIR := Lib.hid (fun (wx : World) (hb : Below w.heap.size w wx) (ng : Bool) => IR.made (ng := ng) (w := wx) (by have := hb.size; omega) ((hb.cell (p := ⟨B, 0, none⟩) hl).trans h0) ((hb.cell (p := ⟨B, 1, none⟩) hl).trans h1) (fun o => (hb.frozen (p := ⟨B, o, none⟩) hl).trans (hf o)) (hs.keep hb) hA)
  have hBB : B ≤ B := Nat.le_refl _
  have hcs : ((nat32 N).length = 0 ∧ decide (N ≠ 0) = false) ∨ (0 < (nat32 N).length ∧ decide (N ≠ 0) = true) := by
    by_cases h0 : N = 0
    · subst h0; exact .inl ⟨by rw [nat32_zero]; rfl, by simp⟩
    · exact .inr ⟨nat32_pos N h0, by simpa using h0⟩
  obtain ⟨n, hn⟩ : ∃ n, n = (nat32 N).length := ⟨_, rfl⟩
  rw [← hn] at h1 HIR hcs hN
  clear hs hA h hn hf
  rcases hcs with ⟨h2, h3⟩ | ⟨h2, h3⟩
  · subst h2
    rw [h3]
    clear h3
    go_enter Tryd.func52, Tryd.ntmps52
    go_wp2_with fail
    refine start_ (n := 25) (S := fun w' => w'.cell? ⟨B, 0, none⟩ = some (.bool false) ∧ w'.cell? ⟨B, 1, none⟩ = some (.slice A 0 c)) (ds := [21, 24]) #[false, false, false, false, false, false, false, false, false, false, false, false, false, false, false, false, false, false, false, false, false, false, false, false, false] (by kernel_rfl) rfl rfl ⟨(by go_simp), (by go_simp)⟩ (fun hHeld => ?_)
    refine with_tabW R52.tab1 R52.bits1 (fun HT_ HW_ => ?_)
    refine pure_ (i := 0) (N := some 5) (v := ?_) (a' := ?_) #[true, false, false, false, false, false, false, false, false, false, false, false, false, false, false, false, false, false, false, false, false, false, false, false, false] rfl rfl (any_of HT_.out (by kernel_rfl)) (fun _ _ _ h => h) (Or.inl ⟨by rfl, ?_⟩) ?_ ?_
    rotate_left
    · intro w'
      go_simp
      with_reducible rfl
    rotate_left
    · simp only [Act.put, List.setIfInBounds_toArray, List.set_cons_zero, List.set_cons_succ, i64_w, i32_w]
      rfl
    refine pure_ (i := 1) (N := some 6) (v := ?_) (a' := ?_) #[true, true, false, false, false, false, false, false, false, false, false, false, false, false, false, false, false, false, false, false, false, false, false, false, false] rfl rfl (any_of HT_.out (by kernel_rfl)) (fun _ _ _ h => h) (Or.inl ⟨by rfl, ?_⟩) ?_ ?_
    rotate_left
    · intro w'
      go_simp
      with_reducible rfl
    rotate_left
    · simp only [Act.put, List.setIfInBounds_toArray, List.set_cons_zero, List.set_cons_succ, i64_w, i32_w]
      rfl
    refine pure_ (i := 2) (N := some 7) (v := ?_) (a' := ?_) #[true, true, true, false, false, false, false, false, false, false, false, false, false, false, false, false, false, false, false, false, false, false, false, false, false] rfl rfl (any_of HT_.out (by kernel_rfl)) (fun _ _ _ h => h) (Or.inl ⟨by rfl, ?_⟩) ?_ ?_
    rotate_left
    · intro w'
      go_simp
      with_reducible rfl
    rotate_left
    · simp only [Act.put, List.setIfInBounds_toArray, List.set_cons_zero, List.set_cons_succ, i64_w, i32_w]
      rfl
    refine pure_ (i := 3) (N := some 8) (v := ?_) (a' := ?_) #[true, true, true, true, false, false, false, false, false, false, false, false, false, false, false, false, false, false, false, false, false, false, false, false, false] rfl rfl (any_of HT_.out (by kernel_rfl)) (fun _ _ _ h => h) (Or.inl ⟨by rfl, ?_⟩) ?_ ?_
    rotate_left
    · intro w'
      go_simp
      with_reducible rfl
    rotate_left
    · simp only [Act.put, List.setIfInBounds_toArray, List.set_cons_zero, List.set_cons_succ, i64_w, i32_w]
      rfl
    refine pure_ (i := 4) (N := some 9) (v := ?_) (a' := ?_) #[true, true, true, true, true, false, false, false, false, false, false, false, false, false, false, false, false, false, false, false, false, false, false, false, false] rfl rfl (any_of HT_.out (by kernel_rfl)) (fun _ _ _ h => h) (Or.inl ⟨by rfl, ?_⟩) ?_ ?_
    rotate_left
    · intro w'
      go_simp
      with_reducible rfl
    rotate_left
    · simp only [Act.put, List.setIfInBounds_toArray, List.set_cons_zero, List.set_cons_succ, i64_w, i32_w]
      rfl
    refine pure_ (i := 6) (N := some 11) (v := ?_) (a' := ?_) #[true, true, true, true, true, false, true, false, false, false, false, false, false, false, false, false, false, false, false, false, false, false, false, false, false] rfl rfl (any_of HT_.out (by kernel_rfl)) (fun _ _ _ h => h) (Or.inl ⟨by rfl, ?_⟩) ?_ ?_
    rotate_left
    · intro w'
      go_simp
      with_reducible rfl
    rotate_left
    · simp only [Act.put, List.setIfInBounds_toArray, List.set_cons_zero, List.set_cons_succ, i64_w, i32_w]
      rfl
    refine pure_ (i := 7) (N := some 12) (v := ?_) (a' := ?_) #[true, true, true, true, true, false, true, true, false, false, false, false, false, false, false, false, false, false, false, false, false, false, false, false, false] rfl rfl (any_of HT_.out (by kernel_rfl)) (fun _ _ _ h => h) (Or.inl ⟨by rfl, ?_⟩) ?_ ?_
    rotate_left
    · intro w'
      go_simp
      with_reducible rfl
    rotate_left
    · simp only [Act.put, List.setIfInBounds_toArray, List.set_cons_zero, List.set_cons_succ, i64_w, i32_w]
      rfl
    refine pure_ (i := 8) (N := some 13) (v := ?_) (a' := ?_) #[true, true, true, true, true, false, true, true, true, false, false, false, false, false, false, false, false, false, false, false, false, false, false, false, false] rfl rfl (any_of HT_.out (by kernel_rfl)) (fun _ _ _ h => h) (Or.inl ⟨by rfl, ?_⟩) ?_ ?_
    rotate_left
    · intro w'
      go_simp
      with_reducible rfl
    rotate_left
    · simp only [Act.put, List.setIfInBounds_toArray, List.set_cons_zero, List.set_cons_succ, i64_w, i32_w]
      rfl
    refine take_ (i := 5) (N := some 10) (v := ?_) (a' := ?_) #[true, true, true, true, true, true, true, true, true, false, false, false, false, false, false, false, false, false, false, false, false, false, false, false, false] rfl rfl (take_ofW HT_.out HW_.out (by kernel_rfl)) (fun _ _ _ h => h) (Or.inl ⟨by rfl, ?_⟩) hHeld ?_ ?_
    rotate_left
    · rintro w' ⟨s0, s1⟩
      go_simp
      with_reducible rfl
    rotate_left
    · simp only [Act.put, List.setIfInBounds_toArray, List.set_cons_zero, List.set_cons_succ, i64_w, i32_w]
      rfl
    refine take_ (i := 9) (N := some 14) (v := ?_) (a' := ?_) #[true, true, true, true, true, true, true, true, true, true, false, false, false, false, false, false, false, false, false, false, false, false, false, false, false] rfl rfl (take_ofW HT_.out HW_.out (by kernel_rfl)) (fun _ _ _ h => h) (Or.inl ⟨by rfl, ?_⟩) hHeld ?_ ?_
    rotate_left
    · rintro w' ⟨s0, s1⟩
      go_simp
      with_reducible rfl
    rotate_left
    · simp only [Act.put, List.setIfInBounds_toArray, List.set_cons_zero, List.set_cons_succ, i64_w, i32_w]
      rfl
    refine pure_ (i := 10) (N := some 15) (v := ?_) (a' := ?_) #[true, true, true, true, true, true, true, true, true, true, true, false, false, false, false, false, false, false, false, false, false, false, false, false, false] rfl rfl (any_of HT_.out (by kernel_rfl)) (fun _ _ _ h => h) (Or.inl ⟨by rfl, ?_⟩) ?_ ?_
    rotate_left
    · intro w'
      go_simp
      with_reducible rfl
    rotate_left
    · simp only [Act.put, List.setIfInBounds_toArray, List.set_cons_zero, List.set_cons_succ, i64_w, i32_w]
      rfl
    refine pure_ (i := 11) (N := some 16) (v := ?_) (a' := ?_) #[true, true, true, true, true, true, true, true, true, true, true, true, false, false, false, false, false, false, false, false, false, false, false, false, false] rfl rfl (any_of HT_.out (by kernel_rfl)) (fun _ _ _ h => h) (Or.inl ⟨by rfl, ?_⟩) ?_ ?_
    rotate_left
    · intro w'
      go_simp
      with_reducible rfl
    rotate_left
    · simp only [Act.put, List.setIfInBounds_toArray, List.set_cons_zero, List.set_cons_succ, i64_w, i32_w]
      rfl
    refine pure_ (i := 12) (N := some 17) (v := ?_) (a' := ?_) #[true, true, true, true, true, true, true, true, true, true, true, true, true, false, false, false, false, false, false, false, false, false, false, false, false] rfl rfl (any_of HT_.out (by kernel_rfl)) (fun _ _ _ h => h) (Or.inl ⟨by rfl, ?_⟩) ?_ ?_
    rotate_left
    · intro w'
      go_simp
      with_reducible rfl
    rotate_left
    · simp only [Act.put, List.setIfInBounds_toArray, List.set_cons_zero, List.set_cons_succ, i64_w, i32_w]
      rfl
    refine pure_ (i := 13) (N := some 18) (v := undef) (a' := ?_) #[true, true, true, true, true, true, true, true, true, true, true, true, true, true, false, false, false, false, false, false, false, false, false, false, false] rfl rfl (any_of HT_.out (by kernel_rfl)) (fun _ _ _ h => h) (Or.inr ⟨by rfl, rfl⟩) ?_ ?_
    rotate_left
    · simp only [Act.put, List.setIfInBounds_toArray, List.set_cons_zero, List.set_cons_succ, i64_w, i32_w]
      rfl
    refine pure_ (i := 14) (N := some 19) (v := undef) (a' := ?_) #[true, true, true, true, true, true, true, true, true, true, true, true, true, true, true, false, false, false, false, false, false, false, false, false, false] rfl rfl (any_of HT_.out (by kernel_rfl)) (fun _ _ _ h => h) (Or.inr ⟨by rfl, rfl⟩) ?_ ?_
    rotate_left
    · simp only [Act.put, List.setIfInBounds_toArray, List.set_cons_zero, List.set_cons_succ, i64_w, i32_w]
      rfl
    refine pure_ (i := 15) (N := some 20) (v := undef) (a' := ?_) #[true, true, true, true, true, true, true, true, true, true, true, true, true, true, true, true, false, false, false, false, false, false, false, false, false] rfl rfl (any_of HT_.out (by kernel_rfl)) (fun _ _ _ h => h) (Or.inr ⟨by rfl, rfl⟩) ?_ ?_
    rotate_left
    · simp only [Act.put, List.setIfInBounds_toArray, List.set_cons_zero, List.set_cons_succ, i64_w, i32_w]
      rfl
    refine pure_ (i := 16) (N := some 21) (v := undef) (a' := ?_) #[true, true, true, true, true, true, true, true, true, true, true, true, true, true, true, true, true, false, false, false, false, false, false, false, false] rfl rfl (any_of HT_.out (by kernel_rfl)) (fun _ _ _ h => h) (Or.inr ⟨by rfl, rfl⟩) ?_ ?_
    rotate_left
    · simp only [Act.put, List.setIfInBounds_toArray, List.set_cons_zero, List.set_cons_succ, i64_w, i32_w]
      rfl
    refine pure_ (i := 17) (N := some 22) (v := undef) (a' := ?_) #[true, true, true, true, true, true, true, true, true, true, true, true, true, true, true, true, true, true, false, false, false, false, false, false, false] rfl rfl (any_of HT_.out (by kernel_rfl)) (fun _ _ _ h => h) (Or.inr ⟨by rfl, rfl⟩) ?_ ?_
    rotate_left
    · simp only [Act.put, List.setIfInBounds_toArray, List.set_cons_zero, List.set_cons_succ, i64_w, i32_w]
      rfl
    refine pure_ (i := 18) (N := some 23) (v := ?_) (a' := ?_) #[true, true, true, true, true, true, true, true, true, true, true, true, true, true, true, true, true, true, true, false, false, false, false, false, false] rfl rfl (any_of HT_.out (by kernel_rfl)) (fun _ _ _ h => h) (Or.inl ⟨by rfl, ?_⟩) ?_ ?_
    rotate_left
    · intro w'
      go_simp
      with_reducible rfl
    rotate_left
    · simp only [Act.put, List.setIfInBounds_toArray, List.set_cons_zero, List.set_cons_succ, i64_w, i32_w]
      rfl
    refine pure_ (i := 19) (N := some 24) (v := ?_) (a' := ?_) #[true, true, true, true, true, true, true, true, true, true, true, true, true, true, true, true, true, true, true, true, false, false, false, false, false] rfl rfl (any_of HT_.out (by kernel_rfl)) (fun _ _ _ h => h) (Or.inl ⟨by rfl, ?_⟩) ?_ ?_
    rotate_left
    · intro w'
      go_simp
      with_reducible rfl
    rotate_left
    · simp only [Act.put, List.setIfInBounds_toArray, List.set_cons_zero, List.set_cons_succ, i64_w, i32_w]
      rfl
    refine pure_ (i := 20) (N := some 25) (v := ?_) (a' := ?_) #[true, true, true, true, true, true, true, true, true, true, true, true, true, true, true, true, true, true, true, true, true, false, false, false, false] rfl rfl (any_of HT_.out (by kernel_rfl)) (fun _ _ _ h => h) (Or.inl ⟨by rfl, ?_⟩) ?_ ?_
    rotate_left
    · intro w'
      go_simp
      with_reducible rfl
    rotate_left
    · simp only [Act.put, List.setIfInBounds_toArray, List.set_cons_zero, List.set_cons_succ, i64_w, i32_w]
      rfl
    refine last_ (i := 21) (N := none) #[true, true, true, true, true, true, true, true, true, true, true, true, true, true, true, true, true, true, true, true, true, true, false, false, false] rfl rfl (one_of HT_.out (by kernel_rfl)) (by decide) (fun K hK => ?_)
    refine skip_ (w1 := ?_) (by rfl) rfl ?_ ?_
    rotate_left
    · go_simp
      rfl
    refine hK.out _ _ ?_
    clear hK K
    refine pure_ (i := 22) (N := some 26) (v := ?_) (a' := ?_) #[true, true, true, true, true, true, true, true, true, true, true, true, true, true, true, true, true, true, true, true, true, true, true, false, false] rfl rfl (any_of HT_.out (by kernel_rfl)) (fun _ _ _ h => h) (Or.inl ⟨by rfl, ?_⟩) ?_ ?_
    rotate_left
    · intro w'
      go_simp
      with_reducible rfl
    rotate_left
    · simp only [Act.put, List.setIfInBounds_toArray, List.set_cons_zero, List.set_cons_succ, i64_w, i32_w]
      rfl
    refine pure_ (i := 23) (N := some 27) (v := ?_) (a' := ?_) #[true, true, true, true, true, true, true, true, true, true, true, true, true, true, true, true, true, true, true, true, true, true, true, true, false] rfl rfl (any_of HT_.out (by kernel_rfl)) (fun _ _ _ h => h) (Or.inl ⟨by rfl, ?_⟩) ?_ ?_
    rotate_left
    · intro w'
      go_simp
      with_reducible rfl
    rotate_left
    · simp only [Act.put, List.setIfInBounds_toArray, List.set_cons_zero, List.set_cons_succ, i64_w, i32_w]
      rfl
    refine last_ (i := 24) (N := none) #[true, true, true, true, true, true, true, true, true, true, true, true, true, true, true, true, true, true, true, true, true, true, true, true, true] rfl rfl (one_of HT_.out (by kernel_rfl)) (by decide) (fun K hK => ?_)
    refine skip_ (w1 := ?_) (by rfl) rfl ?_ ?_
    rotate_left
    · go_simp
      rfl
    refine hK.out _ _ ?_
    clear hK K
    refine done_ (done_of HT_.out (by kernel_rfl)) ?_
    go_wp2_with fail
    go_ret
    exact ⟨rfl, HIR.out _ (bdrew (Below.refl _ _)) false, by simp, by first | exact ((bdrew (Below.refl _ _)).setCell hBB _).setCell hBB _ | exact bdrew (((Below.refl _ _).setCell hBB _).setCell hBB _)⟩
  · have g1 : decide ((0 : Int) < (n : Int)) = true := by simpa using h2
    have g2 : decide (0 < n) = true := by simpa using h2
    rw [h3]
    clear h3
    go_enter Tryd.func52, Tryd.ntmps52
    go_wp2_with fail
    refine start_ (n := 25) (S := fun w' => w'.cell? ⟨B, 0, none⟩ = some (.bool false) ∧ w'.cell? ⟨B, 1, none⟩ = some (.slice A n c)) (ds := [21, 24]) #[false, false, false, false, false, false, false, false, false, false, false, false, false, false, false, false, false, false, false, false, false, false, false, false, false] (by kernel_rfl) rfl rfl ⟨(by go_simp), (by go_simp)⟩ (fun hHeld => ?_)
    refine with_tabW R52.tab1 R52.bits1 (fun HT_ HW_ => ?_)
    refine pure_ (i := 0) (N := some 5) (v := ?_) (a' := ?_) #[true, false, false, false, false, false, false, false, false, false, false, false, false, false, false, false, false, false, false, false, false, false, false, false, false] rfl rfl (any_of HT_.out (by kernel_rfl)) (fun _ _ _ h => h) (Or.inl ⟨by rfl, ?_⟩) ?_ ?_
    rotate_left
    · intro w'
      go_simp
      with_reducible rfl
    rotate_left
    · simp only [Act.put, List.setIfInBounds_toArray, List.set_cons_zero, List.set_cons_succ, i64_w, i32_w]
      rfl
    refine pure_ (i := 1) (N := some 6) (v := ?_) (a' := ?_) #[true, true, false, false, false, false, false, false, false, false, false, false, false, false, false, false, false, false, false, false, false, false, false, false, false] rfl rfl (any_of HT_.out (by kernel_rfl)) (fun _ _ _ h => h) (Or.inl ⟨by rfl, ?_⟩) ?_ ?_
    rotate_left
    · intro w'
      go_simp
      with_reducible rfl
    rotate_left
    · simp only [Act.put, List.setIfInBounds_toArray, List.set_cons_zero, List.set_cons_succ, i64_w, i32_w]
      rfl
    refine pure_ (i := 2) (N := some 7) (v := ?_) (a' := ?_) #[true, true, true, false, false, false, false, false, false, false, false, false, false, false, false, false, false, false, false, false, false, false, false, false, false] rfl rfl (any_of HT_.out (by kernel_rfl)) (fun _ _ _ h => h) (Or.inl ⟨by rfl, ?_⟩) ?_ ?_
    rotate_left
    · intro w'
      go_simp
      with_reducible rfl
    rotate_left
    · simp only [Act.put, List.setIfInBounds_toArray, List.set_cons_zero, List.set_cons_succ, i64_w, i32_w]
      rfl
    refine pure_ (i := 3) (N := some 8) (v := ?_) (a' := ?_) #[true, true, true, true, false, false, false, false, false, false, false, false, false, false, false, false, false, false, false, false, false, false, false, false, false] rfl rfl (any_of HT_.out (by kernel_rfl)) (fun _ _ _ h => h) (Or.inl ⟨by rfl, ?_⟩) ?_ ?_
    rotate_left
    · intro w'
      go_simp
      with_reducible rfl
    rotate_left
    · simp only [Act.put, List.setIfInBounds_toArray, List.set_cons_zero, List.set_cons_succ, i64_w, i32_w]
      rfl
    refine pure_ (i := 4) (N := some 9) (v := ?_) (a' := ?_) #[true, true, true, true, true, false, false, false, false, false, false, false, false, false, false, false, false, false, false, false, false, false, false, false, false] rfl rfl (any_of HT_.out (by kernel_rfl)) (fun _ _ _ h => h) (Or.inl ⟨by rfl, ?_⟩) ?_ ?_
    rotate_left
    · intro w'
      go_simp
      with_reducible rfl
    rotate_left
    · simp only [Act.put, List.setIfInBounds_toArray, List.set_cons_zero, List.set_cons_succ, i64_w, i32_w]
      rfl
    refine pure_ (i := 6) (N := some 11) (v := ?_) (a' := ?_) #[true, true, true, true, true, false, true, false, false, false, false, false, false, false, false, false, false, false, false, false, false, false, false, false, false] rfl rfl (any_of HT_.out (by kernel_rfl)) (fun _ _ _ h => h) (Or.inl ⟨by rfl, ?_⟩) ?_ ?_
    rotate_left
    · intro w'
      go_simp
      with_reducible rfl
    rotate_left
    · simp only [Act.put, List.setIfInBounds_toArray, List.set_cons_zero, List.set_cons_succ, i64_w, i32_w]
      rfl
    refine pure_ (i := 7) (N := some 12) (v := ?_) (a' := ?_) #[true, true, true, true, true, false, true, true, false, false, false, false, false, false, false, false, false, false, false, false, false, false, false, false, false] rfl rfl (any_of HT_.out (by kernel_rfl)) (fun _ _ _ h => h) (Or.inl ⟨by rfl, ?_⟩) ?_ ?_
    rotate_left
    · intro w'
      go_simp
      with_reducible rfl
    rotate_left
    · simp only [Act.put, List.setIfInBounds_toArray, List.set_cons_zero, List.set_cons_succ, i64_w, i32_w]
      rfl
    refine pure_ (i := 8) (N := some 13) (v := ?_) (a' := ?_) #[true, true, true, true, true, false, true, true, true, false, false, false, false, false, false, false, false, false, false, false, false, false, false, false, false] rfl rfl (any_of HT_.out (by kernel_rfl)) (fun _ _ _ h => h) (Or.inl ⟨by rfl, ?_⟩) ?_ ?_
    rotate_left
    · intro w'
      go_simp
      with_reducible rfl
    rotate_left
    · simp only [Act.put, List.setIfInBounds_toArray, List.set_cons_zero, List.set_cons_succ, i64_w, i32_w]
      rfl
    refine take_ (i := 5) (N := some 10) (v := ?_) (a' := ?_) #[true, true, true, true, true, true, true, true, true, false, false, false, false, false, false, false, false, false, false, false, false, false, false, false, false] rfl rfl (take_ofW HT_.out HW_.out (by kernel_rfl)) (fun _ _ _ h => h) (Or.inl ⟨by rfl, ?_⟩) hHeld ?_ ?_
    rotate_left
    · rintro w' ⟨s0, s1⟩
      go_simp
      with_reducible rfl
    rotate_left
    · simp only [Act.put, List.setIfInBounds_toArray, List.set_cons_zero, List.set_cons_succ, i64_w, i32_w]
      rfl
    refine take_ (i := 9) (N := some 14) (v := ?_) (a' := ?_) #[true, true, true, true, true, true, true, true, true, true, false, false, false, false, false, false, false, false, false, false, false, false, false, false, false] rfl rfl (take_ofW HT_.out HW_.out (by kernel_rfl)) (fun _ _ _ h => h) (Or.inl ⟨by rfl, ?_⟩) hHeld ?_ ?_
    rotate_left
    · rintro w' ⟨s0, s1⟩
      go_simp
      with_reducible rfl
    rotate_left
    · simp only [Act.put, List.setIfInBounds_toArray, List.set_cons_zero, List.set_cons_succ, i64_w, i32_w]
      rfl
    refine pure_ (i := 10) (N := some 15) (v := ?_) (a' := ?_) #[true, true, true, true, true, true, true, true, true, true, true, false, false, false, false, false, false, false, false, false, false, false, false, false, false] rfl rfl (any_of HT_.out (by kernel_rfl)) (fun _ _ _ h => h) (Or.inl ⟨by rfl, ?_⟩) ?_ ?_
    rotate_left
    · intro w'
      go_simp
      with_reducible rfl
    rotate_left
    · simp only [Act.put, List.setIfInBounds_toArray, List.set_cons_zero, List.set_cons_succ, i64_w, i32_w]
      rfl
    refine pure_ (i := 11) (N := some 16) (v := ?_) (a' := ?_) #[true, true, true, true, true, true, true, true, true, true, true, true, false, false, false, false, false, false, false, false, false, false, false, false, false] rfl rfl (any_of HT_.out (by kernel_rfl)) (fun _ _ _ h => h) (Or.inl ⟨by rfl, ?_⟩) ?_ ?_
    rotate_left
    · intro w'
      go_simp
      with_reducible rfl
    rotate_left
    · simp only [Act.put, List.setIfInBounds_toArray, List.set_cons_zero, List.set_cons_succ, i64_w, i32_w]
      rfl
    refine pure_ (i := 12) (N := some 17) (v := ?_) (a' := ?_) #[true, true, true, true, true, true, true, true, true, true, true, true, true, false, false, false, false, false, false, false, false, false, false, false, false] rfl rfl (any_of HT_.out (by kernel_rfl)) (fun _ _ _ h => h) (Or.inl ⟨by rfl, ?_⟩) ?_ ?_
    rotate_left
    · intro w'
      go_simp
      with_reducible rfl
    rotate_left
    · simp only [Act.put, List.setIfInBounds_toArray, List.set_cons_zero, List.set_cons_succ, i64_w, i32_w]
      rfl
    refine pure_ (i := 13) (N := some 18) (v := ?_) (a' := ?_) #[true, true, true, true, true, true, true, true, true, true, true, true, true, true, false, false, false, false, false, false, false, false, false, false, false] rfl rfl (any_of HT_.out (by kernel_rfl)) (fun _ _ _ h => h) (Or.inl ⟨by rfl, ?_⟩) ?_ ?_
    rotate_left
    · intro w'
      go_simp
      with_reducible rfl
    rotate_left
    · simp only [Act.put, List.setIfInBounds_toArray, List.set_cons_zero, List.set_cons_succ, i64_w, i32_w]
      rfl
    refine pure_ (i := 14) (N := some 19) (v := ?_) (a' := ?_) #[true, true, true, true, true, true, true, true, true, true, true, true, true, true, true, false, false, false, false, false, false, false, false, false, false] rfl rfl (any_of HT_.out (by kernel_rfl)) (fun _ _ _ h => h) (Or.inl ⟨by rfl, ?_⟩) ?_ ?_
    rotate_left
    · intro w'
      go_simp
      with_reducible rfl
    rotate_left
    · simp only [Act.put, List.setIfInBounds_toArray, List.set_cons_zero, List.set_cons_succ, i64_w, i32_w]
      rfl
    refine pure_ (i := 15) (N := some 20) (v := ?_) (a' := ?_) #[true, true, true, true, true, true, true, true, true, true, true, true, true, true, true, true, false, false, false, false, false, false, false, false, false] rfl rfl (any_of HT_.out (by kernel_rfl)) (fun _ _ _ h => h) (Or.inl ⟨by rfl, ?_⟩) ?_ ?_
    rotate_left
    · intro w'
      go_simp
      with_reducible rfl
    rotate_left
    · simp only [Act.put, List.setIfInBounds_toArray, List.set_cons_zero, List.set_cons_succ, i64_w, i32_w]
      rfl
    refine take_ (i := 16) (N := some 21) (v := ?_) (a' := ?_) #[true, true, true, true, true, true, true, true, true, true, true, true, true, true, true, true, true, false, false, false, false, false, false, false, false] rfl rfl (take_ofW HT_.out HW_.out (by kernel_rfl)) (fun _ _ _ h => h) (Or.inl ⟨by rfl, ?_⟩) hHeld ?_ ?_
    rotate_left
    · rintro w' ⟨s0, s1⟩
      go_simp
      with_reducible rfl
    rotate_left
    · simp only [Act.put, List.setIfInBounds_toArray, List.set_cons_zero, List.set_cons_succ, i64_w, i32_w]
      rfl
    refine pure_ (i := 17) (N := some 22) (v := ?_) (a' := ?_) #[true, true, true, true, true, true, true, true, true, true, true, true, true, true, true, true, true, true, false, false, false, false, false, false, false] rfl rfl (any_of HT_.out (by kernel_rfl)) (fun _ _ _ h => h) (Or.inl ⟨by rfl, ?_⟩) ?_ ?_
    rotate_left
    · intro w'
      go_simp
      with_reducible rfl
    rotate_left
    · simp only [Act.put, List.setIfInBounds_toArray, List.set_cons_zero, List.set_cons_succ, i64_w, i32_w]
      rfl
    refine pure_ (i := 18) (N := some 23) (v := ?_) (a' := ?_) #[true, true, true, true, true, true, true, true, true, true, true, true, true, true, true, true, true, true, true, false, false, false, false, false, false] rfl rfl (any_of HT_.out (by kernel_rfl)) (fun _ _ _ h => h) (Or.inl ⟨by rfl, ?_⟩) ?_ ?_
    rotate_left
    · intro w'
      go_simp
      with_reducible rfl
    rotate_left
    · simp only [Act.put, List.setIfInBounds_toArray, List.set_cons_zero, List.set_cons_succ, i64_w, i32_w]
      rfl
    refine pure_ (i := 19) (N := some 24) (v := ?_) (a' := ?_) #[true, true, true, true, true, true, true, true, true, true, true, true, true, true, true, true, true, true, true, true, false, false, false, false, false] rfl rfl (any_of HT_.out (by kernel_rfl)) (fun _ _ _ h => h) (Or.inl ⟨by rfl, ?_⟩) ?_ ?_
    rotate_left
    · intro w'
      go_simp
      with_reducible rfl
    rotate_left
    · simp only [Act.put, List.setIfInBounds_toArray, List.set_cons_zero, List.set_cons_succ, i64_w, i32_w]
      rfl
    refine pure_ (i := 20) (N := some 25) (v := ?_) (a' := ?_) #[true, true, true, true, true, true, true, true, true, true, true, true, true, true, true, true, true, true, true, true, true, false, false, false, false] rfl rfl (any_of HT_.out (by kernel_rfl)) (fun _ _ _ h => h) (Or.inl ⟨by rfl, ?_⟩) ?_ ?_
    rotate_left
    · intro w'
      go_simp
      with_reducible rfl
    rotate_left
    · simp only [Act.put, List.setIfInBounds_toArray, List.set_cons_zero, List.set_cons_succ, i64_w, i32_w]
      rfl
    refine last_ (i := 21) (N := none) #[true, true, true, true, true, true, true, true, true, true, true, true, true, true, true, true, true, true, true, true, true, true, false, false, false] rfl rfl (one_of HT_.out (by kernel_rfl)) (by decide) (fun K hK => ?_)
    refine skip_ (w1 := ?_) (by rfl) rfl ?_ ?_
    rotate_left
    · go_simp
      rfl
    refine hK.out _ _ ?_
    clear hK K
    refine pure_ (i := 22) (N := some 26) (v := ?_) (a' := ?_) #[true, true, true, true, true, true, true, true, true, true, true, true, true, true, true, true, true, true, true, true, true, true, true, false, false] rfl rfl (any_of HT_.out (by kernel_rfl)) (fun _ _ _ h => h) (Or.inl ⟨by rfl, ?_⟩) ?_ ?_
    rotate_left
    · intro w'
      go_simp
      with_reducible rfl
    rotate_left
    · simp only [Act.put, List.setIfInBounds_toArray, List.set_cons_zero, List.set_cons_succ, i64_w, i32_w]
      rfl
    refine pure_ (i := 23) (N := some 27) (v := ?_) (a' := ?_) #[true, true, true, true, true, true, true, true, true, true, true, true, true, true, true, true, true, true, true, true, true, true, true, true, false] rfl rfl (any_of HT_.out (by kernel_rfl)) (fun _ _ _ h => h) (Or.inl ⟨by rfl, ?_⟩) ?_ ?_
    rotate_left
    · intro w'
      go_simp
      with_reducible rfl
    rotate_left
    · simp only [Act.put, List.setIfInBounds_toArray, List.set_cons_zero, List.set_cons_succ, i64_w, i32_w]
      rfl
    refine last_ (i := 24) (N := none) #[true, true, true, true, true, true, true, true, true, true, true, true, true, true, true, true, true, true, true, true, true, true, true, true, true] rfl rfl (one_of HT_.out (by kernel_rfl)) (by decide) (fun K hK => ?_)
    refine skip_ (w1 := ?_) (by rfl) rfl ?_ ?_
    rotate_left
    · go_simp
      rfl
    refine hK.out _ _ ?_
    clear hK K
    refine done_ (done_of HT_.out (by kernel_rfl)) ?_
    go_wp2_with fail
    go_ret
    exact ⟨rfl, HIR.out _ (bdrew (Below.refl _ _)) true, by simp, by first | exact ((bdrew (Below.refl _ _)).setCell hBB _).setCell hBB _ | exact bdrew (((Below.refl _ _).setCell hBB _).setCell hBB _)⟩
theorem natText_any (neg : Bool) (A : Option Addr) (c : Nat) (N : Nat) (w : World) (hs : GS w A c (u32v (nat32 N))) (hN : N < 340282366920938463463374607431768211456) :
    Calls Tryd.prog 78 #[.slice A (nat32 N).length c, .bool neg, .int .i64 10] w fun e w' => ∃ A' c', e = .returned (.slice A' (intT neg N).length c') ∧ SB w' A' c' (intT neg N) ∧ Below w.heap.size w w' := by
  by_cases h : N = 0
  · subst h
    have e : (nat32 0).length = 0 := by rw [nat32_zero]; rfl
    rw [e, show intT neg 0 = [48] from by simp [intT]]
    exact natText0 neg A c w
  · exact natText neg A c N w hs h hN
theorem text (B : Nat) (ng : Bool) (N : Nat) (w : World) (h : IR w B ng N) (hN : N < 340282366920938463463374607431768211456) :
    Calls Tryd.prog 55 #[.pointer (some ⟨B, 0, none⟩), .int .i64 10] w fun e w' => e = .returned (.string ⟨(intT ng N).toArray⟩) ∧ Below w.heap.size w w' := by
  have hl := h.lt
  obtain ⟨A, c, h0, h1, hs, hA⟩ := h.ex
  have HT := Lib.hid (fun wx (hb : Below w.heap.size w wx) => natText_any ng A c N wx (hs.keep hb) hN)
  have HR := Lib.hid (fun (wx : World) (A' : Option Addr) (c' : Nat) (hsb : SB wx A' c' (intT ng N)) => run_string (P := Tryd.prog) (src := 38) (dst := 9) (e := 5) Tryd.underlying38 Tryd.underlying5 Tryd.underlying9 wx A' c' (intT ng N) hsb)
  obtain ⟨n, hn⟩ : ∃ n, n = (nat32 N).length := ⟨_, rfl⟩
  rw [← hn] at h1 HT
  obtain ⟨m, hm⟩ : ∃ m, m = (intT ng N).length := ⟨_, rfl⟩
  rw [← hm] at HT HR
  obtain ⟨X, hX⟩ : ∃ X, X = (⟨(intT ng N).toArray⟩ : ByteArray) := ⟨_, rfl⟩
  rw [← hX] at HR ⊢
  clear hs hA h hn hm hX hN
  go_enter Tryd.func55, Tryd.ntmps55
  go_wp2_with fail
  refine start_ (n := 12) (S := fun w' => w'.cell? ⟨B, 0, none⟩ = some (.bool ng) ∧ w'.cell? ⟨B, 1, none⟩ = some (.slice A n c)) (ds := []) #[false, false, false, false, false, false, false, false, false, false, false, false] (by kernel_rfl) rfl rfl ⟨(by go_simp), (by go_simp)⟩ (fun hHeld => ?_)
  refine with_tabW R55.tab3 R55.bits3 (fun HT_ HW_ => ?_)
  refine pure_ (i := 0) (N := some 7) (v := ?_) (a' := ?_) #[true, false, false, false, false, false, false, false, false, false, false, false] rfl rfl (any_of HT_.out (by kernel_rfl)) (fun _ _ _ h => h) (Or.inl ⟨by rfl, ?_⟩) ?_ ?_
  rotate_left
  · intro w'
    go_simp
    with_reducible rfl
  rotate_left
  · simp only [Act.put, List.setIfInBounds_toArray, List.set_cons_zero, List.set_cons_succ, i64_w, i32_w]
    rfl
  refine pure_ (i := 1) (N := some 8) (v := ?_) (a' := ?_) #[true, true, false, false, false, false, false, false, false, false, false, false] rfl rfl (any_of HT_.out (by kernel_rfl)) (fun _ _ _ h => h) (Or.inl ⟨by rfl, ?_⟩) ?_ ?_
  rotate_left
  · intro w'
    go_simp
    with_reducible rfl
  rotate_left
  · simp only [Act.put, List.setIfInBounds_toArray, List.set_cons_zero, List.set_cons_succ, i64_w, i32_w]
    rfl
  refine pure_ (i := 2) (N := some 9) (v := ?_) (a' := ?_) #[true, true, true, false, false, false, false, false, false, false, false, false] rfl rfl (any_of HT_.out (by kernel_rfl)) (fun _ _ _ h => h) (Or.inl ⟨by rfl, ?_⟩) ?_ ?_
  rotate_left
  · intro w'
    go_simp
    with_reducible rfl
  rotate_left
  · simp only [Act.put, List.setIfInBounds_toArray, List.set_cons_zero, List.set_cons_succ, i64_w, i32_w]
    rfl
  refine pure_ (i := 4) (N := some 11) (v := ?_) (a' := ?_) #[true, true, true, false, true, false, false, false, false, false, false, false] rfl rfl (any_of HT_.out (by kernel_rfl)) (fun _ _ _ h => h) (Or.inl ⟨by rfl, ?_⟩) ?_ ?_
  rotate_left
  · intro w'
    go_simp
    with_reducible rfl
  rotate_left
  · simp only [Act.put, List.setIfInBounds_toArray, List.set_cons_zero, List.set_cons_succ, i64_w, i32_w]
    rfl
  refine pure_ (i := 5) (N := some 12) (v := ?_) (a' := ?_) #[true, true, true, false, true, true, false, false, false, false, false, false] rfl rfl (any_of HT_.out (by kernel_rfl)) (fun _ _ _ h => h) (Or.inl ⟨by rfl, ?_⟩) ?_ ?_
  rotate_left
  · intro w'
    go_simp
    with_reducible rfl
  rotate_left
  · simp only [Act.put, List.setIfInBounds_toArray, List.set_cons_zero, List.set_cons_succ, i64_w, i32_w]
    rfl
  refine pure_ (i := 6) (N := some 13) (v := ?_) (a' := ?_) #[true, true, true, false, true, true, true, false, false, false, false, false] rfl rfl (any_of HT_.out (by kernel_rfl)) (fun _ _ _ h => h) (Or.inl ⟨by rfl, ?_⟩) ?_ ?_
  rotate_left
  · intro w'
    go_simp
    with_reducible rfl
  rotate_left
  · simp only [Act.put, List.setIfInBounds_toArray, List.set_cons_zero, List.set_cons_succ, i64_w, i32_w]
    rfl
  refine pure_ (i := 8) (N := some 15) (v := ?_) (a' := ?_) #[true, true, true, false, true, true, true, false, true, false, false, false] rfl rfl (any_of HT_.out (by kernel_rfl)) (fun _ _ _ h => h) (Or.inl ⟨by rfl, ?_⟩) ?_ ?_
  rotate_left
  · intro w'
    go_simp
    with_reducible rfl
  rotate_left
  · simp only [Act.put, List.setIfInBounds_toArray, List.set_cons_zero, List.set_cons_succ, i64_w, i32_w]
    rfl
  refine take_ (i := 3) (N := some 10) (v := ?_) (a' := ?_) #[true, true, true, true, true, true, true, false, true, false, false, false] rfl rfl (take_ofW HT_.out HW_.out (by kernel_rfl)) (fun _ _ _ h => h) (Or.inl ⟨by rfl, ?_⟩) hHeld ?_ ?_
  rotate_left
  · rintro w' ⟨s0, s1⟩
    go_simp
    with_reducible rfl
  rotate_left
  · simp only [Act.put, List.setIfInBounds_toArray, List.set_cons_zero, List.set_cons_succ, i64_w, i32_w]
    rfl
  refine take_ (i := 7) (N := some 14) (v := ?_) (a' := ?_) #[true, true, true, true, true, true, true, true, true, false, false, false] rfl rfl (take_ofW HT_.out HW_.out (by kernel_rfl)) (fun _ _ _ h => h) (Or.inl ⟨by rfl, ?_⟩) hHeld ?_ ?_
  rotate_left
  · rintro w' ⟨s0, s1⟩
    go_simp
    with_reducible rfl
  rotate_left
  · simp only [Act.put, List.setIfInBounds_toArray, List.set_cons_zero, List.set_cons_succ, i64_w, i32_w]
    rfl
  refine one_ (i := 9) (N := some 16) #[true, true, true, true, true, true, true, true, true, true, false, false] rfl rfl (one_of HT_.out (by kernel_rfl)) (by decide) (fun K hK => ?_)
  refine goes_ Tryd.func78 (by kernel_rfl) rfl #[.slice A n c, .bool ng, .int .i64 10] (by rfl) rfl rfl (by simp only [List.map_toArray, List.map_cons, List.map_nil]; rfl) ?_
  with_reducible refine (HT.out _ (bdrew (Below.refl _ _))).mono ?_
  rintro e w3 ⟨A3, c3, rfl, hs3, hb3⟩
  refine ⟨_, rfl, ?_⟩
  have hrs := HR.out w3 A3 c3 hs3
  have HB3 := Lib.hid (bdrew_left hb3)
  clear hs3
  refine hK.out _ _ ⟨((hb3.cell (World.block_lt_of_cell? _ _ hHeld.1)).trans hHeld.1), ((hb3.cell (World.block_lt_of_cell? _ _ hHeld.2)).trans hHeld.2)⟩ (fun hHeld => ?_)
  clear hK K
  refine norm_ (a' := ?_) ?_ ?_
  rotate_left
  · show Act.put _ (some 16) _ = _
    simp only [Act.put, List.setIfInBounds_toArray, List.set_cons_zero, List.set_cons_succ, i64_w, i32_w]
    rfl
  refine one_ (i := 10) (N := some 17) #[true, true, true, true, true, true, true, true, true, true, true, false] rfl rfl (one_of HT_.out (by kernel_rfl)) (by decide) (fun K hK => ?_)
  refine value_ (w1 := ?_) (v := ?_) (by rfl) rfl ?_ ?_
  rotate_left 2
  · go_simp
    constructor
    · rfl
    · rfl
  refine hK.out _ _ ⟨hHeld.1, hHeld.2⟩ (fun hHeld => ?_)
  clear hK K
  refine norm_ (a' := ?_) ?_ ?_
  rotate_left
  · show Act.put _ (some 17) _ = _
    simp only [Act.put, List.setIfInBounds_toArray, List.set_cons_zero, List.set_cons_succ, i64_w, i32_w]
    rfl
  refine pure_ (i := 11) (N := some 4) (v := ?_) (a' := ?_) #[true, true, true, true, true, true, true, true, true, true, true, true] rfl rfl (any_of HT_.out (by kernel_rfl)) (fun _ _ _ h => h) (Or.inl ⟨by rfl, ?_⟩) ?_ ?_
  rotate_left
  · intro w'
    go_simp
    with_reducible rfl
  rotate_left
  · simp only [Act.put, List.setIfInBounds_toArray, List.set_cons_zero, List.set_cons_succ, i64_w, i32_w]
    rfl
  refine done_ (done_of HT_.out (by kernel_rfl)) ?_
  go_wp2_with fail
  go_ret
  exact ⟨rfl, HB3.out⟩
theorem string_ (B : Nat) (ng : Bool) (N : Nat) (w : World) (h : IR w B ng N) (hN : N < 340282366920938463463374607431768211456) :
    Calls Tryd.prog 31 #[.pointer (some ⟨B, 0, none⟩)] w fun e w' => e = .returned (.string ⟨(intT ng N).toArray⟩) ∧ Below w.heap.size w w' := by
  have HT := Lib.hid (text B ng N w h hN)
  clear h hN
  go_enter Tryd.func31, Tryd.ntmps31
  go_wp2_with fail
  refine HT.out.mono ?_
  rintro e w1 ⟨rfl, hb⟩
  have HB := Lib.hid hb
  clear hb
  go_wp2_with fail
  go_ret
  exact ⟨rfl, HB.out⟩
end Go.Proofs.YtjjfdamlicoeeaaDoor.X
