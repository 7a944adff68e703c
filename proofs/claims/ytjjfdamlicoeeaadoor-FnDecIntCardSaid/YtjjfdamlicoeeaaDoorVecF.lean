/- Contracts of vectors of bits. -/
import Derived.Test.YtjjfdamlicoeeaaDoorVecC
set_option linter.unusedVariables false
set_option linter.unusedSimpArgs false
set_option maxRecDepth 100000
namespace Go.Proofs.YtjjfdamlicoeeaaDoor.X
open Go.RowKit Go.Deep Go.Proofs.YtjjfdamlicoeeaaDoorW.PrintLast
def R69.T3 : Bool × List (List Nat × List Nat) := (true, [([], []), ([0], [0]), ([], []), ([2], [2]), ([3], [3]), ([1, 4], [1, 4]), ([5], [5]), ([5], [5]), ([6, 5, 0, 1, 2, 3, 4, 5, 6, 7], [6]), ([7, 8, 0, 1, 2, 3, 4, 5, 6, 7, 8], [7])])
def R69.B3 : List Nat := [0, 1, 0, 4, 12, 31, 63, 63, 255, 511]
theorem R69.tab3 : rtab .any (opsOf Tryd.f69 3) = R69.T3 := by kernel_rfl
theorem R69.bits3 : waitsOk R69.T3.2 R69.B3 = true := by kernel_rfl
/-- The errors that the law finds laid. -/
structure Errs (w : World) : Prop where
  short : ∃ T x, w.cell? ⟨6, 0, none⟩ = some (.iface T x)
  pad : ∃ T x, w.cell? ⟨8, 0, none⟩ = some (.iface T x)
  big : ∃ T x, w.cell? ⟨13, 0, none⟩ = some (.iface T x)
theorem Errs.keep {w w1 : World} (h : Errs w) (hb : Below w.heap.size w w1) : Errs w1 := by
  obtain ⟨T1, x1, h1⟩ := h.short
  obtain ⟨T2, x2, h2⟩ := h.pad
  obtain ⟨T3, x3, h3⟩ := h.big
  exact ⟨⟨T1, x1, (hb.cell (World.block_lt_of_cell? w _ h1)).trans h1⟩, ⟨T2, x2, (hb.cell (World.block_lt_of_cell? w _ h2)).trans h2⟩, ⟨T3, x3, (hb.cell (World.block_lt_of_cell? w _ h3)).trans h3⟩⟩
/-- A vector of bits, and none. -/
def vecBit (A : Option Addr) (n c : Nat) (p : Int) : Value := .agg #[.int .u8 16, .slice none 0 0, .slice none 0 0, .slice A n c, .int .u8 p]
def vec0 : Value := .agg #[.int .u8 0, .slice none 0 0, .slice none 0 0, .slice none 0 0, .int .u8 0]
theorem SB.gs {w : World} {A : Option Addr} {c : Nat} {l : List UInt8} (h : SB w A c l) : GS w A c (byv l) := ⟨by simpa [byv] using h.le, h.cap, fun hp => by
  obtain ⟨b, off, e, hc⟩ := h.cells (by simpa [byv] using hp)
  exact ⟨b, off, e, fun j hj => by rw [hc j (by simpa [byv] using hj)]; simp [byv]⟩⟩
theorem GS.sb {w : World} {A : Option Addr} {c : Nat} {l : List UInt8} (h : GS w A c (byv l)) : SB w A c l := ⟨by simpa [byv] using h.le, h.cap, fun hp => by
  obtain ⟨b, off, e, hc⟩ := h.cells (by simpa [byv] using hp)
  exact ⟨b, off, e, fun j hj => by rw [hc j (by simpa [byv] using hj)]; simp [byv]⟩⟩
theorem sizeU8 : (Tryd.prog.info? 5).map (·.size) = some 1 := by kernel_rfl
theorem newBits (A : Option Addr) (c : Nat) (l : List UInt8) (p : Int) (w : World) (hs : SB w A c l) (hp0 : 0 ≤ p) (hp : p ≤ 7) (hp2 : p = 0 ∨ 0 < l.length) (hl : l.length ≤ 140737488351232) :
    Calls Tryd.prog 101 #[.slice A l.length c, .int .u8 p] w fun e w' => ∃ A', e = .returned (.tuple #[vecBit A' l.length l.length p, .nilIface]) ∧ SB w' A' l.length l ∧ (∀ a, A' = some a → w.heap.size ≤ a.block) ∧ Below w.heap.size w w' := by
  have hmk := run_make_row' (P := Tryd.prog) 38 5 (.int .u8 0) 1 Tryd.underlying38 infoU8 rfl .i64 .i64 l.length (by omega) (by omega)
  have hgs := hs.gs
  have hbl : (byv l).length = l.length := by simp [byv]
  have h1c := byv_one l
  obtain ⟨V, hV⟩ : ∃ V, V = byv l := ⟨_, rfl⟩
  rw [← hV] at hgs hbl h1c
  have HG := Lib.hid hgs
  have HVV := Lib.hid hV
  obtain ⟨q, hq⟩ : ∃ q, q = l.length := ⟨_, rfl⟩
  rw [← hq] at hmk hbl hp2 ⊢
  have hqq : q ≤ 140737488351232 := by omega
  have HQ := Lib.hid hq
  have HL := Lib.hid hbl
  have d0 : decide ((7 : Int) < p) = false := by simp; omega
  have d1 : (decide ((0 : Int) < p) = false) ∨ (decide ((0 : Int) < p) = true ∧ ((q : Int) == 0) = false) := by
    rcases hp2 with rfl | h
    · exact .inl (by simp)
    · by_cases h0 : (0 : Int) < p
      · exact .inr ⟨by simpa using h0, by rw [beq_eq_false_iff_ne]; omega⟩
      · exact .inl (by simpa using h0)
  clear hq hl hs hbl hp2 hgs hV
  rcases d1 with d1 | ⟨d1, d2⟩
  all_goals
    go_enter Tryd.func101, Tryd.ntmps101
    go_wp2_with (first | (refine wpList_copy_splice rfl (.tmp 26) (.tmp 27) 38 38 rfl 5 Tryd.underlying38 sizeU8 (some ⟨w.heap.size + 1 + 1, 0, none⟩) A q q q c rfl rfl (w.heap.size + 1 + 1) 0 (madeCells #[.int .u8 0] q).toList 5 ?h1 V ?h2 ?h3 ?h4 h1c (w.heap.size + 1 + 1) _ (Below.refl _ _) (Nat.le_refl _) ?_) | fail)
    case h1 => simpa using heap_alloc_new ((w.alloc _).alloc _) (.cells (madeCells #[.int .u8 0] q) 5)
    case h2 => rw [HL.out]; simp
    case h3 => exact fun hp => gs_src (((HG.out.alloc _).alloc _).alloc _) hp
    case h4 => have := HL.out; simp [size_madeCells]; omega
    intro w4 hg4 hb4
    have hz4 := hb4.size
    simp only [World.size_alloc] at hz4
    have hc4 : ∀ b o, b < w.heap.size + 1 + 1 → w4.cell? ⟨b, o, none⟩ = _ := fun b o h => hb4.cell (p := ⟨b, o, none⟩) h
    have hf4 : ∀ b o, b < w.heap.size + 1 + 1 → w4.frozen? ⟨b, o, none⟩ = _ := fun b o h => hb4.frozen (p := ⟨b, o, none⟩) h
    have hend := (balloc (balloc (balloc (Below.refl _ w) (Nat.le_refl _) _) (by simp) _) (by first | (simp; done) | (simp; omega)) _).trans (hb4.mono (by omega))
    have hown : GS w4 (some ⟨w.heap.size + 1 + 1, 0, none⟩) q V := by
      have hq := HL.out
      have hcur : splice (madeCells #[Value.int .u8 0] q).toList 0 V = V := by
        have h0 : (madeCells #[Value.int .u8 0] q).toList.drop V.length = [] := List.drop_eq_nil_of_le (by simp [size_madeCells]; omega)
        simp [splice, h0]
      have hg := hg4.out
      rw [hcur] at hg
      have h := gs_row hg (by omega)
      rw [hq] at h
      exact h
    clear hg4
    have hk0 := hc4 w.heap.size 0 (by omega)
    have hk1 := hc4 w.heap.size 1 (by omega)
    have hk2 := hc4 w.heap.size 2 (by omega)
    have hk3 := hc4 w.heap.size 3 (by omega)
    have hk4 := hc4 w.heap.size 4 (by omega)
    have hv4 := hc4 (w.heap.size + 1) 4 (by omega)
    simp [go_sem] at hk0 hk1 hk2 hk3 hk4 hv4
    have hlt : w.heap.size < w4.heap.size := by omega
    have hlt2 : w.heap.size + 1 < w4.heap.size := by omega
    have hne : ∀ a, some (⟨w.heap.size + 1 + 1, 0, none⟩ : Addr) = some a → a.block ≠ w.heap.size := fun a h => by injection h with h; subst h; show w.heap.size + 1 + 1 ≠ w.heap.size; omega
    have hne1 : ∀ a, some (⟨w.heap.size + 1 + 1, 0, none⟩ : Addr) = some a → a.block ≠ w.heap.size + 1 := fun a h => by injection h with h; subst h; show w.heap.size + 1 + 1 ≠ w.heap.size + 1; omega
    have hbb : w.heap.size ≤ w.heap.size := Nat.le_refl _
    have HOWN := Lib.hid hown
    have HEND := Lib.hid hend
    clear hown hend hb4
    go_wp2_with fail
    exact bodyPost_ret (v := .tuple #[vecBit (some ⟨w.heap.size + 1 + 1, 0, none⟩) q q p, .nilIface]) (by simp [results, Tryd.results101, go_sem, vecBit, hk0, hk1, hk2, hk3, hk4, hlt]) rfl ⟨_, rfl, GS.sb (by rw [← HVV.out]; exact (((((HOWN.out.far hne1 _).far hne _).far hne _).far hne _).far hne _).far hne _), fun a ha => by injection ha with ha; subst ha; show w.heap.size ≤ w.heap.size + 1 + 1; omega, (((((HEND.out.setCell (Nat.le_succ _) _).setCell hbb _).setCell hbb _).setCell hbb _).setCell hbb _).setCell hbb _⟩
theorem newBits_big (A : Option Addr) (c : Nat) (l : List UInt8) (p : Int) (w : World) (hE : Errs w) (hp : 7 < p) (hp9 : p ≤ 255) (hl : l.length ≤ 140737488351232) :
    Calls Tryd.prog 101 #[.slice A l.length c, .int .u8 p] w fun e w' => ∃ T x, e = .returned (.tuple #[vec0, .iface T x]) ∧ Below w.heap.size w w' := by
  obtain ⟨T, x, hx⟩ := hE.big
  have hlt : 13 < w.heap.size := World.block_lt_of_cell? w _ hx
  have hlt1 : 13 < w.heap.size + 1 := by omega
  have hlt2 : 13 < w.heap.size + 1 + 1 := by omega
  obtain ⟨q, hq⟩ : ∃ q, q = l.length := ⟨_, rfl⟩
  rw [← hq]
  have d0 : decide ((7 : Int) < p) = true := by simp; omega
  clear hq hl hE
  go_enter Tryd.func101, Tryd.ntmps101
  go_wp2_with fail
  go_region
  all_goals go_wp2_with fail
  have hbb : w.heap.size ≤ w.heap.size := Nat.le_refl _
  exact bodyPost_ret (v := .tuple #[vec0, .iface T x]) (by simp [results, Tryd.results101, go_sem, vec0]) rfl ⟨T, x, rfl, by first | exact bdrew (((((balloc (balloc (Below.refl _ w) (Nat.le_refl _) _) (by simp) _).setCell hbb _).setCell hbb _).setCell hbb _).setCell hbb _).setCell hbb _ | exact bdrew (balloc (balloc (Below.refl _ w) (Nat.le_refl _) _) (by simp) _)⟩

theorem newBits_pad (A : Option Addr) (c : Nat) (l : List UInt8) (p : Int) (w : World) (hE : Errs w) (hp : 0 < p) (hp7 : p ≤ 7) (hl0 : l.length = 0) (hl : l.length ≤ 140737488351232) :
    Calls Tryd.prog 101 #[.slice A l.length c, .int .u8 p] w fun e w' => ∃ T x, e = .returned (.tuple #[vec0, .iface T x]) ∧ Below w.heap.size w w' := by
  obtain ⟨T, x, hx⟩ := hE.pad
  have hlt : 8 < w.heap.size := World.block_lt_of_cell? w _ hx
  have hlt1 : 8 < w.heap.size + 1 := by omega
  have hlt2 : 8 < w.heap.size + 1 + 1 := by omega
  obtain ⟨q, hq⟩ : ∃ q, q = l.length := ⟨_, rfl⟩
  have h0 : q = 0 := by omega
  rw [← hq]
  subst h0
  have d0 : decide ((7 : Int) < p) = false := by simp; omega
  have d1 : decide ((0 : Int) < p) = true := by simp; omega
  clear hq hl hE
  go_enter Tryd.func101, Tryd.ntmps101
  go_wp2_with fail
  go_region
  all_goals go_wp2_with fail
  have hbb : w.heap.size ≤ w.heap.size := Nat.le_refl _
  exact bodyPost_ret (v := .tuple #[vec0, .iface T x]) (by simp [results, Tryd.results101, go_sem, vec0]) rfl ⟨T, x, rfl, by first | exact bdrew (((((balloc (balloc (Below.refl _ w) (Nat.le_refl _) _) (by simp) _).setCell hbb _).setCell hbb _).setCell hbb _).setCell hbb _).setCell hbb _ | exact bdrew (balloc (balloc (Below.refl _ w) (Nat.le_refl _) _) (by simp) _)⟩
theorem bitVec_ok (A : Option Addr) (c : Nat) (p : UInt8) (l : List UInt8) (w : World) (hs : SB w A c (p :: l)) (hp : p.toNat ≤ 7) (hp2 : p.toNat = 0 ∨ 0 < l.length) (hl : l.length ≤ 140737488351232) :
    Calls Tryd.prog 69 #[.slice A (l.length + 1) c] w fun e w' => ∃ A', e = .returned (.tuple #[vecBit A' l.length l.length p.toNat, .nilIface]) ∧ SB w' A' l.length l ∧ (∀ a, A' = some a → w.heap.size < a.block) ∧ Below w.heap.size w w' := by
  obtain ⟨b, off, rfl, hc⟩ := hs.cells (by simp)
  have hc0 := hc 0 (by simp)
  simp at hc0
  have hblt : b < w.heap.size := World.block_lt_of_cell? w _ hc0
  obtain ⟨A1, e1, s1⟩ := SB.from_ (P := Tryd.prog) Tryd.underlying38 rfl rfl .i64 (some ⟨b, off, none⟩) c (p :: l) 1 (by simp) hs.le
  have HN : Hid (∀ wx, SB wx A1 (c - 1) l → Calls Tryd.prog 101 #[.slice A1 l.length (c - 1), .int .u8 (p.toNat : Int)] wx fun e w' => ∃ A', e = .returned (.tuple #[vecBit A' l.length l.length p.toNat, .nilIface]) ∧ SB w' A' l.length l ∧ (∀ a, A' = some a → wx.heap.size ≤ a.block) ∧ Below wx.heap.size wx w') := Lib.hid fun wx h => newBits A1 (c - 1) l p.toNat wx h (by omega) (by omega) (by omega) hl
  have HS : Hid (∀ wx, SB wx (some ⟨b, off, none⟩) c (p :: l) → SB wx A1 (c - 1) l) := Lib.hid s1
  have HSW := Lib.hid (hs.alloc (.cells #[.int .u8 0, .slice none 0 0, .slice none 0 0, .slice none 0 0, .int .u8 0] 74))
  have hle := hs.le
  have hcap := hs.cap
  simp only [List.length_cons, show l.length + 1 - 1 = l.length from by omega, Int.cast_ofNat_Int] at e1 hle
  obtain ⟨q, hq⟩ : ∃ q, q = l.length := ⟨_, rfl⟩
  obtain ⟨y, hy⟩ : ∃ y : Int, y = (p.toNat : Int) := ⟨_, rfl⟩
  rw [← hq] at e1 HN hl hle
  rw [← hq]
  rw [← hy] at HN hc0
  rw [← hy]
  have hne0 : ((q : Int) + 1 == 0) = false := by rw [beq_eq_false_iff_ne]; omega
  unfold vecBit at HN
  clear hq hy hs hc s1 hp hp2
  go_enter Tryd.func69, Tryd.ntmps69
  go_wp2_with fail
  refine start_ (n := 10) (S := fun w' => w'.cell? ⟨b, off, none⟩ = some (.int .u8 y) ∧ w'.cell? ⟨w.heap.size, 0, none⟩ = some (.int .u8 0) ∧ w'.cell? ⟨w.heap.size, 1, none⟩ = some (.slice none 0 0) ∧ w'.cell? ⟨w.heap.size, 2, none⟩ = some (.slice none 0 0) ∧ w'.cell? ⟨w.heap.size, 3, none⟩ = some (.slice none 0 0) ∧ w'.cell? ⟨w.heap.size, 4, none⟩ = some (.int .u8 0) ∧ w'.frozen? ⟨w.heap.size, 0, none⟩ = false ∧ w'.frozen? ⟨w.heap.size, 1, none⟩ = false ∧ w'.frozen? ⟨w.heap.size, 2, none⟩ = false ∧ w'.frozen? ⟨w.heap.size, 3, none⟩ = false ∧ w'.frozen? ⟨w.heap.size, 4, none⟩ = false) (ds := [8]) #[false, false, false, false, false, false, false, false, false, false] (by kernel_rfl) rfl rfl ⟨(by go_simp), (by go_simp), (by go_simp), (by go_simp), (by go_simp), (by go_simp), (by go_simp), (by go_simp), (by go_simp), (by go_simp), (by go_simp)⟩ (fun hHeld => ?_)
  refine with_tabW R69.tab3 R69.bits3 (fun HT_ HW_ => ?_)
  refine pure_ (i := 0) (N := some 9) (v := ?_) (a' := ?_) #[true, false, false, false, false, false, false, false, false, false] rfl rfl (any_of HT_.out (by kernel_rfl)) (fun _ _ _ h => h) (Or.inl ⟨by rfl, ?_⟩) ?_ ?_
  rotate_left
  · intro w'
    go_simp
    with_reducible rfl
  rotate_left
  · simp only [Act.put, List.setIfInBounds_toArray, List.set_cons_zero, List.set_cons_succ, i64_w, i32_w]
    rfl
  refine pure_ (i := 1) (N := some 10) (v := ?_) (a' := ?_) #[true, true, false, false, false, false, false, false, false, false] rfl rfl (any_of HT_.out (by kernel_rfl)) (fun _ _ _ h => h) (Or.inl ⟨by rfl, ?_⟩) ?_ ?_
  rotate_left
  · intro w'
    go_simp
    with_reducible rfl
  rotate_left
  · simp only [Act.put, List.setIfInBounds_toArray, List.set_cons_zero, List.set_cons_succ, i64_w, i32_w]
    rfl
  refine pure_ (i := 2) (N := some 11) (v := ?_) (a' := ?_) #[true, true, true, false, false, false, false, false, false, false] rfl rfl (any_of HT_.out (by kernel_rfl)) (fun _ _ _ h => h) (Or.inl ⟨by rfl, ?_⟩) ?_ ?_
  rotate_left
  · intro w'
    go_simp
    with_reducible rfl
  rotate_left
  · simp only [Act.put, List.setIfInBounds_toArray, List.set_cons_zero, List.set_cons_succ, i64_w, i32_w]
    rfl
  refine pure_ (i := 3) (N := some 12) (v := ?_) (a' := ?_) #[true, true, true, true, false, false, false, false, false, false] rfl rfl (any_of HT_.out (by kernel_rfl)) (fun _ _ _ h => h) (Or.inl ⟨by rfl, ?_⟩) ?_ ?_
  rotate_left
  · intro w'
    go_simp
    with_reducible rfl
  rotate_left
  · simp only [Act.put, List.setIfInBounds_toArray, List.set_cons_zero, List.set_cons_succ, i64_w, i32_w]
    rfl
  refine take_ (i := 4) (N := some 13) (v := ?_) (a' := ?_) #[true, true, true, true, true, false, false, false, false, false] rfl rfl (take_ofW HT_.out HW_.out (by kernel_rfl)) (fun _ _ _ h => h) (Or.inl ⟨by rfl, ?_⟩) hHeld ?_ ?_
  rotate_left
  · rintro w' ⟨s0, s1, s2, s3, s4, s5, s6, s7, s8, s9, s10⟩
    go_simp
    with_reducible rfl
  rotate_left
  · simp only [Act.put, List.setIfInBounds_toArray, List.set_cons_zero, List.set_cons_succ, i64_w, i32_w]
    rfl
  refine one_ (i := 5) (N := some 14) #[true, true, true, true, true, true, false, false, false, false] rfl rfl (one_of HT_.out (by kernel_rfl)) (by decide) (fun K hK => ?_)
  refine goes_ Tryd.func101 (by kernel_rfl) rfl #[.slice A1 q (c - 1), .int .u8 y] (by rfl) rfl rfl (by simp only [List.map_toArray, List.map_cons, List.map_nil]; rfl) ?_
  with_reducible refine (HN.out _ (HS.out _ (HSW.out.keep (bdrew (Below.refl _ _))))).mono ?_
  rintro e w3 ⟨A3, rfl, hs3, hn3, hb3⟩
  refine ⟨_, rfl, ?_⟩
  have HB3 := Lib.hid ((bdrew (balloc (Below.refl _ w) (Nat.le_refl _) _)).trans (hb3.mono (by simp)))
  have hR3 : w.heap.size < w3.heap.size := by have := hb3.size; simp at this; omega
  have HS3 := Lib.hid hs3
  have HN3 : Hid (∀ a, A3 = some a → w.heap.size < a.block) := Lib.hid fun a ha => by have := hn3 a ha; simp at this; omega
  have rd0 := (hb3.cell (World.block_lt_of_cell? _ _ hHeld.2.1)).trans hHeld.2.1
  have rd1 := (hb3.cell (World.block_lt_of_cell? _ _ hHeld.2.2.1)).trans hHeld.2.2.1
  have rd2 := (hb3.cell (World.block_lt_of_cell? _ _ hHeld.2.2.2.1)).trans hHeld.2.2.2.1
  have rd3 := (hb3.cell (World.block_lt_of_cell? _ _ hHeld.2.2.2.2.1)).trans hHeld.2.2.2.2.1
  have rd4 := (hb3.cell (World.block_lt_of_cell? _ _ hHeld.2.2.2.2.2.1)).trans hHeld.2.2.2.2.2.1
  refine hK.out _ _ ⟨((hb3.cell (World.block_lt_of_cell? _ _ hHeld.1)).trans hHeld.1), ((hb3.cell (World.block_lt_of_cell? _ _ hHeld.2.1)).trans hHeld.2.1), ((hb3.cell (World.block_lt_of_cell? _ _ hHeld.2.2.1)).trans hHeld.2.2.1), ((hb3.cell (World.block_lt_of_cell? _ _ hHeld.2.2.2.1)).trans hHeld.2.2.2.1), ((hb3.cell (World.block_lt_of_cell? _ _ hHeld.2.2.2.2.1)).trans hHeld.2.2.2.2.1), ((hb3.cell (World.block_lt_of_cell? _ _ hHeld.2.2.2.2.2.1)).trans hHeld.2.2.2.2.2.1), ((hb3.frozen (p := ⟨w.heap.size, 0, none⟩) (by simp)).trans hHeld.2.2.2.2.2.2.1), ((hb3.frozen (p := ⟨w.heap.size, 1, none⟩) (by simp)).trans hHeld.2.2.2.2.2.2.2.1), ((hb3.frozen (p := ⟨w.heap.size, 2, none⟩) (by simp)).trans hHeld.2.2.2.2.2.2.2.2.1), ((hb3.frozen (p := ⟨w.heap.size, 3, none⟩) (by simp)).trans hHeld.2.2.2.2.2.2.2.2.2.1), ((hb3.frozen (p := ⟨w.heap.size, 4, none⟩) (by simp)).trans hHeld.2.2.2.2.2.2.2.2.2.2)⟩ (fun hHeld => ?_)
  clear hK K
  refine norm_ (a' := ?_) ?_ ?_
  rotate_left
  · show Act.put _ (some 14) _ = _
    simp only [Act.put, List.setIfInBounds_toArray, List.set_cons_zero, List.set_cons_succ, i64_w, i32_w]
    rfl
  refine pure_ (i := 6) (N := some 15) (v := ?_) (a' := ?_) #[true, true, true, true, true, true, true, false, false, false] rfl rfl (any_of HT_.out (by kernel_rfl)) (fun _ _ _ h => h) (Or.inl ⟨by rfl, ?_⟩) ?_ ?_
  rotate_left
  · intro w'
    go_simp
    with_reducible rfl
  rotate_left
  · simp only [Act.put, List.setIfInBounds_toArray, List.set_cons_zero, List.set_cons_succ, i64_w, i32_w]
    rfl
  refine pure_ (i := 7) (N := some 16) (v := ?_) (a' := ?_) #[true, true, true, true, true, true, true, true, false, false] rfl rfl (any_of HT_.out (by kernel_rfl)) (fun _ _ _ h => h) (Or.inl ⟨by rfl, ?_⟩) ?_ ?_
  rotate_left
  · intro w'
    go_simp
    with_reducible rfl
  rotate_left
  · simp only [Act.put, List.setIfInBounds_toArray, List.set_cons_zero, List.set_cons_succ, i64_w, i32_w]
    rfl
  refine last_ (i := 8) (N := none) #[true, true, true, true, true, true, true, true, true, false] rfl rfl (one_of HT_.out (by kernel_rfl)) (by decide) (fun K hK => ?_)
  refine skip_ (w1 := ?_) (by rfl) rfl ?_ ?_
  rotate_left
  · go_simp
    rfl
  refine hK.out _ _ ?_
  clear hK K
  refine pure_ (i := 9) (N := some 3) (v := ?_) (a' := ?_) #[true, true, true, true, true, true, true, true, true, true] rfl rfl (any_of HT_.out (by kernel_rfl)) (fun _ _ _ h => h) (Or.inl ⟨by rfl, ?_⟩) ?_ ?_
  rotate_left
  · intro w'
    go_simp
    with_reducible rfl
  rotate_left
  · simp only [Act.put, List.setIfInBounds_toArray, List.set_cons_zero, List.set_cons_succ, i64_w, i32_w]
    rfl
  refine done_ (done_of HT_.out (by kernel_rfl)) ?_
  go_wp2_with fail
  have hbb : w.heap.size ≤ w.heap.size := Nat.le_refl _
  have hne : ∀ a, A3 = some a → a.block ≠ w.heap.size := fun a ha => by have := HN3.out a ha; omega
  exact bodyPost_ret (v := .tuple #[vecBit A3 q q y, .nilIface]) (by simp [results, Tryd.results69, go_sem, vecBit, rd0, rd1, rd2, rd3, rd4, hR3]) rfl ⟨A3, rfl, ((((HS3.out.far hne _).far hne _).far hne _).far hne _).far hne _, HN3.out, ((((HB3.out.setCell hbb _).setCell hbb _).setCell hbb _).setCell hbb _).setCell hbb _⟩

theorem bitVec_no (A : Option Addr) (c : Nat) (p : UInt8) (l : List UInt8) (w : World) (hs : SB w A c (p :: l)) (hE : Errs w) (hp : 7 < p.toNat ∨ (0 < p.toNat ∧ l.length = 0)) (hl : l.length ≤ 140737488351232) :
    Calls Tryd.prog 69 #[.slice A (l.length + 1) c] w fun e w' => ∃ T x, e = .returned (.tuple #[vec0, .iface T x]) ∧ Below w.heap.size w w' := by
  obtain ⟨b, off, rfl, hc⟩ := hs.cells (by simp)
  have hc0 := hc 0 (by simp)
  simp at hc0
  have hblt : b < w.heap.size := World.block_lt_of_cell? w _ hc0
  obtain ⟨A1, e1, s1⟩ := SB.from_ (P := Tryd.prog) Tryd.underlying38 rfl rfl .i64 (some ⟨b, off, none⟩) c (p :: l) 1 (by simp) hs.le
  have HN : Hid (∀ wx, Below w.heap.size w wx → SB wx A1 (c - 1) l → Calls Tryd.prog 101 #[.slice A1 l.length (c - 1), .int .u8 (p.toNat : Int)] wx fun e w' => ∃ T x, e = .returned (.tuple #[vec0, .iface T x]) ∧ Below wx.heap.size wx w') := Lib.hid fun wx hb h => (by
    have hpb := p.toNat_lt
    have hEx := hE.keep hb
    by_cases hp7 : 7 < p.toNat
    · exact newBits_big A1 (c - 1) l p.toNat wx hEx (by omega) (by omega) hl
    · exact newBits_pad A1 (c - 1) l p.toNat wx hEx (by omega) (by omega) (by omega) hl)
  have HS : Hid (∀ wx, SB wx (some ⟨b, off, none⟩) c (p :: l) → SB wx A1 (c - 1) l) := Lib.hid s1
  have HSW := Lib.hid (hs.alloc (.cells #[.int .u8 0, .slice none 0 0, .slice none 0 0, .slice none 0 0, .int .u8 0] 74))
  have hle := hs.le
  have hcap := hs.cap
  simp only [List.length_cons, show l.length + 1 - 1 = l.length from by omega, Int.cast_ofNat_Int] at e1 hle
  obtain ⟨q, hq⟩ : ∃ q, q = l.length := ⟨_, rfl⟩
  obtain ⟨y, hy⟩ : ∃ y : Int, y = (p.toNat : Int) := ⟨_, rfl⟩
  rw [← hq] at e1 HN hl hle
  rw [← hq]
  rw [← hy] at HN hc0
  skip
  have hne0 : ((q : Int) + 1 == 0) = false := by rw [beq_eq_false_iff_ne]; omega
  unfold vec0 at HN
  clear hq hy hs hc s1 hp hE
  go_enter Tryd.func69, Tryd.ntmps69
  go_wp2_with fail
  refine start_ (n := 10) (S := fun w' => w'.cell? ⟨b, off, none⟩ = some (.int .u8 y) ∧ w'.cell? ⟨w.heap.size, 0, none⟩ = some (.int .u8 0) ∧ w'.cell? ⟨w.heap.size, 1, none⟩ = some (.slice none 0 0) ∧ w'.cell? ⟨w.heap.size, 2, none⟩ = some (.slice none 0 0) ∧ w'.cell? ⟨w.heap.size, 3, none⟩ = some (.slice none 0 0) ∧ w'.cell? ⟨w.heap.size, 4, none⟩ = some (.int .u8 0) ∧ w'.frozen? ⟨w.heap.size, 0, none⟩ = false ∧ w'.frozen? ⟨w.heap.size, 1, none⟩ = false ∧ w'.frozen? ⟨w.heap.size, 2, none⟩ = false ∧ w'.frozen? ⟨w.heap.size, 3, none⟩ = false ∧ w'.frozen? ⟨w.heap.size, 4, none⟩ = false) (ds := [8]) #[false, false, false, false, false, false, false, false, false, false] (by kernel_rfl) rfl rfl ⟨(by go_simp), (by go_simp), (by go_simp), (by go_simp), (by go_simp), (by go_simp), (by go_simp), (by go_simp), (by go_simp), (by go_simp), (by go_simp)⟩ (fun hHeld => ?_)
  refine with_tabW R69.tab3 R69.bits3 (fun HT_ HW_ => ?_)
  refine pure_ (i := 0) (N := some 9) (v := ?_) (a' := ?_) #[true, false, false, false, false, false, false, false, false, false] rfl rfl (any_of HT_.out (by kernel_rfl)) (fun _ _ _ h => h) (Or.inl ⟨by rfl, ?_⟩) ?_ ?_
  rotate_left
  · intro w'
    go_simp
    with_reducible rfl
  rotate_left
  · simp only [Act.put, List.setIfInBounds_toArray, List.set_cons_zero, List.set_cons_succ, i64_w, i32_w]
    rfl
  refine pure_ (i := 1) (N := some 10) (v := ?_) (a' := ?_) #[true, true, false, false, false, false, false, false, false, false] rfl rfl (any_of HT_.out (by kernel_rfl)) (fun _ _ _ h => h) (Or.inl ⟨by rfl, ?_⟩) ?_ ?_
  rotate_left
  · intro w'
    go_simp
    with_reducible rfl
  rotate_left
  · simp only [Act.put, List.setIfInBounds_toArray, List.set_cons_zero, List.set_cons_succ, i64_w, i32_w]
    rfl
  refine pure_ (i := 2) (N := some 11) (v := ?_) (a' := ?_) #[true, true, true, false, false, false, false, false, false, false] rfl rfl (any_of HT_.out (by kernel_rfl)) (fun _ _ _ h => h) (Or.inl ⟨by rfl, ?_⟩) ?_ ?_
  rotate_left
  · intro w'
    go_simp
    with_reducible rfl
  rotate_left
  · simp only [Act.put, List.setIfInBounds_toArray, List.set_cons_zero, List.set_cons_succ, i64_w, i32_w]
    rfl
  refine pure_ (i := 3) (N := some 12) (v := ?_) (a' := ?_) #[true, true, true, true, false, false, false, false, false, false] rfl rfl (any_of HT_.out (by kernel_rfl)) (fun _ _ _ h => h) (Or.inl ⟨by rfl, ?_⟩) ?_ ?_
  rotate_left
  · intro w'
    go_simp
    with_reducible rfl
  rotate_left
  · simp only [Act.put, List.setIfInBounds_toArray, List.set_cons_zero, List.set_cons_succ, i64_w, i32_w]
    rfl
  refine take_ (i := 4) (N := some 13) (v := ?_) (a' := ?_) #[true, true, true, true, true, false, false, false, false, false] rfl rfl (take_ofW HT_.out HW_.out (by kernel_rfl)) (fun _ _ _ h => h) (Or.inl ⟨by rfl, ?_⟩) hHeld ?_ ?_
  rotate_left
  · rintro w' ⟨s0, s1, s2, s3, s4, s5, s6, s7, s8, s9, s10⟩
    go_simp
    with_reducible rfl
  rotate_left
  · simp only [Act.put, List.setIfInBounds_toArray, List.set_cons_zero, List.set_cons_succ, i64_w, i32_w]
    rfl
  refine one_ (i := 5) (N := some 14) #[true, true, true, true, true, true, false, false, false, false] rfl rfl (one_of HT_.out (by kernel_rfl)) (by decide) (fun K hK => ?_)
  refine goes_ Tryd.func101 (by kernel_rfl) rfl #[.slice A1 q (c - 1), .int .u8 y] (by rfl) rfl rfl (by simp only [List.map_toArray, List.map_cons, List.map_nil]; rfl) ?_
  with_reducible refine (HN.out _ (bdrew (balloc (Below.refl _ _) (Nat.le_refl _) _)) (HS.out _ (HSW.out.keep (bdrew (Below.refl _ _))))).mono ?_
  rintro e w3 ⟨T3, x3, rfl, hb3⟩
  refine ⟨_, rfl, ?_⟩
  have HB3 := Lib.hid ((bdrew (balloc (Below.refl _ w) (Nat.le_refl _) _)).trans (hb3.mono (by simp)))
  have hR3 : w.heap.size < w3.heap.size := by have := hb3.size; simp at this; omega
  have rd0 := (hb3.cell (World.block_lt_of_cell? _ _ hHeld.2.1)).trans hHeld.2.1
  have rd1 := (hb3.cell (World.block_lt_of_cell? _ _ hHeld.2.2.1)).trans hHeld.2.2.1
  have rd2 := (hb3.cell (World.block_lt_of_cell? _ _ hHeld.2.2.2.1)).trans hHeld.2.2.2.1
  have rd3 := (hb3.cell (World.block_lt_of_cell? _ _ hHeld.2.2.2.2.1)).trans hHeld.2.2.2.2.1
  have rd4 := (hb3.cell (World.block_lt_of_cell? _ _ hHeld.2.2.2.2.2.1)).trans hHeld.2.2.2.2.2.1
  refine hK.out _ _ ⟨((hb3.cell (World.block_lt_of_cell? _ _ hHeld.1)).trans hHeld.1), ((hb3.cell (World.block_lt_of_cell? _ _ hHeld.2.1)).trans hHeld.2.1), ((hb3.cell (World.block_lt_of_cell? _ _ hHeld.2.2.1)).trans hHeld.2.2.1), ((hb3.cell (World.block_lt_of_cell? _ _ hHeld.2.2.2.1)).trans hHeld.2.2.2.1), ((hb3.cell (World.block_lt_of_cell? _ _ hHeld.2.2.2.2.1)).trans hHeld.2.2.2.2.1), ((hb3.cell (World.block_lt_of_cell? _ _ hHeld.2.2.2.2.2.1)).trans hHeld.2.2.2.2.2.1), ((hb3.frozen (p := ⟨w.heap.size, 0, none⟩) (by simp)).trans hHeld.2.2.2.2.2.2.1), ((hb3.frozen (p := ⟨w.heap.size, 1, none⟩) (by simp)).trans hHeld.2.2.2.2.2.2.2.1), ((hb3.frozen (p := ⟨w.heap.size, 2, none⟩) (by simp)).trans hHeld.2.2.2.2.2.2.2.2.1), ((hb3.frozen (p := ⟨w.heap.size, 3, none⟩) (by simp)).trans hHeld.2.2.2.2.2.2.2.2.2.1), ((hb3.frozen (p := ⟨w.heap.size, 4, none⟩) (by simp)).trans hHeld.2.2.2.2.2.2.2.2.2.2)⟩ (fun hHeld => ?_)
  clear hK K
  refine norm_ (a' := ?_) ?_ ?_
  rotate_left
  · show Act.put _ (some 14) _ = _
    simp only [Act.put, List.setIfInBounds_toArray, List.set_cons_zero, List.set_cons_succ, i64_w, i32_w]
    rfl
  refine pure_ (i := 6) (N := some 15) (v := ?_) (a' := ?_) #[true, true, true, true, true, true, true, false, false, false] rfl rfl (any_of HT_.out (by kernel_rfl)) (fun _ _ _ h => h) (Or.inl ⟨by rfl, ?_⟩) ?_ ?_
  rotate_left
  · intro w'
    go_simp
    with_reducible rfl
  rotate_left
  · simp only [Act.put, List.setIfInBounds_toArray, List.set_cons_zero, List.set_cons_succ, i64_w, i32_w]
    rfl
  refine pure_ (i := 7) (N := some 16) (v := ?_) (a' := ?_) #[true, true, true, true, true, true, true, true, false, false] rfl rfl (any_of HT_.out (by kernel_rfl)) (fun _ _ _ h => h) (Or.inl ⟨by rfl, ?_⟩) ?_ ?_
  rotate_left
  · intro w'
    go_simp
    with_reducible rfl
  rotate_left
  · simp only [Act.put, List.setIfInBounds_toArray, List.set_cons_zero, List.set_cons_succ, i64_w, i32_w]
    rfl
  refine last_ (i := 8) (N := none) #[true, true, true, true, true, true, true, true, true, false] rfl rfl (one_of HT_.out (by kernel_rfl)) (by decide) (fun K hK => ?_)
  refine skip_ (w1 := ?_) (by rfl) rfl ?_ ?_
  rotate_left
  · go_simp
    rfl
  refine hK.out _ _ ?_
  clear hK K
  refine pure_ (i := 9) (N := some 3) (v := ?_) (a' := ?_) #[true, true, true, true, true, true, true, true, true, true] rfl rfl (any_of HT_.out (by kernel_rfl)) (fun _ _ _ h => h) (Or.inl ⟨by rfl, ?_⟩) ?_ ?_
  rotate_left
  · intro w'
    go_simp
    with_reducible rfl
  rotate_left
  · simp only [Act.put, List.setIfInBounds_toArray, List.set_cons_zero, List.set_cons_succ, i64_w, i32_w]
    rfl
  refine done_ (done_of HT_.out (by kernel_rfl)) ?_
  go_wp2_with fail
  have hbb : w.heap.size ≤ w.heap.size := Nat.le_refl _
  exact bodyPost_ret (v := .tuple #[vec0, .iface T3 x3]) (by simp [results, Tryd.results69, go_sem, vec0, rd0, rd1, rd2, rd3, rd4, hR3]) rfl ⟨T3, x3, rfl, ((((HB3.out.setCell hbb _).setCell hbb _).setCell hbb _).setCell hbb _).setCell hbb _⟩
end Go.Proofs.YtjjfdamlicoeeaaDoor.X
