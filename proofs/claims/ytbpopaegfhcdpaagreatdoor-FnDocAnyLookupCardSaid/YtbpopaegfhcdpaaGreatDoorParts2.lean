/- Put together: Fst, Part, Parts, DChk, DChkB. -/
import Derived.Test.YtbpopaegfhcdpaaGreatDoorSpan
import Derived.Test.YtbpopaegfhcdpaaGreatDoorChkA
import Derived.Test.YtbpopaegfhcdpaaGreatDoorWLast
import Derived.Test.YtbpopaegfhcdpaaGreatDoorWTab
import Derived.Outline
import Derived.Test.YtbpopaegfhcdpaaGreatDoorOwnN
/- spec.DocFirst, docPart and DocGood. -/
set_option linter.unusedVariables false
set_option linter.unusedSimpArgs false
set_option maxRecDepth 100000
namespace Go.Proofs.YtbpopaegfhcdpaaGreatDoor.X
open Go.RowKit Go.Proofs.YtbpopaegfhcdpaaGreatDoorW.PrintLast Go.Proofs.YtbpopaegfhcdpaaGreatDoorW.PrintWords
open Go.Proofs.YtbpopaegfhcdpaaGreatDoor.PFnDocAnyLookup
namespace Ck
open Sp Al Av Aw
def R124.T6 : Bool × List (List Nat × List Nat) := (true, [([], []), ([0], [0]), ([1], [1]), ([2], [2]), ([], []), ([], []), ([5], [5]), ([4, 6], [4, 6]), ([3, 7], [3, 7]), ([8], [8]), ([9], [9]), ([9], [9]), ([10, 8, 0, 1, 2, 3, 4, 5, 6, 7, 8, 9, 10], [10]), ([11, 12, 0, 1, 2, 3, 4, 5, 6, 7, 8, 9, 10, 11, 12], [11])])
def R124.B6 : List Nat := [0, 1, 3, 7, 0, 0, 32, 112, 255, 511, 1023, 1023, 2047, 8191]
theorem R124.tab6 : rtab .any (opsOf Tryz.f124 6) = R124.T6 := by kernel_rfl
theorem R124.bits6 : waitsOk R124.T6.2 R124.B6 = true := by kernel_rfl
theorem docNumber (A : Option Addr) (c : Nat) (l : List UInt8) (w : World) (hs : SB w A c l) :
    Calls Tryz.prog 43 #[.slice A l.length c] w fun e w' => e = .returned (.tuple #[.int .i64 (numOf l).1, .bool (numOf l).2]) ∧ Below w.heap.size w w' := by
  have h := spec_DocNumber.calls A c (ints l) (numOf l).1 (numOf l).2 w (kd_bytes hs) (by rw [ints_len]; exact hs.le) (num_f l)
  rw [ints_len] at h
  refine h.mono ?_
  rintro e w' ⟨rfl, hd⟩
  exact ⟨rfl, hd.below⟩
theorem docName (A : Option Addr) (c : Nat) (l : List UInt8) (w : World) (hs : SB w A c l) (hl : l.length ≤ 1000000) :
    Calls Tryz.prog 109 #[.slice A l.length c] w fun e w' => (∃ s, e = .returned (.tuple #[.string s, .int .i64 (nmOf l).1, .bool (nmOf l).2])) ∧ Below w.heap.size w w' := by
  obtain ⟨k, s, hf⟩ := name_f l hl
  have h := spec_DocName.calls k A c (ints l) s (nmOf l).1 (nmOf l).2 w (kd_bytes hs) (by rw [ints_len]; exact hs.le) hf
  rw [ints_len] at h
  refine h.mono ?_
  rintro e w' ⟨rfl, hd⟩
  exact ⟨⟨s, rfl⟩, hd.below⟩
theorem w64s {a b : Int} (h0 : 0 ≤ a) (h1 : a ≤ 1000000) (h2 : 0 ≤ b) (h3 : b ≤ 3000000000) : wrap64 (a + b) = a + b := by unfold wrap64; omega
/-- DocFirst where an element begins the bytes. -/
theorem first_some (A : Option Addr) (c : Nat) (t : UInt8) (r : List UInt8) (w : World) (hs : SB w A c (t :: r)) (hl : (t :: r).length ≤ 5000) (hn : (nmOf r).2 = true) :
    Calls Tryz.prog 124 #[.slice A (t :: r).length c] w fun e w' => (∃ n, e = .returned (.tuple #[.int .i64 n, .bool (valIs (t.toNat : Int) (r.drop (nmOf r).1.toNat))]) ∧ (valIs (t.toNat : Int) (r.drop (nmOf r).1.toNat) = true → n = 1 + (nmOf r).1 + (valLen (t.toNat : Int) (r.drop (nmOf r).1.toNat)).1)) ∧ Below w.heap.size w w' := by
  obtain ⟨A1, e1, s1⟩ := SB.from_ (P := Tryz.prog) Tryz.underlying22 rfl rfl .i64 A c (t :: r) 1 (by simp) hs.le
  have hb := nm_bd' r
  obtain ⟨m, hm⟩ : ∃ m : Nat, (nmOf r).1 = (m : Int) := ⟨(nmOf r).1.toNat, by omega⟩
  have hr1 : (t :: r).drop 1 = r := rfl
  have hrl : (t :: r).length = r.length + 1 := by simp
  obtain ⟨j, hj⟩ : ∃ j, j = 1 + m := ⟨_, rfl⟩
  obtain ⟨A2, e2, s2⟩ := SB.from_ (P := Tryz.prog) Tryz.underlying22 rfl rfl .i64 A c (t :: r) j (by omega) hs.le
  have hd2 : (t :: r).drop j = r.drop m := by rw [hj, Nat.add_comm, List.drop_succ_cons]
  have HN : Hid (Calls Tryz.prog 109 #[.slice A1 ((t :: r).length - 1) (c - 1)] w fun e w' => (∃ s, e = .returned (.tuple #[.string s, .int .i64 (m : Int), .bool true])) ∧ Below w.heap.size w w') := Lib.hid (by
    have h := docName A1 (c - 1) r w (by have := s1 w hs; rwa [hr1] at this) (by omega)
    rw [hn, hm] at h
    rw [show (t :: r).length - 1 = r.length from by omega]
    exact h)
  have HS : Hid (∀ wx, Below w.heap.size w wx → Calls Tryz.prog 126 #[.int .i64 (t.toNat : Int), .slice A2 ((t :: r).length - j) (c - j)] wx fun e w' => (∃ n, e = .returned (.tuple #[.int .i64 n, .bool (valIs (t.toNat : Int) (r.drop m))]) ∧ (valIs (t.toNat : Int) (r.drop m) = true → n = (valLen (t.toNat : Int) (r.drop m)).1)) ∧ Below wx.heap.size wx w') := Lib.hid fun wx hx => by
    have h := docSpan A2 (c - j) (r.drop m) (t.toNat : Int) wx (by have := s2 wx (hs.keep hx); rwa [hd2] at this) (by rw [List.length_drop]; omega)
    rw [List.length_drop, show r.length - m = (t :: r).length - j from by omega] at h
    exact h.mono fun e w' ⟨n, b, a1, a2, a3, a4⟩ => ⟨⟨n, by rw [a1, a2], a3⟩, a4⟩
  obtain ⟨b, off, rfl, hc⟩ := hs.cells (by simp)
  have h0 : w.cell? ⟨b, off, none⟩ = some (.int .u8 (t.toNat : Int)) := hc 0 (by simp)
  rw [hm, Int.toNat_natCast]
  obtain ⟨tv, htv⟩ : ∃ x, x = (t.toNat : Int) := ⟨_, rfl⟩
  have htb : 0 ≤ tv ∧ tv ≤ 255 := by rw [htv]; have := t.toNat_lt; omega
  obtain ⟨vb, hvb⟩ : ∃ x, x = valIs (t.toNat : Int) (r.drop m) := ⟨_, rfl⟩
  have HVL : Hid (vb = true → 0 ≤ (valLen (t.toNat : Int) (r.drop m)).1 ∧ (valLen (t.toNat : Int) (r.drop m)).1 ≤ 5000) := Lib.hid fun h => by
    rw [hvb] at h
    obtain ⟨x, h1, h2⟩ := valLen_of_is h
    rw [h1]
    have := List.length_drop (i := m) (l := r)
    exact ⟨by show (0 : Int) ≤ (x : Int); omega, by show (x : Int) ≤ 5000; omega⟩
  obtain ⟨vl, hvl⟩ : ∃ x, x = (valLen (t.toNat : Int) (r.drop m)).1 := ⟨_, rfl⟩
  rw [← hvb, ← hvl] at HS
  rw [← hvl] at HVL
  rw [← hvb, ← hvl]
  rw [← htv] at h0 HS
  obtain ⟨p, hp⟩ : ∃ p, p = (t :: r).length := ⟨_, rfl⟩
  rw [← hp] at hrl e1 e2 HN HS hl ⊢
  have e1' : ∀ W : World, (Instr.slice 22 (.slice (some ⟨b, off, none⟩) p c) (some (.int .i64 1)) none none).run Tryz.prog W = .ok (.slice A1 (p - 1) (c - 1)) W := e1
  clear e1
  have hp1 : 1 ≤ p ∧ 1 + m ≤ p ∧ p ≤ 5000 := by omega
  have hm5 : m ≤ 5000 := by omega
  have HM : Hid (m ≤ 5000) := Lib.hid hm5
  have g0 : ((p : Int) == 0) = false := by rw [beq_eq_false_iff_ne]; omega
  have g1 : 0 < p := by omega
  have HS4 : Hid (wrap64 tv = tv) := Lib.hid (by unfold wrap64; omega)
  have s3 : wrap64 ((1 : Int) + (m : Int)) = (j : Int) := by rw [w64s (by omega) (by omega) (by omega) (by omega)]; omega
  have HJ : Hid (j = 1 + m) := Lib.hid hj
  clear hj hs hl hn hb hm hr1 hrl s1 s2 hd2 hc hvb hvl htv hp htb hp1 hm5
  have HSW : Hid (∀ wx, Below w.heap.size w wx → Calls Tryz.prog 126 #[.int .i64 (wrap64 tv), .slice A2 (p - j) (c - j)] wx fun e w' => (∃ n, e = .returned (.tuple #[.int .i64 n, .bool vb]) ∧ (vb = true → n = vl)) ∧ Below wx.heap.size wx w') := Lib.hid (by rw [HS4.out]; exact HS.out)
  clear HS HS4
  go_enter Tryz.func124, Tryz.ntmps124
  go_wp2_with fail
  refine HN.out.mono ?_
  rintro e w1 ⟨⟨s, rfl⟩, hb1⟩
  have h01 : w1.cell? ⟨b, off, none⟩ = some (.int .u8 tv) := (hb1.cell (World.block_lt_of_cell? _ _ h0)).trans h0
  have HB1 := Lib.hid hb1
  clear hb1 HN h0
  go_wp2_with fail
  refine start_ (n := 14) (S := fun w' => w'.cell? ⟨b, off, none⟩ = some (.int .u8 tv)) (ds := []) #[false, false, false, false, false, false, false, false, false, false, false, false, false, false] (by kernel_rfl) rfl rfl ((by exact h01)) (fun hHeld => ?_)
  refine with_tabW R124.tab6 R124.bits6 (fun HT_ HW_ => ?_)
  refine pure_ (i := 0) (N := some 22) (v := ?_) (a' := ?_) #[true, false, false, false, false, false, false, false, false, false, false, false, false, false] rfl rfl (any_of HT_.out (by kernel_rfl)) (fun _ _ _ h => h) (Or.inl ⟨by rfl, ?_⟩) ?_ ?_
  rotate_left
  · intro w'
    go_simp
    with_reducible rfl
  rotate_left
  · simp only [Act.put, List.setIfInBounds_toArray, List.set_cons_zero, List.set_cons_succ, i64_w, i32_w]
    rfl
  refine pure_ (i := 1) (N := some 23) (v := ?_) (a' := ?_) #[true, true, false, false, false, false, false, false, false, false, false, false, false, false] rfl rfl (any_of HT_.out (by kernel_rfl)) (fun _ _ _ h => h) (Or.inl ⟨by rfl, ?_⟩) ?_ ?_
  rotate_left
  · intro w'
    go_simp
    with_reducible rfl
  rotate_left
  · simp only [Act.put, List.setIfInBounds_toArray, List.set_cons_zero, List.set_cons_succ, i64_w, i32_w]
    rfl
  refine pure_ (i := 4) (N := some 26) (v := ?_) (a' := ?_) #[true, true, false, false, true, false, false, false, false, false, false, false, false, false] rfl rfl (any_of HT_.out (by kernel_rfl)) (fun _ _ _ h => h) (Or.inl ⟨by rfl, ?_⟩) ?_ ?_
  rotate_left
  · intro w'
    go_simp
    with_reducible rfl
  rotate_left
  · simp only [Act.put, List.setIfInBounds_toArray, List.set_cons_zero, List.set_cons_succ, i64_w, i32_w]
    rfl
  refine pure_ (i := 5) (N := some 27) (v := ?_) (a' := ?_) #[true, true, false, false, true, true, false, false, false, false, false, false, false, false] rfl rfl (any_of HT_.out (by kernel_rfl)) (fun _ _ _ h => h) (Or.inl ⟨by rfl, ?_⟩) ?_ ?_
  rotate_left
  · intro w'
    go_simp
    with_reducible rfl
  rotate_left
  · simp only [Act.put, List.setIfInBounds_toArray, List.set_cons_zero, List.set_cons_succ, i64_w, i32_w]
    rfl
  refine pure_ (i := 6) (N := some 28) (v := ?_) (a' := ?_) #[true, true, false, false, true, true, true, false, false, false, false, false, false, false] rfl rfl (any_of HT_.out (by kernel_rfl)) (fun _ _ _ h => h) (Or.inl ⟨by rfl, ?_⟩) ?_ ?_
  rotate_left
  · intro w'
    go_simp
    with_reducible rfl
  rotate_left
  · simp only [Act.put, List.setIfInBounds_toArray, List.set_cons_zero, List.set_cons_succ, i64_w, i32_w]
    rfl
  refine pure_ (i := 7) (N := some 29) (v := ?_) (a' := ?_) #[true, true, false, false, true, true, true, true, false, false, false, false, false, false] rfl rfl (any_of HT_.out (by kernel_rfl)) (fun _ _ _ h => h) (Or.inl ⟨by rfl, ?_⟩) ?_ ?_
  rotate_left
  · intro w'
    go_simp
    with_reducible rfl
  rotate_left
  · simp only [Act.put, List.setIfInBounds_toArray, List.set_cons_zero, List.set_cons_succ, i64_w, i32_w]
    rfl
  refine take_ (i := 2) (N := some 24) (v := ?_) (a' := ?_) #[true, true, true, false, true, true, true, true, false, false, false, false, false, false] rfl rfl (take_ofW HT_.out HW_.out (by kernel_rfl)) (fun _ _ _ h => h) (Or.inl ⟨by rfl, ?_⟩) hHeld ?_ ?_
  rotate_left
  · intro w' s0
    go_simp
    with_reducible rfl
  rotate_left
  · simp only [Act.put, List.setIfInBounds_toArray, List.set_cons_zero, List.set_cons_succ, i64_w, i32_w]
    rfl
  refine pure_ (i := 3) (N := some 25) (v := ?_) (a' := ?_) #[true, true, true, true, true, true, true, true, false, false, false, false, false, false] rfl rfl (any_of HT_.out (by kernel_rfl)) (fun _ _ _ h => h) (Or.inl ⟨by rfl, ?_⟩) ?_ ?_
  rotate_left
  · intro w'
    go_simp
    with_reducible rfl
  rotate_left
  · simp only [Act.put, List.setIfInBounds_toArray, List.set_cons_zero, List.set_cons_succ, i64_w, i32_w]
    rfl
  refine one_ (i := 8) (N := some 30) #[true, true, true, true, true, true, true, true, true, false, false, false, false, false] rfl rfl (one_of HT_.out (by kernel_rfl)) (by decide) (fun K hK => ?_)
  refine goes_ Tryz.func126 (by kernel_rfl) rfl #[.int .i64 (wrap64 tv), .slice A2 (p - j) (c - j)] (by rfl) rfl rfl (by simp only [List.map_toArray, List.map_cons, List.map_nil]; rfl) ?_
  with_reducible refine (HSW.out _ (bdrew HB1.out)).mono ?_
  rintro e w2 ⟨⟨n, rfl, hn⟩, hb2⟩
  refine ⟨_, rfl, ?_⟩
  refine hK.out _ _ (((hb2.cell (World.block_lt_of_cell? _ _ hHeld)).trans hHeld)) (fun hHeld => ?_)
  clear hK K
  refine norm_ (a' := ?_) ?_ ?_
  rotate_left
  · show Act.put _ (some 30) _ = _
    simp only [Act.put, List.setIfInBounds_toArray, List.set_cons_zero, List.set_cons_succ, i64_w, i32_w]
    rfl
  refine pure_ (i := 9) (N := some 21) (v := ?_) (a' := ?_) #[true, true, true, true, true, true, true, true, true, true, false, false, false, false] rfl rfl (any_of HT_.out (by kernel_rfl)) (fun _ _ _ h => h) (Or.inl ⟨by rfl, ?_⟩) ?_ ?_
  rotate_left
  · intro w'
    go_simp
    with_reducible rfl
  rotate_left
  · simp only [Act.put, List.setIfInBounds_toArray, List.set_cons_zero, List.set_cons_succ, i64_w, i32_w]
    rfl
  refine pure_ (i := 10) (N := some 31) (v := ?_) (a' := ?_) #[true, true, true, true, true, true, true, true, true, true, true, false, false, false] rfl rfl (any_of HT_.out (by kernel_rfl)) (fun _ _ _ h => h) (Or.inl ⟨by rfl, ?_⟩) ?_ ?_
  rotate_left
  · intro w'
    go_simp
    with_reducible rfl
  rotate_left
  · simp only [Act.put, List.setIfInBounds_toArray, List.set_cons_zero, List.set_cons_succ, i64_w, i32_w]
    rfl
  refine pure_ (i := 11) (N := some 32) (v := ?_) (a' := ?_) #[true, true, true, true, true, true, true, true, true, true, true, true, false, false] rfl rfl (any_of HT_.out (by kernel_rfl)) (fun _ _ _ h => h) (Or.inl ⟨by rfl, ?_⟩) ?_ ?_
  rotate_left
  · intro w'
    go_simp
    with_reducible rfl
  rotate_left
  · simp only [Act.put, List.setIfInBounds_toArray, List.set_cons_zero, List.set_cons_succ, i64_w, i32_w]
    rfl
  refine pure_ (i := 12) (N := some 7) (v := ?_) (a' := ?_) #[true, true, true, true, true, true, true, true, true, true, true, true, true, false] rfl rfl (any_of HT_.out (by kernel_rfl)) (fun _ _ _ h => h) (Or.inl ⟨by rfl, ?_⟩) ?_ ?_
  rotate_left
  · intro w'
    go_simp
    with_reducible rfl
  rotate_left
  · simp only [Act.put, List.setIfInBounds_toArray, List.set_cons_zero, List.set_cons_succ, i64_w, i32_w]
    rfl
  refine pure_ (i := 13) (N := some 8) (v := ?_) (a' := ?_) #[true, true, true, true, true, true, true, true, true, true, true, true, true, true] rfl rfl (any_of HT_.out (by kernel_rfl)) (fun _ _ _ h => h) (Or.inl ⟨by rfl, ?_⟩) ?_ ?_
  rotate_left
  · intro w'
    go_simp
    with_reducible rfl
  rotate_left
  · simp only [Act.put, List.setIfInBounds_toArray, List.set_cons_zero, List.set_cons_succ, i64_w, i32_w]
    rfl
  refine done_ (done_of HT_.out (by kernel_rfl)) ?_
  have HB2 := Lib.hid (bthen HB1.out (bleft hb2))
  have HNN := Lib.hid hn
  clear hb2 hn HSW
  go_wp2_with fail
  go_ret2
  clear s3
  refine ⟨⟨_, rfl, fun h => ?_⟩, HB2.out⟩
  have hjj := HJ.out
  have hv := HVL.out h
  have hm := HM.out
  rw [HNN.out h, w64s (by omega) (by omega) hv.1 (by omega)]
  omega
theorem str_ints (l : List UInt8) : strOfNums (ints l) = ⟨l.toArray⟩ := by
  unfold strOfNums ints
  simp
  have h : ((fun n : Int => UInt8.ofNat n.toNat) ∘ fun b : UInt8 => (b.toNat : Int)) = id := by funext b; simp
  first | (rw [h, List.map_id]; done) | (simp [h]; done)
theorem name_loop' (l : List UInt8) (hl : l.length ≤ 1000000) : ∀ m i : Nat, i ≤ l.length → l.length - i = m → (∀ j (h : j < l.length), j < i → l[j] ≠ 0) → ∃ k s, spec_DocName.l0 k (ints l) (i : Int) = some (s, nmOf l) ∧ ((nmOf l).2 = true → s = ⟨(l.take ((nmOf l).1.toNat - 1)).toArray⟩) := by
  intro m
  induction m with
  | zero =>
    intro i hi hm hn
    have : nmOf l = (0, false) := by unfold nmOf; rw [idx_none l (fun j hj => hn j hj (by omega))]; rfl
    refine ⟨1, ⟨#[]⟩, ?_, fun h => by rw [this] at h; cases h⟩
    rw [spec_DocName.l0, ints_len, if_neg (by omega), this]
  | succ m ih =>
    intro i hi hm hn
    have hlt : i < l.length := by omega
    by_cases h0 : l[i] = 0
    · have : nmOf l = ((i : Int) + 1, true) := by unfold nmOf; rw [idx_at l i hlt hn h0, if_neg (by omega)]
      refine ⟨1, strOfNums ((ints l).take i), ?_, fun _ => ?_⟩
      · rw [spec_DocName.l0, ints_len, if_pos (by omega), if_pos (by omega), ints_rd l i hlt, if_pos (by rw [h0]; rfl), if_pos (by omega), w64_in _ (by omega) (by omega), this]
        rfl
      · rw [this, show ((i : Int) + 1).toNat - 1 = i from by omega, ← str_ints]
        simp [ints, List.map_take]
    · obtain ⟨k, s, h, h2⟩ := ih (i + 1) (by omega) (by omega) (fun j hj hjk => by
        by_cases e : j = i
        · subst e; exact h0
        · exact hn j hj (by omega))
      refine ⟨k + 1, s, ?_, h2⟩
      rw [spec_DocName.l0, ints_len, if_pos (by omega), if_pos (by omega), ints_rd l i hlt, if_neg (fun e => h0 (toNat_zero _ e)), w64_in _ (by omega) (by omega)]
      rw [show ((i + 1 : Nat) : Int) = (i : Int) + 1 from by omega] at h
      exact h
theorem docNameS (A : Option Addr) (c : Nat) (nm v : List UInt8) (w : World) (hs : SB w A c (nm ++ 0 :: v)) (hp : plainB nm = true) (hl : (nm ++ 0 :: v).length ≤ 1000000) :
    Calls Tryz.prog 109 #[.slice A (nm ++ 0 :: v).length c] w fun e w' => e = .returned (.tuple #[.string ⟨nm.toArray⟩, .int .i64 ((nm.length : Int) + 1), .bool true]) ∧ Below w.heap.size w w' := by
  have hn : nmOf (nm ++ 0 :: v) = ((nm.length : Int) + 1, true) := by
    unfold nmOf
    rw [show Lib.indexByte (nm ++ 0 :: v) 0 = nm.length from index_plain nm v hp, if_neg (by omega)]
  obtain ⟨k, s, hf, h2⟩ := name_loop' (nm ++ 0 :: v) hl _ 0 (Nat.zero_le _) rfl (fun j h hj => absurd hj (by omega))
  have hs2 : s = ⟨nm.toArray⟩ := by
    rw [h2 (by rw [hn]), hn, show ((nm.length : Int) + 1).toNat - 1 = nm.length from by omega]
    simp
  rw [hn, hs2] at hf
  have h := spec_DocName.calls k A c (ints (nm ++ 0 :: v)) _ _ _ w (kd_bytes hs) (by rw [ints_len]; exact hs.le) hf
  rw [ints_len] at h
  refine h.mono ?_
  rintro e w' ⟨rfl, hd⟩
  exact ⟨rfl, hd.below⟩
theorem first_nil (A : Option Addr) (c : Nat) (w : World) :
    Calls Tryz.prog 124 #[.slice A 0 c] w fun e w' => e = .returned (.tuple #[.int .i64 0, .bool false]) ∧ Below w.heap.size w w' := by
  go_enter Tryz.func124, Tryz.ntmps124
  go_wp2_with fail
  go_ret2
  exact ⟨rfl, Below.refl _ _⟩
theorem first_noname (A : Option Addr) (c : Nat) (t : UInt8) (r : List UInt8) (w : World) (hs : SB w A c (t :: r)) (hl : (t :: r).length ≤ 5000) (hn : (nmOf r).2 = false) :
    Calls Tryz.prog 124 #[.slice A (t :: r).length c] w fun e w' => e = .returned (.tuple #[.int .i64 0, .bool false]) ∧ Below w.heap.size w w' := by
  obtain ⟨A1, e1, s1⟩ := SB.from_ (P := Tryz.prog) Tryz.underlying22 rfl rfl .i64 A c (t :: r) 1 (by simp) hs.le
  have hr1 : (t :: r).drop 1 = r := rfl
  have hrl : (t :: r).length = r.length + 1 := by simp
  have HN : Hid (Calls Tryz.prog 109 #[.slice A1 ((t :: r).length - 1) (c - 1)] w fun e w' => (∃ s n, e = .returned (.tuple #[.string s, .int .i64 n, .bool false])) ∧ Below w.heap.size w w') := Lib.hid (by
    have h := docName A1 (c - 1) r w (by have := s1 w hs; rwa [hr1] at this) (by omega)
    rw [hn] at h
    rw [show (t :: r).length - 1 = r.length from by omega]
    exact h.mono fun e w' ⟨⟨s, a⟩, b⟩ => ⟨⟨s, _, a⟩, b⟩)
  obtain ⟨p, hp⟩ : ∃ p, p = (t :: r).length := ⟨_, rfl⟩
  rw [← hp] at hrl e1 HN hl ⊢
  have e1' : ∀ W : World, (Instr.slice 22 (.slice A p c) (some (.int .i64 1)) none none).run Tryz.prog W = .ok (.slice A1 (p - 1) (c - 1)) W := e1
  clear e1
  have g0 : ((p : Int) == 0) = false := by rw [beq_eq_false_iff_ne]; omega
  have g1 : 1 ≤ p := by omega
  have hcl := hs.le
  rw [← hp] at hcl
  clear hs hl hn hr1 hrl s1 hp
  go_enter Tryz.func124, Tryz.ntmps124
  go_wp2_with fail
  refine HN.out.mono ?_
  rintro e w1 ⟨⟨s, n, rfl⟩, hb1⟩
  have HB1 := Lib.hid hb1
  clear hb1 HN
  go_wp2_with fail
  go_ret2
  exact ⟨rfl, HB1.out⟩
/-- DocFirst, for all bytes. -/
theorem docFirst (A : Option Addr) (c : Nat) (l : List UInt8) (w : World) (hs : SB w A c l) (hl : l.length ≤ 5000) :
    Calls Tryz.prog 124 #[.slice A l.length c] w fun e w' => ((∃ k, firstN l = some k ∧ e = .returned (.tuple #[.int .i64 (k : Int), .bool true])) ∨ (firstN l = none ∧ ∃ n, e = .returned (.tuple #[.int .i64 n, .bool false]))) ∧ Below w.heap.size w w' := by
  match l, hs, hl with
  | [], hs, hl =>
    refine (first_nil A c w).mono ?_
    rintro e w' ⟨rfl, h⟩
    exact ⟨.inr ⟨rfl, _, rfl⟩, h⟩
  | t :: r, hs, hl =>
    cases hn : (nmOf r).2 with
    | false =>
      refine (first_noname A c t r w hs hl hn).mono ?_
      rintro e w' ⟨rfl, h⟩
      exact ⟨.inr ⟨by simp [firstN, hn], _, rfl⟩, h⟩
    | true =>
      refine (first_some A c t r w hs hl hn).mono ?_
      rintro e w' ⟨⟨n, rfl, h1⟩, h⟩
      cases hv : valIs (t.toNat : Int) (r.drop (nmOf r).1.toNat) with
      | false => exact ⟨.inr ⟨by simp only [firstN, hn, hv, if_true]; simp, n, rfl⟩, h⟩
      | true =>
        have hb := nm_bd' r
        have hn1 := valLen_nn (k := (t.toNat : Int)) (l := r.drop (nmOf r).1.toNat) (by unfold valIs at hv; rw [Bool.and_eq_true] at hv; exact hv.1)
        refine ⟨.inl ⟨1 + (nmOf r).1.toNat + (valLen (t.toNat : Int) (r.drop (nmOf r).1.toNat)).1.toNat, by simp only [firstN, hn, hv, if_true], ?_⟩, h⟩
        rw [h1 hv]
        congr 5
        omega
end Ck
end Go.Proofs.YtbpopaegfhcdpaaGreatDoor.X


/- spec.docPart and DocGood. -/
set_option linter.unusedVariables false
set_option linter.unusedSimpArgs false
set_option maxRecDepth 100000
namespace Go.Proofs.YtbpopaegfhcdpaaGreatDoor.X
open Go.RowKit Go.Proofs.YtbpopaegfhcdpaaGreatDoorW.PrintLast
namespace Ck
open Sp Al Av Aw

theorem bset9 {B g o : Nat} {w w1 : World} (h : Below B w w1) (hg : B ≤ g) (v : Value) : Below B w (w1.setCell ⟨g, o, none⟩ v) := h.setCell hg v
set_option maxHeartbeats 1000000 in
theorem docPart (A : Option Addr) (c : Nat) (t : UInt8) (nm v : List UInt8) (w : World) (hs : SB w A c (t :: (nm ++ 0 :: v))) (hpl : plainB nm = true) (hl : (t :: (nm ++ 0 :: v)).length ≤ 5000) :
    Calls Tryz.prog 125 #[.slice A (t :: (nm ++ 0 :: v)).length c] w fun e w' => (∃ A2 c2, e = .returned (.agg #[.string ⟨nm.toArray⟩, .int .i64 (t.toNat : Int), .slice A2 v.length c2, .slice A (t :: (nm ++ 0 :: v)).length c]) ∧ ∀ wx, SB wx A c (t :: (nm ++ 0 :: v)) → SB wx A2 c2 v) ∧ Below w.heap.size w w' := by
  obtain ⟨A1, e1, s1⟩ := SB.from_ (P := Tryz.prog) Tryz.underlying22 rfl rfl .i64 A c (t :: (nm ++ 0 :: v)) 1 (by simp) hs.le
  obtain ⟨j, hj⟩ : ∃ j, j = nm.length + 2 := ⟨_, rfl⟩
  have hlen : (t :: (nm ++ 0 :: v)).length = j + v.length := by rw [hj]; simp; omega
  obtain ⟨A2, e2, s2⟩ := SB.from_ (P := Tryz.prog) Tryz.underlying22 rfl rfl .i64 A c (t :: (nm ++ 0 :: v)) j (by omega) hs.le
  have hd1 : (t :: (nm ++ 0 :: v)).drop 1 = nm ++ 0 :: v := rfl
  have hd2 : (t :: (nm ++ 0 :: v)).drop j = v := by
    rw [hj, List.drop_succ_cons, List.drop_append, List.drop_of_length_le (by omega), show nm.length + 1 - nm.length = 1 from by omega]
    rfl
  have HV : Hid (∀ wx, SB wx A c (t :: (nm ++ 0 :: v)) → SB wx A2 (c - j) v) := Lib.hid fun wx h => by have := s2 wx h; rwa [hd2] at this
  have HN : Hid (∀ wx, Below w.heap.size w wx → Calls Tryz.prog 109 #[.slice A1 ((t :: (nm ++ 0 :: v)).length - 1) (c - 1)] wx fun e w' => e = .returned (.tuple #[.string ⟨nm.toArray⟩, .int .i64 ((nm.length : Int) + 1), .bool true]) ∧ Below wx.heap.size wx w') := Lib.hid fun wx hx => by
    have h := docNameS A1 (c - 1) nm v wx (by have := s1 wx (hs.keep hx); rwa [hd1] at this) hpl (by simp at hl ⊢; omega)
    rw [show (t :: (nm ++ 0 :: v)).length - 1 = (nm ++ 0 :: v).length from by simp]
    exact h
  obtain ⟨b, off, rfl, hc⟩ := hs.cells (by simp)
  have h0 : w.cell? ⟨b, off, none⟩ = some (.int .u8 (t.toNat : Int)) := hc 0 (by simp)
  obtain ⟨tv, htv⟩ : ∃ x, x = (t.toNat : Int) := ⟨_, rfl⟩
  rw [← htv] at h0 ⊢
  have HS4 : Hid (wrap64 tv = tv) := Lib.hid (by rw [htv]; have := t.toNat_lt; unfold wrap64; omega)
  obtain ⟨S, hS⟩ : ∃ s : ByteArray, s = ⟨nm.toArray⟩ := ⟨_, rfl⟩
  obtain ⟨n1, hn1⟩ : ∃ n1 : Int, n1 = (nm.length : Int) + 1 := ⟨_, rfl⟩
  rw [← hS, ← hn1] at HN
  rw [← hS]
  obtain ⟨p, hp⟩ : ∃ p, p = (t :: (nm ++ 0 :: v)).length := ⟨_, rfl⟩
  have hvl : p - j = v.length := by omega
  rw [← hp] at e1 e2 HN hl ⊢
  rw [hvl] at e2
  have e1' : ∀ W : World, (Instr.slice 22 (.slice (some ⟨b, off, none⟩) p c) (some (.int .i64 1)) none none).run Tryz.prog W = .ok (.slice A1 (p - 1) (c - 1)) W := e1
  obtain ⟨q, hq⟩ : ∃ q, q = v.length := ⟨_, rfl⟩
  rw [← hq] at e2 ⊢
  have g1 : 0 < p := by omega
  have hblt := World.block_lt_of_cell? _ _ h0
  have HW : Hid (wrap64 ((1 : Int) + n1) = (j : Int)) := Lib.hid (by rw [w64s (by omega) (by omega) (by omega) (by omega)]; omega)
  clear e1 hs hl hpl hlen s1 s2 hd1 hd2 hc htv hS hn1 hp hvl hq hj
  go_enter Tryz.func125, Tryz.ntmps125
  go_wp2_with fail
  refine (HN.out _ (balloc (Below.refl _ _) (Nat.le_refl _) _)).mono ?_
  rintro e w1 ⟨rfl, hb⟩
  have hb1 : Below (w.heap.size + 1) (w.alloc (.cells #[.string ⟨#[]⟩, .int .i64 0, .slice none 0 0, .slice none 0 0] 123)) w1 := by simpa using hb
  have q0 := boxc hb1 0
  have q1 := boxc hb1 1
  have q2 := boxc hb1 2
  have q3 := boxc hb1 3
  simp only [List.getElem?_cons_succ, List.getElem?_cons_zero] at q0 q1 q2 q3
  have f0 := boxf hb1 0
  have f1 := boxf hb1 1
  have f2 := boxf hb1 2
  have f3 := boxf hb1 3
  have hz1 := boxs hb1
  have hlt : w.heap.size < w1.heap.size := by omega
  have h01 : w1.cell? ⟨b, off, none⟩ = some (.int .u8 tv) := ((boxb hb1).cell hblt).trans h0
  have HB := Lib.hid (boxb hb1)
  have s3 := HW.out
  clear hb hb1 HN h0 hz1
  go_wp2_with fail
  go_region
  go_wp2_with fail
  rw [HS4.out]
  exact bodyPost_ret (v := .agg #[.string S, .int .i64 tv, .slice A2 q (c - j), .slice (some ⟨b, off, none⟩) p c]) (by simp [results, Tryz.results125, go_sem, q0, q1, q2, q3]) rfl ⟨⟨A2, c - j, rfl, HV.out⟩, bdrew (bset9 (bset9 (bset9 (bset9 HB.out (Nat.le_refl _) _) (Nat.le_refl _) _) (Nat.le_refl _) _) (Nat.le_refl _) _)⟩
theorem docGood (A2 A3 : Option Addr) (c2 n3 c3 : Nat) (v : List UInt8) (s : ByteArray) (k : Int) (w : World) (hs : SB w A2 c2 v) (hl : v.length ≤ 5000) :
    Calls Tryz.prog 68 #[.agg #[.string s, .int .i64 k, .slice A2 v.length c2, .slice A3 n3 c3]] w fun e w' => e = .returned (.bool (valIs k v)) ∧ Below w.heap.size w w' := by
  have HD := Lib.hid (fun wx (h : Below w.heap.size w wx) => docSpan A2 c2 v k wx (hs.keep h) hl)
  obtain ⟨p, hp⟩ : ∃ p, p = v.length := ⟨_, rfl⟩
  obtain ⟨vb, hvb⟩ : ∃ x, x = valIs k v := ⟨_, rfl⟩
  rw [← hp, ← hvb] at HD
  rw [← hp, ← hvb]
  clear hs hl hp hvb
  go_enter Tryz.func68, Tryz.ntmps68
  go_wp2_with fail
  refine (HD.out _ (balloc (Below.refl _ _) (Nat.le_refl _) _)).mono ?_
  rintro e w1 ⟨n, b, rfl, rfl, h3, hb⟩
  have HB := Lib.hid ((balloc (Below.refl _ _) (Nat.le_refl _) (.cells #[.string s, .int .i64 k, .slice A2 p c2, .slice A3 n3 c3] 123)).trans (hb.mono (by simp)))
  clear hb h3 HD
  go_wp2_with fail
  go_ret
  exact ⟨rfl, HB.out⟩
end Ck
end Go.Proofs.YtbpopaegfhcdpaaGreatDoor.X


/- spec.DocParts. -/
set_option linter.unusedVariables false
set_option linter.unusedSimpArgs false
set_option maxRecDepth 100000
namespace Go.Proofs.YtbpopaegfhcdpaaGreatDoor.X
open Go.RowKit Go.Proofs.YtbpopaegfhcdpaaGreatDoorW.PrintLast
namespace Ck
open Sp Al Av Aw
abbrev Pt := UInt8 × List UInt8 × List UInt8
/-- The elements that are read one after the other, what follows them, and whether all are. -/
def pts : Nat → Int → List UInt8 → List Pt × (List UInt8 × Bool)
  | 0, _, rem => ([], rem, false)
  | f + 1, left, rem => if 1 < left then (match firstN rem with
      | none => ([], rem, false)
      | some k => (((rem.headD 0, elName rem, (rem.take k).drop (elName rem).length.succ.succ) : Pt) :: (pts f (left - k) (rem.drop k)).1, (pts f (left - k) (rem.drop k)).2))
    else ([], rem, true)
/-- The cells of an element's part. -/
def PtC (w : World) (p : Pt) (cs : List Value) : Prop := ∃ A2 c2 A3 n3 c3, cs = [.string ⟨p.2.1.toArray⟩, .int .i64 (p.1.toNat : Int), .slice A2 p.2.2.length c2, .slice A3 n3 c3] ∧ SB w A2 c2 p.2.2 ∧ p.2.2.length ≤ 5000
def PtsC (w : World) : List Pt → List Value → Prop
  | [], xs => xs = []
  | p :: r, xs => ∃ cs ys, xs = cs ++ ys ∧ PtC w p cs ∧ PtsC w r ys
theorem PtsC.snoc {w : World} {p : Pt} {cs : List Value} (h : PtC w p cs) : ∀ {P : List Pt} {xs : List Value}, PtsC w P xs → PtsC w (P ++ [p]) (xs ++ cs)
  | [], xs, hx => by
    have : xs = [] := hx
    subst this
    exact ⟨cs, [], by simp, h, rfl⟩
  | a :: r, xs, hx => by
    obtain ⟨c1, y1, rfl, h1, h2⟩ := hx
    exact ⟨c1, y1 ++ cs, by simp, h1, PtsC.snoc h h2⟩
theorem PtC.len {w : World} {p : Pt} {cs : List Value} (h : PtC w p cs) : cs.length = 4 := by
  obtain ⟨A2, c2, A3, n3, c3, rfl, -⟩ := h
  rfl
/-- The part with a number. -/
theorem PtsC.at {w : World} : ∀ {P : List Pt} {xs : List Value}, PtsC w P xs → ∀ i (hi : i < P.length), ∃ cs, PtC w P[i] cs ∧ ∀ j, j < 4 → xs[4 * i + j]? = cs[j]?
  | [], xs, h, i, hi => absurd hi (by simp)
  | p :: r, xs, ⟨cs, ys, e, h1, h2⟩, 0, hi => ⟨cs, h1, fun j hj => by
      have := h1.len
      rw [e, show 4 * 0 + j = j from by omega, List.getElem?_append_left (by omega)]⟩
  | p :: r, xs, ⟨cs, ys, e, h1, h2⟩, i + 1, hi => by
    obtain ⟨c2, h3, h4⟩ := PtsC.at h2 i (by simpa using hi)
    have := h1.len
    refine ⟨c2, h3, fun j hj => ?_⟩
    rw [e, List.getElem?_append_right (by omega), show 4 * (i + 1) + j - cs.length = 4 * i + j from by omega]
    exact h4 j hj
theorem infoP : (Tryz.prog.info? 123).map (fun i => (i.zero, i.size, i.bytes)) = some (some (.agg #[.string ⟨#[]⟩, .int .i64 0, .slice none 0 0, .slice none 0 0]), 4, 72) := by kernel_rfl
/-- docPart of the first element. -/
theorem partOf (A : Option Addr) (c : Nat) (rem : List UInt8) (k : Nat) (w wx : World) (hs : SB w A c (rem.take k)) (hk : firstN rem = some k) (hl : rem.length ≤ 5000) (hkl : k ≤ rem.length) (hb : Below w.heap.size w wx) :
    Calls Tryz.prog 125 #[.slice A k c] wx fun e w' => (∃ cs, e = .returned (.agg cs.toArray) ∧ PtC w (rem.headD 0, elName rem, (rem.take k).drop (elName rem).length.succ.succ) cs) ∧ Below wx.heap.size wx w' := by
  obtain ⟨t, nm, v, h1, h2, h3⟩ := first_split rem k hk
  have hlen : (rem.take k).length = k := by rw [List.length_take]; omega
  have h := docPart A c t nm v wx (by rw [← h1]; exact hs.keep hb) h2 (by rw [← h1, hlen]; omega)
  rw [← h1, hlen] at h
  have hhd : rem.headD 0 = t := by
    cases rem with
    | nil => simp at h1
    | cons x r =>
      cases k with
      | zero => simp at h1
      | succ k => rw [List.take_succ_cons] at h1; exact (List.cons.inj h1).1
  have hv : (rem.take k).drop (elName rem).length.succ.succ = v := by
    rw [h1, h3, List.drop_succ_cons, List.drop_append, List.drop_of_length_le (by omega), show nm.length.succ - nm.length = 1 from by omega]
    rfl
  refine h.mono ?_
  rintro e w' ⟨⟨A2, c2, rfl, hh⟩, hb2⟩
  refine ⟨⟨[.string ⟨nm.toArray⟩, .int .i64 (t.toNat : Int), .slice A2 v.length c2, .slice A k c], rfl, A2, c2, A, k, c, ?_, ?_, ?_⟩, hb2⟩
  · rw [hv, h3, hhd]
  · show SB w A2 c2 ((rem.take k).drop (elName rem).length.succ.succ)
    rw [hv]
    exact hh w hs
  · show ((rem.take k).drop (elName rem).length.succ.succ).length ≤ 5000
    rw [List.length_drop, hlen]
    omega
theorem first_bd (l : List UInt8) (k : Nat) (h : firstN l = some k) : 2 ≤ k ∧ k ≤ l.length := by
  match l, h with
  | t :: r, h =>
    cases hn : (nmOf r).2 with
    | false => simp [firstN, hn] at h
    | true =>
      obtain ⟨nm, bl, rfl, hp, e1, e2⟩ := nm_split r hn
      have e3 : (nm ++ 0 :: bl).drop (nm.length + 1) = bl := by rw [← e1]; exact e2
      simp only [firstN, hn, e1, e3, if_true] at h
      cases hv : valIs (t.toNat : Int) bl with
      | false => rw [hv] at h; simp at h
      | true =>
        rw [hv] at h
        simp only [if_true, Option.some.injEq] at h
        obtain ⟨n, h1, h2⟩ := valLen_of_is hv
        have h3 : (valLen (t.toNat : Int) bl).1.toNat = n := by rw [h1]; simp
        rw [h3] at h
        simp
        omega
theorem pts_step (f : Nat) (left : Int) (rem : List UInt8) (k : Nat) (h1 : 1 < left) (h2 : firstN rem = some k) : pts (f + 1) left rem = (((rem.headD 0, elName rem, (rem.take k).drop (elName rem).length.succ.succ) : Pt) :: (pts f (left - k) (rem.drop k)).1, (pts f (left - k) (rem.drop k)).2) := by
  rw [pts, if_pos h1, h2]
theorem pts_none (f : Nat) (left : Int) (rem : List UInt8) (h1 : 1 < left) (h2 : firstN rem = none) : pts (f + 1) left rem = ([], rem, false) := by
  rw [pts, if_pos h1, h2]
theorem pts_end (f : Nat) (left : Int) (rem : List UInt8) (h1 : ¬ 1 < left) : pts (f + 1) left rem = ([], rem, true) := by
  rw [pts, if_neg h1]
theorem rnd2 {left : Int} {k q : Nat} (h1 : 1 < left) (h2 : left ≤ 2147483647) (h3 : k ≤ q) (h4 : q ≤ 5000) : wrap64 (left - k) = left - k := by unfold wrap64; omega
set_option maxHeartbeats 4000000 in
theorem docParts (A : Option Addr) (c : Nat) (l : List UInt8) (nn : Int) (w : World) (hs : SB w A c l) (hl : l.length ≤ 5000) (hr : numOf l = (nn, true)) (h0 : 0 ≤ nn) (hmx : nn ≤ 2147483647) :
    Calls Tryz.prog 67 #[.slice A l.length c] w fun e w' => (∃ v n A2 q c2 ok xs, e = .returned (.tuple #[v, .slice A2 q c2, .bool ok]) ∧ ON 123 4 w' w.heap.size v n xs ∧ n ≤ 5000 ∧ PtsC w (pts (l.length + 1) (nn - 4) (l.drop 4)).1 xs ∧ n = (pts (l.length + 1) (nn - 4) (l.drop 4)).1.length ∧ q = (pts (l.length + 1) (nn - 4) (l.drop 4)).2.1.length ∧ ok = (pts (l.length + 1) (nn - 4) (l.drop 4)).2.2 ∧ SB w A2 c2 (pts (l.length + 1) (nn - 4) (l.drop 4)).2.1) ∧ Below w.heap.size w w' := by
  obtain ⟨TOT, hT⟩ : ∃ x, x = pts (l.length + 1) (nn - 4) (l.drop 4) := ⟨_, rfl⟩
  rw [← hT]
  have h4 : 4 ≤ l.length := num_long l (by rw [hr])
  have HN : Hid (Calls Tryz.prog 43 #[.slice A l.length c] w fun e w' => e = .returned (.tuple #[.int .i64 nn, .bool true]) ∧ Below w.heap.size w w') := Lib.hid (by have h := docNumber A c l w hs; rw [hr] at h; exact h)
  obtain ⟨A1, e1, s1⟩ := SB.from_ (P := Tryz.prog) Tryz.underlying22 rfl rfl .i64 A c l 4 h4 hs.le
  have HS1 := Lib.hid (s1 w hs)
  obtain ⟨p, hp⟩ : ∃ p, p = l.length := ⟨_, rfl⟩
  rw [← hp] at e1 HN hl h4 ⊢
  have e1' : ∀ W : World, (Instr.slice 22 (.slice A p c) (some (.int .i64 4)) none none).run Tryz.prog W = .ok (.slice A1 (p - 4) (c - 4)) W := e1
  have hcl := hs.le
  rw [← hp] at hcl
  have HD : Hid ((l.drop 4).length = p - 4 ∧ p ≤ 5000 ∧ nn ≤ 2147483647 ∧ pts (p + 1) (nn - 4) (l.drop 4) = TOT) := Lib.hid ⟨by rw [List.length_drop, hp], hl, hmx, by rw [hp, hT]⟩
  have n0 : decide (nn < 0) = false := decide_eq_false (by omega)
  have HW : Hid (wrap64 (nn - 4) = nn - 4) := Lib.hid (by unfold wrap64; omega)
  clear e1 s1 hs hl hr h0 hmx hp hT
  have i4 := HW.out
  go_enter Tryz.func67, Tryz.ntmps67
  go_wp2_with fail
  refine HN.out.mono ?_
  rintro e w1 ⟨rfl, hb1⟩
  have HB1 := Lib.hid hb1
  clear hb1 HN
  go_wp2_with fail
  go_loopw [2, 3, 7] (fun a b n7 wr => ∃ (left : Int) (q n cv : Nat) (Av A2 : Option Addr) (c2 : Nat), a = .slice Av n cv ∧ b = .slice A2 q c2 ∧ n7 = .int .i64 left ∧ left ≤ 2147483647 ∧ q ≤ 5000 ∧ n ≤ 5000 ∧ q ≤ c2 ∧ Hid (∃ rem f P xs, q = rem.length ∧ SB w A2 c2 rem ∧ ON 123 4 wr w.heap.size (.slice Av n cv) n xs ∧ PtsC w P xs ∧ n = P.length ∧ P ++ (pts (f + 1) left rem).1 = TOT.1 ∧ (pts (f + 1) left rem).2 = TOT.2 ∧ rem.length ≤ f ∧ n + rem.length ≤ 5000) ∧ Hid (Below w.heap.size w wr)) (fun _ _ a _ => (intOf a).toNat)
  case atStart =>
    have hD := HD.out
    have hle := HS1.out.le
    rw [hD.1] at hle
    exact ⟨nn - 4, p - 4, 0, 0, none, A1, c - 4, rfl, rfl, by rw [i4], by omega, by omega, by omega, hle, Lib.hid ⟨l.drop 4, p, [], [], hD.1.symm, HS1.out, ON.nil _ _, rfl, rfl, by rw [hD.2.2.2]; rfl, by rw [hD.2.2.2], by omega, by omega⟩, HB1⟩
  case round =>
    obtain ⟨left, q, n, cv, Av, A2, c2, rfl, rfl, rfl, hle, hq, hn5, hqc, ⟨rem, f, P, xs, hqr, hs2, ho, hps, hnp, ht1, ht2, hf, hn6⟩, HB2⟩ := hrel
    clear i4 n0
    by_cases hlt : 1 < left
    · have HF := Lib.hid (docFirst A2 c2 rem wr (hs2.keep HB2.out) (by omega))
      rw [← hqr] at HF
      have d1 : decide (1 < left) = true := decide_eq_true hlt
      have HX : Hid (q = rem.length ∧ SB w A2 c2 rem ∧ PtsC w P xs ∧ n = P.length ∧ P ++ (pts (f + 1) left rem).1 = TOT.1 ∧ (pts (f + 1) left rem).2 = TOT.2 ∧ rem.length ≤ f ∧ n + rem.length ≤ 5000 ∧ 1 < left ∧ left ≤ 2147483647 ∧ q ≤ 5000 ∧ n ≤ 5000 ∧ q ≤ c2) := Lib.hid ⟨hqr, hs2, hps, hnp, ht1, ht2, hf, hn6, hlt, hle, hq, hn5, hqc⟩
      have HO := Lib.hid ho
      clear hqr hs2 ho hps hnp ht1 ht2 hf hn6 hlt hle hq hn5 hqc
      go_wp2_with fail
      refine HF.out.mono ?_
      rintro e w2 ⟨(⟨k, hk, rfl⟩ | ⟨hk, n9, rfl⟩), hb2⟩
      · obtain ⟨x1, x2, x3, x4, x5, x6, x7, x8, x9, x10, x11, x12, x13⟩ := HX.out
        obtain ⟨k2, kq⟩ := first_bd rem k hk
        obtain ⟨A4, e4, s4⟩ := SB.to_ (P := Tryz.prog) Tryz.underlying22 rfl rfl .i64 A2 c2 rem k kq x2.le
        obtain ⟨A5, e5, s5⟩ := SB.from_ (P := Tryz.prog) Tryz.underlying22 rfl rfl .i64 A2 c2 rem k kq x2.le
        rw [← x1] at e4 e5
        have HP := Lib.hid (fun wx (h : Below w.heap.size w wx) => partOf A4 c2 rem k w wx (s4 w x2) hk (by omega) kq h)
        have HS5 := Lib.hid (s5 w x2)
        have HW := Lib.hid (rnd2 x9 x10 (show k ≤ q from by omega) x11)
        have HK : Hid (firstN rem = some k ∧ 2 ≤ k ∧ k ≤ rem.length) := Lib.hid ⟨hk, k2, kq⟩
        have HBB := Lib.hid (bthen HB2.out hb2)
        have HO2 := Lib.hid (HO.out.keep hb2)
        have hkq : k ≤ q := by omega
        have hn7 : n ≤ 5000 := x12
        clear x1 x2 x3 x4 x5 x6 x7 x8 x9 x10 x11 x12 x13 k2 kq s4 s5 hk hb2 HF HO
        go_wp2_with fail
        refine (HP.out _ HBB.out).mono ?_
        rintro e w3 ⟨⟨cs, rfl, hpc⟩, hb3⟩
        have HPC := Lib.hid hpc
        obtain ⟨B2, d2, B3, n3, d3, rfl, -, -⟩ := hpc
        have HB3 := Lib.hid (bthen HBB.out hb3)
        have HO3 := Lib.hid (HO2.out.keep hb3)
        have hz3 : w.heap.size ≤ w3.heap.size := HB3.out.size
        clear hb3 HP HO2 HBB
        obtain ⟨z0, hz0⟩ : ∃ s : ByteArray, s = ⟨((rem.headD 0, elName rem, (rem.take k).drop (elName rem).length.succ.succ) : Pt).2.1.toArray⟩ := ⟨_, rfl⟩
        obtain ⟨z1, hz1⟩ : ∃ x : Int, x = ((((rem.headD 0, elName rem, (rem.take k).drop (elName rem).length.succ.succ) : Pt).1.toNat : Nat) : Int) := ⟨_, rfl⟩
        obtain ⟨z2, hz2⟩ : ∃ x : Nat, x = ((rem.headD 0, elName rem, (rem.take k).drop (elName rem).length.succ.succ) : Pt).2.2.length := ⟨_, rfl⟩
        rw [← hz0, ← hz1, ← hz2] at HPC
        rw [← hz0, ← hz1, ← hz2]
        clear hz0 hz1 hz2
        have s9 := HW.out
        go_wp2_with (first | (refine wp_appN (E := 123) (sz := 4) (.tmp 37) (.tmp 42) 119 rfl rfl (.agg #[.string ⟨#[]⟩, .int .i64 0, .slice none 0 0, .slice none 0 0]) 72 infoP rfl (by decide) Tryz.underlying119 _ w.heap.size (.slice Av n cv) n xs w3.heap.size 1 [.string z0, .int .i64 z1, .slice B2 z2 d2, .slice B3 n3 d3] rfl rfl ?a1 ?a2 ?a3 ?a4 ?a5 ?a6 ?a7 ?_) | fail)
        case a1 => exact HO3.out.alloc _
        case a2 => rfl
        case a3 => exact fun j u h => (boxc (w := w3) (cs := [.string z0, .int .i64 z1, .slice B2 z2 d2, .slice B3 n3 d3]) (t := 123) (Below.refl _ _) j).trans h
        case a4 => simp; omega
        case a5 => simp [Value.oneCell']
        case a6 => omega
        case a7 => omega
        intro v4 w4 h4
        have hkept := h4.kept (HO3.out.alloc (.cells #[.string z0, .int .i64 z1, .slice B2 z2 d2, .slice B3 n3 d3] 123)) (by simp; omega)
        obtain ⟨Aw, cw, rfl⟩ := h4.own.form
        have HO4 := Lib.hid h4.own
        have HB4 : Hid (Below w.heap.size w w4) := Lib.hid ((balloc HB3.out hz3 _).trans hkept)
        clear h4 hkept
        go_wp2_with fail
        go_roundw
        case rel =>
          obtain ⟨x1, x2, x3, x4, x5, x6, x7, x8, x9, x10, x11, x12, x13⟩ := HX.out
          obtain ⟨y1, y2, y3⟩ := HK.out
          obtain ⟨f', rfl⟩ : ∃ f', f = f' + 1 := ⟨f - 1, by omega⟩
          rw [pts_step (f' + 1) left rem k x9 y1] at x5 x6
          refine ⟨left - k, q - k, n + 1, cw, Aw, A5, c2 - k, rfl, rfl, by first | rfl | (rw [s9]), by omega, by omega, by omega, by omega, Lib.hid ⟨rem.drop k, f', _, _, by rw [List.length_drop]; omega, HS5.out, HO4.out, PtsC.snoc HPC.out x3, by simp; omega, ?_, x6, by rw [List.length_drop]; omega, by rw [List.length_drop]; omega⟩, HB4⟩
          rw [← x5]
          simp
        case measure =>
          have hm := meas1 HX.out.2.2.2.2.2.2.2.2.1 HK.out.2.1
          first | exact hm | (rw [s9]; exact hm) | simpa [intOf] using hm
      · have HK := Lib.hid hk
        have HBB := Lib.hid (bthen HB2.out hb2)
        have HO2 := Lib.hid (HO.out.keep hb2)
        clear hk hb2 HF HO
        go_wp2_with fail
        go_ret3
        obtain ⟨x1, x2, x3, x4, x5, x6, x7, x8, x9, x10, x11, x12, x13⟩ := HX.out
        rw [pts_none f left rem x9 HK.out] at x5 x6
        refine ⟨⟨_, n, A2, q, c2, false, xs, rfl, HO2.out, x12, ?_, ?_, ?_, ?_, ?_⟩, HBB.out⟩
        · rw [← x5]; simpa using x3
        · rw [← x5]; simpa using x4
        · rw [← x6]; exact x1
        · rw [← x6]
        · rw [← x6]; exact x2
    · have d1 : decide (1 < left) = false := decide_eq_false hlt
      rw [pts_end f left rem hlt] at ht1 ht2
      have HX : Hid (q = rem.length ∧ SB w A2 c2 rem ∧ PtsC w P xs ∧ n = P.length ∧ P = TOT.1 ∧ (rem, true) = TOT.2 ∧ n ≤ 5000) := Lib.hid ⟨hqr, hs2, hps, hnp, by simpa using ht1, ht2, hn5⟩
      have HO := Lib.hid ho
      clear hqr hs2 ho hps hnp ht1 ht2 hf hn6 hlt hle hq hn5 hqc
      go_wp2_with fail
      go_ret3
      obtain ⟨x1, x2, x3, x4, x5, x6, x7⟩ := HX.out
      refine ⟨⟨_, n, A2, q, c2, true, xs, rfl, HO.out, x7, ?_, ?_, ?_, ?_, ?_⟩, HB2.out⟩
      · rw [← x5]; exact x3
      · rw [← x5]; exact x4
      · rw [← x6]; exact x1
      · rw [← x6]
      · rw [← x6]; exact x2
end Ck
end Go.Proofs.YtbpopaegfhcdpaaGreatDoor.X


/- spec.DocCheck. -/
set_option linter.unusedVariables false
set_option linter.unusedSimpArgs false
set_option maxRecDepth 100000
namespace Go.Proofs.YtbpopaegfhcdpaaGreatDoor.X
open Go.RowKit Go.Proofs.YtbpopaegfhcdpaaGreatDoorW.PrintLast
namespace Ck
open Sp Al Av Aw

/-- The first reason among the parts of a document. -/
def vrd : List Pt → Int → Int
  | [], t => t
  | p :: r, t => if valIs (p.1.toNat : Int) p.2.2 = true then vrd r t else 1
def tailC (ok : Bool) (rest : List UInt8) : Int := if ok = true then (if rest.headD 1 = 0 then 0 else 3) else 1
theorem vrd_at : ∀ (P : List Pt) (i : Nat) (hi : i < P.length) (t : Int), valIs (P[i].1.toNat : Int) P[i].2.2 = true → vrd (P.drop i) t = vrd (P.drop (i + 1)) t := by
  intro P i hi t h
  rw [List.drop_eq_getElem_cons hi, vrd, if_pos h]
theorem vrd_bad : ∀ (P : List Pt) (i : Nat) (hi : i < P.length) (t : Int), ¬ valIs (P[i].1.toNat : Int) P[i].2.2 = true → vrd (P.drop i) t = 1 := by
  intro P i hi t h
  rw [List.drop_eq_getElem_cons hi, vrd, if_neg h]
end Ck
end Go.Proofs.YtbpopaegfhcdpaaGreatDoor.X


/- spec.DocCheck: the ways ahead of its loop, for documents and arrays. -/
set_option linter.unusedVariables false
set_option linter.unusedSimpArgs false
set_option maxRecDepth 100000
namespace Go.Proofs.YtbpopaegfhcdpaaGreatDoor.X
open Go.RowKit Go.Proofs.YtbpopaegfhcdpaaGreatDoorW.PrintLast
namespace Ck
open Sp Al Av Aw

theorem num_call (A : Option Addr) (c : Nat) (l : List UInt8) (nn : Int) (ok : Bool) (w : World) (hs : SB w A c l) (hr : numOf l = (nn, ok)) : Calls Tryz.prog 43 #[.slice A l.length c] w fun e w' => e = .returned (.tuple #[.int .i64 nn, .bool ok]) ∧ Below w.heap.size w w' := by
  have h := docNumber A c l w hs
  rw [hr] at h
  exact h
end Ck
end Go.Proofs.YtbpopaegfhcdpaaGreatDoor.X


