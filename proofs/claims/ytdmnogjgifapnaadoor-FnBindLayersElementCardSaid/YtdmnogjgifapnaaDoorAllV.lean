/- Validate of values and elements, for all bytes, with its codes. -/
import Derived.Test.YtdmnogjgifapnaaDoorAll
set_option linter.unusedVariables false
set_option linter.unusedSimpArgs false
set_option maxRecDepth 100000
namespace Go.Proofs.YtdmnogjgifapnaaDoor.X
open Go.RowKit Go.Proofs.YtdmnogjgifapnaaDoorW.PrintLast
namespace Av
open Al
def R50.T6 : Bool × List (List Nat × List Nat) := (true, [([], []), ([0], [0]), ([1], [1]), ([], []), ([], []), ([4], [4]), ([3, 5], [3, 5]), ([2, 6], [2, 6]), ([7], [7]), ([8, 8, 0, 1, 2, 3, 4, 5, 6, 7, 8], [8])])
def R50.B6 : List Nat := [0, 1, 3, 0, 0, 16, 56, 127, 255, 511]
theorem R50.tab6 : rtab .any (opsOf Tryd.f50 6) = R50.T6 := by kernel_rfl
theorem R50.bits6 : waitsOk R50.T6.2 R50.B6 = true := by kernel_rfl
theorem valueValidate (A : Option Addr) (c : Nat) (l : List UInt8) (k : Int) (w : World) (hs : SB w A c l) :
    Calls Tryd.prog 67 #[.agg #[.int .u8 k, .slice A l.length c]] w fun e w' => ∃ v, e = .returned v ∧ CodeIs (if valIs k l = true then 0 else 1) v ∧ Below w.heap.size w w' := by
  obtain ⟨vb, hvb⟩ : ∃ x, x = valIs k l := ⟨_, rfl⟩
  rw [← hvb]
  cases vb with
  | true =>
    obtain ⟨n, hn, hn2⟩ := valLen_of_is hvb.symm
    have HC := Lib.hid (fun wx (h : Below w.heap.size w wx) => readValue_ok A c l k n wx (hs.keep h) hn hn2)
    obtain ⟨q, hq⟩ : ∃ q, q = l.length := ⟨_, rfl⟩
    rw [← hq] at HC ⊢
    clear hs hn hn2 hq hvb
    go_enter Tryd.func67, Tryd.ntmps67
    go_wp2_with fail
    refine (HC.out _ (balloc (Below.refl _ _) (Nat.le_refl _) _)).mono ?_
    rintro e w1 ⟨A1, c1, A2, c2, rfl, hss, hb⟩
    have hb1 : Below (w.heap.size + 1) (w.alloc (.cells #[.int .u8 k, .slice A q c] 93)) w1 := by simpa using hb
    have HB := Lib.hid (boxb hb1)
    clear hss hb hb1 HC
    go_wp2_with fail
    go_ret
    exact ⟨_, rfl, Or.inl ⟨rfl, rfl⟩, HB.out⟩
  | false =>
    have HC := Lib.hid (fun wx (h : Below w.heap.size w wx) => readValue_no A c l k wx (hs.keep h) hvb.symm)
    obtain ⟨q, hq⟩ : ∃ q, q = l.length := ⟨_, rfl⟩
    rw [← hq] at HC ⊢
    clear hs hq hvb
    go_enter Tryd.func67, Tryd.ntmps67
    go_wp2_with fail
    refine (HC.out _ (balloc (Below.refl _ _) (Nat.le_refl _) _)).mono ?_
    rintro e w1 ⟨rfl, hb⟩
    have hb1 : Below (w.heap.size + 1) (w.alloc (.cells #[.int .u8 k, .slice A q c] 93)) w1 := by simpa using hb
    have q0 := boxc hb1 0
    have q1 := boxc hb1 1
    simp only [List.getElem?_cons_succ, List.getElem?_cons_zero] at q0 q1
    have hz1 := boxs hb1
    have hlt : w.heap.size < w1.heap.size := by omega
    have HB := Lib.hid (boxb hb1)
    clear hb hb1 HC
    go_wp2_with fail
    refine (newInsuf A A q c q c w1).mono ?_
    rintro e w2 ⟨rfl, hb2⟩
    have HB2 := Lib.hid (bthen HB.out hb2)
    clear hb2
    go_wp2_with fail
    go_ret
    exact ⟨_, rfl, Or.inr (Or.inr ⟨by simp, _, _, _, _, _, _, rfl⟩), HB2.out⟩
/-- The code of some bytes as an element. -/
def elemCode (l : List UInt8) : Int := if 0 < l.length then (if 0 ≤ Lib.indexByte (l.drop 1) ((0 : Int).toNat.toUInt8) then (if valIs ((l.headD 0).toNat : Int) (l.drop (Lib.indexByte (l.drop 1) ((0 : Int).toNat.toUInt8) + 2).toNat) = true then 0 else 1) else 5) else 5
set_option maxHeartbeats 4000000 in
theorem elemValidate (A : Option Addr) (c : Nat) (l : List UInt8) (w : World) (hs : SB w A c l) (hmax : l.length ≤ 140737488355328) :
    Calls Tryd.prog 50 #[.slice A l.length c] w fun e w' => ∃ v, e = .returned v ∧ CodeIs (elemCode l) v ∧ Below w.heap.size w w' := by
  have hlc := hs.le
  have hcc := hs.cap
  by_cases h0 : l.length < 1
  · have hn : l = [] := List.eq_nil_of_length_eq_zero (by omega)
    subst hn
    go_enter Tryd.func50, Tryd.ntmps50
    go_wp2
    go_ret
    exact ⟨_, rfl, Or.inr (Or.inl ⟨by simp [elemCode], _, rfl⟩), Below.refl _ _⟩
  obtain ⟨A1, e1, s1⟩ := SB.from_ (P := Tryd.prog) Tryd.underlying90 rfl rfl .i64 A c l 1 (by omega) hs.le
  have e1' : ∀ W : World, (Instr.slice 90 (.slice A l.length c) (some (.int .i64 1)) none none).run Tryd.prog W = .ok (.slice A1 (l.drop 1).length (c - 1)) W := fun W => by rw [List.length_drop]; exact e1 W
  have HI := Lib.hid (bytesIndexByte A1 (c - 1) (l.drop 1) 0 w (s1 w hs))
  obtain ⟨z, hz⟩ : ∃ z, z = Lib.indexByte (l.drop 1) ((0 : Int).toNat.toUInt8) := ⟨_, rfl⟩
  have hzlt := idx_lt (l.drop 1) ((0 : Int).toNat.toUInt8)
  rw [← hz] at HI hzlt
  have hei : elemCode l = if 0 ≤ z then (if valIs ((l.headD 0).toNat : Int) (l.drop (z + 2).toNat) = true then 0 else 1) else 5 := by
    unfold elemCode
    rw [← hz, if_pos (by omega : 0 < l.length)]
  rw [hei]
  by_cases hz0 : 0 ≤ z
  · rw [if_pos hz0]
    have hzl : z.toNat + 2 ≤ l.length := by
      rcases hzlt with h | h
      · rw [List.length_drop] at h; omega
      · rw [h] at hz; simp [Lib.indexByte] at hz; omega
    obtain ⟨p, hp⟩ : ∃ p : Nat, z = p := ⟨z.toNat, by omega⟩
    subst hp
    rw [show ((p : Int) + 2).toNat = p + 2 from by omega]
    rw [show ((p : Int)).toNat = p from by omega] at hzl
    obtain ⟨A2, e2, s2⟩ := SB.from_ (P := Tryd.prog) Tryd.underlying90 rfl rfl .i64 A c l (p + 2) hzl hs.le
    have e2' : ∀ W : World, (Instr.slice 90 (.slice A l.length c) (some (.int .i64 ((p : Int) + 2))) none none).run Tryd.prog W = .ok (.slice A2 (l.drop (p + 2)).length (c - (p + 2))) W := fun W => by rw [List.length_drop]; exact e2 W
    obtain ⟨tt, htt⟩ : ∃ tt : Int, tt = ((l.headD 0).toNat : Int) := ⟨_, rfl⟩
    have HV := Lib.hid (fun wx (h : Below w.heap.size w wx) => valueValidate A2 (c - (p + 2)) (l.drop (p + 2)) ((l.headD 0).toNat : Int) wx (s2 wx (hs.keep h)))
    obtain ⟨b, off, rfl, hc⟩ := hs.cells (by omega)
    have hc0 : w.cell? ⟨b, off, none⟩ = some (.int .u8 tt) := by
      have h := hc 0 (by omega)
      rw [htt]
      cases l with
      | nil => simp at h0
      | cons x r => simpa using h
    obtain ⟨vb, hvb⟩ : ∃ x, x = valIs ((l.headD 0).toNat : Int) (l.drop (p + 2)) := ⟨_, rfl⟩
    rw [← hvb] at HV ⊢
    obtain ⟨cc, hcc9⟩ : ∃ cc : Int, cc = (if vb = true then 0 else 1) := ⟨_, rfl⟩
    rw [← hcc9] at HV ⊢
    clear hcc9
    rw [← htt] at HV
    obtain ⟨l1, hl1⟩ : ∃ x, x = (l.drop 1).length := ⟨_, rfl⟩
    obtain ⟨l2, hl2⟩ : ∃ x, x = (l.drop (p + 2)).length := ⟨_, rfl⟩
    rw [← hl1] at e1' HI
    rw [← hl2] at e2' HV
    obtain ⟨q, hq⟩ : ∃ q, q = l.length := ⟨_, rfl⟩
    rw [← hq] at e1' e2' h0 hmax hzl ⊢
    clear hs s1 s2 e1 e2 hz hzlt hei hc hq hl1 hl2 htt hvb hlc hcc hz0
    have i1 : IntKind.i64.wrap ((p : Int) + 2) = (p : Int) + 2 := IntWalk.i64_in _ (by omega)
    have hpm : ((p : Int) == -1) = false := by simp only [beq_eq_false_iff_ne, ne_eq]; omega
    have hq1 : 0 < q := by omega
    have hq0 : ¬ ((q : Int) < 1) := by omega
    go_enter Tryd.func50, Tryd.ntmps50
    go_wp2_with fail
    refine HI.out.mono ?_
    rintro e w1 ⟨rfl, rfl⟩
    clear HI
    go_wp2_with fail
    refine start_ (n := 10) (S := fun w' => w'.cell? ⟨b, off, none⟩ = some (.int .u8 tt)) (ds := []) #[false, false, false, false, false, false, false, false, false, false] (by kernel_rfl) rfl rfl ((by exact hc0)) (fun hHeld => ?_)
    refine with_tabW R50.tab6 R50.bits6 (fun HT_ HW_ => ?_)
    refine pure_ (i := 0) (N := some 14) (v := ?_) (a' := ?_) #[true, false, false, false, false, false, false, false, false, false] rfl rfl (any_of HT_.out (by kernel_rfl)) (fun _ _ _ h => h) (Or.inl ⟨by rfl, ?_⟩) ?_ ?_
    rotate_left
    · intro w'
      go_simp
      with_reducible rfl
    rotate_left
    · simp only [Act.put, List.setIfInBounds_toArray, List.set_cons_zero, List.set_cons_succ, i64_w, i32_w]
      rfl
    refine pure_ (i := 1) (N := some 15) (v := ?_) (a' := ?_) #[true, true, false, false, false, false, false, false, false, false] rfl rfl (any_of HT_.out (by kernel_rfl)) (fun _ _ _ h => h) (Or.inl ⟨by rfl, ?_⟩) ?_ ?_
    rotate_left
    · intro w'
      go_simp
      with_reducible rfl
    rotate_left
    · simp only [Act.put, List.setIfInBounds_toArray, List.set_cons_zero, List.set_cons_succ, i64_w, i32_w]
      rfl
    refine pure_ (i := 3) (N := some 17) (v := ?_) (a' := ?_) #[true, true, false, true, false, false, false, false, false, false] rfl rfl (any_of HT_.out (by kernel_rfl)) (fun _ _ _ h => h) (Or.inl ⟨by rfl, ?_⟩) ?_ ?_
    rotate_left
    · intro w'
      go_simp
      with_reducible rfl
    rotate_left
    · simp only [Act.put, List.setIfInBounds_toArray, List.set_cons_zero, List.set_cons_succ, i64_w, i32_w]
      rfl
    refine pure_ (i := 4) (N := some 18) (v := ?_) (a' := ?_) #[true, true, false, true, true, false, false, false, false, false] rfl rfl (any_of HT_.out (by kernel_rfl)) (fun _ _ _ h => h) (Or.inl ⟨by rfl, ?_⟩) ?_ ?_
    rotate_left
    · intro w'
      go_simp
      with_reducible rfl
    rotate_left
    · simp only [Act.put, List.setIfInBounds_toArray, List.set_cons_zero, List.set_cons_succ, i64_w, i32_w]
      rfl
    refine pure_ (i := 5) (N := some 19) (v := ?_) (a' := ?_) #[true, true, false, true, true, true, false, false, false, false] rfl rfl (any_of HT_.out (by kernel_rfl)) (fun _ _ _ h => h) (Or.inl ⟨by rfl, ?_⟩) ?_ ?_
    rotate_left
    · intro w'
      go_simp
      with_reducible rfl
    rotate_left
    · simp only [Act.put, List.setIfInBounds_toArray, List.set_cons_zero, List.set_cons_succ, i64_w, i32_w]
      rfl
    refine pure_ (i := 6) (N := some 20) (v := ?_) (a' := ?_) #[true, true, false, true, true, true, true, false, false, false] rfl rfl (any_of HT_.out (by kernel_rfl)) (fun _ _ _ h => h) (Or.inl ⟨by rfl, ?_⟩) ?_ ?_
    rotate_left
    · intro w'
      go_simp
      with_reducible rfl
    rotate_left
    · simp only [Act.put, List.setIfInBounds_toArray, List.set_cons_zero, List.set_cons_succ, i64_w, i32_w]
      rfl
    refine take_ (i := 2) (N := some 16) (v := ?_) (a' := ?_) #[true, true, true, true, true, true, true, false, false, false] rfl rfl (take_ofW HT_.out HW_.out (by kernel_rfl)) (fun _ _ _ h => h) (Or.inl ⟨by rfl, ?_⟩) hHeld ?_ ?_
    rotate_left
    · intro w' s0
      go_simp
      with_reducible rfl
    rotate_left
    · simp only [Act.put, List.setIfInBounds_toArray, List.set_cons_zero, List.set_cons_succ, i64_w, i32_w]
      rfl
    refine pure_ (i := 7) (N := some 21) (v := ?_) (a' := ?_) #[true, true, true, true, true, true, true, true, false, false] rfl rfl (any_of HT_.out (by kernel_rfl)) (fun _ _ _ h => h) (Or.inl ⟨by rfl, ?_⟩) ?_ ?_
    rotate_left
    · intro w'
      go_simp
      with_reducible rfl
    rotate_left
    · simp only [Act.put, List.setIfInBounds_toArray, List.set_cons_zero, List.set_cons_succ, i64_w, i32_w]
      rfl
    refine one_ (i := 8) (N := some 22) #[true, true, true, true, true, true, true, true, true, false] rfl rfl (one_of HT_.out (by kernel_rfl)) (by decide) (fun K hK => ?_)
    refine goes_ Tryd.func67 (by kernel_rfl) rfl #[.agg #[.int .u8 tt, .slice A2 l2 (c - (p + 2))]] (by rfl) rfl rfl (by simp only [List.map_toArray, List.map_cons, List.map_nil]; rfl) ?_
    with_reducible refine (HV.out _ (bdrew (Below.refl _ _))).mono ?_
    rintro e w3 ⟨v3, rfl, hv3, hb3⟩
    refine ⟨_, rfl, ?_⟩
    refine hK.out _ _ (((hb3.cell (World.block_lt_of_cell? _ _ hHeld)).trans hHeld)) (fun hHeld => ?_)
    clear hK K
    refine norm_ (a' := ?_) ?_ ?_
    rotate_left
    · show Act.put _ (some 22) _ = _
      simp only [Act.put, List.setIfInBounds_toArray, List.set_cons_zero, List.set_cons_succ, i64_w, i32_w]
      rfl
    refine pure_ (i := 9) (N := some 2) (v := ?_) (a' := ?_) #[true, true, true, true, true, true, true, true, true, true] rfl rfl (any_of HT_.out (by kernel_rfl)) (fun _ _ _ h => h) (Or.inl ⟨by rfl, ?_⟩) ?_ ?_
    rotate_left
    · intro w'
      go_simp
      with_reducible rfl
    rotate_left
    · simp only [Act.put, List.setIfInBounds_toArray, List.set_cons_zero, List.set_cons_succ, i64_w, i32_w]
      rfl
    refine done_ (done_of HT_.out (by kernel_rfl)) ?_
    go_wp2_with fail
    go_ret
    exact ⟨v3, rfl, hv3, bleft hb3⟩
  · rw [if_neg hz0]
    have hzm : z = -1 := by
      have := idx_ge (l.drop 1) ((0 : Int).toNat.toUInt8)
      omega
    obtain ⟨l1, hl1⟩ : ∃ x, x = (l.drop 1).length := ⟨_, rfl⟩
    rw [← hl1] at e1' HI
    obtain ⟨q, hq⟩ : ∃ q, q = l.length := ⟨_, rfl⟩
    rw [← hq] at e1' h0 ⊢
    clear hs s1 e1 hz hzlt hei hq hl1 hlc hcc hz0
    subst hzm
    have hq0 : ¬ ((q : Int) < 1) := by omega
    go_enter Tryd.func50, Tryd.ntmps50
    go_wp2_with fail
    refine HI.out.mono ?_
    rintro e w1 ⟨rfl, rfl⟩
    clear HI
    go_wp2_with fail
    go_ret
    exact ⟨_, rfl, Or.inr (Or.inl ⟨rfl, _, rfl⟩), Below.refl _ _⟩
theorem rawElemValidate (A : Option Addr) (c : Nat) (l : List UInt8) (w : World) (hs : SB w A c l) (hmax : l.length ≤ 140737488355328) :
    Calls Tryd.prog 42 #[.slice A l.length c] w fun e w' => ∃ v, e = .returned v ∧ CodeIs (elemCode l) v ∧ Below w.heap.size w w' := by
  have HC := Lib.hid (elemValidate A c l w hs hmax)
  clear hs
  go_enter Tryd.func42, Tryd.ntmps42
  go_wp2_with fail
  refine HC.out.mono ?_
  rintro e w1 ⟨v1, rfl, h1, hb⟩
  have H1 := Lib.hid h1
  clear h1
  go_wp2_with fail
  go_ret
  exact ⟨v1, rfl, H1.out, hb⟩
theorem implElemValidate (A : Option Addr) (c : Nat) (l : List UInt8) (w : World) (hs : SB w A c l) (hmax : l.length ≤ 140737488355328) :
    Calls Tryd.prog 20 #[.slice A l.length c] w fun e w' => e = .returned (.int .i64 (elemCode l)) ∧ Below w.heap.size w w' := by
  have HC := Lib.hid (rawElemValidate A c l w hs hmax)
  obtain ⟨n, hn⟩ : ∃ n, n = elemCode l := ⟨_, rfl⟩
  rw [← hn] at HC ⊢
  clear hs hn
  go_enter Tryd.func20, Tryd.ntmps20
  go_wp2_with fail
  refine HC.out.mono ?_
  rintro e w1 ⟨v1, rfl, h1, hb⟩
  have HD := Lib.hid (code_ex h1 w1)
  clear h1 HC
  go_wp2_with fail
  refine HD.out.mono ?_
  rintro e w2 ⟨rfl, hb2⟩
  clear HD
  go_wp2_with fail
  go_ret
  exact ⟨rfl, bthen hb hb2⟩
theorem implValidateElement (A : Option Addr) (c : Nat) (l : List UInt8) (w : World) (hs : SB w A c l) (hmax : l.length ≤ 140737488355328) :
    Calls Tryd.prog 26 #[.slice A l.length c] w fun e w' => e = .returned (.int .i64 (elemCode l)) ∧ Below w.heap.size w w' := by
  have HC := Lib.hid (elemValidate A c l w hs hmax)
  obtain ⟨n, hn⟩ : ∃ n, n = elemCode l := ⟨_, rfl⟩
  rw [← hn] at HC ⊢
  clear hs hn
  go_enter Tryd.func26, Tryd.ntmps26
  go_wp2_with fail
  refine HC.out.mono ?_
  rintro e w1 ⟨v1, rfl, h1, hb⟩
  have HD := Lib.hid (code_ex h1 w1)
  clear h1 HC
  go_wp2_with fail
  refine HD.out.mono ?_
  rintro e w2 ⟨rfl, hb2⟩
  clear HD
  go_wp2_with fail
  go_ret
  exact ⟨rfl, bthen hb hb2⟩
end Av
end Go.Proofs.YtdmnogjgifapnaaDoor.X
