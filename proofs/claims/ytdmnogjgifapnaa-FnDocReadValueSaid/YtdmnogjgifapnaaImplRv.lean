/- Contracts of impl's readers of values and elements. -/
import Derived.Test.YtdmnogjgifapnaaRe
import Derived.Test.YtdmnogjgifapnaaNum
set_option linter.unusedVariables false
set_option linter.unusedSimpArgs false
namespace Go.Proofs.Ytdmnogjgifapnaa.X
open Go.RowKit Go.Proofs.YtdmnogjgifapnaaW.PrintLast
def R25.T1 : Bool × List (List Nat × List Nat) := (true, [([], []), ([0], [0]), ([1], [1]), ([], []), ([3], [3]), ([4], [4]), ([2, 5], [2, 5]), ([6, 5, 0, 1, 2, 3, 4, 5, 6], [6])])
def R25.B1 : List Nat := [0, 1, 3, 0, 8, 24, 63, 127]
theorem R25.tab1 : rtab .any (opsOf Try.f25 1) = R25.T1 := by kernel_rfl
theorem R25.bits1 : waitsOk R25.T1.2 R25.B1 = true := by kernel_rfl
set_option maxRecDepth 100000 in
theorem implRaw (A : Option Addr) (c : Nat) (l : List UInt8) (k : Int) (w : World) (hs : SB w A c l) (h0 : 0 ≤ k) (h1 : k ≤ 255) (hl : l.length ≤ 140737488355328) :
    Calls Try.prog 25 #[.agg #[.int .u8 k, .slice A l.length c]] w fun e w' => ∃ A1 c1, e = .returned (.agg #[.int .i64 k, .slice A1 l.length c1]) ∧ SB w' A1 c1 l ∧ (∀ a, A1 = some a → w.heap.size ≤ a.block) ∧ Below w.heap.size w w' := by
  have HC := Lib.hid (fun wx (h : Below w.heap.size w wx) => fresh_of (implOwn A c l wx (hs.keep h) hl))
  have hw : IntKind.i64.wrap k = k := IntWalk.i64_in _ (by omega)
  obtain ⟨q, hq⟩ : ∃ q, q = l.length := ⟨_, rfl⟩
  rw [← hq] at HC ⊢
  clear hq hs hl
  go_enter Try.func25, Try.ntmps25
  go_wp2_with fail
  refine start_ (n := 8) (S := fun w' => w'.cell? ⟨w.heap.size, 0, none⟩ = some (.int .u8 k) ∧ w'.cell? ⟨w.heap.size, 1, none⟩ = some (.slice A q c) ∧ w'.cell? ⟨w.heap.size + 1, 0, none⟩ = some (.int .i64 0) ∧ w'.cell? ⟨w.heap.size + 1, 1, none⟩ = some (.slice none 0 0) ∧ w'.frozen? ⟨w.heap.size + 1, 0, none⟩ = false ∧ w'.frozen? ⟨w.heap.size + 1, 1, none⟩ = false) (ds := [7]) #[false, false, false, false, false, false, false, false] (by kernel_rfl) rfl rfl ⟨(by go_simp), (by go_simp), (by go_simp), (by go_simp), (by go_simp), (by go_simp)⟩ (fun hHeld => ?_)
  refine with_tabW R25.tab1 R25.bits1 (fun HT_ HW_ => ?_)
  refine pure_ (i := 0) (N := some 3) (v := ?_) (a' := ?_) #[true, false, false, false, false, false, false, false] rfl rfl (any_of HT_.out (by kernel_rfl)) (fun _ _ _ h => h) (Or.inl ⟨by rfl, ?_⟩) ?_ ?_
  rotate_left
  · intro w'
    go_simp
    with_reducible rfl
  rotate_left
  · simp only [Act.put, List.setIfInBounds_toArray, List.set_cons_zero, List.set_cons_succ, i64_w, i32_w]
    rfl
  refine pure_ (i := 3) (N := some 6) (v := ?_) (a' := ?_) #[true, false, false, true, false, false, false, false] rfl rfl (any_of HT_.out (by kernel_rfl)) (fun _ _ _ h => h) (Or.inl ⟨by rfl, ?_⟩) ?_ ?_
  rotate_left
  · intro w'
    go_simp
    with_reducible rfl
  rotate_left
  · simp only [Act.put, List.setIfInBounds_toArray, List.set_cons_zero, List.set_cons_succ, i64_w, i32_w]
    rfl
  refine take_ (i := 1) (N := some 4) (v := ?_) (a' := ?_) #[true, true, false, true, false, false, false, false] rfl rfl (take_ofW HT_.out HW_.out (by kernel_rfl)) (fun _ _ _ h => h) (Or.inl ⟨by rfl, ?_⟩) hHeld ?_ ?_
  rotate_left
  · rintro w' ⟨s0, s1, s2, s3, s4, s5⟩
    go_simp
    with_reducible rfl
  rotate_left
  · simp only [Act.put, List.setIfInBounds_toArray, List.set_cons_zero, List.set_cons_succ, i64_w, i32_w]
    rfl
  refine pure_ (i := 2) (N := some 5) (v := ?_) (a' := ?_) #[true, true, true, true, false, false, false, false] rfl rfl (any_of HT_.out (by kernel_rfl)) (fun _ _ _ h => h) (Or.inl ⟨by rfl, ?_⟩) ?_ ?_
  rotate_left
  · intro w'
    go_simp
    with_reducible rfl
  rotate_left
  · simp only [Act.put, List.setIfInBounds_toArray, List.set_cons_zero, List.set_cons_succ, i64_w, i32_w]
    rfl
  refine take_ (i := 4) (N := some 7) (v := ?_) (a' := ?_) #[true, true, true, true, true, false, false, false] rfl rfl (take_ofW HT_.out HW_.out (by kernel_rfl)) (fun _ _ _ h => h) (Or.inl ⟨by rfl, ?_⟩) hHeld ?_ ?_
  rotate_left
  · rintro w' ⟨s0, s1, s2, s3, s4, s5⟩
    go_simp
    with_reducible rfl
  rotate_left
  · simp only [Act.put, List.setIfInBounds_toArray, List.set_cons_zero, List.set_cons_succ, i64_w, i32_w]
    rfl
  refine one_ (i := 5) (N := some 8) #[true, true, true, true, true, true, false, false] rfl rfl (one_of HT_.out (by kernel_rfl)) (by decide) (fun K hK => ?_)
  refine goes_ Try.func26 (by kernel_rfl) rfl #[.slice A q c] (by rfl) rfl rfl (by simp only [List.map_toArray, List.map_cons, List.map_nil]; rfl) ?_
  with_reducible refine (HC.out _ (bdrew (balloc (balloc (Below.refl _ _) (Nat.le_refl _) _) (by simp) _))).mono ?_
  rintro e w3 ⟨A3, c3, rfl, hs3, ho3, hb3⟩
  refine ⟨_, rfl, ?_⟩
  have HS3 := Lib.hid hs3
  have HN3 : Hid (∀ a, A3 = some a → a.block ≠ w.heap.size + 1) := Lib.hid fun a ha => by have h := ho3.newer a ha; simp at h; omega
  have HM3 : Hid (∀ a, A3 = some a → w.heap.size ≤ a.block) := Lib.hid fun a ha => by have h := ho3.newer a ha; simp at h; omega
  clear ho3
  have hB3 : Below w.heap.size w w3 := (bdrew (balloc (balloc (Below.refl _ _) (Nat.le_refl _) _) (by simp) _)).trans (hb3.mono (by simp; omega))
  have HB3 := Lib.hid hB3
  have hlt3 : w.heap.size + 1 < w3.heap.size := by have := hb3.size; simp at this; omega
  clear hs3 hB3
  refine hK.out _ _ ⟨((hb3.cell (World.block_lt_of_cell? _ _ hHeld.1)).trans hHeld.1), ((hb3.cell (World.block_lt_of_cell? _ _ hHeld.2.1)).trans hHeld.2.1), ((hb3.cell (World.block_lt_of_cell? _ _ hHeld.2.2.1)).trans hHeld.2.2.1), ((hb3.cell (World.block_lt_of_cell? _ _ hHeld.2.2.2.1)).trans hHeld.2.2.2.1), ((hb3.frozen (p := ⟨w.heap.size + 1, 0, none⟩) (by simp)).trans hHeld.2.2.2.2.1), ((hb3.frozen (p := ⟨w.heap.size + 1, 1, none⟩) (by simp)).trans hHeld.2.2.2.2.2)⟩ (fun hHeld => ?_)
  clear hK K
  refine norm_ (a' := ?_) ?_ ?_
  rotate_left
  · show Act.put _ (some 8) _ = _
    simp only [Act.put, List.setIfInBounds_toArray, List.set_cons_zero, List.set_cons_succ, i64_w, i32_w]
    rfl
  refine pure_ (i := 6) (N := some 9) (v := ?_) (a' := ?_) #[true, true, true, true, true, true, true, false] rfl rfl (any_of HT_.out (by kernel_rfl)) (fun _ _ _ h => h) (Or.inl ⟨by rfl, ?_⟩) ?_ ?_
  rotate_left
  · intro w'
    go_simp
    with_reducible rfl
  rotate_left
  · simp only [Act.put, List.setIfInBounds_toArray, List.set_cons_zero, List.set_cons_succ, i64_w, i32_w]
    rfl
  refine last_ (i := 7) (N := none) #[true, true, true, true, true, true, true, true] rfl rfl (one_of HT_.out (by kernel_rfl)) (by decide) (fun K hK => ?_)
  refine skip_ (w1 := ?_) (by rfl) rfl ?_ ?_
  rotate_left
  · go_simp
    rfl
  refine hK.out _ _ ?_
  clear hK K
  refine done_ (done_of HT_.out (by kernel_rfl)) ?_
  go_wp2_with fail
  exact bodyPost_ret (v := .agg #[.int .i64 k, .slice A3 q c3]) (by simp [results, Try.results25, go_sem, hHeld.2.2.1, hHeld.2.2.2.1]) rfl ⟨A3, c3, rfl, (HS3.out.far HN3.out _).far HN3.out _, HM3.out, (HB3.out.setCell (by simp) _).setCell (by simp) _⟩
set_option maxRecDepth 100000 in
theorem implReadValue (A : Option Addr) (c : Nat) (l : List UInt8) (k : Int) (n : Nat) (w : World) (hs : SB w A c l) (hk0 : 0 ≤ k) (hk1 : k ≤ 255) (hv : valLen k l = ((n : Int), true)) (hn : n ≤ l.length) (hl : l.length ≤ 140737488355328) :
    Calls Try.prog 10 #[.int .i64 k, .slice A l.length c] w fun e w' => ∃ A1 c1 A2 c2, e = .returned (.tuple #[.agg #[.int .i64 k, .slice A1 n c1], .slice A2 (l.length - n) c2, .bool true]) ∧ SB w' A1 c1 (l.take n) ∧ SB w' A2 c2 (l.drop n) ∧ (∀ a, A1 = some a → w.heap.size ≤ a.block) ∧ (∀ a, A2 = some a → w.heap.size ≤ a.block) ∧ Below w.heap.size w w' := by
  have HC := Lib.hid (fun wx (h : Below w.heap.size w wx) => readValueV_ok A c l k n wx (hs.keep h) hv hn)
  have HR : Hid (∀ A1 c1 wx, SB wx A1 c1 (l.take n) → Calls Try.prog 25 #[.agg #[.int .u8 k, .slice A1 n c1]] wx fun e w' => ∃ A2 c2, e = .returned (.agg #[.int .i64 k, .slice A2 n c2]) ∧ SB w' A2 c2 (l.take n) ∧ (∀ a, A2 = some a → wx.heap.size ≤ a.block) ∧ Below wx.heap.size wx w') := Lib.hid fun A1 c1 wx h => by
    have hq := implRaw A1 c1 (l.take n) k wx h hk0 hk1 (by simp; omega)
    rw [List.length_take, Nat.min_eq_left hn] at hq
    exact hq
  have HW : Hid (∀ A1 c1 wx, SB wx A1 c1 (l.drop n) → Calls Try.prog 26 #[.slice A1 (l.length - n) c1] wx fun e w' => ∃ A2 c2, e = .returned (.slice A2 (l.length - n) c2) ∧ SB w' A2 c2 (l.drop n) ∧ (∀ a, A2 = some a → wx.heap.size ≤ a.block) ∧ Below wx.heap.size wx w') := Lib.hid fun A1 c1 wx h => by
    have hq := fresh_of (implOwn A1 c1 (l.drop n) wx h (by simp; omega))
    rw [List.length_drop] at hq
    refine hq.mono ?_
    rintro e w' ⟨A2, c2, he, h1, ho, h2⟩
    exact ⟨A2, c2, he, h1, ho.newer, h2⟩
  have HS := Lib.hid hs
  have hw : k % 256 = k := by omega
  clear hs hv hn
  go_enter Try.func10, Try.ntmps10
  go_wp2_with fail
  refine (HC.out _ (balloc (Below.refl _ _) (Nat.le_refl _) _)).mono ?_
  rintro e w1 ⟨A1, c1, A2, c2, rfl, hss, hb⟩
  have hb1 : Below (w.heap.size + 1) (w.alloc (.cells #[.int .i64 0, .slice none 0 0] 33)) w1 := by simpa using hb
  have hB1 := boxb hb1
  obtain ⟨hs1, hs2⟩ := hss w1 (HS.out.keep hB1)
  have hz1 := boxs hb1
  have hw1 : w.heap.size < w1.heap.size := by omega
  have HS1 := Lib.hid hs1
  have HS2 := Lib.hid hs2
  clear hs1 hs2 hss hb
  go_wp2_with fail
  refine (HR.out A1 c1 _ (HS1.out.alloc _)).mono ?_
  rintro e w2 ⟨A3, c3, rfl, hs3, hn3, hb2⟩
  have HN3 : Hid (∀ a, A3 = some a → a.block ≠ w.heap.size) := Lib.hid fun a ha => by have h := hn3 a ha; simp at h; omega
  have HM3 : Hid (∀ a, A3 = some a → w.heap.size ≤ a.block) := Lib.hid fun a ha => by have h := hn3 a ha; simp at h; omega
  clear hn3
  have hb2' : Below w1.heap.size w1 w2 := (balloc (Below.refl _ _) (Nat.le_refl _) _).trans (hb2.mono (by simp))
  have hz2 := hb2'.size
  have HS3 := Lib.hid hs3
  have hbb2 := hb1.trans (hb2'.mono hz1)
  clear hb2 hs3 HR
  go_wp2_with fail
  refine (HW.out A2 c2 _ (HS2.out.keep hb2')).mono ?_
  rintro e w3 ⟨A4, c4, rfl, hs4, hn4, hb3⟩
  have HN4 : Hid (∀ a, A4 = some a → a.block ≠ w.heap.size) := Lib.hid fun a ha => by have h := hn4 a ha; omega
  have HM4 : Hid (∀ a, A4 = some a → w.heap.size ≤ a.block) := Lib.hid fun a ha => by have h := hn4 a ha; omega
  clear hn4
  have hbb3 := hbb2.trans (hb3.mono (by omega))
  have q0 := boxc hbb3 0
  have q1 := boxc hbb3 1
  simp only [List.getElem?_cons_succ, List.getElem?_cons_zero] at q0 q1
  have f0 := boxf hbb3 0
  have f1 := boxf hbb3 1
  have hz3 := boxs hbb3
  have hlt3 : w.heap.size < w3.heap.size := by omega
  have HS4 := Lib.hid hs4
  have HS34 := Lib.hid (HS3.out.keep hb3)
  have HB := Lib.hid (boxb hbb3)
  clear hb3 hs4 HW HC hbb3 hbb2 hb2' hb1 hB1
  go_wp2_with fail
  exact bodyPost_ret (v := .tuple #[.agg #[.int .i64 k, .slice A3 n c3], .slice A4 (l.length - n) c4, .bool true]) (by simp [results, Try.results10, go_sem, q0, q1]) rfl ⟨A3, c3, A4, c4, rfl, (HS34.out.far HN3.out _).far HN3.out _, (HS4.out.far HN4.out _).far HN4.out _, HM3.out, HM4.out, (HB.out.setCell (Nat.le_refl _) _).setCell (Nat.le_refl _) _⟩
set_option maxRecDepth 100000 in
theorem implReadElement (A : Option Addr) (c : Nat) (t : UInt8) (nm rest : List UInt8) (n : Nat) (w : World) (hs : SB w A c (t :: (nm ++ 0 :: rest))) (hnm : ∀ x ∈ nm, x ≠ 0) (hv : valLen t.toNat rest = ((n : Int), true)) (hn : n ≤ rest.length) (hmax : (t :: (nm ++ 0 :: rest)).length ≤ 140737488355328) :
    Calls Try.prog 13 #[.slice A (t :: (nm ++ 0 :: rest)).length c] w fun e w' => ∃ A1 c1 A2 c2, e = .returned (.tuple #[.slice A1 (nm.length + 2 + n) c1, .slice A2 (rest.length - n) c2, .bool true]) ∧ SB w' A1 c1 (t :: (nm ++ 0 :: rest.take n)) ∧ SB w' A2 c2 (rest.drop n) ∧ Below w.heap.size w w' := by
  have HC := Lib.hid (readElement_ok A c t nm rest n w hs hnm hv hn hmax)
  have HS := Lib.hid hs
  have hl : nm.length + 2 + rest.length ≤ 140737488355328 := by simp at hmax; omega
  have HW : ∀ (m : Nat) (l : List UInt8), l.length = m → m ≤ 140737488355328 → ∀ A1 c1 wx, SB wx A1 c1 l → Calls Try.prog 26 #[.slice A1 m c1] wx fun e w' => ∃ A2 c2, e = .returned (.slice A2 m c2) ∧ SB w' A2 c2 l ∧ Below wx.heap.size wx w' := by
    intro m l hm hmm A1 c1 wx h
    subst hm
    refine (fresh_of (implOwn A1 c1 l wx h hmm)).mono ?_
    rintro e w' ⟨A2, c2, he, h1, -, h2⟩
    exact ⟨A2, c2, he, h1, h2⟩
  have HW1 := Lib.hid (HW (nm.length + 2 + n) (t :: (nm ++ 0 :: rest.take n)) (by simp [Nat.min_eq_left hn]; omega) (by omega))
  have HW2 := Lib.hid (HW (rest.length - n) (rest.drop n) (by simp) (by omega))
  obtain ⟨q, hq⟩ : ∃ q, q = (t :: (nm ++ 0 :: rest)).length := ⟨_, rfl⟩
  rw [← hq] at HC ⊢
  clear hq hs hnm hv hmax HW
  go_enter Try.func13, Try.ntmps13
  go_wp2_with fail
  refine HC.out.mono ?_
  rintro e w1 ⟨A1, c1, A2, c2, rfl, hss, hb⟩
  obtain ⟨hs1, hs2⟩ := hss w1 (HS.out.keep hb)
  have HS1 := Lib.hid hs1
  have HS2 := Lib.hid hs2
  clear hs1 hs2 hss
  go_wp2_with fail
  refine (HW1.out A1 c1 _ HS1.out).mono ?_
  rintro e w2 ⟨A3, c3, rfl, hs3, hb2⟩
  have HS3 := Lib.hid hs3
  clear hs3
  go_wp2_with fail
  refine (HW2.out A2 c2 _ (HS2.out.keep hb2)).mono ?_
  rintro e w3 ⟨A4, c4, rfl, hs4, hb3⟩
  have HS4 := Lib.hid hs4
  have HS34 := Lib.hid (HS3.out.keep hb3)
  have HB := Lib.hid (bthen (bthen hb hb2) hb3)
  clear hs4 hb hb2 hb3
  go_wp2_with fail
  exact bodyPost_ret (v := .tuple #[.slice A3 (nm.length + 2 + n) c3, .slice A4 (rest.length - n) c4, .bool true]) (by simp [results, Try.results13, go_sem]) rfl ⟨A3, c3, A4, c4, rfl, HS34.out, HS4.out, HB.out⟩
theorem implValueLength (A : Option Addr) (c : Nat) (l : List UInt8) (k : Int) (n : Nat) (w : World) (hs : SB w A c l) (hk0 : 0 ≤ k) (hk1 : k ≤ 255) (hv : valLen k l = ((n : Int), true)) :
    Calls Try.prog 14 #[.slice A l.length c, .int .i64 k] w fun e w' => e = .returned (.tuple #[.int .i64 (n : Int), .bool true]) ∧ Below w.heap.size w w' := by
  have hbd := valLen_bd k l
  rw [hv] at hbd
  have hbd2 : (n : Int) ≤ 2147483647 := hbd.2
  have HC := Lib.hid (zzValueLength A c l k w hs)
  rw [hv] at HC
  have hw : k % 256 = k := by omega
  clear hs hv hbd
  go_enter Try.func14, Try.ntmps14
  go_wp2_with fail
  refine HC.out.mono ?_
  rintro e w1 ⟨rfl, hb⟩
  go_wp2_with fail
  exact bodyPost_ret (v := .tuple #[.int .i64 (n : Int), .bool true]) (by simp [results, Try.results14, go_sem]) rfl ⟨rfl, hb⟩
theorem docSameRaw_same (A B : Option Addr) (c d : Nat) (l : List UInt8) (k : Int) (w : World) (hs : SB w A c l) (ht : SB w B d l) :
    Calls Try.prog 15 #[.agg #[.int .i64 k, .slice A l.length c], .int .i64 k, .slice B l.length d] w fun e w' => e = .returned (.bool true) ∧ Below w.heap.size w w' := by
  have k1 := str_of (hs.alloc (.cells #[.int .i64 k, .slice A l.length c] 33))
  have k2 := str_of (ht.alloc (.cells #[.int .i64 k, .slice A l.length c] 33))
  go_enter Try.func15, Try.ntmps15
  go_wp2_with fail
  go_ret
  exact ⟨rfl, balloc (Below.refl _ _) (Nat.le_refl _) _⟩
end Go.Proofs.Ytdmnogjgifapnaa.X
