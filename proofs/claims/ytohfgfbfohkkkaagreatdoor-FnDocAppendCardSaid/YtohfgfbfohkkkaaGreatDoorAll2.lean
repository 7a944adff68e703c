/- The layers' names and values of elements, for all bytes. -/
import Derived.Test.YtohfgfbfohkkkaaGreatDoorAll
set_option linter.unusedVariables false
set_option linter.unusedSimpArgs false
set_option maxRecDepth 100000
namespace Go.Proofs.YtohfgfbfohkkkaaGreatDoor.X
open Go.RowKit Go.Proofs.YtohfgfbfohkkkaaGreatDoorW.PrintLast
namespace A2
open Al
def R28.T1 : Bool × List (List Nat × List Nat) := (true, [([], []), ([0], [0]), ([1], [1]), ([], []), ([3], [3]), ([4], [4]), ([2, 5], [2, 5]), ([6, 5, 0, 1, 2, 3, 4, 5, 6], [6])])
def R28.B1 : List Nat := [0, 1, 3, 0, 8, 24, 63, 127]
theorem R28.tab1 : rtab .any (opsOf Tryz.f28 1) = R28.T1 := by kernel_rfl
theorem R28.bits1 : waitsOk R28.T1.2 R28.B1 = true := by kernel_rfl
theorem implRaw (A : Option Addr) (c : Nat) (l : List UInt8) (k : Int) (w : World) (hs : SB w A c l) (h0 : 0 ≤ k) (h1 : k ≤ 255) (hl : l.length ≤ 140737488355328) :
    Calls Tryz.prog 28 #[.agg #[.int .u8 k, .slice A l.length c]] w fun e w' => ∃ A1 c1, e = .returned (.agg #[.int .i64 k, .slice A1 l.length c1]) ∧ SB w' A1 c1 l ∧ (∀ a, A1 = some a → w.heap.size ≤ a.block) ∧ Below w.heap.size w w' := by
  have HC := Lib.hid (fun wx (h : Below w.heap.size w wx) => fresh_of (implOwn A c l wx (hs.keep h) hl))
  have hw : IntKind.i64.wrap k = k := IntWalk.i64_in _ (by omega)
  obtain ⟨q, hq⟩ : ∃ q, q = l.length := ⟨_, rfl⟩
  rw [← hq] at HC ⊢
  clear hq hs hl
  go_enter Tryz.func28, Tryz.ntmps28
  go_wp2_with fail
  refine start_ (n := 8) (S := fun w' => w'.cell? ⟨w.heap.size, 0, none⟩ = some (.int .u8 k) ∧ w'.cell? ⟨w.heap.size, 1, none⟩ = some (.slice A q c) ∧ w'.cell? ⟨w.heap.size + 1, 0, none⟩ = some (.int .i64 0) ∧ w'.cell? ⟨w.heap.size + 1, 1, none⟩ = some (.slice none 0 0) ∧ w'.frozen? ⟨w.heap.size + 1, 0, none⟩ = false ∧ w'.frozen? ⟨w.heap.size + 1, 1, none⟩ = false) (ds := [7]) #[false, false, false, false, false, false, false, false] (by kernel_rfl) rfl rfl ⟨(by go_simp), (by go_simp), (by go_simp), (by go_simp), (by go_simp), (by go_simp)⟩ (fun hHeld => ?_)
  refine with_tabW R28.tab1 R28.bits1 (fun HT_ HW_ => ?_)
  refine pure_ (i := 0) (N := some 3) (v := ?_) (a' := ?_) #[true, false, false, false, false, false, false, false] rfl rfl (any_of HT_.out (by kernel_rfl)) (fun _ _ _ h => h) (Or.inl ⟨by rfl, ?_⟩) ?_ ?_
  rotate_left
  · intro w'
    go_simp
    with_reducible rfl
  rotate_left
  · simp only [Act.put, List.setIfInBounds_toArray, List.set_cons_zero, List.set_cons_succ, i64_w, i32_w]
    rfl
  refine pure_ (i := 3) (N := some 6) (v := ?_) (a' := ?_) #[true, false, false, true, false, false, false, false] rfl rfl (any_of HT_.out (by kernel_rfl)) (fun _ _ _ h => h) (Or.inl ⟨by rfl, ?_⟩) ?_ ?_
  rotate_left
  · intro w'
    go_simp
    with_reducible rfl
  rotate_left
  · simp only [Act.put, List.setIfInBounds_toArray, List.set_cons_zero, List.set_cons_succ, i64_w, i32_w]
    rfl
  refine take_ (i := 1) (N := some 4) (v := ?_) (a' := ?_) #[true, true, false, true, false, false, false, false] rfl rfl (take_ofW HT_.out HW_.out (by kernel_rfl)) (fun _ _ _ h => h) (Or.inl ⟨by rfl, ?_⟩) hHeld ?_ ?_
  rotate_left
  · rintro w' ⟨s0, s1, s2, s3, s4, s5⟩
    go_simp
    with_reducible rfl
  rotate_left
  · simp only [Act.put, List.setIfInBounds_toArray, List.set_cons_zero, List.set_cons_succ, i64_w, i32_w]
    rfl
  refine pure_ (i := 2) (N := some 5) (v := ?_) (a' := ?_) #[true, true, true, true, false, false, false, false] rfl rfl (any_of HT_.out (by kernel_rfl)) (fun _ _ _ h => h) (Or.inl ⟨by rfl, ?_⟩) ?_ ?_
  rotate_left
  · intro w'
    go_simp
    with_reducible rfl
  rotate_left
  · simp only [Act.put, List.setIfInBounds_toArray, List.set_cons_zero, List.set_cons_succ, i64_w, i32_w]
    rfl
  refine take_ (i := 4) (N := some 7) (v := ?_) (a' := ?_) #[true, true, true, true, true, false, false, false] rfl rfl (take_ofW HT_.out HW_.out (by kernel_rfl)) (fun _ _ _ h => h) (Or.inl ⟨by rfl, ?_⟩) hHeld ?_ ?_
  rotate_left
  · rintro w' ⟨s0, s1, s2, s3, s4, s5⟩
    go_simp
    with_reducible rfl
  rotate_left
  · simp only [Act.put, List.setIfInBounds_toArray, List.set_cons_zero, List.set_cons_succ, i64_w, i32_w]
    rfl
  refine one_ (i := 5) (N := some 8) #[true, true, true, true, true, true, false, false] rfl rfl (one_of HT_.out (by kernel_rfl)) (by decide) (fun K hK => ?_)
  refine goes_ Tryz.func25 (by kernel_rfl) rfl #[.slice A q c] (by rfl) rfl rfl (by simp only [List.map_toArray, List.map_cons, List.map_nil]; rfl) ?_
  with_reducible refine (HC.out _ (bdrew (balloc (balloc (Below.refl _ _) (Nat.le_refl _) _) (by simp) _))).mono ?_
  rintro e w3 ⟨A3, c3, rfl, hs3, ho3, hb3⟩
  refine ⟨_, rfl, ?_⟩
  have HS3 := Lib.hid hs3
  have HN3 : Hid (∀ a, A3 = some a → a.block ≠ w.heap.size + 1) := Lib.hid fun a ha => by have h := ho3.newer a ha; simp at h; omega
  have HM3 : Hid (∀ a, A3 = some a → w.heap.size ≤ a.block) := Lib.hid fun a ha => by have h := ho3.newer a ha; simp at h; omega
  clear ho3
  have hB3 : Below w.heap.size w w3 := (bdrew (balloc (balloc (Below.refl _ _) (Nat.le_refl _) _) (by simp) _)).trans (hb3.mono (by simp; omega))
  have HB3 := Lib.hid hB3
  have hlt3 : w.heap.size + 1 < w3.heap.size := by have := hb3.size; simp at this; omega
  clear hs3 hB3
  refine hK.out _ _ ⟨((hb3.cell (World.block_lt_of_cell? _ _ hHeld.1)).trans hHeld.1), ((hb3.cell (World.block_lt_of_cell? _ _ hHeld.2.1)).trans hHeld.2.1), ((hb3.cell (World.block_lt_of_cell? _ _ hHeld.2.2.1)).trans hHeld.2.2.1), ((hb3.cell (World.block_lt_of_cell? _ _ hHeld.2.2.2.1)).trans hHeld.2.2.2.1), ((hb3.frozen (p := ⟨w.heap.size + 1, 0, none⟩) (by simp)).trans hHeld.2.2.2.2.1), ((hb3.frozen (p := ⟨w.heap.size + 1, 1, none⟩) (by simp)).trans hHeld.2.2.2.2.2)⟩ (fun hHeld => ?_)
  clear hK K
  refine norm_ (a' := ?_) ?_ ?_
  rotate_left
  · show Act.put _ (some 8) _ = _
    simp only [Act.put, List.setIfInBounds_toArray, List.set_cons_zero, List.set_cons_succ, i64_w, i32_w]
    rfl
  refine pure_ (i := 6) (N := some 9) (v := ?_) (a' := ?_) #[true, true, true, true, true, true, true, false] rfl rfl (any_of HT_.out (by kernel_rfl)) (fun _ _ _ h => h) (Or.inl ⟨by rfl, ?_⟩) ?_ ?_
  rotate_left
  · intro w'
    go_simp
    with_reducible rfl
  rotate_left
  · simp only [Act.put, List.setIfInBounds_toArray, List.set_cons_zero, List.set_cons_succ, i64_w, i32_w]
    rfl
  refine last_ (i := 7) (N := none) #[true, true, true, true, true, true, true, true] rfl rfl (one_of HT_.out (by kernel_rfl)) (by decide) (fun K hK => ?_)
  refine skip_ (w1 := ?_) (by rfl) rfl ?_ ?_
  rotate_left
  · go_simp
    rfl
  refine hK.out _ _ ?_
  clear hK K
  refine done_ (done_of HT_.out (by kernel_rfl)) ?_
  go_wp2_with fail
  exact bodyPost_ret (v := .agg #[.int .i64 k, .slice A3 q c3]) (by simp [results, Tryz.results28, go_sem, hHeld.2.2.1, hHeld.2.2.2.1]) rfl ⟨A3, c3, rfl, (HS3.out.far HN3.out _).far HN3.out _, HM3.out, (HB3.out.setCell (by simp) _).setCell (by simp) _⟩
def KErr (l : List UInt8) (s : ByteArray) (n : Int) : Prop := ∀ A c w, SB w A c l → Calls Tryz.prog 26 #[.slice A l.length c] w fun e w' => ∃ v, e = .returned (.tuple #[.string s, v]) ∧ CodeIs n v ∧ w = w'
theorem kerr_ex (l : List UInt8) (hmax : l.length ≤ 140737488355328) : ∃ s n, KErr l s n := by
  rcases elem_split l with h | ⟨k0, nm, bl, rfl, hp⟩
  · exact ⟨⟨#[]⟩, 5, fun A c w hs => keyErrNo A c l w hs h⟩
  · refine ⟨⟨nm.toArray⟩, 0, fun A c w hs => (keyErr A c k0 nm bl w hs hp hmax).mono ?_⟩
    rintro e w' ⟨rfl, rfl⟩
    exact ⟨_, rfl, Or.inl ⟨rfl, rfl⟩, rfl⟩
def VErr (l : List UInt8) (kk : Int) (lst : List UInt8) (n : Int) : Prop := ∀ A c w, SB w A c l → Calls Tryz.prog 27 #[.slice A l.length c] w fun e w' => ∃ A1 c1 v, e = .returned (.tuple #[.agg #[.int .u8 kk, .slice A1 lst.length c1], v]) ∧ CodeIs n v ∧ (∀ wy, SB wy A c l → SB wy A1 c1 lst) ∧ Below w.heap.size w w'
theorem verr_ex (l : List UInt8) (hmax : l.length ≤ 140737488355328) : ∃ kk lst n, 0 ≤ kk ∧ kk ≤ 255 ∧ lst.length ≤ 140737488355328 ∧ VErr l kk lst n := by
  rcases elem_split l with h | ⟨k0, nm, bl, rfl, hp⟩
  · refine ⟨0, [], 5, by omega, by omega, by simp, fun A c w hs => (valueErrNo0 A c l w hs h).mono ?_⟩
    rintro e w' ⟨v, rfl, hv, hb⟩
    exact ⟨none, 0, v, rfl, hv, fun wy _ => SB.nil wy, hb⟩
  · have hbl : bl.length ≤ 140737488355328 := by simp at hmax; omega
    have hk1 : (k0.toNat : Int) ≤ 255 := by have := k0.toNat_lt; omega
    cases hvi : valIs (k0.toNat : Int) bl with
    | true =>
      obtain ⟨n, hn1, hn2⟩ := valLen_of_is hvi
      have hl : (bl.take n).length = n := by rw [List.length_take, Nat.min_eq_left hn2]
      refine ⟨(k0.toNat : Int), bl.take n, 0, by omega, hk1, by omega, fun A c w hs => (valueErrN A c k0 nm bl w hs hp n hn1 hn2 hmax).mono ?_⟩
      rintro e w' ⟨A1, c1, rfl, hss, hb⟩
      exact ⟨A1, c1, _, by rw [hl], Or.inl ⟨rfl, rfl⟩, hss, hb⟩
    | false =>
      refine ⟨0, [], 1, by omega, by omega, by simp, fun A c w hs => (valueErrNo A c k0 nm bl w hs hp hvi hmax).mono ?_⟩
      rintro e w' ⟨v, rfl, hv, hb⟩
      exact ⟨none, 0, v, rfl, hv, fun wy _ => SB.nil wy, hb⟩
theorem implElementKeyA {l : List UInt8} {s : ByteArray} {n : Int} (h : KErr l s n) (A : Option Addr) (c : Nat) (w : World) (hs : SB w A c l) :
    Calls Tryz.prog 11 #[.slice A l.length c] w fun e w' => e = .returned (.tuple #[.string s, .int .i64 n]) ∧ Below w.heap.size w w' := by
  have HK := Lib.hid (h A c w hs)
  obtain ⟨p, hp⟩ : ∃ p, p = l.length := ⟨_, rfl⟩
  rw [← hp] at HK ⊢
  clear hs h hp
  go_enter Tryz.func11, Tryz.ntmps11
  go_wp2_with fail
  refine HK.out.mono ?_
  rintro e w1 ⟨v, rfl, hv, rfl⟩
  have HC := Lib.hid (code_ex hv w)
  clear HK hv
  go_wp2_with fail
  refine HC.out.mono ?_
  rintro e w2 ⟨rfl, hb⟩
  go_wp2_with fail
  exact bodyPost_ret (v := .tuple #[.string s, .int .i64 n]) (by simp [results, Tryz.results11, go_sem]) rfl ⟨rfl, hb⟩
theorem implElementValueA {l lst : List UInt8} {kk n : Int} (h : VErr l kk lst n) (h0 : 0 ≤ kk) (h1 : kk ≤ 255) (hlst : lst.length ≤ 140737488355328) (A : Option Addr) (c : Nat) (w : World) (hs : SB w A c l) :
    Calls Tryz.prog 12 #[.slice A l.length c] w fun e w' => ∃ A1 c1, e = .returned (.tuple #[.agg #[.int .i64 kk, .slice A1 lst.length c1], .int .i64 n]) ∧ SB w' A1 c1 lst ∧ Below w.heap.size w w' := by
  have HK := Lib.hid (fun wx (hb : Below w.heap.size w wx) => h A c wx (hs.keep hb))
  have HO : Hid (∀ A1 c1 wx, SB wx A1 c1 lst → Calls Tryz.prog 28 #[.agg #[.int .u8 kk, .slice A1 lst.length c1]] wx fun e w' => ∃ A3 c3, e = .returned (.agg #[.int .i64 kk, .slice A3 lst.length c3]) ∧ SB w' A3 c3 lst ∧ (∀ a, A3 = some a → wx.heap.size ≤ a.block) ∧ Below wx.heap.size wx w') := Lib.hid fun A1 c1 wx h => implRaw A1 c1 lst kk wx h h0 h1 hlst
  have HS := Lib.hid hs
  obtain ⟨p, hp⟩ : ∃ p, p = l.length := ⟨_, rfl⟩
  obtain ⟨q, hq⟩ : ∃ q, q = lst.length := ⟨_, rfl⟩
  rw [← hp, ← hq] at HK ⊢
  rw [← hq] at HO
  clear hs h hp hq h0 h1 hlst
  go_enter Tryz.func12, Tryz.ntmps12
  go_wp2_with fail
  refine (HK.out _ (balloc (Below.refl _ _) (Nat.le_refl _) _)).mono ?_
  rintro e w1 ⟨A1, c1, v, rfl, hv, hs1, hb⟩
  have hb1 : Below (w.heap.size + 1) (w.alloc (.cells #[.int .i64 0, .slice none 0 0] 37)) w1 := by simpa using hb
  have HS1 := Lib.hid (hs1 w1 (HS.out.keep (boxb hb1)))
  have HV := Lib.hid hv
  have hz1 := boxs hb1
  clear hb HK hs1 hv
  go_wp2_with fail
  refine (HO.out A1 c1 _ (HS1.out.alloc _)).mono ?_
  rintro e w2 ⟨A3, c3, rfl, hs3, hn3, hb2⟩
  have hb2' : Below w1.heap.size w1 w2 := (balloc (Below.refl _ _) (Nat.le_refl _) _).trans (hb2.mono (by simp))
  have hX := hb1.trans (hb2'.mono hz1)
  have HN3 : Hid (∀ a, A3 = some a → a.block ≠ w.heap.size) := Lib.hid fun a ha => by have h := hn3 a ha; simp at h; omega
  have HS3 := Lib.hid hs3
  have HC := Lib.hid (code_ex HV.out w2)
  clear hb2 hb2' hb1 HS1 hs3 hn3 HO HV
  go_wp2_with fail
  refine HC.out.mono ?_
  rintro e w3 ⟨rfl, hb3⟩
  have hY := hX.trans (hb3.mono (boxs hX))
  have q0 := boxc hY 0
  have q1 := boxc hY 1
  simp only [List.getElem?_cons_succ, List.getElem?_cons_zero] at q0 q1
  have f0 := boxf hY 0
  have f1 := boxf hY 1
  have hz3 := boxs hY
  have hlt : w.heap.size < w3.heap.size := by omega
  have HB := Lib.hid (boxb hY)
  have HS33 := Lib.hid (HS3.out.keep hb3)
  clear hX hY hb3 HS3 HC
  go_wp2_with fail
  exact bodyPost_ret (v := .tuple #[.agg #[.int .i64 kk, .slice A3 q c3], .int .i64 n]) (by simp [results, Tryz.results12, go_sem, q0, q1]) rfl ⟨A3, c3, rfl, (HS33.out.far HN3.out _).far HN3.out _, (HB.out.setCell (Nat.le_refl _) _).setCell (Nat.le_refl _) _⟩
end A2
end Go.Proofs.YtohfgfbfohkkkaaGreatDoor.X
