/- The look-up of one name in one document, in both layers. -/
import Derived.Test.YtohfgfbfohkkkaaGreatDoorAll2
import Derived.Test.YtohfgfbfohkkkaaGreatDoorRe
set_option linter.unusedVariables false
set_option linter.unusedSimpArgs false
set_option maxRecDepth 100000
namespace Go.Proofs.YtohfgfbfohkkkaaGreatDoor.X
open Go.RowKit Go.Proofs.YtohfgfbfohkkkaaGreatDoorW.PrintLast
namespace Lo
open Al A2
def R69.T13 : Bool × List (List Nat × List Nat) := (true, [([], []), ([0], [0]), ([1], [1]), ([], []), ([3], [3]), ([4], [4]), ([2, 5], [2, 5])])
def R69.B13 : List Nat := [0, 1, 3, 0, 8, 24, 63]
theorem R69.tab13 : rtab .any (opsOf Tryz.f69 13) = R69.T13 := by kernel_rfl
theorem R69.bits13 : waitsOk R69.T13.2 R69.B13 = true := by kernel_rfl
theorem SB.notbox {w wr : World} {cs : List Value} {t : TypeId} {fr : Nat × Nat} (hb : Below (w.heap.size + 1) (w.alloc (.cells cs.toArray t fr)) wr) {A : Option Addr} {c : Nat} {l : List UInt8} (hs : SB wr A c l) (hl : cs.length < l.length) : ∀ a, A = some a → a.block ≠ w.heap.size := by
  obtain ⟨b, off, rfl, hc⟩ := hs.cells (by omega)
  rintro a ha
  injection ha with ha
  subst ha
  intro hbk
  have h := hc cs.length hl
  have h2 := boxc hb (off + cs.length)
  have hbk' : b = w.heap.size := hbk
  rw [hbk', h2, List.getElem?_eq_none (by omega)] at h
  cases h
def docB : List UInt8 := [12, 0, 0, 0, 16, 97, 0, 7, 0, 0, 0, 0]
def rest8 : List UInt8 := 16 :: ([97] ++ 0 :: [7, 0, 0, 0, 0])
def el7 : List UInt8 := 16 :: ([97] ++ 0 :: [7, 0, 0, 0])
def l4 : List UInt8 := [7, 0, 0, 0]
theorem keyBytes (A : Option Addr) (c : Nat) (k0 : UInt8) (nm bl : List UInt8) (w : World) (hs : SB w A c (k0 :: (nm ++ 0 :: bl))) (hn : plainB nm = true) (hmax : (k0 :: (nm ++ 0 :: bl)).length ≤ 140737488355328) :
    Calls Tryz.prog 138 #[.slice A (k0 :: (nm ++ 0 :: bl)).length c] w fun e w' => ∃ A1 c1, e = .returned (.slice A1 nm.length c1) ∧ SB w A1 c1 nm ∧ w = w' := by
  have HK := Lib.hid (keyBytesErr A c k0 nm bl w hs hn hmax)
  obtain ⟨p, hp⟩ : ∃ p, p = (k0 :: (nm ++ 0 :: bl)).length := ⟨_, rfl⟩
  obtain ⟨q, hq⟩ : ∃ p, p = nm.length := ⟨_, rfl⟩
  rw [← hp, ← hq] at HK ⊢
  clear hs hn hmax hp hq
  go_enter Tryz.func138, Tryz.ntmps138
  go_wp2_with fail
  refine HK.out.mono ?_
  rintro e w1 ⟨A1, c1, rfl, hs1, rfl⟩
  have HS := Lib.hid hs1
  clear hs1 HK
  go_wp2_with fail
  go_ret
  exact ⟨A1, c1, rfl, HS.out, rfl⟩
set_option maxHeartbeats 1000000 in
theorem lookupErr (A : Option Addr) (c kb ko ck : Nat) (sa : ByteArray) (w : World) (hsa : sa = ⟨#[97]⟩) (hs : SB w A c docB) (hk : w.cell? ⟨kb, ko, none⟩ = some (.string sa)) :
    Calls Tryz.prog 69 #[.slice A 12 c, .slice (some ⟨kb, ko, none⟩) 1 ck] w fun e w' => ∃ A1 c1, e = .returned (.tuple #[.agg #[.int .u8 16, .slice A1 4 c1], .nilIface]) ∧ SB w' A1 c1 l4 ∧ Below w.heap.size w w' := by
  have HL : Hid (∀ wx : World, Below w.heap.size w wx → Calls Tryz.prog 43 #[.slice A 12 c] wx fun e w' => ∃ A1 c1, e = .returned (.tuple #[.int .i32 12, .slice A1 8 c1, .bool true]) ∧ SB w' A1 c1 rest8 ∧ Below wx.heap.size wx w') := Lib.hid fun wx h => by
    refine (readLength A c docB wx (hs.keep h)).mono ?_
    rintro e w' ⟨A1, n1, c1, rfl, h4, -, hb⟩
    obtain ⟨rfl, rfl, h5⟩ := h4 (by decide)
    exact ⟨A1, _, by rw [show readLen docB = (12, true) from by decide +kernel]; rfl, h5, hb⟩
  have HE : Hid (∀ A1 c1 (wx : World), SB wx A1 c1 rest8 → Calls Tryz.prog 46 #[.slice A1 8 c1] wx fun e w' => ∃ A2 c2 A3 c3, e = .returned (.tuple #[.slice A2 7 c2, .slice A3 1 c3, .bool true]) ∧ SB w' A2 c2 el7 ∧ Below wx.heap.size wx w') := Lib.hid fun A1 c1 wx h => by
    refine (readElement_ok A1 c1 16 [97] [7, 0, 0, 0, 0] 4 wx h (by decide) (by decide) (by decide) (by decide)).mono ?_
    rintro e w' ⟨A2, c2, A3, c3, rfl, hss, hb⟩
    exact ⟨A2, c2, A3, c3, rfl, (hss w' (h.keep hb)).1, hb⟩
  have HK : Hid (∀ A1 c1 (wx : World), SB wx A1 c1 el7 → Calls Tryz.prog 138 #[.slice A1 7 c1] wx fun e w' => ∃ A2 n2 c2, e = .returned (.slice A2 n2 c2) ∧ (convert 22 9 (.slice A2 n2 c2)).run Tryz.prog w' = .ok (.string sa) w' ∧ Below wx.heap.size wx w') := Lib.hid fun A1 c1 wx h => by
    refine (keyBytes A1 c1 16 [97] [7, 0, 0, 0] wx h (by decide) (by decide)).mono ?_
    rintro e w' ⟨A2, c2, rfl, h2, rfl⟩
    exact ⟨A2, _, c2, rfl, by rw [hsa]; exact str_of h2, Below.refl _ _⟩
  have HV : Hid (∀ A1 c1 (wx : World), SB wx A1 c1 el7 → Calls Tryz.prog 27 #[.slice A1 7 c1] wx fun e w' => ∃ A2 c2, e = .returned (.tuple #[.agg #[.int .u8 16, .slice A2 4 c2], .nilIface]) ∧ SB w' A2 c2 l4 ∧ Below wx.heap.size wx w') := Lib.hid fun A1 c1 wx h => by
    refine (valueErr A1 c1 16 [97] [7, 0, 0, 0] wx h (by decide) (by decide) (by decide)).mono ?_
    rintro e w' ⟨A2, c2, rfl, hss, hb⟩
    exact ⟨A2, c2, rfl, hss w' (h.keep hb), hb⟩
  have hk2 := World.block_lt_of_cell? _ _ hk
  clear hs hsa
  go_enter Tryz.func69, Tryz.ntmps69
  go_wp2_with fail
  refine (HL.out _ (balloc (Below.refl _ _) (Nat.le_refl _) _)).mono ?_
  rintro e w1 ⟨A1, c1, rfl, hs1, hb⟩
  have hb1 : Below (w.heap.size + 1) (w.alloc (.cells #[.int .u8 0, .slice none 0 0] 71)) w1 := by simpa using hb
  have HB1 := Lib.hid hb1
  have HS1 := Lib.hid hs1
  have hk1 : w1.cell? ⟨kb, ko, none⟩ = some (.string sa) := ((boxb hb1).cell hk2).trans hk
  have hz1 := boxs hb1
  clear hb hb1 hs1 HL hk
  go_wp2_with fail
  go_loop [6, 7] (fun i r => i = .int .i32 8 ∧ r = .slice A1 8 c1) (fun _ _ => 0)
  case atStart => exact ⟨rfl, rfl⟩
  case round =>
    obtain ⟨rfl, rfl⟩ := hrel
    go_wp2_with fail
    refine (HE.out A1 c1 _ HS1.out).mono ?_
    rintro e w2 ⟨A2, c2, A3, c3, rfl, hs2, hb2⟩
    have HB2 := Lib.hid (HB1.out.trans (hb2.mono hz1))
    have HS2 := Lib.hid hs2
    have hkk : w2.cell? ⟨kb, ko, none⟩ = some (.string sa) := (hb2.cell (World.block_lt_of_cell? _ _ hk1)).trans hk1
    clear hs2 hb2 HS1 HB1 HE hk1
    go_wp2_with fail
    refine start_ (n := 7) (S := fun w' => w'.cell? ⟨kb, ko, none⟩ = some (.string sa)) (ds := []) #[false, false, false, false, false, false, false] (by kernel_rfl) rfl rfl ((by exact hkk)) (fun hHeld => ?_)
    refine with_tabW R69.tab13 R69.bits13 (fun HT_ HW_ => ?_)
    refine pure_ (i := 0) (N := some 55) (v := ?_) (a' := ?_) #[true, false, false, false, false, false, false] rfl rfl (any_of HT_.out (by kernel_rfl)) (fun _ _ _ h => h) (Or.inl ⟨by rfl, ?_⟩) ?_ ?_
    rotate_left
    · intro w'
      go_simp
      with_reducible rfl
    rotate_left
    · simp only [Act.put, List.setIfInBounds_toArray, List.set_cons_zero, List.set_cons_succ, i64_w, i32_w]
      rfl
    refine pure_ (i := 3) (N := some 58) (v := ?_) (a' := ?_) #[true, false, false, true, false, false, false] rfl rfl (any_of HT_.out (by kernel_rfl)) (fun _ _ _ h => h) (Or.inl ⟨by rfl, ?_⟩) ?_ ?_
    rotate_left
    · intro w'
      go_simp
      with_reducible rfl
    rotate_left
    · simp only [Act.put, List.setIfInBounds_toArray, List.set_cons_zero, List.set_cons_succ, i64_w, i32_w]
      rfl
    refine pure_ (i := 4) (N := some 59) (v := ?_) (a' := ?_) #[true, false, false, true, true, false, false] rfl rfl (any_of HT_.out (by kernel_rfl)) (fun _ _ _ h => h) (Or.inl ⟨by rfl, ?_⟩) ?_ ?_
    rotate_left
    · intro w'
      go_simp
      with_reducible rfl
    rotate_left
    · simp only [Act.put, List.setIfInBounds_toArray, List.set_cons_zero, List.set_cons_succ, i64_w, i32_w]
      rfl
    refine take_ (i := 5) (N := some 60) (v := ?_) (a' := ?_) #[true, false, false, true, true, true, false] rfl rfl (take_ofW HT_.out HW_.out (by kernel_rfl)) (fun _ _ _ h => h) (Or.inl ⟨by rfl, ?_⟩) hHeld ?_ ?_
    rotate_left
    · intro w' s0
      go_simp
      with_reducible rfl
    rotate_left
    · simp only [Act.put, List.setIfInBounds_toArray, List.set_cons_zero, List.set_cons_succ, i64_w, i32_w]
      rfl
    refine one_ (i := 1) (N := some 56) #[true, true, false, true, true, true, false] rfl rfl (one_of HT_.out (by kernel_rfl)) (by decide) (fun K hK => ?_)
    refine goes_ Tryz.func138 (by kernel_rfl) rfl #[.slice A2 7 c2] (by rfl) rfl rfl (by simp only [List.map_toArray, List.map_cons, List.map_nil]; rfl) ?_
    with_reducible refine (HK.out A2 c2 _ HS2.out.drew).mono ?_
    rintro e w3 ⟨A4, n4, c4, rfl, k4, hb3⟩
    refine ⟨_, rfl, ?_⟩
    refine hK.out _ _ (((hb3.cell (World.block_lt_of_cell? _ _ hHeld)).trans hHeld)) (fun hHeld => ?_)
    clear hK K
    refine norm_ (a' := ?_) ?_ ?_
    rotate_left
    · show Act.put _ (some 56) _ = _
      simp only [Act.put, List.setIfInBounds_toArray, List.set_cons_zero, List.set_cons_succ, i64_w, i32_w]
      rfl
    refine one_ (i := 2) (N := some 57) #[true, true, true, true, true, true, false] rfl rfl (one_of HT_.out (by kernel_rfl)) (by decide) (fun K hK => ?_)
    refine value_ (w1 := ?_) (v := ?_) (by rfl) rfl ?_ ?_
    rotate_left 2
    · go_simp
      constructor
      · rfl
      · rfl
    refine hK.out _ _ (hHeld) (fun hHeld => ?_)
    clear hK K
    refine norm_ (a' := ?_) ?_ ?_
    rotate_left
    · show Act.put _ (some 57) _ = _
      simp only [Act.put, List.setIfInBounds_toArray, List.set_cons_zero, List.set_cons_succ, i64_w, i32_w]
      rfl
    refine pure_ (i := 6) (N := some 61) (v := ?_) (a' := ?_) #[true, true, true, true, true, true, true] rfl rfl (any_of HT_.out (by kernel_rfl)) (fun _ _ _ h => h) (Or.inl ⟨by rfl, ?_⟩) ?_ ?_
    rotate_left
    · intro w'
      go_simp
      with_reducible rfl
    rotate_left
    · simp only [Act.put, List.setIfInBounds_toArray, List.set_cons_zero, List.set_cons_succ, i64_w, i32_w]
      rfl
    refine done_ (done_of HT_.out (by kernel_rfl)) ?_
    have hb23 : Below w2.heap.size w2 w3 := bleft hb3
    have HB3 := Lib.hid (HB2.out.trans (hb23.mono (boxs HB2.out)))
    have HS3 := Lib.hid (HS2.out.keep hb23)
    clear hb3 hb23 HB2 HS2 HK k4 hkk hHeld
    go_wp2_with fail
    refine (HV.out A2 c2 _ HS3.out).mono ?_
    rintro e w4 ⟨A5, c5, rfl, hs5, hb4⟩
    have HB := HB3.out.trans (hb4.mono (boxs HB3.out))
    have HN := Lib.hid (SB.notbox HB hs5 (by decide))
    have HS5 := Lib.hid hs5
    have q0 := boxc HB 0
    have q1 := boxc HB 1
    simp only [List.getElem?_cons_succ, List.getElem?_cons_zero] at q0 q1
    have f0 := boxf HB 0
    have f1 := boxf HB 1
    have hz4 := boxs HB
    have hlt : w.heap.size < w4.heap.size := by omega
    have HB4 := Lib.hid (boxb HB)
    clear hs5 hb4 HB HB3 HS3 HV
    go_wp2_with fail
    exact bodyPost_ret (v := .tuple #[.agg #[.int .u8 16, .slice A5 4 c5], .nilIface]) (by simp [results, Tryz.results69, go_sem, q0, q1]) rfl ⟨A5, c5, rfl, (HS5.out.far HN.out _).far HN.out _, (HB4.out.setCell (Nat.le_refl _) _).setCell (Nat.le_refl _) _⟩
end Lo
end Go.Proofs.YtohfgfbfohkkkaaGreatDoor.X
