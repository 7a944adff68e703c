/- Walk of the law FnDocRebuilt. -/
import Derived.Test.YtohfgfbfohkkkaaGreatDoorRbSt
import Derived.Test.YtohfgfbfohkkkaaGreatDoorImplEls
import Derived.Test.YtohfgfbfohkkkaaGreatDoorAw
set_option linter.unusedVariables false
set_option linter.unusedSimpArgs false
set_option maxRecDepth 100000
namespace Go.Proofs.YtohfgfbfohkkkaaGreatDoor.X
open Go.RowKit Go.Proofs.YtohfgfbfohkkkaaGreatDoorW.PrintLast
namespace Ck
open Sp Al Av Aw A2
def R3.T17 : Bool × List (List Nat × List Nat) := (true, [([], []), ([], []), ([1], [1]), ([0, 2], [0, 2]), ([], []), ([], []), ([5], [5]), ([4, 6, 3], [4, 6]), ([], []), ([], []), ([], []), ([9, 10], [9, 10]), ([11], [11]), ([12], [12]), ([8, 13], [8, 13]), ([3, 7, 0, 1, 2, 3], [0, 3]), ([7, 15, 0, 1, 2, 3, 4, 5, 6, 7, 15], [4, 7]), ([14, 16, 0, 1, 2, 3, 4, 5, 6, 7, 8, 9, 10, 11, 12, 13, 14, 15, 16], [8, 14])])
def R3.B17 : List Nat := [0, 0, 2, 7, 0, 0, 32, 127, 0, 0, 0, 1536, 3584, 7680, 16128, 255, 33023, 131071]
theorem R3.tab17 : rtab .any (opsOf Tryz.f3 17) = R3.T17 := by kernel_rfl
theorem R3.bits17 : waitsOk R3.T17.2 R3.B17 = true := by kernel_rfl
def R3.T20 : Bool × List (List Nat × List Nat) := (true, [([], []), ([0], [0]), ([1, 1], [1]), ([1, 2], [1, 2]), ([3, 2], [3]), ([4], [4]), ([5, 4, 4], [4, 5]), ([6, 4], [4, 6]), ([4], [4]), ([4], [4]), ([8, 9, 4], [4, 8, 9]), ([10, 4], [4, 10]), ([7, 11, 4], [4, 7, 11]), ([4, 12], [4, 12]), ([13, 6], [13]), ([14], [14]), ([14], [14]), ([15, 16, 14, 14], [14, 15, 16]), ([17, 14], [14, 17]), ([14], [14]), ([14], [14]), ([19, 20, 14], [14, 19, 20]), ([21, 14], [14, 21]), ([18, 22, 14], [14, 18, 22]), ([14, 23], [14, 23]), ([24, 17, 0, 1, 2, 3, 4, 5, 6, 7, 8, 9, 10, 11, 12, 13, 14, 15, 16, 17, 18, 19, 20, 21, 22, 23, 24], [24])])
def R3.B20 : List Nat := [0, 1, 3, 7, 15, 31, 63, 127, 31, 31, 799, 1823, 4095, 8191, 16383, 32767, 32767, 131071, 262143, 32767, 32767, 1605631, 3702783, 8388607, 16777215, 33554431]
theorem R3.tab20 : rtab .any (opsOf Tryz.f3 20) = R3.T20 := by kernel_rfl
theorem R3.bits20 : waitsOk R3.T20.2 R3.B20 = true := by kernel_rfl
theorem docModestR (A : Option Addr) (c p : Nat) (b : Bool) (hb : b = decide ((p : Int) ≤ 5000)) (w : World) :
    Calls Tryz.prog 5 #[.slice A p c] w fun e w' => e = .returned (.bool b) ∧ Below w.heap.size w w' := by
  have hb2 := hb.symm
  clear hb
  go_enter Tryz.func5, Tryz.ntmps5
  go_wp2
  go_ret
  exact ⟨rfl, Below.refl _ _⟩
theorem RawAt.keep {w w1 : World} {g go i : Nat} {x : Tr} (h : RawAt w g go i x) (hb : Below w.heap.size w w1) : RawAt w1 g go i x := by
  obtain ⟨D, d, e0, e1, hs⟩ := h.ex
  exact ⟨D, d, (hb.cell (World.block_lt_of_cell? _ _ e0)).trans e0, (hb.cell (World.block_lt_of_cell? _ _ e1)).trans e1, hs.keep hb⟩
theorem numR (q : Nat) : Value.int .i64 ((q : Int) + 1) = Value.int .i64 ((q + 1 : Nat) : Int) := by simp
theorem sumR {a f sq te : Nat} (h1 : f = a + te) (h2 : sq = 5 + a) : Value.int .i64 ((sq : Int) + (te : Int)) = Value.int .i64 ((5 + f : Nat) : Int) := by
  subst h1 h2
  congr 1
  omega
theorem num_of_read {l : List UInt8} {n : Int} (h : readLen l = (n, true)) : numOf l = (n, true) := by
  have h1 := read_num l
  rw [h] at h1
  have h2 := (Prod.mk.inj h1).1
  have h3 := (Prod.mk.inj h1).2
  have h4 : (numOf l).2 = true := by
    have h5 := h3.symm
    simp only [Bool.and_eq_true] at h5
    exact h5.1
  exact Prod.ext h2.symm h4
set_option maxHeartbeats 8000000 in
theorem rb_main (A : Option Addr) (c : Nat) (l : List UInt8) (w : World) (hs : SB w A c l) (hl : l.length ≤ 5000) (h0 : docCode l = 0) :
    Calls Tryz.prog 3 #[.slice A l.length c] w fun e w' => e = .returned (.bool true) ∧ Below w.heap.size w w' := by
  obtain ⟨nn, hr, h5, hle, hz, hck, hrb⟩ := rb_of l h0
  obtain ⟨L, hL⟩ : ∃ L, L = els (l.length + 1) (nn - 4) (l.drop 4) := ⟨_, rfl⟩
  rw [← hL] at hrb
  obtain ⟨T, hT, hTp, hTv⟩ := tr_of L hrb.isl
  have hcnt : 2 * L.length ≤ l.length := by
    have := els_count _ _ _ hck
    rw [← hL, List.length_drop] at this
    omega
  have hall := hrb.all
  have HCp := Lib.hid (fun wx (hb : Below w.heap.size w wx) => fresh_of (docCopy A c l wx (hs.keep hb) (by omega)))
  have HVd := Lib.hid (fun A1 c1 wx (h : SB wx A1 c1 l) => implValidate A1 c1 l wx h (by omega))
  have HMo := Lib.hid (docModestR A c l.length true (decide_eq_true (by omega)).symm w)
  have HEl := Lib.hid (fun wx (hb : Below w.heap.size w wx) => implElements A c l nn wx (hs.keep hb) (by omega) hr h5 hle hck L hL (by omega) (by omega))
  have HNu := Lib.hid (fun wx (hb : Below w.heap.size w wx) => docNumber A c l wx (hs.keep hb))
  rw [h0] at HVd
  rw [num_of_read hr] at HNu
  have HAw := Lib.hid (fun wx => Aw.docAwake wx)
  obtain ⟨F, hF⟩ : ∃ F, F = L.flatten := ⟨_, rfl⟩
  have HBD := Lib.hid (fun A1 c1 vs wx (h1 : GS wx A1 c1 vs) (h2 : Sls wx L vs) => implBuildDoc wx A1 c1 vs L h1 h2 (by omega) (by omega))
  have HBV := Lib.hid (fun An cn Av cv wx (h1 : GS wx An cn (T.map nmV)) h2 h3 => builtVals wx An cn Av cv T h1 h2 h3 hTp (by have : L.length = T.length := by rw [hT, List.length_map]
                                                                                                                              omega) (by rw [← hT]; omega))
  rw [← hT, ← hF] at HBV
  rw [← hF] at HBD
  have hsame := hrb.same
  have hsum := hrb.sum
  rw [← hF] at hsame hsum hall
  obtain ⟨p, hp⟩ : ∃ p, p = l.length := ⟨_, rfl⟩
  obtain ⟨n, hn⟩ : ∃ n, n = L.length := ⟨_, rfl⟩
  have hnT : n = T.length := by rw [hn, hT, List.length_map]
  rw [← hp] at HMo HCp HVd HEl HNu ⊢
  rw [← hn] at HEl HBD
  have HBV2 : Hid (∀ (An : Option Addr) (cn : Nat) (Av : Option Addr) (cv : Nat) (wx : World), GS wx An cn (T.map nmV) → (T = [] ∨ ∃ g go, Av = some ⟨g, go, none⟩ ∧ ∀ i (hi : i < T.length), RawAt wx g go i T[i]) → n ≤ cv → Calls Tryz.prog 14 #[.slice An n cn, .slice Av n cv] wx fun e w' => ∃ A c, e = .returned (.slice A (i32 ((F.length : Int) + 5) ++ (F ++ [0])).length c) ∧ SB w' A c (i32 ((F.length : Int) + 5) ++ (F ++ [0])) ∧ Below wx.heap.size wx w') := Lib.hid fun An cn Av cv wx h1 h2 h3 => by
    have h := HBV.out An cn Av cv wx h1 h2 (by omega)
    rw [← hnT] at h
    exact h
  have b1 : decide ((2147483647 : Int) < (p : Int)) = false := decide_eq_false (by omega)
  have HK : Hid (n = L.length ∧ n = T.length ∧ L = T.map trB ∧ n ≤ 5000 ∧ F = L.flatten ∧ F.length ≤ 5000 ∧ p = l.length ∧ p ≤ 5000 ∧ 5 ≤ nn ∧ nn ≤ (p : Int) ∧ nn ≤ 5 + (F.length : Int)) := Lib.hid ⟨hn, hnT, hT, by omega, hF, by omega, hp, by omega, h5, by omega, hsum⟩
  have HTp := Lib.hid (And.intro hTp hTv)
  have HSA := Lib.hid hsame
  have HSL := Lib.hid hs
  clear HBV hs hl h0 hr h5 hle hz hck hrb hL hT hTp hTv hcnt hall hsame hsum hp hn hnT hF
  go_enter Tryz.func3, Tryz.ntmps3
  go_wp2_with fail
  refine HMo.out.mono ?_
  rintro e w1 ⟨rfl, hb1⟩
  have HB1 := Lib.hid hb1
  clear hb1 HMo
  go_wp2_with fail
  refine (HCp.out _ HB1.out).mono ?_
  rintro e w2 ⟨A2, c2, rfl, hs2, -, hb2⟩
  have HB2 := Lib.hid (bthen HB1.out hb2)
  have HV2 := Lib.hid (HVd.out A2 c2 w2 hs2)
  clear hb2 hs2 HCp HVd
  go_wp2_with fail
  refine HV2.out.mono ?_
  rintro e w3 ⟨rfl, hb3⟩
  have HB3 := Lib.hid (bthen HB2.out hb3)
  clear hb3 HV2
  go_wp2_with fail
  refine (HEl.out _ HB3.out).mono ?_
  rintro e w4 ⟨A1, c1, vs, rfl, hg4, hvl, hS4, hb4⟩
  have HB4 := Lib.hid (bthen HB3.out hb4)
  have HG4 := Lib.hid hg4
  have HS4 := Lib.hid hS4
  have HVL := Lib.hid hvl
  clear hb4 hg4 hS4 hvl HEl
  go_wp2_with fail
  refine (HNu.out _ HB4.out).mono ?_
  rintro e w5 ⟨rfl, hb5⟩
  have HB5 := Lib.hid (bthen HB4.out hb5)
  have HG5 := Lib.hid (HG4.out.keep hb5)
  have HS5 := Lib.hid (HS4.out.keep hb5)
  clear hb5 HNu HG4 HS4
  go_wp2_with fail
  go_loopw [7, 8, 9, 10] (fun a b s i wr => ∃ q : Nat, q ≤ n ∧ i = .int .i64 q ∧ s = .int .i64 ((5 + ((L.take q).flatten).length : Nat) : Int) ∧ Hid (∃ xs, OG 9 wr w5.heap.size a ((T.take q).map nmV) ∧ ON 37 2 wr w5.heap.size b q xs ∧ RwC wr a b (T.take q) xs ∧ Below w5.heap.size w5 wr)) (fun _ _ _ i _ => n - (intOf i).toNat)
  case atStart => exact ⟨0, Nat.zero_le _, rfl, by simp, Lib.hid ⟨[], OG.nil _ _, ON.nil _ _, rfl, Below.refl _ _⟩⟩
  case round =>
    obtain ⟨q, hq, rfl, rfl, ⟨xs, hog, hon, hrw, hbr⟩⟩ := hrel
    by_cases hlt : q < n
    · have hqL : q < L.length := by rw [← HK.out.1]; exact hlt
      have hqT : q < T.length := by rw [← HK.out.2.1]; exact hlt
      obtain ⟨A3, c3, hvq, hs3⟩ := HS5.out.at q hqL
      have hvl := HVL.out
      obtain ⟨lb, lo, rfl, hcell⟩ := HG5.out.cells (by omega)
      have hLq : L[q] = trB T[q] := by
        have h1 : ∀ (M : List (List UInt8)) (h : M = T.map trB) (h2 : q < M.length), M[q] = trB T[q] := fun M h h2 => by subst h; simp
        exact h1 L HK.out.2.2.1 hqL
      have hc2 : wr.cell? ⟨lb, lo + q, none⟩ = some (.slice A3 (trB T[q]).length c3) := by
        have h1 := hcell q (by omega)
        have h2 : vs[q]'(by omega) = .slice A3 (L[q]).length c3 := by
          have := hvq
          rw [List.getElem?_eq_getElem (by omega)] at this
          exact Option.some.inj this
        rw [h2, hLq] at h1
        exact (hbr.cell (World.block_lt_of_cell? _ _ h1)).trans h1
      have hlbr : lb < w5.heap.size := World.block_lt_of_cell? _ _ (hcell q (by omega))
      have hfl := flat_one L q hqL
      rw [hLq] at hfl
      have hFL : L.flatten.length ≤ 5000 := by have := HK.out; rw [← this.2.2.2.2.1]; exact this.2.2.2.2.2.1
      have hsr := hs3.keep hbr
      rw [hLq] at hsr
      have hx := T[q].1.toNat_lt
      have htl := trB_len T[q]
      have hkey := key_of T[q] (HTp.out.1 _ (List.getElem_mem hqT)) (by omega)
      have hval := val_of T[q] (HTp.out.1 _ (List.getElem_mem hqT)) (HTp.out.2 _ (List.getElem_mem hqT)) (by omega)
      have HEK := Lib.hid (implElementKeyA hkey A3 c3 wr hsr)
      have HEV := Lib.hid (fun wx (h : Below wr.heap.size wr wx) => elValB hval (by omega) (by omega) (by omega) A3 c3 wx (hsr.keep h))
      have HTK : Hid (T.take (q + 1) = T.take q ++ [T[q]] ∧ ((L.take (q + 1)).flatten).length = ((L.take q).flatten).length + (trB T[q]).length ∧ ((L.take q).flatten).length ≤ 5000 ∧ (trB T[q]).length ≤ 5000) := Lib.hid ⟨List.take_succ_eq_append_getElem hqT, by rw [List.take_succ_eq_append_getElem hqL, List.flatten_append, List.length_append, ← hLq]; simp, by have := flat_take L q; omega, by omega⟩
      obtain ⟨x, hxe⟩ : ∃ x, x = T[q] := ⟨_, rfl⟩
      rw [← hxe] at HEK HEV HTK hc2
      obtain ⟨te, hte⟩ : ∃ te, te = (trB x).length := ⟨_, rfl⟩
      rw [← hte] at HEK HEV HTK hc2
      obtain ⟨z0, hz0⟩ : ∃ s : ByteArray, s = ⟨x.2.1.toArray⟩ := ⟨_, rfl⟩
      obtain ⟨k, hk⟩ : ∃ k : Int, k = (x.1.toNat : Int) := ⟨_, rfl⟩
      obtain ⟨m, hm⟩ : ∃ m : Nat, m = x.2.2.length := ⟨_, rfl⟩
      rw [← hz0] at HEK
      rw [← hk, ← hm] at HEV
      have HX := Lib.hid (And.intro hz0 (And.intro hk hm))
      have HOG := Lib.hid hog
      have HON := Lib.hid hon
      have HRW := Lib.hid hrw
      have HBR := Lib.hid hbr
      obtain ⟨An, cn, hva, -, -⟩ := hog.sb
      obtain ⟨Av, cv, hvb⟩ := hon.form
      subst hva
      subst hvb
      have hnl : ((T.take q).map nmV).length = q := by rw [List.length_map, List.length_take]; omega
      rw [hnl] at HOG HRW ⊢
      have HOLt := Lib.hid hog.lt
      have HNLt := Lib.hid hon.lt
      rw [hnl] at HOLt
      have hq0 : (0 : Int) ≤ (q : Int) := Int.natCast_nonneg _
      have hq1 : (q : Int) < (n : Int) := by omega
      obtain ⟨nsL, hnsL⟩ : ∃ y, y = (T.take q).map nmV := ⟨_, rfl⟩
      have HNS : Hid (nsL.length = q ∧ nsL ++ [.string z0] = (T.take (q + 1)).map nmV) := Lib.hid ⟨by rw [hnsL]; exact hnl, by rw [HTK.out.1, List.map_append, ← hnsL, hz0]; rfl⟩
      rw [← hnsL] at HOG
      obtain ⟨sq, hsq⟩ : ∃ y : Nat, y = 5 + ((L.take q).flatten).length := ⟨_, rfl⟩
      have HSQ := Lib.hid hsq
      have hws : wrap64 ((sq : Int) + (te : Int)) = (sq : Int) + (te : Int) := w64S (by have := HTK.out; omega) (by have := HTK.out; omega)
      rw [← hsq]
      clear hvq hs3 hvl hcell hLq hfl hFL hsr hx htl hkey hval hxe hte hz0 hk hm hog hon hrw hbr hnl hnsL hsq hqL hqT
      go_wp2_with fail
      refine HEK.out.mono ?_
      rintro e w6 ⟨rfl, hb6⟩
      have HB6 := Lib.hid hb6
      clear hb6 HEK
      have hc26 := (HB6.out.cell (World.block_lt_of_cell? _ _ hc2)).trans hc2
      go_wp2_with fail
      refine (HEV.out w6 HB6.out).mono ?_
      rintro e w7 ⟨D, d, rfl, hsD, hnD, hb7⟩
      have HB7 := Lib.hid (bthen HB6.out hb7)
      have hc27 := (HB7.out.cell (World.block_lt_of_cell? _ _ hc2)).trans hc2
      have hBX : Below wr.heap.size wr (w7.alloc (.cells #[.int .i64 k, .slice D m d] 37)) := balloc HB7.out HB7.out.size _
      have hz7 := HB7.out.size
      have hw57 := HBR.out.size
      have hsepN : SepV (.slice An q cn) D x.2.2 := sepNew (k0 := wr.heap.size) (fun j hj => (HOLt.out j hj).2) (fun a ha => by have h1 := hnD a ha; have h2 := HB6.out.size; omega)
      have hsepV : SepV (.slice Av q cv) D x.2.2 := sepNew (k0 := wr.heap.size) (fun j hj => (HNLt.out j hj).2) (fun a ha => by have h1 := hnD a ha; have h2 := HB6.out.size; omega)
      have hst : St (w7.alloc (.cells #[.int .i64 k, .slice D m d] 37)) (w7.alloc (.cells #[.int .i64 k, .slice D m d] 37)) w5 w5.heap.size w7.heap.size lb (lo + q) (.slice An q cn) (.slice Av q cv) nsL q xs xs (T.take q) D d x.2.2 (.int .i64 k) (.slice D m d) (.slice A3 te c3) :=
        ⟨HOG.out.keep hBX, HON.out.keep hBX, HRW.out.keep hBX, hsD.alloc _, hsepN, hsepV, fun j hj => by have h1 := HOLt.out j hj; omega, fun j hj => by have h1 := HNLt.out j hj; omega, by go_simp, by go_simp, (hBX.cell (World.block_lt_of_cell? _ _ hc2)).trans hc2, Nat.le_refl _, by simp, by simp; omega, by simp; omega, HBR.out.trans (hBX.mono hw57)⟩
      have hltN : ∀ j, (Value.slice An q cn).ownBlock = some j → j < (w7.alloc (.cells #[.int .i64 k, .slice D m d] 37)).heap.size := fun j hj => by have h1 := HOLt.out j hj; simp; omega
      have hltV : ∀ j, (Value.slice Av q cv).ownBlock = some j → j < (w7.alloc (.cells #[.int .i64 k, .slice D m d] 37)).heap.size := fun j hj => by have h1 := HNLt.out j hj; simp; omega
      have HLN := Lib.hid (And.intro hltN hltV)
      replace hst := hst.drew
      have HST := Lib.hid hst
      clear hsD hnD hb7 HEV hc26 hBX hsepN hsepV HOG HON HRW HOLt HNLt hltN hltV hst
      go_wp2_with fail
      have hst := HST.out
      have hltN := HLN.out.1
      have hltV := HLN.out.2
      refine start_ (n := 18) (S := fun w' => w'.cell? ⟨w7.heap.size, 0, none⟩ = some (.int .i64 k) ∧ w'.cell? ⟨w7.heap.size, 1, none⟩ = some (.slice D m d) ∧ w'.cell? ⟨lb, lo + q, none⟩ = some (.slice A3 te c3)) (ds := []) #[false, false, false, false, false, false, false, false, false, false, false, false, false, false, false, false, false, false] (by kernel_rfl) rfl rfl ⟨(by exact hst.c0), (by exact hst.c1), (by exact hst.c2)⟩ (fun hHeld => ?_)
      refine with_tabW R3.tab17 R3.bits17 (fun HT_ HW_ => ?_)
      refine pure_ (i := 0) (N := some 66) (v := ?_) (a' := ?_) #[true, false, false, false, false, false, false, false, false, false, false, false, false, false, false, false, false, false] rfl rfl (any_of HT_.out (by kernel_rfl)) (fun _ _ _ h => h) (Or.inl ⟨by rfl, ?_⟩) ?_ ?_
      rotate_left
      · intro w'
        go_simp
        with_reducible rfl
      rotate_left
      · simp only [Act.put, List.setIfInBounds_toArray, List.set_cons_zero, List.set_cons_succ, i64_w, i32_w]
        rfl
      refine pure_ (i := 1) (N := some 67) (v := ?_) (a' := ?_) #[true, true, false, false, false, false, false, false, false, false, false, false, false, false, false, false, false, false] rfl rfl (any_of HT_.out (by kernel_rfl)) (fun _ _ _ h => h) (Or.inl ⟨by rfl, ?_⟩) ?_ ?_
      rotate_left
      · intro w'
        go_simp
        with_reducible rfl
      rotate_left
      · simp only [Act.put, List.setIfInBounds_toArray, List.set_cons_zero, List.set_cons_succ, i64_w, i32_w]
        rfl
      refine pure_ (i := 4) (N := some 70) (v := ?_) (a' := ?_) #[true, true, false, false, true, false, false, false, false, false, false, false, false, false, false, false, false, false] rfl rfl (any_of HT_.out (by kernel_rfl)) (fun _ _ _ h => h) (Or.inl ⟨by rfl, ?_⟩) ?_ ?_
      rotate_left
      · intro w'
        go_simp
        with_reducible rfl
      rotate_left
      · simp only [Act.put, List.setIfInBounds_toArray, List.set_cons_zero, List.set_cons_succ, i64_w, i32_w]
        rfl
      refine pure_ (i := 8) (N := some 74) (v := ?_) (a' := ?_) #[true, true, false, false, true, false, false, false, true, false, false, false, false, false, false, false, false, false] rfl rfl (any_of HT_.out (by kernel_rfl)) (fun _ _ _ h => h) (Or.inl ⟨by rfl, ?_⟩) ?_ ?_
      rotate_left
      · intro w'
        go_simp
        with_reducible rfl
      rotate_left
      · simp only [Act.put, List.setIfInBounds_toArray, List.set_cons_zero, List.set_cons_succ, i64_w, i32_w]
        rfl
      refine pure_ (i := 9) (N := some 75) (v := ?_) (a' := ?_) #[true, true, false, false, true, false, false, false, true, true, false, false, false, false, false, false, false, false] rfl rfl (any_of HT_.out (by kernel_rfl)) (fun _ _ _ h => h) (Or.inl ⟨by rfl, ?_⟩) ?_ ?_
      rotate_left
      · intro w'
        go_simp
        with_reducible rfl
      rotate_left
      · simp only [Act.put, List.setIfInBounds_toArray, List.set_cons_zero, List.set_cons_succ, i64_w, i32_w]
        rfl
      refine pure_ (i := 10) (N := some 76) (v := ?_) (a' := ?_) #[true, true, false, false, true, false, false, false, true, true, true, false, false, false, false, false, false, false] rfl rfl (any_of HT_.out (by kernel_rfl)) (fun _ _ _ h => h) (Or.inl ⟨by rfl, ?_⟩) ?_ ?_
      rotate_left
      · intro w'
        go_simp
        with_reducible rfl
      rotate_left
      · simp only [Act.put, List.setIfInBounds_toArray, List.set_cons_zero, List.set_cons_succ, i64_w, i32_w]
        rfl
      refine pure_ (i := 11) (N := some 77) (v := ?_) (a' := ?_) #[true, true, false, false, true, false, false, false, true, true, true, true, false, false, false, false, false, false] rfl rfl (any_of HT_.out (by kernel_rfl)) (fun _ _ _ h => h) (Or.inl ⟨by rfl, ?_⟩) ?_ ?_
      rotate_left
      · intro w'
        go_simp
        with_reducible rfl
      rotate_left
      · simp only [Act.put, List.setIfInBounds_toArray, List.set_cons_zero, List.set_cons_succ, i64_w, i32_w]
        rfl
      refine take_ (i := 5) (N := some 71) (v := ?_) (a' := ?_) #[true, true, false, false, true, true, false, false, true, true, true, true, false, false, false, false, false, false] rfl rfl (take_ofW HT_.out HW_.out (by kernel_rfl)) (fun _ _ _ h => h) (Or.inl ⟨by rfl, ?_⟩) hHeld ?_ ?_
      rotate_left
      · rintro w' ⟨s0, s1, s2⟩
        go_simp
        with_reducible rfl
      rotate_left
      · simp only [Act.put, List.setIfInBounds_toArray, List.set_cons_zero, List.set_cons_succ, i64_w, i32_w]
        rfl
      refine take_ (i := 12) (N := some 78) (v := ?_) (a' := ?_) #[true, true, false, false, true, true, false, false, true, true, true, true, true, false, false, false, false, false] rfl rfl (take_ofW HT_.out HW_.out (by kernel_rfl)) (fun _ _ _ h => h) (Or.inl ⟨by rfl, ?_⟩) hHeld ?_ ?_
      rotate_left
      · rintro w' ⟨s0, s1, s2⟩
        go_simp
        with_reducible rfl
      rotate_left
      · simp only [Act.put, List.setIfInBounds_toArray, List.set_cons_zero, List.set_cons_succ, i64_w, i32_w]
        rfl
      refine pure_ (i := 13) (N := some 79) (v := ?_) (a' := ?_) #[true, true, false, false, true, true, false, false, true, true, true, true, true, true, false, false, false, false] rfl rfl (any_of HT_.out (by kernel_rfl)) (fun _ _ _ h => h) (Or.inl ⟨by rfl, ?_⟩) ?_ ?_
      rotate_left
      · intro w'
        go_simp
        with_reducible rfl
      rotate_left
      · simp only [Act.put, List.setIfInBounds_toArray, List.set_cons_zero, List.set_cons_succ, i64_w, i32_w]
        rfl
      refine pure_ (i := 14) (N := some 80) (v := ?_) (a' := ?_) #[true, true, false, false, true, true, false, false, true, true, true, true, true, true, true, false, false, false] rfl rfl (any_of HT_.out (by kernel_rfl)) (fun _ _ _ h => h) (Or.inl ⟨by rfl, ?_⟩) ?_ ?_
      rotate_left
      · intro w'
        go_simp
        with_reducible rfl
      rotate_left
      · simp only [Act.put, List.setIfInBounds_toArray, List.set_cons_zero, List.set_cons_succ, i64_w, i32_w]
        rfl
      refine join_ (σ := Value × Nat × Nat) 4 #[true, true, true, true, true, true, true, false, true, true, true, true, true, true, true, false, false, false] (fun s => [(68, .slice (some ⟨s.2.1, 0, none⟩) 1 1), (69, s.1), (72, .slice (some ⟨s.2.2, 0, none⟩) 1 1)]) (fun s w' => St (w7.alloc (.cells #[.int .i64 k, .slice D m d] 37)) w' w5 w5.heap.size w7.heap.size lb (lo + q) s.1 (.slice Av q cv) (nsL ++ [.string z0]) q xs xs (T.take q) D d x.2.2 (.int .i64 k) (.slice D m d) (.slice A3 te c3) ∧ w'.heap[s.2.2]? = some (.cells #[.int .i64 k, .slice D m d] 37 (0, 0)) ∧ (w7.alloc (.cells #[.int .i64 k, .slice D m d] 37)).heap.size ≤ s.2.2) ?_ ?_
      rotate_left
      · intro hCont
        refine two_ (i := 2) (j := 6) (Ni := some 68) (Nj := some 72) #[true, true, true, false, true, true, false, false, true, true, true, true, true, true, true, false, false, false] #[true, true, false, false, true, true, true, false, true, true, true, true, true, true, true, false, false, false] rfl rfl rfl rfl (two_of HT_.out (by kernel_rfl)) (by decide) (by decide) (fun K hK => ?_) (fun K hK => ?_)
        · skip
          refine value_ (w1 := ?_) (v := ?_) (by rfl) rfl ?_ ?_
          rotate_left 2
          · go_simp
            constructor
            · rfl
            · rfl
          have hx1 := hst.new (.cells #[.string z0] 9) (w7.heap.size + 1) (by simp)
          replace hst := hst.alloc (.cells #[.string z0] 9)
          refine hK.out _ _ ⟨hst.c0, hst.c1, hst.c2⟩ (fun hHeld => ?_)
          clear hK K
          refine norm_ (a' := ?_) ?_ ?_
          rotate_left
          · show Act.put _ (some 68) _ = _
            simp only [Act.put, List.setIfInBounds_toArray, List.set_cons_zero, List.set_cons_succ, i64_w, i32_w]
            rfl
          refine two_ (i := 3) (j := 6) (Ni := some 69) (Nj := some 72) #[true, true, true, true, true, true, false, false, true, true, true, true, true, true, true, false, false, false] #[true, true, true, false, true, true, true, false, true, true, true, true, true, true, true, false, false, false] rfl rfl rfl rfl (two_of HT_.out (by kernel_rfl)) (by decide) (by decide) (fun K hK => ?_) (fun K hK => ?_)
          · skip
            refine appG_step (E := 9) (.tmp 66) (.tmp 68) 32 (by rfl) rfl rfl (.string ⟨#[]⟩) 16 infoS rfl Tryz.underlying32 _ w5.heap.size (.slice An q cn) nsL (some ⟨_, 0, none⟩) 1 [.string z0] rfl rfl hst.og (gs_row hx1.1 (by simp)) (Nat.le_trans hst.hb hst.ge) (by simp [Value.oneCell']) (by have h8 := HNS.out.1; have h9 := HK.out; simp; omega) (by have h8 := HNS.out.1; have h9 := HK.out; simp; omega) ?_
            intro vA wA hA
            replace hst := hst.appN hA
            refine hK.out _ _ ⟨hst.c0, hst.c1, hst.c2⟩ (fun hHeld => ?_)
            clear hK K
            refine norm_ (a' := ?_) ?_ ?_
            rotate_left
            · show Act.put _ (some 69) _ = _
              simp only [Act.put, List.setIfInBounds_toArray, List.set_cons_zero, List.set_cons_succ, i64_w, i32_w]
              rfl
            refine one_ (i := 6) (N := some 72) #[true, true, true, true, true, true, true, false, true, true, true, true, true, true, true, false, false, false] rfl rfl (one_of HT_.out (by kernel_rfl)) (by decide) (fun K hK => ?_)
            refine value_ (w1 := ?_) (v := ?_) (by rfl) rfl ?_ ?_
            rotate_left 2
            · go_simp
              constructor
              · rfl
              · rfl
            have hx2 := hst.new (.cells #[.int .i64 k, .slice D m d] 37) (wA.heap.size) (rfl)
            replace hst := hst.alloc (.cells #[.int .i64 k, .slice D m d] 37)
            refine hK.out _ _ ⟨hst.c0, hst.c1, hst.c2⟩ (fun hHeld => ?_)
            clear hK K
            refine norm_ (a' := ?_) ?_ ?_
            rotate_left
            · show Act.put _ (some 72) _ = _
              simp only [Act.put, List.setIfInBounds_toArray, List.set_cons_zero, List.set_cons_succ, i64_w, i32_w]
              rfl
            exact norm_ (by simp only [putAll, Act.put, List.setIfInBounds_toArray, List.set_cons_zero, List.set_cons_succ]) (hCont (vA, w7.heap.size + 1, wA.heap.size) _ ⟨hst, hx2.1, hx2.2⟩)
          · skip
            refine value_ (w1 := ?_) (v := ?_) (by rfl) rfl ?_ ?_
            rotate_left 2
            · go_simp
              constructor
              · rfl
              · rfl
            replace hx1 := And.intro (heap_allocd (o' := (.cells #[.int .i64 k, .slice D m d] 37)) hx1.1) hx1.2
            have hx2 := hst.new (.cells #[.int .i64 k, .slice D m d] 37) (w7.heap.size + 1 + 1) (by simp)
            replace hst := hst.alloc (.cells #[.int .i64 k, .slice D m d] 37)
            refine hK.out _ _ ⟨hst.c0, hst.c1, hst.c2⟩ (fun hHeld => ?_)
            clear hK K
            refine norm_ (a' := ?_) ?_ ?_
            rotate_left
            · show Act.put _ (some 72) _ = _
              simp only [Act.put, List.setIfInBounds_toArray, List.set_cons_zero, List.set_cons_succ, i64_w, i32_w]
              rfl
            refine one_ (i := 3) (N := some 69) #[true, true, true, true, true, true, true, false, true, true, true, true, true, true, true, false, false, false] rfl rfl (one_of HT_.out (by kernel_rfl)) (by decide) (fun K hK => ?_)
            refine appG_step (E := 9) (.tmp 66) (.tmp 68) 32 (by rfl) rfl rfl (.string ⟨#[]⟩) 16 infoS rfl Tryz.underlying32 _ w5.heap.size (.slice An q cn) nsL (some ⟨_, 0, none⟩) 1 [.string z0] rfl rfl hst.og (gs_row hx1.1 (by simp)) (Nat.le_trans hst.hb hst.ge) (by simp [Value.oneCell']) (by have h8 := HNS.out.1; have h9 := HK.out; simp; omega) (by have h8 := HNS.out.1; have h9 := HK.out; simp; omega) ?_
            intro vA wA hA
            replace hx2 := And.intro (heap_kept hx2.1 hA.grown hltN hx2.2) hx2.2
            replace hst := hst.appN hA
            refine hK.out _ _ ⟨hst.c0, hst.c1, hst.c2⟩ (fun hHeld => ?_)
            clear hK K
            refine norm_ (a' := ?_) ?_ ?_
            rotate_left
            · show Act.put _ (some 69) _ = _
              simp only [Act.put, List.setIfInBounds_toArray, List.set_cons_zero, List.set_cons_succ, i64_w, i32_w]
              rfl
            exact norm_ (by simp only [putAll, Act.put, List.setIfInBounds_toArray, List.set_cons_zero, List.set_cons_succ]) (hCont (vA, w7.heap.size + 1, w7.heap.size + 1 + 1) _ ⟨hst, hx2.1, hx2.2⟩)
        · skip
          refine value_ (w1 := ?_) (v := ?_) (by rfl) rfl ?_ ?_
          rotate_left 2
          · go_simp
            constructor
            · rfl
            · rfl
          have hx2 := hst.new (.cells #[.int .i64 k, .slice D m d] 37) (w7.heap.size + 1) (by simp)
          replace hst := hst.alloc (.cells #[.int .i64 k, .slice D m d] 37)
          refine hK.out _ _ ⟨hst.c0, hst.c1, hst.c2⟩ (fun hHeld => ?_)
          clear hK K
          refine norm_ (a' := ?_) ?_ ?_
          rotate_left
          · show Act.put _ (some 72) _ = _
            simp only [Act.put, List.setIfInBounds_toArray, List.set_cons_zero, List.set_cons_succ, i64_w, i32_w]
            rfl
          refine one_ (i := 2) (N := some 68) #[true, true, true, false, true, true, true, false, true, true, true, true, true, true, true, false, false, false] rfl rfl (one_of HT_.out (by kernel_rfl)) (by decide) (fun K hK => ?_)
          refine value_ (w1 := ?_) (v := ?_) (by rfl) rfl ?_ ?_
          rotate_left 2
          · go_simp
            constructor
            · rfl
            · rfl
          replace hx2 := And.intro (heap_allocd (o' := (.cells #[.string z0] 9)) hx2.1) hx2.2
          have hx1 := hst.new (.cells #[.string z0] 9) (w7.heap.size + 1 + 1) (by simp)
          replace hst := hst.alloc (.cells #[.string z0] 9)
          refine hK.out _ _ ⟨hst.c0, hst.c1, hst.c2⟩ (fun hHeld => ?_)
          clear hK K
          refine norm_ (a' := ?_) ?_ ?_
          rotate_left
          · show Act.put _ (some 68) _ = _
            simp only [Act.put, List.setIfInBounds_toArray, List.set_cons_zero, List.set_cons_succ, i64_w, i32_w]
            rfl
          refine one_ (i := 3) (N := some 69) #[true, true, true, true, true, true, true, false, true, true, true, true, true, true, true, false, false, false] rfl rfl (one_of HT_.out (by kernel_rfl)) (by decide) (fun K hK => ?_)
          refine appG_step (E := 9) (.tmp 66) (.tmp 68) 32 (by rfl) rfl rfl (.string ⟨#[]⟩) 16 infoS rfl Tryz.underlying32 _ w5.heap.size (.slice An q cn) nsL (some ⟨_, 0, none⟩) 1 [.string z0] rfl rfl hst.og (gs_row hx1.1 (by simp)) (Nat.le_trans hst.hb hst.ge) (by simp [Value.oneCell']) (by have h8 := HNS.out.1; have h9 := HK.out; simp; omega) (by have h8 := HNS.out.1; have h9 := HK.out; simp; omega) ?_
          intro vA wA hA
          replace hx2 := And.intro (heap_kept hx2.1 hA.grown hltN hx2.2) hx2.2
          replace hst := hst.appN hA
          refine hK.out _ _ ⟨hst.c0, hst.c1, hst.c2⟩ (fun hHeld => ?_)
          clear hK K
          refine norm_ (a' := ?_) ?_ ?_
          rotate_left
          · show Act.put _ (some 69) _ = _
            simp only [Act.put, List.setIfInBounds_toArray, List.set_cons_zero, List.set_cons_succ, i64_w, i32_w]
            rfl
          exact norm_ (by simp only [putAll, Act.put, List.setIfInBounds_toArray, List.set_cons_zero, List.set_cons_succ]) (hCont (vA, w7.heap.size + 1 + 1, w7.heap.size + 1) _ ⟨hst, hx2.1, hx2.2⟩)
      rintro ⟨vN2, G1, G2⟩ w8 ⟨hst, hx2⟩
      have hHeld := And.intro hst.c0 (And.intro hst.c1 hst.c2)
      refine norm_ (a' := ?_) ?_ ?_
      rotate_left
      · simp only [putAll, Act.put, List.setIfInBounds_toArray, List.set_cons_zero, List.set_cons_succ]
        rfl
      refine one_ (i := 7) (N := some 73) #[true, true, true, true, true, true, true, true, true, true, true, true, true, true, true, false, false, false] rfl rfl (one_of HT_.out (by kernel_rfl)) (by decide) (fun K hK => ?_)
      refine appN_step (E := 37) (sz := 2) (.tmp 70) (.tmp 72) 33 (by rfl) rfl rfl (.agg #[.int .i64 0, .slice none 0 0]) 32 infoRw rfl (by decide) Tryz.underlying33 _ w5.heap.size (.slice Av q cv) q xs G2 1 [.int .i64 k, .slice D m d] rfl rfl hst.on rfl (fun j u h => cells_of hx2.1 j u h) (Nat.le_trans hst.hb hst.ge) (by simp [Value.oneCell']) (by have h9 := HK.out; omega) (by have h9 := HK.out; omega) ?_
      intro vV2 w9 hBB
      have hst9 := hst.appV hBB
      refine hK.out _ _ ⟨hst9.c0, hst9.c1, hst9.c2⟩ (fun hHeld => ?_)
      clear hK K
      refine norm_ (a' := ?_) ?_ ?_
      rotate_left
      · show Act.put _ (some 73) _ = _
        simp only [Act.put, List.setIfInBounds_toArray, List.set_cons_zero, List.set_cons_succ, i64_w, i32_w]
        rfl
      refine pure_ (i := 15) (N := some 7) (v := ?_) (a' := ?_) #[true, true, true, true, true, true, true, true, true, true, true, true, true, true, true, true, false, false] rfl rfl (any_of HT_.out (by kernel_rfl)) (fun _ _ _ h => h) (Or.inl ⟨by rfl, ?_⟩) ?_ ?_
      rotate_left
      · intro w'
        go_simp
        with_reducible rfl
      rotate_left
      · simp only [Act.put, List.setIfInBounds_toArray, List.set_cons_zero, List.set_cons_succ, i64_w, i32_w]
        rfl
      refine pure_ (i := 16) (N := some 8) (v := ?_) (a' := ?_) #[true, true, true, true, true, true, true, true, true, true, true, true, true, true, true, true, true, false] rfl rfl (any_of HT_.out (by kernel_rfl)) (fun _ _ _ h => h) (Or.inl ⟨by rfl, ?_⟩) ?_ ?_
      rotate_left
      · intro w'
        go_simp
        with_reducible rfl
      rotate_left
      · simp only [Act.put, List.setIfInBounds_toArray, List.set_cons_zero, List.set_cons_succ, i64_w, i32_w]
        rfl
      refine pure_ (i := 17) (N := some 9) (v := ?_) (a' := ?_) #[true, true, true, true, true, true, true, true, true, true, true, true, true, true, true, true, true, true] rfl rfl (any_of HT_.out (by kernel_rfl)) (fun _ _ _ h => h) (Or.inl ⟨by rfl, ?_⟩) ?_ ?_
      rotate_left
      · intro w'
        go_simp
        with_reducible rfl
      rotate_left
      · simp only [Act.put, List.setIfInBounds_toArray, List.set_cons_zero, List.set_cons_succ, i64_w, i32_w]
        rfl
      refine done_ (done_of HT_.out (by kernel_rfl)) ?_
      obtain ⟨An2, cn2, hvn, -, -⟩ := hst9.og.sb
      obtain ⟨Av2, cv2, hvv⟩ := hst9.on.form
      have hlen9 : (nsL ++ [Value.string z0]).length = q + 1 := by rw [List.length_append, HNS.out.1]; rfl
      rw [hlen9] at hvn
      have HST9 := Lib.hid hst9
      have HVN := Lib.hid hvn
      have HVV := Lib.hid hvv
      clear hst hltN hltV HST hst9 hvn hvv hlen9 hc2 hc27
      have hw64 : wrap64 ((q : Int) + 1) = (q : Int) + 1 := w64R hlt (by have := HK.out; omega)
      go_wp2_with fail
      go_roundw
      case rel =>
        have h9 := HST9.out
        refine ⟨q + 1, Nat.succ_le_of_lt hlt, (by first | exact numR q | (rw [hw64]; exact numR q)), ?_, Lib.hid ⟨_, by rw [← HNS.out.2]; exact h9.og, h9.on, ?_, h9.bel⟩⟩
        · have h1 := HTK.out.2.1
          have h2 := HSQ.out
          exact sumR h1 h2
        · have h1 := RwC.snoc h9.sd h9.sN h9.sV h9.rw
          rw [← HTK.out.1] at h1
          rw [HX.out.2.1, HX.out.2.2]
          exact h1
      case measure => first | exact measR hlt | (rw [hw64]; exact measR hlt)
    · have hqn : q = n := by omega
      subst hqn
      obtain ⟨An, cn, hva, hgn, -⟩ := hog.sb
      obtain ⟨Av, cv, hvb⟩ := hon.form
      subst hva
      subst hvb
      have hTt : T.take q = T := by rw [HK.out.2.1, List.take_length]
      have hLt : L.take q = L := by rw [HK.out.1, List.take_length]
      have hnl : ((T.take q).map nmV).length = q := by rw [hTt, List.length_map, ← HK.out.2.1]
      rw [hnl]
      have hGN : GS wr An cn (T.map nmV) := by rw [hTt] at hgn; exact hgn
      have hRV : (T = [] ∨ ∃ g go, Av = some ⟨g, go, none⟩ ∧ ∀ i (hi : i < T.length), RawAt wr g go i T[i]) ∧ q ≤ cv := by
        by_cases hq0 : 0 < q
        · obtain ⟨g, cg, hs, _, h2, h3, h4⟩ := hon.cells hq0
          have he : Av = some ⟨g, 0, none⟩ ∧ cv = cg := by simpa using hs
          obtain ⟨rfl, rfl⟩ := he
          refine ⟨.inr ⟨g, 0, rfl, fun i hi => ?_⟩, h2⟩
          rw [hTt] at hrw
          obtain ⟨D, d, e1, e2, e3⟩ := hrw.at i hi
          exact ⟨D, d, by rw [Nat.zero_add]; exact h4 _ _ e1, by rw [Nat.zero_add]; exact h4 _ _ e2, e3⟩
        · exact ⟨.inl (List.eq_nil_of_length_eq_zero (by have := HK.out.2.1; omega)), by omega⟩
      have HBR := Lib.hid hbr
      have HGN := Lib.hid hGN
      have HRV := Lib.hid hRV
      have hFq : 5 + ((L.take q).flatten).length = 5 + F.length := by rw [hLt, ← HK.out.2.2.2.2.1]
      rw [hFq]
      obtain ⟨sq, hsq⟩ : ∃ y : Nat, y = 5 + F.length := ⟨_, rfl⟩
      rw [← hsq]
      have HSQ := Lib.hid hsq
      clear hog hon hrw hbr hgn hTt hLt hnl hGN hRV hFq hsq hq hlt
      by_cases hne : (sq : Int) = nn
      · subst hne
        have hFL : sq = 5 + F.length := HSQ.out
        have d1 : ((sq : Int) != (sq : Int)) = false := by simp
        obtain ⟨R, hR⟩ : ∃ R, R = i32 ((F.length : Int) + 5) ++ (F ++ [0]) := ⟨_, rfl⟩
        have hRl : R.length = sq := by rw [hR]; simp [i32]; omega
        have htk : l.take sq = R := by
          have h1 := HSA.out (by omega)
          rw [Int.toNat_natCast] at h1
          rw [h1, hR, hFL]
          congr 2
          omega
        obtain ⟨sd, hsd⟩ : ∃ s : ByteArray, s = ⟨R.toArray⟩ := ⟨_, rfl⟩
        obtain ⟨Ab, hrun, hsb⟩ := SB.to_ (P := Tryz.prog) Tryz.underlying22 rfl rfl .i64 A c l sq (by have := HK.out; omega) HSL.out.le
        have hpl := HK.out.2.2.2.2.2.2.1
        rw [← hpl] at hrun
        have HCV : Hid (∀ wx, Below w.heap.size w wx → (convert 22 9 (.slice Ab sq c)).run Tryz.prog wx = .ok (.string sd) wx) := Lib.hid fun wx hx => by
          have h1 := str_of ((hsb w HSL.out).keep hx)
          rw [htk, hRl, ← hsd] at h1
          exact h1
        have HBDx : Hid (∀ wx, Below w5.heap.size w5 wx → Calls Tryz.prog 13 #[.slice none 0 0, .slice A1 q c1] wx fun e w' => ∃ A2 n2 c2, e = .returned (.slice A2 n2 c2) ∧ (∀ wy, Below w'.heap.size w' wy → (convert 22 9 (.slice A2 n2 c2)).run Tryz.prog wy = .ok (.string sd) wy) ∧ Below wx.heap.size wx w') := Lib.hid fun wx hx => by
          refine (HBD.out A1 c1 vs wx (HG5.out.keep hx) (HS5.out.keep hx)).mono ?_
          rintro e w' ⟨A2, c2, rfl, h2, hb⟩
          rw [← hR] at h2
          refine ⟨A2, _, c2, rfl, fun wy hy => ?_, hb⟩
          rw [← hR, str_of (h2.keep hy), hsd]
        have HBVx : Hid (∀ wx, Below wr.heap.size wr wx → Calls Tryz.prog 14 #[.slice An q cn, .slice Av q cv] wx fun e w' => ∃ A2 n2 c2, e = .returned (.slice A2 n2 c2) ∧ (∀ wy, Below w'.heap.size w' wy → (convert 22 9 (.slice A2 n2 c2)).run Tryz.prog wy = .ok (.string sd) wy) ∧ Below wx.heap.size wx w') := Lib.hid fun wx hx => by
          refine (HBV2.out An cn Av cv wx (HGN.out.keep hx) (HRV.out.1.imp id fun ⟨g, go, e1, e2⟩ => ⟨g, go, e1, fun i hi => (e2 i hi).keep hx⟩) HRV.out.2).mono ?_
          rintro e w' ⟨A2, c2, rfl, h2, hb⟩
          rw [← hR] at h2
          refine ⟨A2, _, c2, rfl, fun wy hy => ?_, hb⟩
          rw [← hR, str_of (h2.keep hy), hsd]
        have HWR := Lib.hid (bthen HB5.out HBR.out)
        have g1 : (0 ≤ (sq : Int)) = True := eq_true (Int.natCast_nonneg _)
        clear hFL hR hRl htk hsd hsb hpl HRV HGN
        go_wp2_with fail
        refine start_ (n := 26) (S := fun w' => (convert 22 9 (.slice Ab sq c)).run Tryz.prog w' = .ok (.string sd) w') (ds := []) #[false, false, false, false, false, false, false, false, false, false, false, false, false, false, false, false, false, false, false, false, false, false, false, false, false, false] (by kernel_rfl) rfl rfl ((HCV.out _ (bdrew HWR.out))) (fun hHeld => ?_)
        refine with_tabW R3.tab20 R3.bits20 (fun HT_ HW_ => ?_)
        refine pure_ (i := 0) (N := some 90) (v := ?_) (a' := ?_) #[true, false, false, false, false, false, false, false, false, false, false, false, false, false, false, false, false, false, false, false, false, false, false, false, false, false] rfl rfl (any_of HT_.out (by kernel_rfl)) (fun _ _ _ h => h) (Or.inl ⟨by rfl, ?_⟩) ?_ ?_
        rotate_left
        · intro w'
          go_simp
          with_reducible rfl
        rotate_left
        · simp only [Act.put, List.setIfInBounds_toArray, List.set_cons_zero, List.set_cons_succ, i64_w, i32_w]
          rfl
        refine pure_ (i := 1) (N := some 91) (v := ?_) (a' := ?_) #[true, true, false, false, false, false, false, false, false, false, false, false, false, false, false, false, false, false, false, false, false, false, false, false, false, false] rfl rfl (any_of HT_.out (by kernel_rfl)) (fun _ _ _ h => h) (Or.inl ⟨by rfl, ?_⟩) ?_ ?_
        rotate_left
        · intro w'
          go_simp
          with_reducible rfl
        rotate_left
        · simp only [Act.put, List.setIfInBounds_toArray, List.set_cons_zero, List.set_cons_succ, i64_w, i32_w]
          rfl
        refine one_ (i := 2) (N := some 92) #[true, true, true, false, false, false, false, false, false, false, false, false, false, false, false, false, false, false, false, false, false, false, false, false, false, false] rfl rfl (one_of HT_.out (by kernel_rfl)) (by decide) (fun K hK => ?_)
        refine goes_ Tryz.func8 (by kernel_rfl) rfl #[] (by rfl) rfl rfl (by first | rfl | simp) ?_
        with_reducible refine (HAw.out _).mono ?_
        rintro e w6 ⟨rfl, hb6⟩
        refine ⟨_, rfl, ?_⟩
        have hR6 := bthen' (bdrew (Below.refl wr.heap.size wr)) hb6 (by simp)
        refine hK.out _ _ ((HCV.out _ (bthen HWR.out hR6))) (fun hHeld => ?_)
        clear hK K
        refine norm_ (a' := ?_) ?_ ?_
        rotate_left
        · show Act.put _ (some 92) _ = _
          simp only [Act.put, List.setIfInBounds_toArray, List.set_cons_zero, List.set_cons_succ, i64_w, i32_w]
          rfl
        refine pure_ (i := 3) (N := some 93) (v := ?_) (a' := ?_) #[true, true, true, true, false, false, false, false, false, false, false, false, false, false, false, false, false, false, false, false, false, false, false, false, false, false] rfl rfl (any_of HT_.out (by kernel_rfl)) (fun _ _ _ h => h) (Or.inl ⟨by rfl, ?_⟩) ?_ ?_
        rotate_left
        · intro w'
          go_simp
          with_reducible rfl
        rotate_left
        · simp only [Act.put, List.setIfInBounds_toArray, List.set_cons_zero, List.set_cons_succ, i64_w, i32_w]
          rfl
        refine pure_ (i := 4) (N := some 94) (v := ?_) (a' := ?_) #[true, true, true, true, true, false, false, false, false, false, false, false, false, false, false, false, false, false, false, false, false, false, false, false, false, false] rfl rfl (any_of HT_.out (by kernel_rfl)) (fun _ _ _ h => h) (Or.inl ⟨by rfl, ?_⟩) ?_ ?_
        rotate_left
        · intro w'
          go_simp
          with_reducible rfl
        rotate_left
        · simp only [Act.put, List.setIfInBounds_toArray, List.set_cons_zero, List.set_cons_succ, i64_w, i32_w]
          rfl
        refine pure_ (i := 5) (N := some 95) (v := ?_) (a' := ?_) #[true, true, true, true, true, true, false, false, false, false, false, false, false, false, false, false, false, false, false, false, false, false, false, false, false, false] rfl rfl (any_of HT_.out (by kernel_rfl)) (fun _ _ _ h => h) (Or.inl ⟨by rfl, ?_⟩) ?_ ?_
        rotate_left
        · intro w'
          go_simp
          with_reducible rfl
        rotate_left
        · simp only [Act.put, List.setIfInBounds_toArray, List.set_cons_zero, List.set_cons_succ, i64_w, i32_w]
          rfl
        refine pure_ (i := 8) (N := some 98) (v := ?_) (a' := ?_) #[true, true, true, true, true, true, false, false, true, false, false, false, false, false, false, false, false, false, false, false, false, false, false, false, false, false] rfl rfl (any_of HT_.out (by kernel_rfl)) (fun _ _ _ h => h) (Or.inl ⟨by rfl, ?_⟩) ?_ ?_
        rotate_left
        · intro w'
          go_simp
          with_reducible rfl
        rotate_left
        · simp only [Act.put, List.setIfInBounds_toArray, List.set_cons_zero, List.set_cons_succ, i64_w, i32_w]
          rfl
        refine pure_ (i := 9) (N := some 99) (v := ?_) (a' := ?_) #[true, true, true, true, true, true, false, false, true, true, false, false, false, false, false, false, false, false, false, false, false, false, false, false, false, false] rfl rfl (any_of HT_.out (by kernel_rfl)) (fun _ _ _ h => h) (Or.inl ⟨by rfl, ?_⟩) ?_ ?_
        rotate_left
        · intro w'
          go_simp
          with_reducible rfl
        rotate_left
        · simp only [Act.put, List.setIfInBounds_toArray, List.set_cons_zero, List.set_cons_succ, i64_w, i32_w]
          rfl
        refine pure_ (i := 10) (N := some 100) (v := ?_) (a' := ?_) #[true, true, true, true, true, true, false, false, true, true, true, false, false, false, false, false, false, false, false, false, false, false, false, false, false, false] rfl rfl (any_of HT_.out (by kernel_rfl)) (fun _ _ _ h => h) (Or.inl ⟨by rfl, ?_⟩) ?_ ?_
        rotate_left
        · intro w'
          go_simp
          with_reducible rfl
        rotate_left
        · simp only [Act.put, List.setIfInBounds_toArray, List.set_cons_zero, List.set_cons_succ, i64_w, i32_w]
          rfl
        refine take_ (i := 11) (N := some 101) (v := ?_) (a' := ?_) #[true, true, true, true, true, true, false, false, true, true, true, true, false, false, false, false, false, false, false, false, false, false, false, false, false, false] rfl rfl (take_ofW HT_.out HW_.out (by kernel_rfl)) (fun _ _ _ h => h) (Or.inl ⟨by rfl, ?_⟩) hHeld ?_ ?_
        rotate_left
        · intro w' s0
          go_simp
          with_reducible rfl
        rotate_left
        · simp only [Act.put, List.setIfInBounds_toArray, List.set_cons_zero, List.set_cons_succ, i64_w, i32_w]
          rfl
        refine one_ (i := 6) (N := some 96) #[true, true, true, true, true, true, true, false, true, true, true, true, false, false, false, false, false, false, false, false, false, false, false, false, false, false] rfl rfl (one_of HT_.out (by kernel_rfl)) (by decide) (fun K hK => ?_)
        refine goes_ Tryz.func13 (by kernel_rfl) rfl #[.slice none 0 0, .slice A1 q c1] (by rfl) rfl rfl (by simp only [List.map_toArray, List.map_cons, List.map_nil]; rfl) ?_
        with_reducible refine (HBDx.out _ (bthen HBR.out hR6)).mono ?_
        rintro e w7 ⟨A7, n7, c7, rfl, k7, hb7⟩
        refine ⟨_, rfl, ?_⟩
        have hR7 := bthen hR6 hb7
        have k7a := k7 _ (Below.refl _ _)
        refine hK.out _ _ ((HCV.out _ (bthen HWR.out hR7))) (fun hHeld => ?_)
        clear hK K
        refine norm_ (a' := ?_) ?_ ?_
        rotate_left
        · show Act.put _ (some 96) _ = _
          simp only [Act.put, List.setIfInBounds_toArray, List.set_cons_zero, List.set_cons_succ, i64_w, i32_w]
          rfl
        refine one_ (i := 7) (N := some 97) #[true, true, true, true, true, true, true, true, true, true, true, true, false, false, false, false, false, false, false, false, false, false, false, false, false, false] rfl rfl (one_of HT_.out (by kernel_rfl)) (by decide) (fun K hK => ?_)
        refine value_ (w1 := ?_) (v := ?_) (by rfl) rfl ?_ ?_
        rotate_left 2
        · go_simp
          constructor
          · rfl
          · rfl
        refine hK.out _ _ (hHeld) (fun hHeld => ?_)
        clear hK K
        refine norm_ (a' := ?_) ?_ ?_
        rotate_left
        · show Act.put _ (some 97) _ = _
          simp only [Act.put, List.setIfInBounds_toArray, List.set_cons_zero, List.set_cons_succ, i64_w, i32_w]
          rfl
        refine pure_ (i := 12) (N := some 102) (v := ?_) (a' := ?_) #[true, true, true, true, true, true, true, true, true, true, true, true, true, false, false, false, false, false, false, false, false, false, false, false, false, false] rfl rfl (any_of HT_.out (by kernel_rfl)) (fun _ _ _ h => h) (Or.inl ⟨by rfl, ?_⟩) ?_ ?_
        rotate_left
        · intro w'
          go_simp
          with_reducible rfl
        rotate_left
        · simp only [Act.put, List.setIfInBounds_toArray, List.set_cons_zero, List.set_cons_succ, i64_w, i32_w]
          rfl
        refine pure_ (i := 13) (N := some 103) (v := ?_) (a' := ?_) #[true, true, true, true, true, true, true, true, true, true, true, true, true, true, false, false, false, false, false, false, false, false, false, false, false, false] rfl rfl (any_of HT_.out (by kernel_rfl)) (fun _ _ _ h => h) (Or.inl ⟨by rfl, ?_⟩) ?_ ?_
        rotate_left
        · intro w'
          go_simp
          with_reducible rfl
        rotate_left
        · simp only [Act.put, List.setIfInBounds_toArray, List.set_cons_zero, List.set_cons_succ, i64_w, i32_w]
          rfl
        refine pure_ (i := 14) (N := some 104) (v := ?_) (a' := ?_) #[true, true, true, true, true, true, true, true, true, true, true, true, true, true, true, false, false, false, false, false, false, false, false, false, false, false] rfl rfl (any_of HT_.out (by kernel_rfl)) (fun _ _ _ h => h) (Or.inl ⟨by rfl, ?_⟩) ?_ ?_
        rotate_left
        · intro w'
          go_simp
          with_reducible rfl
        rotate_left
        · simp only [Act.put, List.setIfInBounds_toArray, List.set_cons_zero, List.set_cons_succ, i64_w, i32_w]
          rfl
        refine pure_ (i := 15) (N := some 105) (v := ?_) (a' := ?_) #[true, true, true, true, true, true, true, true, true, true, true, true, true, true, true, true, false, false, false, false, false, false, false, false, false, false] rfl rfl (any_of HT_.out (by kernel_rfl)) (fun _ _ _ h => h) (Or.inl ⟨by rfl, ?_⟩) ?_ ?_
        rotate_left
        · intro w'
          go_simp
          with_reducible rfl
        rotate_left
        · simp only [Act.put, List.setIfInBounds_toArray, List.set_cons_zero, List.set_cons_succ, i64_w, i32_w]
          rfl
        refine pure_ (i := 16) (N := some 106) (v := ?_) (a' := ?_) #[true, true, true, true, true, true, true, true, true, true, true, true, true, true, true, true, true, false, false, false, false, false, false, false, false, false] rfl rfl (any_of HT_.out (by kernel_rfl)) (fun _ _ _ h => h) (Or.inl ⟨by rfl, ?_⟩) ?_ ?_
        rotate_left
        · intro w'
          go_simp
          with_reducible rfl
        rotate_left
        · simp only [Act.put, List.setIfInBounds_toArray, List.set_cons_zero, List.set_cons_succ, i64_w, i32_w]
          rfl
        refine pure_ (i := 19) (N := some 109) (v := ?_) (a' := ?_) #[true, true, true, true, true, true, true, true, true, true, true, true, true, true, true, true, true, false, false, true, false, false, false, false, false, false] rfl rfl (any_of HT_.out (by kernel_rfl)) (fun _ _ _ h => h) (Or.inl ⟨by rfl, ?_⟩) ?_ ?_
        rotate_left
        · intro w'
          go_simp
          with_reducible rfl
        rotate_left
        · simp only [Act.put, List.setIfInBounds_toArray, List.set_cons_zero, List.set_cons_succ, i64_w, i32_w]
          rfl
        refine pure_ (i := 20) (N := some 110) (v := ?_) (a' := ?_) #[true, true, true, true, true, true, true, true, true, true, true, true, true, true, true, true, true, false, false, true, true, false, false, false, false, false] rfl rfl (any_of HT_.out (by kernel_rfl)) (fun _ _ _ h => h) (Or.inl ⟨by rfl, ?_⟩) ?_ ?_
        rotate_left
        · intro w'
          go_simp
          with_reducible rfl
        rotate_left
        · simp only [Act.put, List.setIfInBounds_toArray, List.set_cons_zero, List.set_cons_succ, i64_w, i32_w]
          rfl
        refine pure_ (i := 21) (N := some 111) (v := ?_) (a' := ?_) #[true, true, true, true, true, true, true, true, true, true, true, true, true, true, true, true, true, false, false, true, true, true, false, false, false, false] rfl rfl (any_of HT_.out (by kernel_rfl)) (fun _ _ _ h => h) (Or.inl ⟨by rfl, ?_⟩) ?_ ?_
        rotate_left
        · intro w'
          go_simp
          with_reducible rfl
        rotate_left
        · simp only [Act.put, List.setIfInBounds_toArray, List.set_cons_zero, List.set_cons_succ, i64_w, i32_w]
          rfl
        refine take_ (i := 22) (N := some 112) (v := ?_) (a' := ?_) #[true, true, true, true, true, true, true, true, true, true, true, true, true, true, true, true, true, false, false, true, true, true, true, false, false, false] rfl rfl (take_ofW HT_.out HW_.out (by kernel_rfl)) (fun _ _ _ h => h) (Or.inl ⟨by rfl, ?_⟩) hHeld ?_ ?_
        rotate_left
        · intro w' s0
          go_simp
          with_reducible rfl
        rotate_left
        · simp only [Act.put, List.setIfInBounds_toArray, List.set_cons_zero, List.set_cons_succ, i64_w, i32_w]
          rfl
        refine one_ (i := 17) (N := some 107) #[true, true, true, true, true, true, true, true, true, true, true, true, true, true, true, true, true, true, false, true, true, true, true, false, false, false] rfl rfl (one_of HT_.out (by kernel_rfl)) (by decide) (fun K hK => ?_)
        refine goes_ Tryz.func14 (by kernel_rfl) rfl #[.slice An q cn, .slice Av q cv] (by rfl) rfl rfl (by simp only [List.map_toArray, List.map_cons, List.map_nil]; rfl) ?_
        with_reducible refine (HBVx.out _ hR7).mono ?_
        rintro e w8 ⟨A8, n8, c8, rfl, k8, hb8⟩
        refine ⟨_, rfl, ?_⟩
        have hR8 := bthen hR7 hb8
        have k8a := k8 _ (Below.refl _ _)
        refine hK.out _ _ ((HCV.out _ (bthen HWR.out hR8))) (fun hHeld => ?_)
        clear hK K
        refine norm_ (a' := ?_) ?_ ?_
        rotate_left
        · show Act.put _ (some 107) _ = _
          simp only [Act.put, List.setIfInBounds_toArray, List.set_cons_zero, List.set_cons_succ, i64_w, i32_w]
          rfl
        refine one_ (i := 18) (N := some 108) #[true, true, true, true, true, true, true, true, true, true, true, true, true, true, true, true, true, true, true, true, true, true, true, false, false, false] rfl rfl (one_of HT_.out (by kernel_rfl)) (by decide) (fun K hK => ?_)
        refine value_ (w1 := ?_) (v := ?_) (by rfl) rfl ?_ ?_
        rotate_left 2
        · go_simp
          constructor
          · rfl
          · rfl
        refine hK.out _ _ (hHeld) (fun hHeld => ?_)
        clear hK K
        refine norm_ (a' := ?_) ?_ ?_
        rotate_left
        · show Act.put _ (some 108) _ = _
          simp only [Act.put, List.setIfInBounds_toArray, List.set_cons_zero, List.set_cons_succ, i64_w, i32_w]
          rfl
        refine pure_ (i := 23) (N := some 113) (v := ?_) (a' := ?_) #[true, true, true, true, true, true, true, true, true, true, true, true, true, true, true, true, true, true, true, true, true, true, true, true, false, false] rfl rfl (any_of HT_.out (by kernel_rfl)) (fun _ _ _ h => h) (Or.inl ⟨by rfl, ?_⟩) ?_ ?_
        rotate_left
        · intro w'
          go_simp
          with_reducible rfl
        rotate_left
        · simp only [Act.put, List.setIfInBounds_toArray, List.set_cons_zero, List.set_cons_succ, i64_w, i32_w]
          rfl
        refine pure_ (i := 24) (N := some 114) (v := ?_) (a' := ?_) #[true, true, true, true, true, true, true, true, true, true, true, true, true, true, true, true, true, true, true, true, true, true, true, true, true, false] rfl rfl (any_of HT_.out (by kernel_rfl)) (fun _ _ _ h => h) (Or.inl ⟨by rfl, ?_⟩) ?_ ?_
        rotate_left
        · intro w'
          go_simp
          with_reducible rfl
        rotate_left
        · simp only [Act.put, List.setIfInBounds_toArray, List.set_cons_zero, List.set_cons_succ, i64_w, i32_w]
          rfl
        refine pure_ (i := 25) (N := some 2) (v := ?_) (a' := ?_) #[true, true, true, true, true, true, true, true, true, true, true, true, true, true, true, true, true, true, true, true, true, true, true, true, true, true] rfl rfl (any_of HT_.out (by kernel_rfl)) (fun _ _ _ h => h) (Or.inl ⟨by rfl, ?_⟩) ?_ ?_
        rotate_left
        · intro w'
          go_simp
          with_reducible rfl
        rotate_left
        · simp only [Act.put, List.setIfInBounds_toArray, List.set_cons_zero, List.set_cons_succ, i64_w, i32_w]
          rfl
        refine done_ (done_of HT_.out (by kernel_rfl)) ?_
        have HE := Lib.hid (bthen HWR.out hR8)
        clear hR6 hR7 hR8 hb6 hb7 hb8 k7 k8 k7a k8a hrun
        go_wp2_with fail
        go_ret
        exact ⟨rfl, HE.out⟩
      · have d1 : ((sq : Int) != nn) = true := by rw [bne_iff_ne]; exact hne
        have d2 : decide (nn < (sq : Int)) = true := decide_eq_true (by have := HK.out; have := HSQ.out; omega)
        go_wp2_with fail
        refine (HAw.out _).mono ?_
        rintro e w6 ⟨rfl, hb6⟩
        have HB6 := Lib.hid (bthen HB5.out (bthen HBR.out hb6))
        clear hb6
        go_wp2_with fail
        go_ret
        exact ⟨rfl, HB6.out⟩
theorem rb_long (A : Option Addr) (c p : Nat) (w : World) (h : 2147483647 < p) :
    Calls Tryz.prog 3 #[.slice A p c] w fun e w' => e = .returned (.bool true) ∧ Below w.heap.size w w' := by
  have b1 : decide ((2147483647 : Int) < (p : Int)) = true := decide_eq_true (by omega)
  go_enter Tryz.func3, Tryz.ntmps3
  go_wp2_with fail
  go_ret
  exact ⟨rfl, Below.refl _ _⟩
theorem rb_mid (A : Option Addr) (c p : Nat) (w : World) (h0 : p ≤ 2147483647) (h : 5000 < p) :
    Calls Tryz.prog 3 #[.slice A p c] w fun e w' => e = .returned (.bool true) ∧ Below w.heap.size w w' := by
  have b1 : decide ((2147483647 : Int) < (p : Int)) = false := decide_eq_false (by omega)
  have HMo := Lib.hid (docModestR A c p false (decide_eq_false (by omega)).symm w)
  have HAw := Lib.hid (fun wx => Aw.docAwake wx)
  clear h0 h
  go_enter Tryz.func3, Tryz.ntmps3
  go_wp2_with fail
  refine HMo.out.mono ?_
  rintro e w1 ⟨rfl, hb1⟩
  have HB1 := Lib.hid hb1
  clear hb1 HMo
  go_wp2_with fail
  refine (HAw.out _).mono ?_
  rintro e w2 ⟨rfl, hb2⟩
  have HB2 := Lib.hid (bthen HB1.out hb2)
  clear hb2
  go_wp2_with fail
  go_ret
  exact ⟨rfl, HB2.out⟩
theorem rb_bad (A : Option Addr) (c : Nat) (l : List UInt8) (w : World) (hs : SB w A c l) (hl : l.length ≤ 5000) (h0 : ¬ docCode l = 0) :
    Calls Tryz.prog 3 #[.slice A l.length c] w fun e w' => e = .returned (.bool true) ∧ Below w.heap.size w w' := by
  have HMo := Lib.hid (docModestR A c l.length true (decide_eq_true (by omega)).symm w)
  have HAw := Lib.hid (fun wx => Aw.docAwake wx)
  have HCp := Lib.hid (fun wx (hb : Below w.heap.size w wx) => fresh_of (docCopy A c l wx (hs.keep hb) (by omega)))
  have HVd := Lib.hid (fun A1 c1 wx (h : SB wx A1 c1 l) => implValidate A1 c1 l wx h (by omega))
  obtain ⟨dc, hdc⟩ : ∃ x, x = docCode l := ⟨_, rfl⟩
  obtain ⟨p, hp⟩ : ∃ p, p = l.length := ⟨_, rfl⟩
  rw [← hdc, ← hp] at HVd
  rw [← hdc] at h0
  rw [← hp] at HMo HCp ⊢
  have b1 : decide ((2147483647 : Int) < (p : Int)) = false := decide_eq_false (by omega)
  have d1 : (dc != 0) = true := by rw [bne_iff_ne]; exact h0
  clear hs hl h0 hdc hp
  go_enter Tryz.func3, Tryz.ntmps3
  go_wp2_with fail
  refine HMo.out.mono ?_
  rintro e w1 ⟨rfl, hb1⟩
  have HB1 := Lib.hid hb1
  clear hb1 HMo
  go_wp2_with fail
  refine (HCp.out _ HB1.out).mono ?_
  rintro e w2 ⟨A2, c2, rfl, hs2, -, hb2⟩
  have HB2 := Lib.hid (bthen HB1.out hb2)
  have HV2 := Lib.hid (HVd.out A2 c2 w2 hs2)
  clear hb2 hs2 HCp HVd
  go_wp2_with fail
  refine HV2.out.mono ?_
  rintro e w3 ⟨rfl, hb3⟩
  have HB3 := Lib.hid (bthen HB2.out hb3)
  clear hb3 HV2
  go_wp2_with fail
  refine (HAw.out _).mono ?_
  rintro e w4 ⟨rfl, hb4⟩
  have HB4 := Lib.hid (bthen HB3.out hb4)
  clear hb4
  go_wp2_with fail
  go_ret
  exact ⟨rfl, HB4.out⟩
theorem fnDocRebuilt_walk (A : Option Addr) (c : Nat) (l : List UInt8) (w : World) (hs : SB w A c l) :
    Calls Tryz.prog 3 #[.slice A l.length c] w fun e w' => e = .returned (.bool true) ∧ Below w.heap.size w w' := by
  by_cases h1 : 2147483647 < l.length
  · exact rb_long A c _ w h1
  by_cases h2 : 5000 < l.length
  · exact rb_mid A c _ w (by omega) h2
  by_cases h0 : docCode l = 0
  · exact rb_main A c l w hs (by omega) h0
  · exact rb_bad A c l w hs (by omega) h0
end Ck
end Go.Proofs.YtohfgfbfohkkkaaGreatDoor.X
