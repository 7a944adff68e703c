/- impl.Elements of what is valid: the elements' bytes, in memory of the call's own. -/
import Derived.Test.YtohfgfbfohkkkaaGreatDoorRb1
import Derived.Test.YtohfgfbfohkkkaaGreatDoorAw
set_option linter.unusedVariables false
set_option linter.unusedSimpArgs false
set_option maxRecDepth 100000
namespace Go.Proofs.YtohfgfbfohkkkaaGreatDoor.X
open Go.RowKit Go.Proofs.YtohfgfbfohkkkaaGreatDoorW.PrintLast
namespace Ck
open Sp Al Av Aw
def R9.T8 : Bool × List (List Nat × List Nat) := (true, [([], []), ([], []), ([1], [1]), ([0, 0], [0]), ([2, 3, 0, 1, 2, 3], [2])])
def R9.B8 : List Nat := [0, 0, 2, 1, 15]
theorem R9.tab8 : rtab .any (opsOf Tryz.f9 8) = R9.T8 := by kernel_rfl
theorem R9.bits8 : waitsOk R9.T8.2 R9.B8 = true := by kernel_rfl
/-- A list of bytes as slices of the call's own, in order. -/
def Obs (w : World) (base : Nat) : List (List UInt8) → List Value → Prop
  | [], vs => vs = []
  | e :: r, vs => ∃ A c vs', vs = .slice A e.length c :: vs' ∧ OB 5 w base (.slice A e.length c) e ∧ Obs w base r vs'
theorem Obs.keep {w w1 : World} {base : Nat} (hb : Below w.heap.size w w1) : ∀ {L : List (List UInt8)} {vs : List Value}, Obs w base L vs → Obs w1 base L vs
  | [], vs, h => h
  | e :: r, vs, h => by
    obtain ⟨A, c, vs', rfl, h1, h2⟩ := h
    exact ⟨A, c, vs', rfl, h1.keep hb, Obs.keep hb h2⟩
theorem Obs.grown {w w1 : World} {base b' : Nat} {E' : TypeId} {v' : Value} {l' : List Value} (hE : 5 ≠ E') (hr : OG E' w b' v' l') (hg : w.grownBy w1 v'.ownBlock) : ∀ {L : List (List UInt8)} {vs : List Value}, Obs w base L vs → Obs w1 base L vs
  | [], vs, h => h
  | e :: r, vs, h => by
    obtain ⟨A, c, vs', rfl, h1, h2⟩ := h
    refine ⟨A, c, vs', rfl, h1.other hg ?_, Obs.grown hE hr hg h2⟩
    rcases apart hE h1 hr with h | h
    · rw [h]
      cases (Value.slice A e.length c).ownBlock with
      | none => exact .inl rfl
      | some k => exact .inr (by simp)
    · exact .inr (fun e2 => h e2.symm)
theorem Obs.snoc {w : World} {base : Nat} {e : List UInt8} {A : Option Addr} {c : Nat} (h : OB 5 w base (.slice A e.length c) e) : ∀ {L : List (List UInt8)} {vs : List Value}, Obs w base L vs → Obs w base (L ++ [e]) (vs ++ [.slice A e.length c])
  | [], vs, hp => by
    have hp' : vs = [] := hp
    subst hp'
    exact ⟨A, c, [], rfl, h, rfl⟩
  | x :: r, vs, hp => by
    obtain ⟨A1, c1, vs', rfl, h1, h2⟩ := hp
    exact ⟨A1, c1, vs' ++ [.slice A e.length c], by simp, h1, Obs.snoc h h2⟩
theorem Obs.sls {w : World} {base : Nat} : ∀ {L : List (List UInt8)} {vs : List Value}, Obs w base L vs → Sls w L vs
  | [], vs, h => h
  | e :: r, vs, h => by
    obtain ⟨A, c, vs', rfl, h1, h2⟩ := h
    obtain ⟨A1, c1, e1, h3, -⟩ := h1.sb
    have h4 : A = A1 ∧ c = c1 := by simpa using e1
    obtain ⟨rfl, rfl⟩ := h4
    exact ⟨A, c, vs', rfl, h3, Obs.sls h2⟩
theorem infoBs : (Tryz.prog.info? 22).map (fun i => (i.zero, i.size, i.bytes)) = some (some (.slice none 0 0), 1, 24) := by kernel_rfl
theorem measL {q n : Nat} (h : q < n) : n - (intOf (.int .i64 ((q : Int) + 1))).toNat < n - (intOf (.int .i64 (q : Int))).toNat := by simp [intOf]; omega
theorem w64L {q n : Nat} (h : q < n) (hl : n ≤ 1000000) : wrap64 ((q : Int) + 1) = (q : Int) + 1 := by unfold wrap64; omega
theorem flat_le : ∀ (L : List (List UInt8)) (i : Nat) (hi : i < L.length), (L[i]).length ≤ L.flatten.length
  | e :: r, 0, _ => by simp
  | e :: r, i + 1, hi => by
    have := flat_le r i (by simpa using hi)
    simp only [List.getElem_cons_succ, List.flatten_cons, List.length_append]
    omega
set_option maxHeartbeats 4000000 in
theorem implElements (A : Option Addr) (c : Nat) (l : List UInt8) (nn : Int) (w : World) (hs : SB w A c l) (hl : l.length ≤ 20000) (hr : readLen l = (nn, true)) (h5 : 5 ≤ nn) (hle : nn ≤ (l.length : Int)) (hR : chk (l.length + 1) (nn - 4) (l.drop 4) = 0) (L : List (List UInt8)) (hL : L = els (l.length + 1) (nn - 4) (l.drop 4)) (hL1 : L.length ≤ 20000) (hL2 : L.flatten.length ≤ 20000) :
    Calls Tryz.prog 9 #[.slice A l.length c] w fun e w' => ∃ A1 c1 vs, e = .returned (.tuple #[.slice A1 L.length c1, .bool true]) ∧ GS w' A1 c1 vs ∧ vs.length = L.length ∧ Sls w' L vs ∧ Below w.heap.size w w' := by
  have HC : Hid (Calls Tryz.prog 24 #[.slice A l.length c] w fun e w' => ∃ A1 c1 vs, e = .returned (.tuple #[.slice A1 L.length c1, .nilIface]) ∧ GS w' A1 c1 vs ∧ Sls w' L vs ∧ Below w.heap.size w w') := Lib.hid (by
    refine (docElements A c l nn w hs hl hr h5 hle hR).mono ?_
    rintro e w' ⟨v, vs, rfl, ho, hS, hb⟩
    rw [← hL] at hS
    obtain ⟨A1, c1, rfl, hg, -⟩ := ho.sb
    exact ⟨A1, c1, vs, by rw [hS.len], hg, hS, hb⟩)
  obtain ⟨p, hp⟩ : ∃ p, p = l.length := ⟨_, rfl⟩
  obtain ⟨n, hn⟩ : ∃ n, n = L.length := ⟨_, rfl⟩
  rw [← hp, ← hn] at HC
  rw [← hp, ← hn]
  have HN : Hid (n = L.length ∧ n ≤ 20000 ∧ L.flatten.length ≤ 20000) := Lib.hid ⟨hn, by omega, hL2⟩
  clear hs hl hr h5 hle hR hL hL1 hL2 hp hn
  go_enter Tryz.func9, Tryz.ntmps9
  go_wp2_with fail
  refine HC.out.mono ?_
  rintro e w1 ⟨A1, c1, vs, rfl, hg1, hS1, hb1⟩
  have HG1 := Lib.hid hg1
  have HS1 := Lib.hid hS1
  have HB1 := Lib.hid hb1
  clear hg1 hS1 hb1 HC
  go_wp2_with fail
  go_loopw [6, 16] (fun u i wr => ∃ q : Nat, q ≤ n ∧ i = .int .i64 q ∧ Hid (∃ us, OG 22 wr w1.heap.size u us ∧ Obs wr w1.heap.size (L.take q) us ∧ us.length = q) ∧ Hid (Below w1.heap.size w1 wr)) (fun _ i _ => n - (intOf i).toNat)
  case atStart => exact ⟨0, Nat.zero_le _, rfl, Lib.hid ⟨[], OG.nil _ _, rfl, rfl⟩, Lib.hid (Below.refl _ _)⟩
  case round =>
    obtain ⟨q, hq, rfl, ⟨us, ho, hP, hul⟩, HB2⟩ := hrel
    by_cases hlt : q < n
    · have hqL : q < L.length := by rw [← HN.out.1]; exact hlt
      obtain ⟨A3, c3, hvq, hs3⟩ := HS1.out.at q hqL
      have hvl : vs.length = L.length := HS1.out.len
      obtain ⟨b, off, rfl, hcell⟩ := HG1.out.cells (by omega)
      have hcq : wr.cell? ⟨b, off + q, none⟩ = some (.slice A3 (L[q]).length c3) := by
        have h1 := hcell q (by omega)
        have h2 : vs[q]'(by omega) = .slice A3 (L[q]).length c3 := by
          have := hvq
          rw [List.getElem?_eq_getElem (by omega)] at this
          exact Option.some.inj this
        rw [h2] at h1
        exact (HB2.out.cell (World.block_lt_of_cell? _ _ h1)).trans h1
      have hfl := flat_le L q hqL
      have HOW := Lib.hid (implOwn A3 c3 L[q] wr (hs3.keep HB2.out) (by have := HN.out; omega))
      have HSN : Hid (∀ wy A4 c4, OB 5 wy w1.heap.size (.slice A4 (L[q]).length c4) L[q] → Obs wy w1.heap.size (L.take q) us → Obs wy w1.heap.size (L.take (q + 1)) (us ++ [.slice A4 (L[q]).length c4])) := Lib.hid fun wy A4 c4 h1 h2 => by
        rw [List.take_succ_eq_append_getElem hqL]
        exact Obs.snoc h1 h2
      obtain ⟨e0, he0⟩ : ∃ e0, e0 = L[q] := ⟨_, rfl⟩
      rw [← he0] at HOW HSN hcq
      have hq0 : (0 : Int) ≤ (q : Int) := Int.natCast_nonneg _
      have hq1 : (q : Int) < (n : Int) := by omega
      have HP := Lib.hid hP
      have HUL := Lib.hid hul
      have HO := Lib.hid ho
      obtain ⟨Au, cu, rfl, -, -⟩ := ho.sb
      rw [hul] at HO ⊢
      obtain ⟨m, hm⟩ : ∃ m, m = e0.length := ⟨_, rfl⟩
      rw [← hm] at HOW HSN hcq
      have HM := Lib.hid hm
      clear hvq hs3 hvl hcell hfl he0 hP ho hul hm
      go_wp2_with fail
      refine HOW.out.mono ?_
      rintro e w2 ⟨v2, rfl, ho2, hb2⟩
      have HB3 := Lib.hid (bthen' HB2.out hb2 HB2.out.size)
      have hz2 : w1.heap.size ≤ w2.heap.size := HB3.out.size
      obtain ⟨A4, c4, rfl, -, -⟩ := ho2.sb
      have HO2 := Lib.hid (ho2.mono HB2.out.size)
      have HOG2 := Lib.hid (HO.out.keep hb2)
      have HP2 := Lib.hid (HP.out.keep hb2)
      rw [← HM.out] at HO2 ⊢
      clear ho2 hb2 HOW HO HP
      go_wp2_with (first | (refine wp_appG (E := 22) (.tmp 20) (.tmp 23) 27 rfl rfl (.slice none 0 0) 24 infoBs rfl Tryz.underlying27 _ w1.heap.size (.slice Au q cu) us (some ⟨w2.heap.size, 0, none⟩) 1 [.slice A4 m c4] rfl rfl ?a1 ?a2 ?a3 ?a4 ?a5 ?a6 ?_) | fail)
      case a1 => exact HOG2.out.alloc _
      case a2 => exact GS.lit_ (E := 22) w2 [.slice A4 m c4] [.slice A4 m c4] rfl (by simp) 1 rfl
      case a3 => simp; omega
      case a4 => simp [Value.oneCell']
      case a5 => have := HUL.out; have := HN.out; simp; omega
      case a6 => have := HUL.out; have := HN.out; simp; omega
      intro v4 w4 h4
      have hga := HOG2.out.alloc (.cells #[.slice A4 m c4] 22)
      have hkept := h4.kept hga (by simp; omega)
      have ho4 := h4.own
      have hbal : Below w2.heap.size w2 (w2.alloc (.cells #[.slice A4 m c4] 22)) := balloc (Below.refl _ _) (Nat.le_refl _) _
      have hP4 := Obs.grown (by decide) hga h4.grown (HP2.out.keep hbal)
      have hOne := Obs.grown (L := [e0]) (vs := [.slice A4 m c4]) (by decide) hga h4.grown ⟨A4, c4, [], by rw [← HM.out], by rw [← HM.out]; exact HO2.out.keep hbal, rfl⟩
      have hO4 : OB 5 w4 w1.heap.size (.slice A4 m c4) e0 := by
        obtain ⟨A5, c5, vs', e5, h5, -⟩ := hOne
        have h6 := (List.cons.inj e5).1
        rw [h6]; exact h5
      have hSN := HSN.out w4 A4 c4 hO4 hP4
      obtain ⟨Aw, cw, rfl, -, -⟩ := ho4.sb
      have HO4 := Lib.hid ho4
      have HSN4 := Lib.hid hSN
      have HB4 : Hid (Below w1.heap.size w1 w4) := Lib.hid ((balloc HB3.out hz2 _).trans hkept)
      clear h4 hkept ho4 hga hbal hP4 hOne hO4 hSN
      have hw64 : wrap64 ((q : Int) + 1) = (q : Int) + 1 := w64L hlt (by have := HN.out; omega)
      go_wp2_with fail
      go_roundw
      case rel => exact ⟨q + 1, by omega, by go_num, Lib.hid ⟨_, HO4.out, HSN4.out, by have := HUL.out; simp; omega⟩, HB4⟩
      case measure => first | exact measL hlt | (rw [hw64]; exact measL hlt)
    · have hqn : q = n := by omega
      subst hqn
      have HP : Hid (Sls wr L us) := Lib.hid (by
        have h := hP.sls
        rwa [HN.out.1, List.take_length] at h)
      have HUL := Lib.hid hul
      obtain ⟨Au, cu, rfl, hgu, -⟩ := ho.sb
      have HG := Lib.hid hgu
      rw [hul]
      clear hP ho hgu hul
      go_wp2_with fail
      refine start_ (n := 5) (S := fun w' => True) (ds := []) #[false, false, false, false, false] (by kernel_rfl) rfl rfl trivial (fun hHeld => ?_)
      refine with_tabW R9.tab8 R9.bits8 (fun HT_ HW_ => ?_)
      refine pure_ (i := 0) (N := some 26) (v := ?_) (a' := ?_) #[true, false, false, false, false] rfl rfl (any_of HT_.out (by kernel_rfl)) (fun _ _ _ h => h) (Or.inl ⟨by rfl, ?_⟩) ?_ ?_
      rotate_left
      · intro w'
        go_simp
        with_reducible rfl
      rotate_left
      · simp only [Act.put, List.setIfInBounds_toArray, List.set_cons_zero, List.set_cons_succ, i64_w, i32_w]
        rfl
      refine pure_ (i := 1) (N := some 27) (v := ?_) (a' := ?_) #[true, true, false, false, false] rfl rfl (any_of HT_.out (by kernel_rfl)) (fun _ _ _ h => h) (Or.inl ⟨by rfl, ?_⟩) ?_ ?_
      rotate_left
      · intro w'
        go_simp
        with_reducible rfl
      rotate_left
      · simp only [Act.put, List.setIfInBounds_toArray, List.set_cons_zero, List.set_cons_succ, i64_w, i32_w]
        rfl
      refine pure_ (i := 2) (N := some 28) (v := ?_) (a' := ?_) #[true, true, true, false, false] rfl rfl (any_of HT_.out (by kernel_rfl)) (fun _ _ _ h => h) (Or.inl ⟨by rfl, ?_⟩) ?_ ?_
      rotate_left
      · intro w'
        go_simp
        with_reducible rfl
      rotate_left
      · simp only [Act.put, List.setIfInBounds_toArray, List.set_cons_zero, List.set_cons_succ, i64_w, i32_w]
        rfl
      refine pure_ (i := 3) (N := some 2) (v := ?_) (a' := ?_) #[true, true, true, true, false] rfl rfl (any_of HT_.out (by kernel_rfl)) (fun _ _ _ h => h) (Or.inl ⟨by rfl, ?_⟩) ?_ ?_
      rotate_left
      · intro w'
        go_simp
        with_reducible rfl
      rotate_left
      · simp only [Act.put, List.setIfInBounds_toArray, List.set_cons_zero, List.set_cons_succ, i64_w, i32_w]
        rfl
      refine pure_ (i := 4) (N := some 3) (v := ?_) (a' := ?_) #[true, true, true, true, true] rfl rfl (any_of HT_.out (by kernel_rfl)) (fun _ _ _ h => h) (Or.inl ⟨by rfl, ?_⟩) ?_ ?_
      rotate_left
      · intro w'
        go_simp
        with_reducible rfl
      rotate_left
      · simp only [Act.put, List.setIfInBounds_toArray, List.set_cons_zero, List.set_cons_succ, i64_w, i32_w]
        rfl
      refine done_ (done_of HT_.out (by kernel_rfl)) ?_
      go_wp2_with fail
      go_ret2
      exact ⟨Au, cu, us, rfl, HG.out.drew, by rw [HUL.out, HN.out.1], HP.out.keep (bdrew (Below.refl _ _)), bdrew (HB1.out.trans (HB2.out.mono HB1.out.size))⟩
end Ck
end Go.Proofs.YtohfgfbfohkkkaaGreatDoor.X
