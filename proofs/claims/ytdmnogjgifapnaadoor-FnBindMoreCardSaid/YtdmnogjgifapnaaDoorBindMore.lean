/- Walk of the law FnBindMore. -/
import Derived.Test.YtdmnogjgifapnaaDoorMoreD
import Derived.Test.YtdmnogjgifapnaaDoorBindDoc
import Derived.Test.YtdmnogjgifapnaaDoorFresh
set_option linter.unusedVariables false
set_option linter.unusedSimpArgs false
set_option maxRecDepth 100000
namespace Go.Proofs.YtdmnogjgifapnaaDoor.X
open Go.RowKit
theorem fits_some (v : Val) (cs : List Value) (wx : World) (hv : RV wx v cs) : ∃ q : Bool, Calls Tryd.prog 12 #[.agg cs.toArray] wx fun e w' => e = .returned (.bool q) ∧ Below wx.heap.size wx w' := by
  by_cases h : v.text.size ≤ 2147483647 ∧ v.more.size ≤ 2147483647 ∧ v.b.length ≤ 2147483647 ∧ v.kids.length ≤ 2147483647
  · exact ⟨true, zzFits1 v _ wx hv h⟩
  · exact ⟨false, zzFits1_not v _ wx hv h⟩
set_option maxHeartbeats 1600000 in
theorem fnBindMore_walk (v : Val) (cs : List Value) (A0 : Option Addr) (c0 : Nat) (mb : List UInt8) (n : Int) (w : World) (hok : okv v) (hv : RV w v cs) (hs0 : SB w A0 c0 mb) :
    Calls Tryd.prog 5 #[.agg cs.toArray, .slice A0 mb.length c0, .int .i64 n] w fun e w' => e = .returned (.bool true) ∧ Below w.heap.size w w' := by
  have HV := Lib.hid hv
  obtain ⟨v0, hv00⟩ : ∃ x, x = v := ⟨_, rfl⟩
  rw [← hv00] at HV hok
  obtain ⟨k, text, more, bn, bits, high, b, kids⟩ := v
  simp only [RV] at hv
  obtain ⟨A, c, K', d, rfl, hs, hdd, hd2, hk⟩ := hv
  have HF := Lib.hid (fun (wx : World) (hx : Below w.heap.size w wx) => fits_some v0 _ wx (HV.out.keep hx))
  have HD := Lib.hid (fun (wx : World) (hx : Below w.heap.size w wx) => bindDoc v0 _ wx hok (HV.out.keep hx))
  clear hk hv00 hs hok
  have HS0 := Lib.hid hs0
  have hB0 : Below w.heap.size w (w.alloc (.cells #[.int .i64 k, .string text, .string more, .int .i64 bn, .int .u64 bits, .int .u64 high, .slice A b.length c, .slice K' kids.length d] 29)) := balloc (Below.refl _ _) (Nat.le_refl _) _
  obtain ⟨m, hm⟩ : ∃ m, m = mb.length := ⟨_, rfl⟩
  have HM := Lib.hid hm
  rw [← hm]
  clear hm hs0
  obtain ⟨q, hq⟩ := HF.out _ hB0
  have HQ := Lib.hid hq
  clear hq HF
  cases q with
  | false =>
    go_enter Tryd.func5, Tryd.ntmps5
    go_wp2_with fail
    refine HQ.out.mono ?_
    rintro e w1 ⟨rfl, hb1⟩
    replace hb1 := hb1.mono (B' := w.heap.size + 1) (by simp)
    have hz1 := boxs hb1
    have q0 := boxc hb1 0
    have q1 := boxc hb1 1
    have q2 := boxc hb1 2
    have q3 := boxc hb1 3
    have q4 := boxc hb1 4
    have q5 := boxc hb1 5
    have q6 := boxc hb1 6
    have q7 := boxc hb1 7
    simp only [List.getElem?_cons_succ, List.getElem?_cons_zero] at q0 q1 q2 q3 q4 q5 q6 q7
    go_wp2_with fail
    go_ret
    exact ⟨rfl, boxb hb1⟩
  | true =>
  by_cases a1 : (2147483647 : Int) < m
  · skip
    go_enter Tryd.func5, Tryd.ntmps5
    go_wp2_with fail
    refine HQ.out.mono ?_
    rintro e w1 ⟨rfl, hb1⟩
    replace hb1 := hb1.mono (B' := w.heap.size + 1) (by simp)
    have hz1 := boxs hb1
    have q0 := boxc hb1 0
    have q1 := boxc hb1 1
    have q2 := boxc hb1 2
    have q3 := boxc hb1 3
    have q4 := boxc hb1 4
    have q5 := boxc hb1 5
    have q6 := boxc hb1 6
    have q7 := boxc hb1 7
    simp only [List.getElem?_cons_succ, List.getElem?_cons_zero] at q0 q1 q2 q3 q4 q5 q6 q7
    go_wp2_with fail
    go_ret
    exact ⟨rfl, boxb hb1⟩
  · skip
    go_enter Tryd.func5, Tryd.ntmps5
    go_wp2_with fail
    refine HQ.out.mono ?_
    rintro e w1 ⟨rfl, hb1⟩
    replace hb1 := hb1.mono (B' := w.heap.size + 1) (by simp)
    have hz1 := boxs hb1
    have q0 := boxc hb1 0
    have q1 := boxc hb1 1
    have q2 := boxc hb1 2
    have q3 := boxc hb1 3
    have q4 := boxc hb1 4
    have q5 := boxc hb1 5
    have q6 := boxc hb1 6
    have q7 := boxc hb1 7
    simp only [List.getElem?_cons_succ, List.getElem?_cons_zero] at q0 q1 q2 q3 q4 q5 q6 q7
    go_wp2_with fail
    refine (HD.out _ (boxb hb1)).mono ?_
    rintro e w2 ⟨hcase, hb2⟩
    have hb2' := bstep (boxb hb1) (by omega) hb2
    clear q0 q1 q2 q3 q4 q5 q6 q7
    rcases hcase with rfl | ⟨hk3, hfine, A2, c2, rfl, hs2⟩
    · go_wp2_with fail
      go_ret
      exact ⟨rfl, hb2'⟩
    obtain ⟨D, hD⟩ : ∃ D, D = docBytesOf v0.kids := ⟨_, rfl⟩
    rw [← hD] at hs2 ⊢
    have HDD := Lib.hid hD
    have HDL : Hid (D.length ≤ 2000000) := Lib.hid (by have := doc_len v0 hfine hk3; rw [hD]; unfold docBytesOf; simp [i32_len]; omega)
    have HS2 := Lib.hid hs2
    clear hD hs2
    by_cases a2 : (1000 : Int) < m
    · go_wp2_with fail
      go_ret
      exact ⟨rfl, hb2'⟩
    by_cases a3 : n < 1
    · go_wp2_with fail
      go_ret
      exact ⟨rfl, hb2'⟩
    by_cases a4 : 100 < n
    · go_wp2_with fail
      go_ret
      exact ⟨rfl, hb2'⟩
    have b2 : decide ((1000 : Int) < m) = false := by simp; omega
    have b3 : decide (n < 1) = false := by simp; omega
    have b4 : decide (100 < n) = false := by simp; omega
    have HA2 : Hid (m ≤ 1000) := Lib.hid (by omega)
    have HA3 : Hid (1 ≤ n ∧ n ≤ 100) := Lib.hid (by omega)
    clear a1 a2 a3 a4
    have hm := HM.out
    subst hm
    obtain ⟨L, hL⟩ : ∃ L, L = D ++ mb := ⟨_, rfl⟩
    have HRD : Hid (∀ wx A c, SB wx A c L → Calls Tryd.prog 22 #[.slice A L.length c, .int .i64 n] wx fun e w' => ∃ A2 c2, e = .returned (.tuple #[.slice A2 D.length c2, .int .i64 0]) ∧ SB w' A2 c2 D ∧ Below wx.heap.size wx w') := Lib.hid (by
      intro wx A c h
      rw [hL, HDD.out] at h ⊢
      exact rawRead_doc wx A c v0 hfine hk3 mb n h HA3.out.1 HA3.out.2)
    have HRV : Hid (∀ wx A c, SB wx A c L → Calls Tryd.prog 23 #[.slice A L.length c] wx fun e w' => e = .returned (.int .i64 0) ∧ Below wx.heap.size wx w') := Lib.hid (by
      intro wx A c h
      rw [hL, HDD.out] at h ⊢
      exact rawVal_doc wx A c v0 hfine hk3 mb HA2.out h)
    have HL := Lib.hid hL
    have HB2 := Lib.hid hb2'
    have hz2 := hb2'.size
    have HS0' := Lib.hid (HS0.out.keep hb2')
    clear hfine hk3 hb2 hL HDD HM HD hB0
    go_wp2_with (first | (refine wp_app (.tmp 40) (.tmp 41) 26 rfl rfl infoO Tryd.underlying26 _ w2.heap.size (.slice (some ⟨w2.heap.size, 0, none⟩) 0 0) [] A2 c2 D rfl rfl ?a1 ?a2 ?a3 ?a4 ?_) | fail)
    case a1 => exact OB.lit_ w2 w2.heap.size (Nat.le_refl _) [] [] (by simp [byv]) (by simp) 0 rfl
    case a2 => exact HS2.out.alloc _
    case a3 => simp
    case a4 => have := HDL.out; simp; omega
    intro v3 w3 h3
    have ho3 : OB 5 w3 w2.heap.size v3 D := by simpa using h3.own
    have hb3 : Below w2.heap.size w2 w3 := (balloc (Below.refl _ _) (Nat.le_refl _) _).trans (h3.kept (OB.lit_ w2 w2.heap.size (Nat.le_refl _) [] [] (by simp [byv]) (by simp) 0 rfl) (by simp))
    have hz3 := hb3.size
    obtain ⟨A3, c3, rfl, hs3, -⟩ := ho3.sb
    have HS03 := HS0'.out.keep hb3
    go_wp2_with (first | (refine wp_app (.tmp 42) (.tmp 43) 26 rfl rfl infoO Tryd.underlying26 _ w2.heap.size (.slice A3 D.length c3) D A0 c0 mb rfl rfl ?b1 ?b2 ?b3 ?b4 ?_) | fail)
    case b1 => exact ho3
    case b2 => exact HS03
    case b3 => exact hz3
    case b4 => have := HDL.out; have := HA2.out; omega
    intro v4 w4 h4
    have ho4 : OB 5 w4 w2.heap.size v4 L := by have := h4.own; rw [← HL.out] at this; exact this
    have hb4 : Below w2.heap.size w2 w4 := hb3.trans (h4.kept ho3 hz3)
    obtain ⟨A4, c4, rfl, hs4, -⟩ := ho4.sb
    have HS4 := Lib.hid hs4
    have HB4 := Lib.hid (bthen HB2.out hb4)
    have HS24 := Lib.hid (HS2.out.keep hb4)
    clear ho3 hb3 hs3 hz3 HS03 h4 ho4 hs4 hb4 h3 hb2' hz2
    go_wp2_with fail
    refine (HRD.out _ A4 c4 HS4.out).mono ?_
    rintro e w5 ⟨A5, c5, rfl, hs5, hb5⟩
    have HS5 := Lib.hid hs5
    have HB5 := Lib.hid (bthen HB4.out hb5)
    have HS45 := Lib.hid (HS4.out.keep hb5)
    have HS25 := Lib.hid (HS24.out.keep hb5)
    clear hs5 hb5
    go_wp2_with fail
    refine (HRV.out _ A4 c4 HS45.out).mono ?_
    rintro e w6 ⟨rfl, hb6⟩
    have st1 := str_of (HS5.out.keep hb6)
    have st2 := str_of (HS25.out.keep hb6)
    have HB6 := Lib.hid (bthen HB5.out hb6)
    clear hb6
    go_wp2_with fail
    go_ret
    exact ⟨rfl, HB6.out⟩
end Go.Proofs.YtdmnogjgifapnaaDoor.X
