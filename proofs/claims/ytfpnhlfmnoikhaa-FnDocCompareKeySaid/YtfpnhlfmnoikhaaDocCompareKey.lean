/- Walk of the law FnDocCompareKey. -/
import Derived.Test.YtfpnhlfmnoikhaaDoc9
import Derived.Test.YtfpnhlfmnoikhaaOpen
import Derived.Test.YtfpnhlfmnoikhaaCompareKey
set_option linter.unusedVariables false
set_option linter.unusedSimpArgs false
namespace Go.Proofs.Ytfpnhlfmnoikhaa.X
open Go.RowKit
theorem bytes_ext {a b : ByteArray} (h : a.data.toList = b.data.toList) : a = b := by
  obtain ⟨a⟩ := a
  obtain ⟨b⟩ := b
  obtain ⟨a⟩ := a
  obtain ⟨b⟩ := b
  simp at h
  rw [h]
theorem fits_some (v : Val) (cs : List Value) (wx : World) (hv : RV wx v cs) : ∃ q : Bool, Calls Try.prog 11 #[.agg cs.toArray] wx fun e w' => e = .returned (.bool q) ∧ Below wx.heap.size wx w' := by
  by_cases h : v.text.size ≤ 2147483647 ∧ v.more.size ≤ 2147483647 ∧ v.b.length ≤ 2147483647 ∧ v.kids.length ≤ 2147483647
  · exact ⟨true, zzFits1 v _ wx hv h⟩
  · exact ⟨false, zzFits1_not v _ wx hv h⟩

set_option maxRecDepth 20000 in
set_option maxHeartbeats 16000000 in
theorem fnDocCompareKey_walk (name : ByteArray) (v : Val) (cs : List Value) (other : ByteArray) (w : World) (hn1 : name.size ≤ 140737488351232) (hn2 : other.size ≤ 140737488351232) (hok : okv v) (hv : RV w v cs) :
    Calls Try.prog 5 #[.string name, .agg cs.toArray, .string other] w fun e w' => e = .returned (.bool true) ∧ Below w.heap.size w w' := by
  have HV := Lib.hid hv
  obtain ⟨v0, hv00⟩ : ∃ x, x = v := ⟨_, rfl⟩
  rw [← hv00] at HV hok
  obtain ⟨k, text, more, n, bits, high, b, kids⟩ := v
  simp only [RV] at hv
  obtain ⟨A, c, K', d, rfl, hs, hdd, hd2, hk⟩ := hv
  have ek : v0.kind = k := by rw [hv00]; rfl
  clear hk hv00 hs
  have HF : Hid (∀ wx : World, Below w.heap.size w wx → ∃ q : Bool, Calls Try.prog 11 #[.agg #[.int .i64 k, .string text, .string more, .int .i64 n, .int .u64 bits, .int .u64 high, .slice A b.length c, .slice K' kids.length d]] wx fun e w' => e = .returned (.bool q) ∧ Below wx.heap.size wx w') := Lib.hid fun wx hb => fits_some v0 _ wx (HV.out.keep hb)
  have HR : Hid (∀ wx : World, Below w.heap.size w wx → Calls Try.prog 16 #[.agg #[.int .i64 k, .string text, .string more, .int .i64 n, .int .u64 bits, .int .u64 high, .slice A b.length c, .slice K' kids.length d]] wx fun e w' => e = .returned (.bool (fine v0 300 5000)) ∧ Below wx.heap.size wx w') := Lib.hid fun wx hb => docFine v0 _ wx hok (HV.out.keep hb)
  have HE : Hid (fine v0 300 5000 = true → name.size ≤ 1000 → ∀ wx : World, Below w.heap.size w wx → Calls Try.prog 17 #[.agg #[.string name, .int .i64 k, .string text, .string more, .int .i64 n, .int .u64 bits, .int .u64 high, .slice A b.length c, .slice K' kids.length d]] wx fun e w' => ∃ A1 c1 dv, e = .returned (.slice A1 (ub k :: (name.data.toList ++ 0 :: dv)).length c1) ∧ SB w' A1 c1 (ub k :: (name.data.toList ++ 0 :: dv)) ∧ Below wx.heap.size wx w') := Lib.hid fun hf hnm wx hb => by
    have hl := fine_value hf (by omega) (by omega) (by omega)
    have e1 : docElemOf name v0 = ub k :: (name.data.toList ++ 0 :: docValue v0) := by simp [docElemOf, hd, bs, ek]
    refine (docElem_calls name v0 _ _ _ _ _ _ _ _ wx (by rw [e1]; simp; omega) (HV.out.keep hb)).mono ?_
    rintro e w' ⟨v1, rfl, ho, hb1⟩
    rw [e1] at ho
    obtain ⟨A1, c1, rfl, hs1, -⟩ := ho.sb
    exact ⟨A1, c1, docValue v0, rfl, hs1, hb1⟩
  clear HV hok ek
  have hB0 : Below w.heap.size w (w.alloc (.cells #[.int .i64 k, .string text, .string more, .int .i64 n, .int .u64 bits, .int .u64 high, .slice A b.length c, .slice K' kids.length d] 29)) := balloc (Below.refl _ _) (Nat.le_refl _) _
  obtain ⟨f, hf⟩ : ∃ f, f = fine v0 300 5000 := ⟨_, rfl⟩
  rw [← hf] at HR HE
  clear hf
  obtain ⟨p1, hp1⟩ : ∃ f, plainB name.data.toList = f := ⟨_, rfl⟩
  obtain ⟨p2, hp2⟩ : ∃ f, plainB other.data.toList = f := ⟨_, rfl⟩
  by_cases a1 : (name.size : Int) > 2147483647
  · go_enter Try.func5, Try.ntmps5
    go_wp2_with fail
    go_ret
    exact ⟨rfl, hB0⟩
  obtain ⟨q, hq⟩ := HF.out _ hB0
  cases q with
  | false =>
    go_enter Try.func5, Try.ntmps5
    go_wp2_with fail
    refine hq.mono ?_
    rintro e w1 ⟨rfl, hb1⟩
    replace hb1 := hb1.mono (B' := w.heap.size + 1) (by simp)
    have hz1 := boxs hb1
    have q0 := boxc hb1 0
    have q1 := boxc hb1 1
    have q2 := boxc hb1 2
    have q3 := boxc hb1 3
    have q4 := boxc hb1 4
    have q5 := boxc hb1 5
    have q6 := boxc hb1 6
    have q7 := boxc hb1 7
    simp only [List.getElem?_cons_succ, List.getElem?_cons_zero] at q0 q1 q2 q3 q4 q5 q6 q7
    go_wp2_with fail
    go_ret
    exact ⟨rfl, boxb hb1⟩
  | true =>
  by_cases a2 : (other.size : Int) > 2147483647
  · go_enter Try.func5, Try.ntmps5
    go_wp2_with fail
    refine hq.mono ?_
    rintro e w1 ⟨rfl, hb1⟩
    replace hb1 := hb1.mono (B' := w.heap.size + 1) (by simp)
    have hz1 := boxs hb1
    have q0 := boxc hb1 0
    have q1 := boxc hb1 1
    have q2 := boxc hb1 2
    have q3 := boxc hb1 3
    have q4 := boxc hb1 4
    have q5 := boxc hb1 5
    have q6 := boxc hb1 6
    have q7 := boxc hb1 7
    simp only [List.getElem?_cons_succ, List.getElem?_cons_zero] at q0 q1 q2 q3 q4 q5 q6 q7
    go_wp2_with fail
    go_ret
    exact ⟨rfl, boxb hb1⟩
  by_cases a3 : (name.size : Int) > 1000
  · go_enter Try.func5, Try.ntmps5
    go_wp2_with fail
    refine hq.mono ?_
    rintro e w1 ⟨rfl, hb1⟩
    replace hb1 := hb1.mono (B' := w.heap.size + 1) (by simp)
    have hz1 := boxs hb1
    have q0 := boxc hb1 0
    have q1 := boxc hb1 1
    have q2 := boxc hb1 2
    have q3 := boxc hb1 3
    have q4 := boxc hb1 4
    have q5 := boxc hb1 5
    have q6 := boxc hb1 6
    have q7 := boxc hb1 7
    simp only [List.getElem?_cons_succ, List.getElem?_cons_zero] at q0 q1 q2 q3 q4 q5 q6 q7
    go_wp2_with fail
    go_ret
    exact ⟨rfl, boxb hb1⟩
  by_cases a4 : (other.size : Int) > 1000
  · go_enter Try.func5, Try.ntmps5
    go_wp2_with fail
    refine hq.mono ?_
    rintro e w1 ⟨rfl, hb1⟩
    replace hb1 := hb1.mono (B' := w.heap.size + 1) (by simp)
    have hz1 := boxs hb1
    have q0 := boxc hb1 0
    have q1 := boxc hb1 1
    have q2 := boxc hb1 2
    have q3 := boxc hb1 3
    have q4 := boxc hb1 4
    have q5 := boxc hb1 5
    have q6 := boxc hb1 6
    have q7 := boxc hb1 7
    simp only [List.getElem?_cons_succ, List.getElem?_cons_zero] at q0 q1 q2 q3 q4 q5 q6 q7
    go_wp2_with fail
    go_ret
    exact ⟨rfl, boxb hb1⟩
  cases p1 with
  | false =>
    go_enter Try.func5, Try.ntmps5
    go_wp2_with fail
    refine hq.mono ?_
    rintro e w1 ⟨rfl, hb1⟩
    replace hb1 := hb1.mono (B' := w.heap.size + 1) (by simp)
    have hz1 := boxs hb1
    have q0 := boxc hb1 0
    have q1 := boxc hb1 1
    have q2 := boxc hb1 2
    have q3 := boxc hb1 3
    have q4 := boxc hb1 4
    have q5 := boxc hb1 5
    have q6 := boxc hb1 6
    have q7 := boxc hb1 7
    simp only [List.getElem?_cons_succ, List.getElem?_cons_zero] at q0 q1 q2 q3 q4 q5 q6 q7
    go_wp2_with fail
    refine (docPlain name _ (by omega)).mono ?_
    rintro e w2 ⟨rfl, rfl⟩
    rw [hp1]
    go_wp2_with fail
    go_ret
    exact ⟨rfl, boxb hb1⟩
  | true =>
  cases p2 with
  | false =>
    go_enter Try.func5, Try.ntmps5
    go_wp2_with fail
    refine hq.mono ?_
    rintro e w1 ⟨rfl, hb1⟩
    replace hb1 := hb1.mono (B' := w.heap.size + 1) (by simp)
    have hz1 := boxs hb1
    have q0 := boxc hb1 0
    have q1 := boxc hb1 1
    have q2 := boxc hb1 2
    have q3 := boxc hb1 3
    have q4 := boxc hb1 4
    have q5 := boxc hb1 5
    have q6 := boxc hb1 6
    have q7 := boxc hb1 7
    simp only [List.getElem?_cons_succ, List.getElem?_cons_zero] at q0 q1 q2 q3 q4 q5 q6 q7
    go_wp2_with fail
    refine (docPlain name _ (by omega)).mono ?_
    rintro e w2 ⟨rfl, rfl⟩
    rw [hp1]
    go_wp2_with fail
    refine (docPlain other _ (by omega)).mono ?_
    rintro e w2 ⟨rfl, rfl⟩
    rw [hp2]
    go_wp2_with fail
    go_ret
    exact ⟨rfl, boxb hb1⟩
  | true =>
  cases f with
  | false =>
    go_enter Try.func5, Try.ntmps5
    go_wp2_with fail
    refine hq.mono ?_
    rintro e w1 ⟨rfl, hb1⟩
    replace hb1 := hb1.mono (B' := w.heap.size + 1) (by simp)
    have hz1 := boxs hb1
    have q0 := boxc hb1 0
    have q1 := boxc hb1 1
    have q2 := boxc hb1 2
    have q3 := boxc hb1 3
    have q4 := boxc hb1 4
    have q5 := boxc hb1 5
    have q6 := boxc hb1 6
    have q7 := boxc hb1 7
    simp only [List.getElem?_cons_succ, List.getElem?_cons_zero] at q0 q1 q2 q3 q4 q5 q6 q7
    go_wp2_with fail
    refine (docPlain name _ (by omega)).mono ?_
    rintro e w2 ⟨rfl, rfl⟩
    rw [hp1]
    go_wp2_with fail
    refine (docPlain other _ (by omega)).mono ?_
    rintro e w2 ⟨rfl, rfl⟩
    rw [hp2]
    go_wp2_with fail
    refine (HR.out _ (boxb hb1)).mono ?_
    rintro e w3 ⟨rfl, hb3⟩
    replace hb3 := bstep hb1 hz1 hb3
    have hz3 := boxs hb3
    have p0 := boxc hb3 0
    have p1 := boxc hb3 1
    have p2 := boxc hb3 2
    have p3 := boxc hb3 3
    have p4 := boxc hb3 4
    have p5 := boxc hb3 5
    have p6 := boxc hb3 6
    have p7 := boxc hb3 7
    simp only [List.getElem?_cons_succ, List.getElem?_cons_zero] at p0 p1 p2 p3 p4 p5 p6 p7
    go_wp2_with fail
    go_ret
    exact ⟨rfl, boxb hb3⟩
  | true =>
  by_cases hne : name = other
  · subst hne
    go_enter Try.func5, Try.ntmps5
    go_wp2_with fail
    refine hq.mono ?_
    rintro e w1 ⟨rfl, hb1⟩
    replace hb1 := hb1.mono (B' := w.heap.size + 1) (by simp)
    have hz1 := boxs hb1
    have q0 := boxc hb1 0
    have q1 := boxc hb1 1
    have q2 := boxc hb1 2
    have q3 := boxc hb1 3
    have q4 := boxc hb1 4
    have q5 := boxc hb1 5
    have q6 := boxc hb1 6
    have q7 := boxc hb1 7
    simp only [List.getElem?_cons_succ, List.getElem?_cons_zero] at q0 q1 q2 q3 q4 q5 q6 q7
    go_wp2_with fail
    refine (docPlain name _ (by omega)).mono ?_
    rintro e w2 ⟨rfl, rfl⟩
    rw [hp1]
    go_wp2_with fail
    refine (docPlain name _ (by omega)).mono ?_
    rintro e w2 ⟨rfl, rfl⟩
    rw [hp1]
    go_wp2_with fail
    refine (HR.out _ (boxb hb1)).mono ?_
    rintro e w3 ⟨rfl, hb3⟩
    replace hb3 := bstep hb1 hz1 hb3
    have hz3 := boxs hb3
    have p0 := boxc hb3 0
    have p1 := boxc hb3 1
    have p2 := boxc hb3 2
    have p3 := boxc hb3 3
    have p4 := boxc hb3 4
    have p5 := boxc hb3 5
    have p6 := boxc hb3 6
    have p7 := boxc hb3 7
    simp only [List.getElem?_cons_succ, List.getElem?_cons_zero] at p0 p1 p2 p3 p4 p5 p6 p7
    go_wp2_with fail
    refine (HE.out (by trivial) (by omega) w3 (boxb hb3)).mono ?_
    rintro e w4 ⟨A1, c1, dv, rfl, hs4, hb4⟩
    replace hb4 := bstep hb3 hz3 hb4
    have hz4 := boxs hb4
    obtain ⟨c5, hr5, hs5, hb5, hz5⟩ := run_bytes (P := Try.prog) 9 22 5 Try.underlying9 Try.underlying22 Try.underlying5 name (by omega) w4
    obtain ⟨w5, hw5⟩ : ∃ x, x = bytesAt 5 name w4 := ⟨_, rfl⟩
    rw [← hw5] at hr5 hs5 hb5 hz5
    clear hw5
    obtain ⟨c6, hr6, hs6, hb6, hz6⟩ := run_bytes (P := Try.prog) 9 22 5 Try.underlying9 Try.underlying22 Try.underlying5 name (by omega) w5
    obtain ⟨w6, hw6⟩ : ∃ x, x = bytesAt 5 name w5 := ⟨_, rfl⟩
    rw [← hw6] at hr6 hs6 hb6 hz6
    clear hw6
    have hK5 := compareKey A1 c1 (ub k) name.data.toList dv _ c5 name.data.toList w5 (hs4.keep hb5) hs5 hp1 hp1
    have hK6 := compareKey A1 c1 (ub k) name.data.toList dv _ c6 name.data.toList w6 ((hs4.keep hb5).keep hb6) hs6 hp1 hp1
    obtain ⟨el, hel⟩ : ∃ x, x = ub k :: (name.data.toList ++ 0 :: dv) := ⟨_, rfl⟩
    rw [← hel] at hs4 hK5 hK6 ⊢
    clear hel
    obtain ⟨nl, hnl⟩ : ∃ x, x = name.data.toList := ⟨_, rfl⟩
    rw [← hnl] at hK5 hK6 hr6 hr5
    clear hs5 hs6 hnl
    rw [decide_eq_true (rfl : nl = nl), hz5] at hK6
    rw [hz5] at hr6
    rw [decide_eq_true (rfl : nl = nl)] at hK5
    go_wp2_with fail
    refine hK5.mono ?_
    rintro e w7 ⟨rfl, rfl⟩
    go_wp2_with fail
    refine hK6.mono ?_
    rintro e w7 ⟨rfl, rfl⟩
    go_wp2_with fail
    go_ret
    exact ⟨rfl, boxb (bstep (bstep hb4 hz4 hb5) (by omega) hb6)⟩
  · have hne2 : (name.toList == other.toList) = false := by simp only [beq_eq_false_iff_ne, ne_eq]; rw [toList_data, toList_data]; exact fun h => hne (bytes_ext h)
    go_enter Try.func5, Try.ntmps5
    go_wp2_with fail
    refine hq.mono ?_
    rintro e w1 ⟨rfl, hb1⟩
    replace hb1 := hb1.mono (B' := w.heap.size + 1) (by simp)
    have hz1 := boxs hb1
    have q0 := boxc hb1 0
    have q1 := boxc hb1 1
    have q2 := boxc hb1 2
    have q3 := boxc hb1 3
    have q4 := boxc hb1 4
    have q5 := boxc hb1 5
    have q6 := boxc hb1 6
    have q7 := boxc hb1 7
    simp only [List.getElem?_cons_succ, List.getElem?_cons_zero] at q0 q1 q2 q3 q4 q5 q6 q7
    go_wp2_with fail
    refine (docPlain name _ (by omega)).mono ?_
    rintro e w2 ⟨rfl, rfl⟩
    rw [hp1]
    go_wp2_with fail
    refine (docPlain other _ (by omega)).mono ?_
    rintro e w2 ⟨rfl, rfl⟩
    rw [hp2]
    go_wp2_with fail
    refine (HR.out _ (boxb hb1)).mono ?_
    rintro e w3 ⟨rfl, hb3⟩
    replace hb3 := bstep hb1 hz1 hb3
    have hz3 := boxs hb3
    have p0 := boxc hb3 0
    have p1 := boxc hb3 1
    have p2 := boxc hb3 2
    have p3 := boxc hb3 3
    have p4 := boxc hb3 4
    have p5 := boxc hb3 5
    have p6 := boxc hb3 6
    have p7 := boxc hb3 7
    simp only [List.getElem?_cons_succ, List.getElem?_cons_zero] at p0 p1 p2 p3 p4 p5 p6 p7
    go_wp2_with fail
    refine (HE.out (by trivial) (by omega) w3 (boxb hb3)).mono ?_
    rintro e w4 ⟨A1, c1, dv, rfl, hs4, hb4⟩
    replace hb4 := bstep hb3 hz3 hb4
    have hz4 := boxs hb4
    obtain ⟨c5, hr5, hs5, hb5, hz5⟩ := run_bytes (P := Try.prog) 9 22 5 Try.underlying9 Try.underlying22 Try.underlying5 other (by omega) w4
    obtain ⟨w5, hw5⟩ : ∃ x, x = bytesAt 5 other w4 := ⟨_, rfl⟩
    rw [← hw5] at hr5 hs5 hb5 hz5
    clear hw5
    obtain ⟨c6, hr6, hs6, hb6, hz6⟩ := run_bytes (P := Try.prog) 9 22 5 Try.underlying9 Try.underlying22 Try.underlying5 name (by omega) w5
    obtain ⟨w6, hw6⟩ : ∃ x, x = bytesAt 5 name w5 := ⟨_, rfl⟩
    rw [← hw6] at hr6 hs6 hb6 hz6
    clear hw6
    have hK5 := compareKey A1 c1 (ub k) name.data.toList dv _ c5 other.data.toList w5 (hs4.keep hb5) hs5 hp1 hp2
    have hK6 := compareKey A1 c1 (ub k) name.data.toList dv _ c6 name.data.toList w6 ((hs4.keep hb5).keep hb6) hs6 hp1 hp1
    obtain ⟨el, hel⟩ : ∃ x, x = ub k :: (name.data.toList ++ 0 :: dv) := ⟨_, rfl⟩
    rw [← hel] at hs4 hK5 hK6 ⊢
    clear hel
    obtain ⟨nl, hnl⟩ : ∃ x, x = name.data.toList := ⟨_, rfl⟩
    rw [← hnl] at hK5 hK6 hr6
    obtain ⟨ol, hol⟩ : ∃ x, x = other.data.toList := ⟨_, rfl⟩
    rw [← hol] at hK5 hr5
    have hno : ¬ nl = ol := fun h => hne (by rw [hnl, hol] at h; exact bytes_ext h)
    clear hs5 hs6 hnl hol
    rw [decide_eq_true (rfl : nl = nl), hz5] at hK6
    rw [hz5] at hr6
    rw [decide_eq_false hno] at hK5
    go_wp2_with fail
    refine hK5.mono ?_
    rintro e w7 ⟨rfl, rfl⟩
    go_wp2_with fail
    refine hK6.mono ?_
    rintro e w7 ⟨rfl, rfl⟩
    go_wp2_with fail
    go_ret
    exact ⟨rfl, boxb (bstep (bstep hb4 hz4 hb5) (by omega) hb6)⟩
end Go.Proofs.Ytfpnhlfmnoikhaa.X
