/- Walk of the law FnBindElement. -/
import Derived.Test.YtdmnogjgifapnaaDoorElemV2
import Derived.Test.YtdmnogjgifapnaaDoorElemPl
import Derived.Test.YtdmnogjgifapnaaDoorBindRaw
import Derived.Test.YtdmnogjgifapnaaDoorOpen
set_option linter.unusedVariables false
set_option linter.unusedSimpArgs false
set_option maxRecDepth 100000
namespace Go.Proofs.YtdmnogjgifapnaaDoor.X
open Go.RowKit Go.Proofs.YtdmnogjgifapnaaDoorW.PrintLast
def R4.T8 : Bool × List (List Nat × List Nat) := (true, [([], []), ([0], [0]), ([1], [1]), ([2], [2]), ([3, 2], [2, 3]), ([2, 4], [2, 4]), ([5, 2], [5]), ([6], [6]), ([6], [6]), ([7, 8, 6], [6, 7, 8]), ([6, 9], [6, 9]), ([10, 6], [10]), ([11], [11]), ([11], [11]), ([13, 11, 11], [11, 13]), ([12, 14, 14, 11], [11, 12, 14]), ([15, 11], [11, 15]), ([11, 16], [11, 16]), ([17, 15], [17]), ([18], [18]), ([19, 18, 18], [18, 19]), ([20, 18], [18, 20]), ([18, 21], [18, 21])])
def R4.B8 : List Nat := [0, 1, 3, 7, 15, 31, 63, 127, 127, 511, 1023, 2047, 4095, 4095, 12287, 32767, 65535, 131071, 262143, 524287, 1048575, 2097151, 4194303]
theorem R4.tab8 : rtab .any (opsOf Tryd.f4 8) = R4.T8 := by kernel_rfl
theorem R4.bits8 : waitsOk R4.T8.2 R4.B8 = true := by kernel_rfl
theorem fits_some (v : Val) (cs : List Value) (wx : World) (hv : RV wx v cs) : ∃ q : Bool, Calls Tryd.prog 12 #[.agg cs.toArray] wx fun e w' => e = .returned (.bool q) ∧ Below wx.heap.size wx w' := by
  by_cases h : v.text.size ≤ 2147483647 ∧ v.more.size ≤ 2147483647 ∧ v.b.length ≤ 2147483647 ∧ v.kids.length ≤ 2147483647
  · exact ⟨true, zzFits1 v _ wx hv h⟩
  · exact ⟨false, zzFits1_not v _ wx hv h⟩
set_option maxHeartbeats 32000000 in
theorem fnBindElement_walk (name : ByteArray) (v : Val) (cs : List Value) (cut : Int) (w : World) (hn1 : name.size ≤ 140737488351232) (hok : okv v) (hv : RV w v cs) :
    Calls Tryd.prog 4 #[.string name, .agg cs.toArray, .int .i64 cut] w fun e w' => e = .returned (.bool true) ∧ Below w.heap.size w w' := by
  have HV := Lib.hid hv
  obtain ⟨v0, hv00⟩ : ∃ x, x = v := ⟨_, rfl⟩
  rw [← hv00] at HV hok
  obtain ⟨k, text, more, n, bits, high, b, kids⟩ := v
  simp only [RV] at hv
  obtain ⟨A, c, K', d, rfl, hs, hdd, hd2, hk⟩ := hv
  have ek : v0.kind = k := by rw [hv00]; rfl
  clear hk hv00 hs
  have HF : Hid (∀ wx : World, Below w.heap.size w wx → ∃ q : Bool, Calls Tryd.prog 12 #[.agg #[.int .i64 k, .string text, .string more, .int .i64 n, .int .u64 bits, .int .u64 high, .slice A b.length c, .slice K' kids.length d]] wx fun e w' => e = .returned (.bool q) ∧ Below wx.heap.size wx w') := Lib.hid fun wx hb => fits_some v0 _ wx (HV.out.keep hb)
  have HR : Hid (∀ wx : World, Below w.heap.size w wx → Calls Tryd.prog 14 #[.agg #[.int .i64 k, .string text, .string more, .int .i64 n, .int .u64 bits, .int .u64 high, .slice A b.length c, .slice K' kids.length d]] wx fun e w' => e = .returned (.bool (fine v0 1000 65536)) ∧ Below wx.heap.size wx w') := Lib.hid fun wx hb => bindRight v0 _ wx hok (HV.out.keep hb)
  clear hok
  have hB0 : Below w.heap.size w (w.alloc (.cells #[.int .i64 k, .string text, .string more, .int .i64 n, .int .u64 bits, .int .u64 high, .slice A b.length c, .slice K' kids.length d] 29)) := balloc (Below.refl _ _) (Nat.le_refl _) _
  obtain ⟨f, hf⟩ : ∃ f, fine v0 1000 65536 = f := ⟨_, rfl⟩
  rw [hf] at HR
  obtain ⟨p1, hp1⟩ : ∃ f, plainB name.data.toList = f := ⟨_, rfl⟩
  by_cases a1 : (name.size : Int) > 2147483647
  · skip
    go_enter Tryd.func4, Tryd.ntmps4
    go_wp2_with fail
    go_ret
    exact ⟨rfl, hB0⟩
  obtain ⟨q, hq⟩ := HF.out _ hB0
  cases q with
  | false =>
    go_enter Tryd.func4, Tryd.ntmps4
    go_wp2_with fail
    refine hq.mono ?_
    rintro e w1 ⟨rfl, hb1⟩
    replace hb1 := hb1.mono (B' := w.heap.size + 1) (by simp)
    have hz1 := boxs hb1
    have q0 := boxc hb1 0
    have q1 := boxc hb1 1
    have q2 := boxc hb1 2
    have q3 := boxc hb1 3
    have q4 := boxc hb1 4
    have q5 := boxc hb1 5
    have q6 := boxc hb1 6
    have q7 := boxc hb1 7
    simp only [List.getElem?_cons_succ, List.getElem?_cons_zero] at q0 q1 q2 q3 q4 q5 q6 q7
    go_wp2_with fail
    go_ret
    exact ⟨rfl, boxb hb1⟩
  | true =>
  cases p1 with
  | false =>
    go_enter Tryd.func4, Tryd.ntmps4
    go_wp2_with fail
    refine hq.mono ?_
    rintro e w1 ⟨rfl, hb1⟩
    replace hb1 := hb1.mono (B' := w.heap.size + 1) (by simp)
    have hz1 := boxs hb1
    have q0 := boxc hb1 0
    have q1 := boxc hb1 1
    have q2 := boxc hb1 2
    have q3 := boxc hb1 3
    have q4 := boxc hb1 4
    have q5 := boxc hb1 5
    have q6 := boxc hb1 6
    have q7 := boxc hb1 7
    simp only [List.getElem?_cons_succ, List.getElem?_cons_zero] at q0 q1 q2 q3 q4 q5 q6 q7
    go_wp2_with fail
    refine (docPlain name _ (by omega)).mono ?_
    rintro e w2 ⟨rfl, rfl⟩
    rw [hp1]
    go_wp2_with fail
    go_ret
    exact ⟨rfl, boxb hb1⟩
  | true =>
  cases f with
  | false =>
    go_enter Tryd.func4, Tryd.ntmps4
    go_wp2_with fail
    refine hq.mono ?_
    rintro e w1 ⟨rfl, hb1⟩
    replace hb1 := hb1.mono (B' := w.heap.size + 1) (by simp)
    have hz1 := boxs hb1
    have q0 := boxc hb1 0
    have q1 := boxc hb1 1
    have q2 := boxc hb1 2
    have q3 := boxc hb1 3
    have q4 := boxc hb1 4
    have q5 := boxc hb1 5
    have q6 := boxc hb1 6
    have q7 := boxc hb1 7
    simp only [List.getElem?_cons_succ, List.getElem?_cons_zero] at q0 q1 q2 q3 q4 q5 q6 q7
    go_wp2_with fail
    refine (docPlain name _ (by omega)).mono ?_
    rintro e w2 ⟨rfl, rfl⟩
    rw [hp1]
    go_wp2_with fail
    refine (HR.out _ (boxb hb1)).mono ?_
    rintro e w3 ⟨rfl, hb3⟩
    replace hb3 := bstep hb1 hz1 hb3
    have hz3 := boxs hb3
    have p0 := boxc hb3 0
    have p1 := boxc hb3 1
    have p2 := boxc hb3 2
    have p3 := boxc hb3 3
    have p4 := boxc hb3 4
    have p5 := boxc hb3 5
    have p6 := boxc hb3 6
    have p7 := boxc hb3 7
    simp only [List.getElem?_cons_succ, List.getElem?_cons_zero] at p0 p1 p2 p3 p4 p5 p6 p7
    go_wp2_with fail
    go_ret
    exact ⟨rfl, boxb hb3⟩
  | true =>
  by_cases a4 : (name.size : Int) > 1000
  · skip
    go_enter Tryd.func4, Tryd.ntmps4
    go_wp2_with fail
    refine hq.mono ?_
    rintro e w1 ⟨rfl, hb1⟩
    replace hb1 := hb1.mono (B' := w.heap.size + 1) (by simp)
    have hz1 := boxs hb1
    have q0 := boxc hb1 0
    have q1 := boxc hb1 1
    have q2 := boxc hb1 2
    have q3 := boxc hb1 3
    have q4 := boxc hb1 4
    have q5 := boxc hb1 5
    have q6 := boxc hb1 6
    have q7 := boxc hb1 7
    simp only [List.getElem?_cons_succ, List.getElem?_cons_zero] at q0 q1 q2 q3 q4 q5 q6 q7
    go_wp2_with fail
    refine (docPlain name _ (by omega)).mono ?_
    rintro e w2 ⟨rfl, rfl⟩
    rw [hp1]
    go_wp2_with fail
    refine (HR.out _ (boxb hb1)).mono ?_
    rintro e w3 ⟨rfl, hb3⟩
    replace hb3 := bstep hb1 hz1 hb3
    have hz3 := boxs hb3
    have p0 := boxc hb3 0
    have p1 := boxc hb3 1
    have p2 := boxc hb3 2
    have p3 := boxc hb3 3
    have p4 := boxc hb3 4
    have p5 := boxc hb3 5
    have p6 := boxc hb3 6
    have p7 := boxc hb3 7
    simp only [List.getElem?_cons_succ, List.getElem?_cons_zero] at p0 p1 p2 p3 p4 p5 p6 p7
    go_wp2_with fail
    go_ret
    exact ⟨rfl, boxb hb3⟩
  · obtain ⟨bl, hbl⟩ : ∃ x, x = docValue v0 := ⟨_, rfl⟩
    obtain ⟨el, hel⟩ : ∃ x, x = docElemOf name v0 := ⟨_, rfl⟩
    have hfl := fine_value hf (by omega) (by omega) (by omega)
    have hright := (fine_len hf (by omega)).2.2
    have hkk : 0 ≤ k ∧ k ≤ 255 := by
      obtain ⟨k9, t9, m9, n9, bi9, hi9, b9, ks9⟩ := v0
      have hk9 : known k9 = true := by simp only [right, Bool.and_eq_true] at hright; exact hright.1.1.1
      simp only [known, decide_eq_true_eq] at hk9
      have : k9 = k := ek
      omega
    have hnl : name.data.toList.length = name.size := by rw [Array.length_toList]; rfl
    have e1 : el = ub k :: (name.data.toList ++ 0 :: bl) := by rw [hel, hbl]; simp [docElemOf, hd, bs, ek]
    have hkub : ((ub k).toNat : Int) = k := by rw [ub_toNat]; omega
    have hvl : valLen ((ub k).toNat : Int) bl = ((bl.length : Int), true) := by
      have := valLen_doc v0 200 hright (by omega) []
      rw [List.append_nil, ek, ← hbl] at this
      rw [hkub]
      exact this
    have hblen : bl.length ≤ 3305000 := by rw [hbl]; omega
    have hellen : el.length = name.size + 2 + bl.length := by rw [e1]; simp [hnl]; omega
    have helb : el.length ≤ 3400000 := by omega
    have HEL : Hid (∀ wx : World, Below w.heap.size w wx → Calls Tryd.prog 15 #[.agg #[.string name, .int .i64 k, .string text, .string more, .int .i64 n, .int .u64 bits, .int .u64 high, .slice A b.length c, .slice K' kids.length d]] wx fun e w' => ∃ A1 c1, e = .returned (.slice A1 el.length c1) ∧ SB w' A1 c1 el ∧ Below wx.heap.size wx w') := Lib.hid fun wx hb => by
      refine (docElem_calls name v0 _ _ _ _ _ _ _ _ wx (by rw [← hel]; omega) (HV.out.keep hb)).mono ?_
      rintro e w' ⟨v1, rfl, ho, hb1⟩
      rw [← hel] at ho
      obtain ⟨A1, c1, rfl, hs1, -⟩ := ho.sb
      exact ⟨A1, c1, rfl, hs1, hb1⟩
    have HBR : Hid (∀ wx : World, Below w.heap.size w wx → Calls Tryd.prog 19 #[.agg #[.int .i64 k, .string text, .string more, .int .i64 n, .int .u64 bits, .int .u64 high, .slice A b.length c, .slice K' kids.length d]] wx fun e w' => ∃ A1 c1, e = .returned (.agg #[.int .i64 k, .slice A1 bl.length c1]) ∧ SB w' A1 c1 bl ∧ Below wx.heap.size wx w') := Lib.hid fun wx hb => by
      refine (bindRaw v0 _ wx (by omega) (HV.out.keep hb)).mono ?_
      rintro e w' ⟨A1, c1, rfl, h1, hb1⟩
      rw [ek, ← hbl]
      rw [← hbl] at h1
      exact ⟨A1, c1, rfl, h1, hb1⟩
    have hnm : (⟨name.data.toList.toArray⟩ : ByteArray) = name := by rw [Array.toArray_toList]
    have HRK : Hid (∀ A1 c1 wx, SB wx A1 c1 el → Calls Tryd.prog 16 #[.slice A1 el.length c1] wx fun e w' => e = .returned (.tuple #[.string name, .int .i64 0]) ∧ Below wx.heap.size wx w') := Lib.hid fun A1 c1 wx h => by
      rw [e1] at h helb ⊢
      have hh := implRawKey A1 c1 (ub k) name.data.toList bl wx h hp1 (by omega)
      rw [hnm] at hh
      exact hh
    have HRV : Hid (∀ A1 c1 wx, SB wx A1 c1 el → Calls Tryd.prog 17 #[.slice A1 el.length c1] wx fun e w' => ∃ A2 c2, e = .returned (.tuple #[.agg #[.int .i64 k, .slice A2 bl.length c2], .int .i64 0]) ∧ SB w' A2 c2 bl ∧ Below wx.heap.size wx w') := Lib.hid fun A1 c1 wx h => by
      rw [e1] at h helb ⊢
      have hh := implElemValue A1 c1 (ub k) name.data.toList bl wx h hp1 hvl (by omega)
      rw [hkub] at hh
      exact hh
    have HVA : Hid (∀ A1 c1 wx, SB wx A1 c1 el → Calls Tryd.prog 20 #[.slice A1 el.length c1] wx fun e w' => e = .returned (.int .i64 0) ∧ Below wx.heap.size wx w') := Lib.hid fun A1 c1 wx h => by
      refine (implElemValidate A1 c1 el wx h (by omega)).mono ?_
      rintro e w' ⟨⟨n9, rfl, hn9⟩, hb9⟩
      rw [e1, elemIs_right _ _ _ hp1 hvl] at hn9
      have : n9 = 0 := by simpa using hn9
      subst this
      exact ⟨rfl, hb9⟩
    have HVC : Hid (∀ (m : Nat), m < el.length → ∀ A1 c1 wx, SB wx A1 c1 (el.take m) → Calls Tryd.prog 20 #[.slice A1 m c1] wx fun e w' => (∃ n : Int, e = .returned (.int .i64 n) ∧ (n == 0) = false) ∧ Below wx.heap.size wx w') := Lib.hid fun m hm A1 c1 wx h => by
      have hh := implElemValidate A1 c1 (el.take m) wx h (by rw [List.length_take]; omega)
      rw [List.length_take, Nat.min_eq_left (by omega)] at hh
      have h9 : elemIs (el.take m) = false := by
        rw [e1] at hm ⊢
        exact elemIs_cut _ _ _ _ hp1 hvl hm
      rw [h9] at hh
      exact hh
    have HBS : Hid (∀ (A B : Option Addr) (c d : Nat) (wx : World), SB wx A c bl → SB wx B d bl → Calls Tryd.prog 18 #[.agg #[.int .i64 k, .slice A bl.length c], .agg #[.int .i64 k, .slice B bl.length d]] wx fun e w' => e = .returned (.bool true) ∧ Below wx.heap.size wx w') := Lib.hid fun A B c d wx h1 h2 => bindSame_same A B c d bl k wx h1 h2
    clear HV hbl hel hfl hright hkk e1 hvl hkub hnl hellen hf ek hnm
    go_enter Tryd.func4, Tryd.ntmps4
    go_wp2_with fail
    refine hq.mono ?_
    rintro e w1 ⟨rfl, hb1⟩
    replace hb1 := hb1.mono (B' := w.heap.size + 1) (by simp)
    have hz1 := boxs hb1
    have q0 := boxc hb1 0
    have q1 := boxc hb1 1
    have q2 := boxc hb1 2
    have q3 := boxc hb1 3
    have q4 := boxc hb1 4
    have q5 := boxc hb1 5
    have q6 := boxc hb1 6
    have q7 := boxc hb1 7
    simp only [List.getElem?_cons_succ, List.getElem?_cons_zero] at q0 q1 q2 q3 q4 q5 q6 q7
    go_wp2_with fail
    refine (docPlain name _ (by omega)).mono ?_
    rintro e w2 ⟨rfl, rfl⟩
    rw [hp1]
    go_wp2_with fail
    refine (HR.out _ (boxb hb1)).mono ?_
    rintro e w3 ⟨rfl, hb3⟩
    replace hb3 := bstep hb1 hz1 hb3
    have hz3 := boxs hb3
    have p0 := boxc hb3 0
    have p1 := boxc hb3 1
    have p2 := boxc hb3 2
    have p3 := boxc hb3 3
    have p4 := boxc hb3 4
    have p5 := boxc hb3 5
    have p6 := boxc hb3 6
    have p7 := boxc hb3 7
    simp only [List.getElem?_cons_succ, List.getElem?_cons_zero] at p0 p1 p2 p3 p4 p5 p6 p7
    go_wp2_with fail
    refine (HEL.out _ (boxb hb3)).mono ?_
    rintro e w4 ⟨A4, c4, rfl, hs4, hb4⟩
    have hb4' := bstep hb3 hz3 hb4
    have hz4 := boxs hb4'
    have HX4 := Lib.hid hb4'
    have HS4 := Lib.hid hs4
    clear hb1 hz1 hb3 hz3 hb4 hs4 hq hB0 HF HR HEL q0 q1 q2 q3 q4 q5 q6 q7 p0 p1 p2 p3 p4 p5 p6 p7 hb4'
    go_wp2_with fail
    refine (HRK.out A4 c4 _ HS4.out).mono ?_
    rintro e w5 ⟨rfl, hb5⟩
    have hX5 := HX4.out.trans (hb5.mono hz4)
    have hz5 := boxs hX5
    have HX5 := Lib.hid hX5
    have HS5 := Lib.hid (HS4.out.keep hb5)
    clear hX5 hb5 HS4 HX4 HRK hz4
    go_wp2_with fail
    refine (HRV.out A4 c4 _ HS5.out).mono ?_
    rintro e w6 ⟨A6, c6, rfl, hs6, hb6⟩
    have HX6 := Lib.hid (HX5.out.trans (hb6.mono hz5))
    have HS6 := Lib.hid (HS5.out.keep hb6)
    have HR6 := Lib.hid hs6
    clear hb6 hs6 HS5 HX5 HRV hz5
    go_wp2_with fail
    obtain ⟨w7, hw7⟩ : ∃ x, x = w6.alloc (.cells #[.int .i64 k, .slice A6 bl.length c6] 42) := ⟨_, rfl⟩
    rw [← hw7]
    have hb67 : Below w6.heap.size w6 w7 := by rw [hw7]; exact balloc (Below.refl _ _) (Nat.le_refl _) _
    have hb7 : Below (w6.heap.size + 1) (w6.alloc (.cells #[.int .i64 k, .slice A6 bl.length c6] 42)) w7 := by rw [hw7]; exact Below.refl _ _
    have r0 := boxc hb7 0
    have r1 := boxc hb7 1
    simp only [List.getElem?_cons_succ, List.getElem?_cons_zero] at r0 r1
    have hX7 := HX6.out.trans (hb67.mono (boxs HX6.out))
    have m0 := boxc hX7 0
    have m1 := boxc hX7 1
    have m2 := boxc hX7 2
    have m3 := boxc hX7 3
    have m4 := boxc hX7 4
    have m5 := boxc hX7 5
    have m6 := boxc hX7 6
    have m7 := boxc hX7 7
    simp only [List.getElem?_cons_succ, List.getElem?_cons_zero] at m0 m1 m2 m3 m4 m5 m6 m7
    have hz7 := boxs hX7
    have HX7 := Lib.hid hX7
    have HS7 := Lib.hid (HS6.out.keep hb67)
    have HR7 := Lib.hid (HR6.out.keep hb67)
    have HB7 := Lib.hid (boxb hX7)
    clear hX7 hb7 hb67 hw7 HS6 HR6 HX6
    refine start_ (n := 23) (S := fun w' => w'.cell? ⟨w.heap.size, 0, none⟩ = some (.int .i64 k) ∧ w'.cell? ⟨w.heap.size, 1, none⟩ = some (.string text) ∧ w'.cell? ⟨w.heap.size, 2, none⟩ = some (.string more) ∧ w'.cell? ⟨w.heap.size, 3, none⟩ = some (.int .i64 n) ∧ w'.cell? ⟨w.heap.size, 4, none⟩ = some (.int .u64 bits) ∧ w'.cell? ⟨w.heap.size, 5, none⟩ = some (.int .u64 high) ∧ w'.cell? ⟨w.heap.size, 6, none⟩ = some (.slice A b.length c) ∧ w'.cell? ⟨w.heap.size, 7, none⟩ = some (.slice K' kids.length d) ∧ w'.cell? ⟨w6.heap.size, 0, none⟩ = some (.int .i64 k) ∧ w'.cell? ⟨w6.heap.size, 1, none⟩ = some (.slice A6 bl.length c6)) (ds := []) #[false, false, false, false, false, false, false, false, false, false, false, false, false, false, false, false, false, false, false, false, false, false, false] (by kernel_rfl) rfl rfl ⟨(by exact m0), (by exact m1), (by exact m2), (by exact m3), (by exact m4), (by exact m5), (by exact m6), (by exact m7), (by exact r0), (by exact r1)⟩ (fun hHeld => ?_)
    refine with_tabW R4.tab8 R4.bits8 (fun HT_ HW_ => ?_)
    refine pure_ (i := 0) (N := some 47) (v := ?_) (a' := ?_) #[true, false, false, false, false, false, false, false, false, false, false, false, false, false, false, false, false, false, false, false, false, false, false] rfl rfl (any_of HT_.out (by kernel_rfl)) (fun _ _ _ h => h) (Or.inl ⟨by rfl, ?_⟩) ?_ ?_
    rotate_left
    · intro w'
      go_simp
      with_reducible rfl
    rotate_left
    · simp only [Act.put, List.setIfInBounds_toArray, List.set_cons_zero, List.set_cons_succ, i64_w, i32_w]
      rfl
    refine pure_ (i := 1) (N := some 48) (v := ?_) (a' := ?_) #[true, true, false, false, false, false, false, false, false, false, false, false, false, false, false, false, false, false, false, false, false, false, false] rfl rfl (any_of HT_.out (by kernel_rfl)) (fun _ _ _ h => h) (Or.inl ⟨by rfl, ?_⟩) ?_ ?_
    rotate_left
    · intro w'
      go_simp
      with_reducible rfl
    rotate_left
    · simp only [Act.put, List.setIfInBounds_toArray, List.set_cons_zero, List.set_cons_succ, i64_w, i32_w]
      rfl
    refine pure_ (i := 2) (N := some 49) (v := ?_) (a' := ?_) #[true, true, true, false, false, false, false, false, false, false, false, false, false, false, false, false, false, false, false, false, false, false, false] rfl rfl (any_of HT_.out (by kernel_rfl)) (fun _ _ _ h => h) (Or.inl ⟨by rfl, ?_⟩) ?_ ?_
    rotate_left
    · intro w'
      go_simp
      with_reducible rfl
    rotate_left
    · simp only [Act.put, List.setIfInBounds_toArray, List.set_cons_zero, List.set_cons_succ, i64_w, i32_w]
      rfl
    refine pure_ (i := 3) (N := some 50) (v := ?_) (a' := ?_) #[true, true, true, true, false, false, false, false, false, false, false, false, false, false, false, false, false, false, false, false, false, false, false] rfl rfl (any_of HT_.out (by kernel_rfl)) (fun _ _ _ h => h) (Or.inl ⟨by rfl, ?_⟩) ?_ ?_
    rotate_left
    · intro w'
      go_simp
      with_reducible rfl
    rotate_left
    · simp only [Act.put, List.setIfInBounds_toArray, List.set_cons_zero, List.set_cons_succ, i64_w, i32_w]
      rfl
    refine pure_ (i := 4) (N := some 51) (v := ?_) (a' := ?_) #[true, true, true, true, true, false, false, false, false, false, false, false, false, false, false, false, false, false, false, false, false, false, false] rfl rfl (any_of HT_.out (by kernel_rfl)) (fun _ _ _ h => h) (Or.inl ⟨by rfl, ?_⟩) ?_ ?_
    rotate_left
    · intro w'
      go_simp
      with_reducible rfl
    rotate_left
    · simp only [Act.put, List.setIfInBounds_toArray, List.set_cons_zero, List.set_cons_succ, i64_w, i32_w]
      rfl
    refine pure_ (i := 5) (N := some 52) (v := ?_) (a' := ?_) #[true, true, true, true, true, true, false, false, false, false, false, false, false, false, false, false, false, false, false, false, false, false, false] rfl rfl (any_of HT_.out (by kernel_rfl)) (fun _ _ _ h => h) (Or.inl ⟨by rfl, ?_⟩) ?_ ?_
    rotate_left
    · intro w'
      go_simp
      with_reducible rfl
    rotate_left
    · simp only [Act.put, List.setIfInBounds_toArray, List.set_cons_zero, List.set_cons_succ, i64_w, i32_w]
      rfl
    refine pure_ (i := 6) (N := some 53) (v := ?_) (a' := ?_) #[true, true, true, true, true, true, true, false, false, false, false, false, false, false, false, false, false, false, false, false, false, false, false] rfl rfl (any_of HT_.out (by kernel_rfl)) (fun _ _ _ h => h) (Or.inl ⟨by rfl, ?_⟩) ?_ ?_
    rotate_left
    · intro w'
      go_simp
      with_reducible rfl
    rotate_left
    · simp only [Act.put, List.setIfInBounds_toArray, List.set_cons_zero, List.set_cons_succ, i64_w, i32_w]
      rfl
    refine pure_ (i := 7) (N := some 54) (v := ?_) (a' := ?_) #[true, true, true, true, true, true, true, true, false, false, false, false, false, false, false, false, false, false, false, false, false, false, false] rfl rfl (any_of HT_.out (by kernel_rfl)) (fun _ _ _ h => h) (Or.inl ⟨by rfl, ?_⟩) ?_ ?_
    rotate_left
    · intro w'
      go_simp
      with_reducible rfl
    rotate_left
    · simp only [Act.put, List.setIfInBounds_toArray, List.set_cons_zero, List.set_cons_succ, i64_w, i32_w]
      rfl
    refine pure_ (i := 8) (N := some 55) (v := ?_) (a' := ?_) #[true, true, true, true, true, true, true, true, true, false, false, false, false, false, false, false, false, false, false, false, false, false, false] rfl rfl (any_of HT_.out (by kernel_rfl)) (fun _ _ _ h => h) (Or.inl ⟨by rfl, ?_⟩) ?_ ?_
    rotate_left
    · intro w'
      go_simp
      with_reducible rfl
    rotate_left
    · simp only [Act.put, List.setIfInBounds_toArray, List.set_cons_zero, List.set_cons_succ, i64_w, i32_w]
      rfl
    refine pure_ (i := 9) (N := some 56) (v := ?_) (a' := ?_) #[true, true, true, true, true, true, true, true, true, true, false, false, false, false, false, false, false, false, false, false, false, false, false] rfl rfl (any_of HT_.out (by kernel_rfl)) (fun _ _ _ h => h) (Or.inl ⟨by rfl, ?_⟩) ?_ ?_
    rotate_left
    · intro w'
      go_simp
      with_reducible rfl
    rotate_left
    · simp only [Act.put, List.setIfInBounds_toArray, List.set_cons_zero, List.set_cons_succ, i64_w, i32_w]
      rfl
    refine pure_ (i := 10) (N := some 57) (v := ?_) (a' := ?_) #[true, true, true, true, true, true, true, true, true, true, true, false, false, false, false, false, false, false, false, false, false, false, false] rfl rfl (any_of HT_.out (by kernel_rfl)) (fun _ _ _ h => h) (Or.inl ⟨by rfl, ?_⟩) ?_ ?_
    rotate_left
    · intro w'
      go_simp
      with_reducible rfl
    rotate_left
    · simp only [Act.put, List.setIfInBounds_toArray, List.set_cons_zero, List.set_cons_succ, i64_w, i32_w]
      rfl
    refine pure_ (i := 11) (N := some 58) (v := ?_) (a' := ?_) #[true, true, true, true, true, true, true, true, true, true, true, true, false, false, false, false, false, false, false, false, false, false, false] rfl rfl (any_of HT_.out (by kernel_rfl)) (fun _ _ _ h => h) (Or.inl ⟨by rfl, ?_⟩) ?_ ?_
    rotate_left
    · intro w'
      go_simp
      with_reducible rfl
    rotate_left
    · simp only [Act.put, List.setIfInBounds_toArray, List.set_cons_zero, List.set_cons_succ, i64_w, i32_w]
      rfl
    refine take_ (i := 12) (N := some 59) (v := ?_) (a' := ?_) #[true, true, true, true, true, true, true, true, true, true, true, true, true, false, false, false, false, false, false, false, false, false, false] rfl rfl (take_ofW HT_.out HW_.out (by kernel_rfl)) (fun _ _ _ h => h) (Or.inl ⟨by rfl, ?_⟩) hHeld ?_ ?_
    rotate_left
    · rintro w' ⟨s0, s1, s2, s3, s4, s5, s6, s7, s8, s9⟩
      go_simp
      with_reducible rfl
    rotate_left
    · simp only [Act.put, List.setIfInBounds_toArray, List.set_cons_zero, List.set_cons_succ, i64_w, i32_w]
      rfl
    refine take_ (i := 13) (N := some 60) (v := ?_) (a' := ?_) #[true, true, true, true, true, true, true, true, true, true, true, true, true, true, false, false, false, false, false, false, false, false, false] rfl rfl (take_ofW HT_.out HW_.out (by kernel_rfl)) (fun _ _ _ h => h) (Or.inl ⟨by rfl, ?_⟩) hHeld ?_ ?_
    rotate_left
    · rintro w' ⟨s0, s1, s2, s3, s4, s5, s6, s7, s8, s9⟩
      go_simp
      with_reducible rfl
    rotate_left
    · simp only [Act.put, List.setIfInBounds_toArray, List.set_cons_zero, List.set_cons_succ, i64_w, i32_w]
      rfl
    refine one_ (i := 14) (N := some 61) #[true, true, true, true, true, true, true, true, true, true, true, true, true, true, true, false, false, false, false, false, false, false, false] rfl rfl (one_of HT_.out (by kernel_rfl)) (by decide) (fun K hK => ?_)
    refine goes_ Tryd.func19 (by kernel_rfl) rfl #[.agg #[.int .i64 k, .string text, .string more, .int .i64 n, .int .u64 bits, .int .u64 high, .slice A b.length c, .slice K' kids.length d]] (by rfl) rfl rfl (by simp only [List.map_toArray, List.map_cons, List.map_nil]; rfl) ?_
    with_reducible refine (HBR.out _ (bdrew HB7.out)).mono ?_
    rintro e wA ⟨A8, c8, rfl, hs8, hbA⟩
    refine ⟨_, rfl, ?_⟩
    have hBA : Below w7.heap.size w7 wA := bleft hbA
    refine hK.out _ _ ⟨((hbA.cell (World.block_lt_of_cell? _ _ hHeld.1)).trans hHeld.1), ((hbA.cell (World.block_lt_of_cell? _ _ hHeld.2.1)).trans hHeld.2.1), ((hbA.cell (World.block_lt_of_cell? _ _ hHeld.2.2.1)).trans hHeld.2.2.1), ((hbA.cell (World.block_lt_of_cell? _ _ hHeld.2.2.2.1)).trans hHeld.2.2.2.1), ((hbA.cell (World.block_lt_of_cell? _ _ hHeld.2.2.2.2.1)).trans hHeld.2.2.2.2.1), ((hbA.cell (World.block_lt_of_cell? _ _ hHeld.2.2.2.2.2.1)).trans hHeld.2.2.2.2.2.1), ((hbA.cell (World.block_lt_of_cell? _ _ hHeld.2.2.2.2.2.2.1)).trans hHeld.2.2.2.2.2.2.1), ((hbA.cell (World.block_lt_of_cell? _ _ hHeld.2.2.2.2.2.2.2.1)).trans hHeld.2.2.2.2.2.2.2.1), ((hbA.cell (World.block_lt_of_cell? _ _ hHeld.2.2.2.2.2.2.2.2.1)).trans hHeld.2.2.2.2.2.2.2.2.1), ((hbA.cell (World.block_lt_of_cell? _ _ hHeld.2.2.2.2.2.2.2.2.2)).trans hHeld.2.2.2.2.2.2.2.2.2)⟩ (fun hHeld => ?_)
    clear hK K
    refine norm_ (a' := ?_) ?_ ?_
    rotate_left
    · show Act.put _ (some 61) _ = _
      simp only [Act.put, List.setIfInBounds_toArray, List.set_cons_zero, List.set_cons_succ, i64_w, i32_w]
      rfl
    refine one_ (i := 15) (N := some 62) #[true, true, true, true, true, true, true, true, true, true, true, true, true, true, true, true, false, false, false, false, false, false, false] rfl rfl (one_of HT_.out (by kernel_rfl)) (by decide) (fun K hK => ?_)
    refine goes_ Tryd.func18 (by kernel_rfl) rfl #[.agg #[.int .i64 k, .slice A6 bl.length c6], .agg #[.int .i64 k, .slice A8 bl.length c8]] (by rfl) rfl rfl (by simp only [List.map_toArray, List.map_cons, List.map_nil]; rfl) ?_
    with_reducible refine (HBS.out A6 A8 c6 c8 _ (HR7.out.keep hBA) hs8).mono ?_
    rintro e wB ⟨rfl, hbB⟩
    refine ⟨_, rfl, ?_⟩
    have hBB : Below w7.heap.size w7 wB := bthen hBA hbB
    refine hK.out _ _ ⟨((hbB.cell (World.block_lt_of_cell? _ _ hHeld.1)).trans hHeld.1), ((hbB.cell (World.block_lt_of_cell? _ _ hHeld.2.1)).trans hHeld.2.1), ((hbB.cell (World.block_lt_of_cell? _ _ hHeld.2.2.1)).trans hHeld.2.2.1), ((hbB.cell (World.block_lt_of_cell? _ _ hHeld.2.2.2.1)).trans hHeld.2.2.2.1), ((hbB.cell (World.block_lt_of_cell? _ _ hHeld.2.2.2.2.1)).trans hHeld.2.2.2.2.1), ((hbB.cell (World.block_lt_of_cell? _ _ hHeld.2.2.2.2.2.1)).trans hHeld.2.2.2.2.2.1), ((hbB.cell (World.block_lt_of_cell? _ _ hHeld.2.2.2.2.2.2.1)).trans hHeld.2.2.2.2.2.2.1), ((hbB.cell (World.block_lt_of_cell? _ _ hHeld.2.2.2.2.2.2.2.1)).trans hHeld.2.2.2.2.2.2.2.1), ((hbB.cell (World.block_lt_of_cell? _ _ hHeld.2.2.2.2.2.2.2.2.1)).trans hHeld.2.2.2.2.2.2.2.2.1), ((hbB.cell (World.block_lt_of_cell? _ _ hHeld.2.2.2.2.2.2.2.2.2)).trans hHeld.2.2.2.2.2.2.2.2.2)⟩ (fun hHeld => ?_)
    clear hK K
    refine norm_ (a' := ?_) ?_ ?_
    rotate_left
    · show Act.put _ (some 62) _ = _
      simp only [Act.put, List.setIfInBounds_toArray, List.set_cons_zero, List.set_cons_succ, i64_w, i32_w]
      rfl
    refine pure_ (i := 16) (N := some 63) (v := ?_) (a' := ?_) #[true, true, true, true, true, true, true, true, true, true, true, true, true, true, true, true, true, false, false, false, false, false, false] rfl rfl (any_of HT_.out (by kernel_rfl)) (fun _ _ _ h => h) (Or.inl ⟨by rfl, ?_⟩) ?_ ?_
    rotate_left
    · intro w'
      go_simp
      with_reducible rfl
    rotate_left
    · simp only [Act.put, List.setIfInBounds_toArray, List.set_cons_zero, List.set_cons_succ, i64_w, i32_w]
      rfl
    refine pure_ (i := 17) (N := some 64) (v := ?_) (a' := ?_) #[true, true, true, true, true, true, true, true, true, true, true, true, true, true, true, true, true, true, false, false, false, false, false] rfl rfl (any_of HT_.out (by kernel_rfl)) (fun _ _ _ h => h) (Or.inl ⟨by rfl, ?_⟩) ?_ ?_
    rotate_left
    · intro w'
      go_simp
      with_reducible rfl
    rotate_left
    · simp only [Act.put, List.setIfInBounds_toArray, List.set_cons_zero, List.set_cons_succ, i64_w, i32_w]
      rfl
    refine pure_ (i := 18) (N := some 65) (v := ?_) (a' := ?_) #[true, true, true, true, true, true, true, true, true, true, true, true, true, true, true, true, true, true, true, false, false, false, false] rfl rfl (any_of HT_.out (by kernel_rfl)) (fun _ _ _ h => h) (Or.inl ⟨by rfl, ?_⟩) ?_ ?_
    rotate_left
    · intro w'
      go_simp
      with_reducible rfl
    rotate_left
    · simp only [Act.put, List.setIfInBounds_toArray, List.set_cons_zero, List.set_cons_succ, i64_w, i32_w]
      rfl
    refine pure_ (i := 19) (N := some 66) (v := ?_) (a' := ?_) #[true, true, true, true, true, true, true, true, true, true, true, true, true, true, true, true, true, true, true, true, false, false, false] rfl rfl (any_of HT_.out (by kernel_rfl)) (fun _ _ _ h => h) (Or.inl ⟨by rfl, ?_⟩) ?_ ?_
    rotate_left
    · intro w'
      go_simp
      with_reducible rfl
    rotate_left
    · simp only [Act.put, List.setIfInBounds_toArray, List.set_cons_zero, List.set_cons_succ, i64_w, i32_w]
      rfl
    refine one_ (i := 20) (N := some 67) #[true, true, true, true, true, true, true, true, true, true, true, true, true, true, true, true, true, true, true, true, true, false, false] rfl rfl (one_of HT_.out (by kernel_rfl)) (by decide) (fun K hK => ?_)
    refine goes_ Tryd.func20 (by kernel_rfl) rfl #[.slice A4 el.length c4] (by rfl) rfl rfl (by simp only [List.map_toArray, List.map_cons, List.map_nil]; rfl) ?_
    with_reducible refine (HVA.out A4 c4 _ (HS7.out.keep hBB)).mono ?_
    rintro e wC ⟨rfl, hbC⟩
    refine ⟨_, rfl, ?_⟩
    have hBC : Below w7.heap.size w7 wC := bthen hBB hbC
    refine hK.out _ _ ⟨((hbC.cell (World.block_lt_of_cell? _ _ hHeld.1)).trans hHeld.1), ((hbC.cell (World.block_lt_of_cell? _ _ hHeld.2.1)).trans hHeld.2.1), ((hbC.cell (World.block_lt_of_cell? _ _ hHeld.2.2.1)).trans hHeld.2.2.1), ((hbC.cell (World.block_lt_of_cell? _ _ hHeld.2.2.2.1)).trans hHeld.2.2.2.1), ((hbC.cell (World.block_lt_of_cell? _ _ hHeld.2.2.2.2.1)).trans hHeld.2.2.2.2.1), ((hbC.cell (World.block_lt_of_cell? _ _ hHeld.2.2.2.2.2.1)).trans hHeld.2.2.2.2.2.1), ((hbC.cell (World.block_lt_of_cell? _ _ hHeld.2.2.2.2.2.2.1)).trans hHeld.2.2.2.2.2.2.1), ((hbC.cell (World.block_lt_of_cell? _ _ hHeld.2.2.2.2.2.2.2.1)).trans hHeld.2.2.2.2.2.2.2.1), ((hbC.cell (World.block_lt_of_cell? _ _ hHeld.2.2.2.2.2.2.2.2.1)).trans hHeld.2.2.2.2.2.2.2.2.1), ((hbC.cell (World.block_lt_of_cell? _ _ hHeld.2.2.2.2.2.2.2.2.2)).trans hHeld.2.2.2.2.2.2.2.2.2)⟩ (fun hHeld => ?_)
    clear hK K
    refine norm_ (a' := ?_) ?_ ?_
    rotate_left
    · show Act.put _ (some 67) _ = _
      simp only [Act.put, List.setIfInBounds_toArray, List.set_cons_zero, List.set_cons_succ, i64_w, i32_w]
      rfl
    refine pure_ (i := 21) (N := some 68) (v := ?_) (a' := ?_) #[true, true, true, true, true, true, true, true, true, true, true, true, true, true, true, true, true, true, true, true, true, true, false] rfl rfl (any_of HT_.out (by kernel_rfl)) (fun _ _ _ h => h) (Or.inl ⟨by rfl, ?_⟩) ?_ ?_
    rotate_left
    · intro w'
      go_simp
      with_reducible rfl
    rotate_left
    · simp only [Act.put, List.setIfInBounds_toArray, List.set_cons_zero, List.set_cons_succ, i64_w, i32_w]
      rfl
    refine pure_ (i := 22) (N := some 69) (v := ?_) (a' := ?_) #[true, true, true, true, true, true, true, true, true, true, true, true, true, true, true, true, true, true, true, true, true, true, true] rfl rfl (any_of HT_.out (by kernel_rfl)) (fun _ _ _ h => h) (Or.inl ⟨by rfl, ?_⟩) ?_ ?_
    rotate_left
    · intro w'
      go_simp
      with_reducible rfl
    rotate_left
    · simp only [Act.put, List.setIfInBounds_toArray, List.set_cons_zero, List.set_cons_succ, i64_w, i32_w]
      rfl
    refine done_ (done_of HT_.out (by kernel_rfl)) ?_
    have HS8 := Lib.hid (HS7.out.keep hBC)
    have HXC := Lib.hid (HB7.out.trans (hBC.mono (by omega)))
    clear HX7 HB7 HS7 HR7 HBR HBS HVA hBC hBB hBA hbA hbB hbC hs8 hHeld m0 m1 m2 m3 m4 m5 m6 m7 r0 r1
    by_cases b1 : cut < 0
    · go_wp2_with fail
      go_ret
      exact ⟨rfl, HXC.out⟩
    by_cases b2 : (el.length : Int) ≤ cut
    · go_wp2_with fail
      go_ret
      exact ⟨rfl, HXC.out⟩
    · obtain ⟨m, rfl⟩ : ∃ m : Nat, cut = m := ⟨cut.toNat, by omega⟩
      have hm : m < el.length := by omega
      obtain ⟨A9, e9, s9⟩ := SB.to_ (P := Tryd.prog) Tryd.underlying26 rfl rfl .i64 A4 c4 el m (by omega) HS8.out.le
      have HC := Lib.hid (HVC.out m hm A9 c4 wC (s9 wC HS8.out))
      clear s9 HVC
      go_wp2_with fail
      refine HC.out.mono ?_
      rintro e wD ⟨⟨n9, rfl, hn9⟩, hbD⟩
      have HD := Lib.hid (bthen HXC.out hbD)
      clear hbD HXC HC
      go_wp2_with fail
      go_ret
      exact ⟨ret_bool (show (n9 != 0) = true by simp only [bne, hn9, Bool.not_false]), HD.out⟩
end Go.Proofs.YtdmnogjgifapnaaDoor.X
