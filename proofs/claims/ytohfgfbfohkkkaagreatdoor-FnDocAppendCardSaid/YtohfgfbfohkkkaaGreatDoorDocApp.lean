/- impl.Append, and the walk of the law FnDocAppend. -/
import Derived.Test.YtohfgfbfohkkkaaGreatDoorAppI
import Derived.Test.YtohfgfbfohkkkaaGreatDoorAwG
import Derived.Test.YtohfgfbfohkkkaaGreatDoorDoc8
set_option linter.unusedVariables false
set_option linter.unusedSimpArgs false
set_option maxRecDepth 100000
namespace Go.Proofs.YtohfgfbfohkkkaaGreatDoor.X
open Go.RowKit Go.Proofs.YtohfgfbfohkkkaaGreatDoorW.PrintLast
namespace Ap
def R17.T1 : Bool × List (List Nat × List Nat) := (true, [([], []), ([0], [0]), ([], []), ([1, 2, 1], [1, 2]), ([3, 3, 0, 1, 2, 3], [3])])
def R17.B1 : List Nat := [0, 1, 0, 7, 15]
theorem R17.tab1 : rtab .any (opsOf Tryz.f17 1) = R17.T1 := by kernel_rfl
theorem R17.bits1 : waitsOk R17.T1.2 R17.B1 = true := by kernel_rfl
def R4.T5 : Bool × List (List Nat × List Nat) := (true, [([], []), ([0, 0], [0]), ([1], [1]), ([2, 1, 1], [1, 2]), ([1], [1]), ([3, 4, 3, 1], [1, 3, 4]), ([5, 1], [1, 5]), ([1], [1]), ([7, 1], [1, 7]), ([1], [1]), ([9, 5, 1], [1, 9]), ([10, 1], [1, 10]), ([8, 11, 1], [1, 8, 11]), ([6, 12, 1], [1, 6, 12]), ([1, 13], [1, 13]), ([14, 10, 0, 1, 2, 3, 4, 5, 6, 7, 8, 9, 10, 11, 12, 13, 14], [14])])
def R4.B5 : List Nat := [0, 1, 3, 7, 3, 31, 63, 3, 131, 3, 575, 1599, 4031, 8191, 16383, 32767]
theorem R4.tab5 : rtab .any (opsOf Tryz.f4 5) = R4.T5 := by kernel_rfl
theorem R4.bits5 : waitsOk R4.T5.2 R4.B5 = true := by kernel_rfl
theorem implAppend (A : Option Addr) (c : Nat) (m : List UInt8) (v : Val) (cs : List Value) (deep : Int) (w : World) (hs : SB w A c m) (hok : okv v) (hr : right v deep = true) (hlen : (docValue v).length ≤ 900000) (hv : RV w v cs) (hm : m.length ≤ 1000000) :
    Calls Tryz.prog 17 #[.slice A m.length c, .agg cs.toArray] w fun e w' => ∃ A1 c1, e = .returned (.slice A1 (m ++ docValue v).length c1) ∧ SB w' A1 c1 (m ++ docValue v) ∧ Below w.heap.size w w' := by
  have HO := Lib.hid (fun wx (hx : Below w.heap.size w wx) => implOwn A c m wx (hs.keep hx) (by omega))
  have HC := Lib.hid (fun wx u base (hx : Below w.heap.size w wx) (h1 : w.heap.size ≤ base) (h2 : OB 5 wx base u m) (h3 : base ≤ wx.heap.size) => appendedC v cs deep w wx base u m hok hr hlen hv hx h1 h2 h3 (by omega))
  obtain ⟨k, text, more, n, bits, high, b, kids⟩ := v
  simp only [RV] at hv
  obtain ⟨A0, c0, K', dd, rfl, hs0, hd, hd2, hk⟩ := hv
  obtain ⟨L, hL⟩ : ∃ L, L = docValue (.mk k text more n bits high b kids) := ⟨_, rfl⟩
  obtain ⟨xb, hxb⟩ : ∃ x, x = b.length := ⟨_, rfl⟩
  obtain ⟨xk, hxk⟩ : ∃ x, x = kids.length := ⟨_, rfl⟩
  obtain ⟨q, hq⟩ : ∃ x, x = m.length := ⟨_, rfl⟩
  rw [← hL, ← hxb, ← hxk] at HC
  rw [← hL, ← hxb, ← hxk, ← hq]
  rw [← hq] at HO
  have hB0 : Below w.heap.size w (w.alloc (.cells #[.int .i64 k, .string text, .string more, .int .i64 n, .int .u64 bits, .int .u64 high, .slice A0 xb c0, .slice K' xk dd] 45)) := balloc (Below.refl _ _) (Nat.le_refl _) _
  clear hs hok hr hlen hm hs0 hd hd2 hk hL hxb hxk hq
  go_enter Tryz.func17, Tryz.ntmps17
  go_wp2_with fail
  refine start_ (n := 5) (S := fun w' => w'.cell? ⟨w.heap.size, 0, none⟩ = some (.int .i64 k) ∧ w'.cell? ⟨w.heap.size, 1, none⟩ = some (.string text) ∧ w'.cell? ⟨w.heap.size, 2, none⟩ = some (.string more) ∧ w'.cell? ⟨w.heap.size, 3, none⟩ = some (.int .i64 n) ∧ w'.cell? ⟨w.heap.size, 4, none⟩ = some (.int .u64 bits) ∧ w'.cell? ⟨w.heap.size, 5, none⟩ = some (.int .u64 high) ∧ w'.cell? ⟨w.heap.size, 6, none⟩ = some (.slice A0 xb c0) ∧ w'.cell? ⟨w.heap.size, 7, none⟩ = some (.slice K' xk dd)) (ds := [3]) #[false, false, false, false, false] (by kernel_rfl) rfl rfl ⟨(by go_simp), (by go_simp), (by go_simp), (by go_simp), (by go_simp), (by go_simp), (by go_simp), (by go_simp)⟩ (fun hHeld => ?_)
  refine with_tabW R17.tab1 R17.bits1 (fun HT_ HW_ => ?_)
  refine pure_ (i := 0) (N := some 5) (v := ?_) (a' := ?_) #[true, false, false, false, false] rfl rfl (any_of HT_.out (by kernel_rfl)) (fun _ _ _ h => h) (Or.inl ⟨by rfl, ?_⟩) ?_ ?_
  rotate_left
  · intro w'
    go_simp
    with_reducible rfl
  rotate_left
  · simp only [Act.put, List.setIfInBounds_toArray, List.set_cons_zero, List.set_cons_succ, i64_w, i32_w]
    rfl
  refine take_ (i := 2) (N := some 7) (v := ?_) (a' := ?_) #[true, false, true, false, false] rfl rfl (take_ofW HT_.out HW_.out (by kernel_rfl)) (fun _ _ _ h => h) (Or.inl ⟨by rfl, ?_⟩) hHeld ?_ ?_
  rotate_left
  · rintro w' ⟨s0, s1, s2, s3, s4, s5, s6, s7⟩
    go_simp
    with_reducible rfl
  rotate_left
  · simp only [Act.put, List.setIfInBounds_toArray, List.set_cons_zero, List.set_cons_succ, i64_w, i32_w]
    rfl
  refine one_ (i := 1) (N := some 6) #[true, true, true, false, false] rfl rfl (one_of HT_.out (by kernel_rfl)) (by decide) (fun K hK => ?_)
  refine goes_ Tryz.func25 (by kernel_rfl) rfl #[.slice A q c] (by rfl) rfl rfl (by simp only [List.map_toArray, List.map_cons, List.map_nil]; rfl) ?_
  with_reducible refine (HO.out _ (by exact bdrew hB0)).mono ?_
  rintro e w3 ⟨v3, rfl, ho3, hb3⟩
  refine ⟨_, rfl, ?_⟩
  have HB3 := Lib.hid (bthen' (bdrew hB0) hb3)
  refine hK.out _ _ ⟨((hb3.cell (World.block_lt_of_cell? _ _ hHeld.1)).trans hHeld.1), ((hb3.cell (World.block_lt_of_cell? _ _ hHeld.2.1)).trans hHeld.2.1), ((hb3.cell (World.block_lt_of_cell? _ _ hHeld.2.2.1)).trans hHeld.2.2.1), ((hb3.cell (World.block_lt_of_cell? _ _ hHeld.2.2.2.1)).trans hHeld.2.2.2.1), ((hb3.cell (World.block_lt_of_cell? _ _ hHeld.2.2.2.2.1)).trans hHeld.2.2.2.2.1), ((hb3.cell (World.block_lt_of_cell? _ _ hHeld.2.2.2.2.2.1)).trans hHeld.2.2.2.2.2.1), ((hb3.cell (World.block_lt_of_cell? _ _ hHeld.2.2.2.2.2.2.1)).trans hHeld.2.2.2.2.2.2.1), ((hb3.cell (World.block_lt_of_cell? _ _ hHeld.2.2.2.2.2.2.2)).trans hHeld.2.2.2.2.2.2.2)⟩ (fun hHeld => ?_)
  clear hK K
  refine norm_ (a' := ?_) ?_ ?_
  rotate_left
  · show Act.put _ (some 6) _ = _
    simp only [Act.put, List.setIfInBounds_toArray, List.set_cons_zero, List.set_cons_succ, i64_w, i32_w]
    rfl
  refine last_ (i := 3) (N := some 8) #[true, true, true, true, false] rfl rfl (one_of HT_.out (by kernel_rfl)) (by decide) (fun K hK => ?_)
  refine goes_ Tryz.func37 (by kernel_rfl) rfl #[v3, .agg #[.int .i64 k, .string text, .string more, .int .i64 n, .int .u64 bits, .int .u64 high, .slice A0 xb c0, .slice K' xk dd]] (by rfl) rfl rfl (by simp only [List.map_toArray, List.map_cons, List.map_nil]; rfl) ?_
  with_reducible refine (HC.out _ _ _ HB3.out (by simp) ho3 (by exact hb3.size)).mono ?_
  rintro e w4 ⟨v4, rfl, h4⟩
  refine ⟨_, rfl, ?_⟩
  refine hK.out _ _ ?_
  clear hK K
  refine norm_ (a' := ?_) ?_ ?_
  rotate_left
  · show Act.put _ (some 8) _ = _
    simp only [Act.put, List.setIfInBounds_toArray, List.set_cons_zero, List.set_cons_succ, i64_w, i32_w]
    rfl
  refine pure_ (i := 4) (N := some 4) (v := ?_) (a' := ?_) #[true, true, true, true, true] rfl rfl (any_of HT_.out (by kernel_rfl)) (fun _ _ _ h => h) (Or.inl ⟨by rfl, ?_⟩) ?_ ?_
  rotate_left
  · intro w'
    go_simp
    with_reducible rfl
  rotate_left
  · simp only [Act.put, List.setIfInBounds_toArray, List.set_cons_zero, List.set_cons_succ, i64_w, i32_w]
    rfl
  refine done_ (done_of HT_.out (by kernel_rfl)) ?_
  have hk4 := h4.kept ho3 (by exact hb3.size)
  obtain ⟨A4, c4, rfl, hs4, -⟩ := h4.own.sb
  have HB4 : Hid (Below w.heap.size w w4) := Lib.hid (HB3.out.trans (hk4.mono (by simp)))
  have HS4 := Lib.hid hs4
  clear h4 hk4 hs4
  go_wp2_with fail
  go_ret
  exact ⟨A4, c4, rfl, HS4.out, HB4.out⟩
theorem fits_someA (v : Val) (cs : List Value) (wx : World) (hv : RV wx v cs) : ∃ q : Bool, Calls Tryz.prog 15 #[.agg cs.toArray] wx fun e w' => e = .returned (.bool q) ∧ Below wx.heap.size wx w' := by
  by_cases h : v.text.size ≤ 2147483647 ∧ v.more.size ≤ 2147483647 ∧ v.b.length ≤ 2147483647 ∧ v.kids.length ≤ 2147483647
  · exact ⟨true, zzFits1 v _ wx hv h⟩
  · exact ⟨false, zzFits1_not v _ wx hv h⟩
theorem fineA_len {v : Val} (h : fine v 300 5000 = true) : right v 200 = true ∧ (docValue v).length ≤ 900000 := by
  obtain ⟨h1, h2, h3⟩ := fine_len h (by omega)
  have := docValue_len v
  exact ⟨h3, by omega⟩
set_option maxHeartbeats 3200000 in
theorem fnDocAppend_walk (A : Option Addr) (c : Nat) (m : List UInt8) (v : Val) (cs : List Value) (w : World) (hs : SB w A c m) (hok : okv v) (hv : RV w v cs) :
    Calls Tryz.prog 4 #[.slice A m.length c, .agg cs.toArray] w fun e w' => e = .returned (.bool true) ∧ Below w.heap.size w w' := by
  have HV := Lib.hid hv
  have HSM := Lib.hid hs
  have HFT : Hid (∀ wx, Below w.heap.size w wx → ∃ q : Bool, Calls Tryz.prog 15 #[.agg cs.toArray] wx fun e w' => e = .returned (.bool q) ∧ Below wx.heap.size wx w') := Lib.hid fun wx hx => fits_someA v cs wx (hv.keep hx)
  have HFI := Lib.hid (fun wx (hx : Below w.heap.size w wx) => docFine v cs wx hok (hv.keep hx))
  have HAw := Lib.hid (fun wx => Aw.docAwake wx)
  obtain ⟨f4, hf4⟩ : ∃ z, z = fine v 300 5000 := ⟨_, rfl⟩
  rw [← hf4] at HFI
  obtain ⟨sd, hsd⟩ : ∃ s : ByteArray, s = ⟨m.toArray⟩ := ⟨_, rfl⟩
  obtain ⟨sv, hsv⟩ : ∃ s : ByteArray, s = ⟨(docValue v).toArray⟩ := ⟨_, rfl⟩
  have HCP : Hid (m.length ≤ 1000 → ∀ wx, Below w.heap.size w wx → Calls Tryz.prog 7 #[.slice A m.length c] wx fun e w' => ∃ A1 c1, e = .returned (.slice A1 m.length c1) ∧ SB w' A1 c1 m ∧ Below wx.heap.size wx w') := Lib.hid fun hm wx hx => by
    refine (fresh_of (docCopy A c m wx (hs.keep hx) (by omega))).mono ?_
    rintro e w' ⟨A1, c1, rfl, h1, -, hb⟩
    exact ⟨A1, c1, rfl, h1, hb⟩
  have HAP : Hid (f4 = true → m.length ≤ 1000 → ∀ wx A1 c1, Below w.heap.size w wx → SB wx A1 c1 m → Calls Tryz.prog 17 #[.slice A1 m.length c1, .agg cs.toArray] wx fun e w' => ∃ A2 n2 c2, e = .returned (.slice A2 n2 c2) ∧ (∀ wy, Below w'.heap.size w' wy → (convert 22 9 (.slice A2 n2 c2)).run Tryz.prog wy = .ok (.string (sd ++ sv)) wy) ∧ Below wx.heap.size wx w') := Lib.hid fun h hm wx A1 c1 hx h1 => by
    obtain ⟨r1, r2⟩ := fineA_len (hf4.symm.trans h)
    refine (implAppend A1 c1 m v cs 200 wx h1 hok r1 r2 (hv.keep hx) (by omega)).mono ?_
    rintro e w' ⟨A2, c2, rfl, h2, hb⟩
    exact ⟨A2, _, c2, rfl, fun wy hy => by rw [str_of (h2.keep hy), str_app, hsd, hsv], hb⟩
  have HDV : Hid (f4 = true → ∀ wx, Below w.heap.size w wx → Calls Tryz.prog 18 #[.agg cs.toArray] wx fun e w' => ∃ A2 n2 c2, e = .returned (.slice A2 n2 c2) ∧ (convert 22 9 (.slice A2 n2 c2)).run Tryz.prog w' = .ok (.string sv) w' ∧ Below wx.heap.size wx w') := Lib.hid fun h wx hx => by
    obtain ⟨r1, r2⟩ := fineA_len (hf4.symm.trans h)
    refine (docValue_calls v cs wx (by omega) (hv.keep hx)).mono ?_
    rintro e w' ⟨v2, rfl, ho, hb⟩
    obtain ⟨A2, c2, rfl, h2, -⟩ := ho.sb
    exact ⟨A2, _, c2, rfl, by rw [str_of h2, hsv], hb⟩
  have HSZ : Hid (f4 = true → m.length ≤ 1000 → (9223372036854775807 < sd.size + sv.size) = False) := Lib.hid fun h hm => by
    obtain ⟨r1, r2⟩ := fineA_len (hf4.symm.trans h)
    rw [hsd, hsv, str_size, str_size]
    exact eq_false (by omega)
  have HD : Hid (∀ wx, Below w.heap.size w wx → (convert 22 9 (.slice A m.length c)).run Tryz.prog wx = .ok (.string sd) wx) := Lib.hid fun wx h => by rw [hsd]; exact str_of (hs.keep h)
  obtain ⟨q, hq⟩ : ∃ x, x = m.length := ⟨_, rfl⟩
  rw [← hq] at HCP HAP HD HSZ ⊢
  obtain ⟨k, text, more, n, bits, high, b, kids⟩ := v
  simp only [RV] at hv
  obtain ⟨A0, c0, K', dd, rfl, hs0, hd, hd2, hk⟩ := hv
  obtain ⟨xb, hxb⟩ : ∃ x, x = b.length := ⟨_, rfl⟩
  obtain ⟨xk, hxk⟩ : ∃ x, x = kids.length := ⟨_, rfl⟩
  rw [← hxb, ← hxk] at HFT HFI HAP HDV
  rw [← hxb, ← hxk]
  have hB0 : Below w.heap.size w (w.alloc (.cells #[.int .i64 k, .string text, .string more, .int .i64 n, .int .u64 bits, .int .u64 high, .slice A0 xb c0, .slice K' xk dd] 45)) := balloc (Below.refl _ _) (Nat.le_refl _) _
  obtain ⟨z, hz⟩ := HFT.out _ hB0
  have HZ := Lib.hid hz
  clear hs hok hs0 hd hd2 hk hxb hxk hq hf4 hsd hsv hz HFT HV HSM
  by_cases a1 : (2147483647 : Int) < (q : Int)
  · go_enter Tryz.func4, Tryz.ntmps4
    go_wp2_with fail
    go_ret
    exact ⟨rfl, hB0⟩
  have hB1 : Below (w.heap.size + 1) (w.alloc (.cells #[.int .i64 k, .string text, .string more, .int .i64 n, .int .u64 bits, .int .u64 high, .slice A0 xb c0, .slice K' xk dd] 45)) (w.alloc (.cells #[.int .i64 k, .string text, .string more, .int .i64 n, .int .u64 bits, .int .u64 high, .slice A0 xb c0, .slice K' xk dd] 45)) := Below.refl _ _
  go_enter Tryz.func4, Tryz.ntmps4
  go_wp2_with fail
  refine HZ.out.mono ?_
  rintro e w1 ⟨rfl, hb1⟩
  have hx1 := hB1.trans (hb1.mono (by simp))
  have HX1 := Lib.hid hx1
  clear hb1 HZ hB1
  cases z with
  | false =>
    clear hx1
    go_wp2_with fail
    go_ret
    exact ⟨rfl, boxb HX1.out⟩
  | true =>
  by_cases a2 : (1000 : Int) < (q : Int)
  · clear hx1
    go_wp2_with fail
    go_ret
    exact ⟨rfl, boxb HX1.out⟩
  have hq1 : q ≤ 1000 := by omega
  have HQ := Lib.hid hq1
  have b1 : decide ((1000 : Int) < (q : Int)) = false := decide_eq_false a2
  have q0 := boxc hx1 0
  have q1 := boxc hx1 1
  have q2 := boxc hx1 2
  have q3 := boxc hx1 3
  have q4 := boxc hx1 4
  have q5 := boxc hx1 5
  have q6 := boxc hx1 6
  have q7 := boxc hx1 7
  simp only [List.getElem?_cons_succ, List.getElem?_cons_zero] at q0 q1 q2 q3 q4 q5 q6 q7
  have hz1 := boxs hx1
  clear a1 a2 hq1 hx1
  go_wp2_with fail
  refine (HFI.out _ (boxb HX1.out)).mono ?_
  rintro e w2 ⟨rfl, hb2⟩
  have hx2 := HX1.out.trans (hb2.mono hz1)
  have HX2 := Lib.hid hx2
  clear q0 q1 q2 q3 q4 q5 q6 q7 hz1 hb2 HX1 HFI b1
  cases f4 with
  | false =>
    clear hx2
    go_wp2_with fail
    go_ret
    exact ⟨rfl, boxb HX2.out⟩
  | true =>
  have HCP1 := Lib.hid (HCP.out HQ.out)
  have HAP1 := Lib.hid (HAP.out rfl HQ.out)
  have HDV1 := Lib.hid (HDV.out rfl)
  have hss := HSZ.out rfl HQ.out
  have q0 := boxc hx2 0
  have q1 := boxc hx2 1
  have q2 := boxc hx2 2
  have q3 := boxc hx2 3
  have q4 := boxc hx2 4
  have q5 := boxc hx2 5
  have q6 := boxc hx2 6
  have q7 := boxc hx2 7
  simp only [List.getElem?_cons_succ, List.getElem?_cons_zero] at q0 q1 q2 q3 q4 q5 q6 q7
  have hB2 : Below w.heap.size w w2 := boxb hx2
  clear hx2 HCP HAP HDV HSZ
  go_wp2_with fail
  refine start_ (n := 16) (S := fun w' => w'.cell? ⟨w.heap.size, 0, none⟩ = some (.int .i64 k) ∧ w'.cell? ⟨w.heap.size, 1, none⟩ = some (.string text) ∧ w'.cell? ⟨w.heap.size, 2, none⟩ = some (.string more) ∧ w'.cell? ⟨w.heap.size, 3, none⟩ = some (.int .i64 n) ∧ w'.cell? ⟨w.heap.size, 4, none⟩ = some (.int .u64 bits) ∧ w'.cell? ⟨w.heap.size, 5, none⟩ = some (.int .u64 high) ∧ w'.cell? ⟨w.heap.size, 6, none⟩ = some (.slice A0 xb c0) ∧ w'.cell? ⟨w.heap.size, 7, none⟩ = some (.slice K' xk dd) ∧ (convert 22 9 (.slice A q c)).run Tryz.prog w' = .ok (.string sd) w') (ds := []) #[false, false, false, false, false, false, false, false, false, false, false, false, false, false, false, false] (by kernel_rfl) rfl rfl ⟨(by exact q0), (by exact q1), (by exact q2), (by exact q3), (by exact q4), (by exact q5), (by exact q6), (by exact q7), (HD.out _ (bdrew hB2))⟩ (fun hHeld => ?_)
  refine with_tabW R4.tab5 R4.bits5 (fun HT_ HW_ => ?_)
  refine one_ (i := 0) (N := some 21) #[true, false, false, false, false, false, false, false, false, false, false, false, false, false, false, false] rfl rfl (one_of HT_.out (by kernel_rfl)) (by decide) (fun K hK => ?_)
  refine goes_ Tryz.func8 (by kernel_rfl) rfl #[] (by rfl) rfl rfl (by first | rfl | simp) ?_
  with_reducible refine (HAw.out _).mono ?_
  rintro e w3 ⟨rfl, hb3⟩
  refine ⟨_, rfl, ?_⟩
  have hB3 := bthen' (bdrew hB2) hb3 (by exact hB2.size)
  refine hK.out _ _ ⟨((hb3.cell (World.block_lt_of_cell? _ _ hHeld.1)).trans hHeld.1), ((hb3.cell (World.block_lt_of_cell? _ _ hHeld.2.1)).trans hHeld.2.1), ((hb3.cell (World.block_lt_of_cell? _ _ hHeld.2.2.1)).trans hHeld.2.2.1), ((hb3.cell (World.block_lt_of_cell? _ _ hHeld.2.2.2.1)).trans hHeld.2.2.2.1), ((hb3.cell (World.block_lt_of_cell? _ _ hHeld.2.2.2.2.1)).trans hHeld.2.2.2.2.1), ((hb3.cell (World.block_lt_of_cell? _ _ hHeld.2.2.2.2.2.1)).trans hHeld.2.2.2.2.2.1), ((hb3.cell (World.block_lt_of_cell? _ _ hHeld.2.2.2.2.2.2.1)).trans hHeld.2.2.2.2.2.2.1), ((hb3.cell (World.block_lt_of_cell? _ _ hHeld.2.2.2.2.2.2.2.1)).trans hHeld.2.2.2.2.2.2.2.1), (HD.out _ hB3)⟩ (fun hHeld => ?_)
  clear hK K
  refine norm_ (a' := ?_) ?_ ?_
  rotate_left
  · show Act.put _ (some 21) _ = _
    simp only [Act.put, List.setIfInBounds_toArray, List.set_cons_zero, List.set_cons_succ, i64_w, i32_w]
    rfl
  refine pure_ (i := 1) (N := some 22) (v := ?_) (a' := ?_) #[true, true, false, false, false, false, false, false, false, false, false, false, false, false, false, false] rfl rfl (any_of HT_.out (by kernel_rfl)) (fun _ _ _ h => h) (Or.inl ⟨by rfl, ?_⟩) ?_ ?_
  rotate_left
  · intro w'
    go_simp
    with_reducible rfl
  rotate_left
  · simp only [Act.put, List.setIfInBounds_toArray, List.set_cons_zero, List.set_cons_succ, i64_w, i32_w]
    rfl
  refine pure_ (i := 2) (N := some 23) (v := ?_) (a' := ?_) #[true, true, true, false, false, false, false, false, false, false, false, false, false, false, false, false] rfl rfl (any_of HT_.out (by kernel_rfl)) (fun _ _ _ h => h) (Or.inl ⟨by rfl, ?_⟩) ?_ ?_
  rotate_left
  · intro w'
    go_simp
    with_reducible rfl
  rotate_left
  · simp only [Act.put, List.setIfInBounds_toArray, List.set_cons_zero, List.set_cons_succ, i64_w, i32_w]
    rfl
  refine pure_ (i := 7) (N := some 28) (v := ?_) (a' := ?_) #[true, true, true, false, false, false, false, true, false, false, false, false, false, false, false, false] rfl rfl (any_of HT_.out (by kernel_rfl)) (fun _ _ _ h => h) (Or.inl ⟨by rfl, ?_⟩) ?_ ?_
  rotate_left
  · intro w'
    go_simp
    with_reducible rfl
  rotate_left
  · simp only [Act.put, List.setIfInBounds_toArray, List.set_cons_zero, List.set_cons_succ, i64_w, i32_w]
    rfl
  refine take_ (i := 4) (N := some 25) (v := ?_) (a' := ?_) #[true, true, true, false, true, false, false, true, false, false, false, false, false, false, false, false] rfl rfl (take_ofW HT_.out HW_.out (by kernel_rfl)) (fun _ _ _ h => h) (Or.inl ⟨by rfl, ?_⟩) hHeld ?_ ?_
  rotate_left
  · rintro w' ⟨s0, s1, s2, s3, s4, s5, s6, s7, s8⟩
    go_simp
    with_reducible rfl
  rotate_left
  · simp only [Act.put, List.setIfInBounds_toArray, List.set_cons_zero, List.set_cons_succ, i64_w, i32_w]
    rfl
  refine take_ (i := 8) (N := some 29) (v := ?_) (a' := ?_) #[true, true, true, false, true, false, false, true, true, false, false, false, false, false, false, false] rfl rfl (take_ofW HT_.out HW_.out (by kernel_rfl)) (fun _ _ _ h => h) (Or.inl ⟨by rfl, ?_⟩) hHeld ?_ ?_
  rotate_left
  · rintro w' ⟨s0, s1, s2, s3, s4, s5, s6, s7, s8⟩
    go_simp
    with_reducible rfl
  rotate_left
  · simp only [Act.put, List.setIfInBounds_toArray, List.set_cons_zero, List.set_cons_succ, i64_w, i32_w]
    rfl
  refine take_ (i := 9) (N := some 30) (v := ?_) (a' := ?_) #[true, true, true, false, true, false, false, true, true, true, false, false, false, false, false, false] rfl rfl (take_ofW HT_.out HW_.out (by kernel_rfl)) (fun _ _ _ h => h) (Or.inl ⟨by rfl, ?_⟩) hHeld ?_ ?_
  rotate_left
  · rintro w' ⟨s0, s1, s2, s3, s4, s5, s6, s7, s8⟩
    go_simp
    with_reducible rfl
  rotate_left
  · simp only [Act.put, List.setIfInBounds_toArray, List.set_cons_zero, List.set_cons_succ, i64_w, i32_w]
    rfl
  refine one_ (i := 3) (N := some 24) #[true, true, true, true, true, false, false, true, true, true, false, false, false, false, false, false] rfl rfl (one_of HT_.out (by kernel_rfl)) (by decide) (fun K hK => ?_)
  refine goes_ Tryz.func7 (by kernel_rfl) rfl #[.slice A q c] (by rfl) rfl rfl (by simp only [List.map_toArray, List.map_cons, List.map_nil]; rfl) ?_
  with_reducible refine (HCP1.out _ hB3).mono ?_
  rintro e w4 ⟨A4, c4, rfl, hs4, hb4⟩
  refine ⟨_, rfl, ?_⟩
  have hB4 := bthen hB3 hb4
  refine hK.out _ _ ⟨((hb4.cell (World.block_lt_of_cell? _ _ hHeld.1)).trans hHeld.1), ((hb4.cell (World.block_lt_of_cell? _ _ hHeld.2.1)).trans hHeld.2.1), ((hb4.cell (World.block_lt_of_cell? _ _ hHeld.2.2.1)).trans hHeld.2.2.1), ((hb4.cell (World.block_lt_of_cell? _ _ hHeld.2.2.2.1)).trans hHeld.2.2.2.1), ((hb4.cell (World.block_lt_of_cell? _ _ hHeld.2.2.2.2.1)).trans hHeld.2.2.2.2.1), ((hb4.cell (World.block_lt_of_cell? _ _ hHeld.2.2.2.2.2.1)).trans hHeld.2.2.2.2.2.1), ((hb4.cell (World.block_lt_of_cell? _ _ hHeld.2.2.2.2.2.2.1)).trans hHeld.2.2.2.2.2.2.1), ((hb4.cell (World.block_lt_of_cell? _ _ hHeld.2.2.2.2.2.2.2.1)).trans hHeld.2.2.2.2.2.2.2.1), (HD.out _ hB4)⟩ (fun hHeld => ?_)
  clear hK K
  refine norm_ (a' := ?_) ?_ ?_
  rotate_left
  · show Act.put _ (some 24) _ = _
    simp only [Act.put, List.setIfInBounds_toArray, List.set_cons_zero, List.set_cons_succ, i64_w, i32_w]
    rfl
  refine one_ (i := 5) (N := some 26) #[true, true, true, true, true, true, false, true, true, true, false, false, false, false, false, false] rfl rfl (one_of HT_.out (by kernel_rfl)) (by decide) (fun K hK => ?_)
  refine goes_ Tryz.func17 (by kernel_rfl) rfl #[.slice A4 q c4, .agg #[.int .i64 k, .string text, .string more, .int .i64 n, .int .u64 bits, .int .u64 high, .slice A0 xb c0, .slice K' xk dd]] (by rfl) rfl rfl (by simp only [List.map_toArray, List.map_cons, List.map_nil]; rfl) ?_
  with_reducible refine (HAP1.out _ _ _ hB4 hs4).mono ?_
  rintro e w5 ⟨A5, n5, c5, rfl, k5, hb5⟩
  refine ⟨_, rfl, ?_⟩
  have hB5 := bthen hB4 hb5
  have K5 := Lib.hid k5
  clear k5
  refine hK.out _ _ ⟨((hb5.cell (World.block_lt_of_cell? _ _ hHeld.1)).trans hHeld.1), ((hb5.cell (World.block_lt_of_cell? _ _ hHeld.2.1)).trans hHeld.2.1), ((hb5.cell (World.block_lt_of_cell? _ _ hHeld.2.2.1)).trans hHeld.2.2.1), ((hb5.cell (World.block_lt_of_cell? _ _ hHeld.2.2.2.1)).trans hHeld.2.2.2.1), ((hb5.cell (World.block_lt_of_cell? _ _ hHeld.2.2.2.2.1)).trans hHeld.2.2.2.2.1), ((hb5.cell (World.block_lt_of_cell? _ _ hHeld.2.2.2.2.2.1)).trans hHeld.2.2.2.2.2.1), ((hb5.cell (World.block_lt_of_cell? _ _ hHeld.2.2.2.2.2.2.1)).trans hHeld.2.2.2.2.2.2.1), ((hb5.cell (World.block_lt_of_cell? _ _ hHeld.2.2.2.2.2.2.2.1)).trans hHeld.2.2.2.2.2.2.2.1), (HD.out _ hB5)⟩ (fun hHeld => ?_)
  clear hK K
  refine norm_ (a' := ?_) ?_ ?_
  rotate_left
  · show Act.put _ (some 26) _ = _
    simp only [Act.put, List.setIfInBounds_toArray, List.set_cons_zero, List.set_cons_succ, i64_w, i32_w]
    rfl
  refine join_ (σ := Option Addr × Nat × Nat) 3 #[true, true, true, true, true, true, true, true, true, true, true, true, true, false, false, false] (fun s => [(27, .string (sd ++ sv)), (31, .slice s.1 s.2.1 s.2.2), (32, .string sv), (33, .string (sd ++ sv))]) (fun s w' => Below w.heap.size w w') ?_ ?_
  rotate_left
  · intro hCont
    refine two_ (i := 6) (j := 10) (Ni := some 27) (Nj := some 31) #[true, true, true, true, true, true, true, true, true, true, false, false, false, false, false, false] #[true, true, true, true, true, true, false, true, true, true, true, false, false, false, false, false] rfl rfl rfl rfl (two_of HT_.out (by kernel_rfl)) (by decide) (by decide) (fun K hK => ?_) (fun K hK => ?_)
    · skip
      have k5a := K5.out _ (Below.refl _ _)
      refine value_ (w1 := ?_) (v := ?_) (by rfl) rfl ?_ ?_
      rotate_left 2
      · go_simp
        constructor
        · rfl
        · rfl
      refine hK.out _ _ ⟨hHeld.1, hHeld.2.1, hHeld.2.2.1, hHeld.2.2.2.1, hHeld.2.2.2.2.1, hHeld.2.2.2.2.2.1, hHeld.2.2.2.2.2.2.1, hHeld.2.2.2.2.2.2.2.1, hHeld.2.2.2.2.2.2.2.2⟩ (fun hHeld => ?_)
      clear hK K
      refine norm_ (a' := ?_) ?_ ?_
      rotate_left
      · show Act.put _ (some 27) _ = _
        simp only [Act.put, List.setIfInBounds_toArray, List.set_cons_zero, List.set_cons_succ, i64_w, i32_w]
        rfl
      refine one_ (i := 10) (N := some 31) #[true, true, true, true, true, true, true, true, true, true, true, false, false, false, false, false] rfl rfl (one_of HT_.out (by kernel_rfl)) (by decide) (fun K hK => ?_)
      refine goes_ Tryz.func18 (by kernel_rfl) rfl #[.agg #[.int .i64 k, .string text, .string more, .int .i64 n, .int .u64 bits, .int .u64 high, .slice A0 xb c0, .slice K' xk dd]] (by rfl) rfl rfl (by simp only [List.map_toArray, List.map_cons, List.map_nil]; rfl) ?_
      with_reducible refine (HDV1.out _ hB5).mono ?_
      rintro e w6 ⟨A6, n6, c6, rfl, k6, hb6⟩
      refine ⟨_, rfl, ?_⟩
      have hB6 := bthen hB5 hb6
      refine hK.out _ _ ⟨((hb6.cell (World.block_lt_of_cell? _ _ hHeld.1)).trans hHeld.1), ((hb6.cell (World.block_lt_of_cell? _ _ hHeld.2.1)).trans hHeld.2.1), ((hb6.cell (World.block_lt_of_cell? _ _ hHeld.2.2.1)).trans hHeld.2.2.1), ((hb6.cell (World.block_lt_of_cell? _ _ hHeld.2.2.2.1)).trans hHeld.2.2.2.1), ((hb6.cell (World.block_lt_of_cell? _ _ hHeld.2.2.2.2.1)).trans hHeld.2.2.2.2.1), ((hb6.cell (World.block_lt_of_cell? _ _ hHeld.2.2.2.2.2.1)).trans hHeld.2.2.2.2.2.1), ((hb6.cell (World.block_lt_of_cell? _ _ hHeld.2.2.2.2.2.2.1)).trans hHeld.2.2.2.2.2.2.1), ((hb6.cell (World.block_lt_of_cell? _ _ hHeld.2.2.2.2.2.2.2.1)).trans hHeld.2.2.2.2.2.2.2.1), (HD.out _ hB6)⟩ (fun hHeld => ?_)
      clear hK K
      refine norm_ (a' := ?_) ?_ ?_
      rotate_left
      · show Act.put _ (some 31) _ = _
        simp only [Act.put, List.setIfInBounds_toArray, List.set_cons_zero, List.set_cons_succ, i64_w, i32_w]
        rfl
      refine one_ (i := 11) (N := some 32) #[true, true, true, true, true, true, true, true, true, true, true, true, false, false, false, false] rfl rfl (one_of HT_.out (by kernel_rfl)) (by decide) (fun K hK => ?_)
      refine value_ (w1 := ?_) (v := ?_) (by rfl) rfl ?_ ?_
      rotate_left 2
      · go_simp
        constructor
        · rfl
        · rfl
      refine hK.out _ _ ⟨hHeld.1, hHeld.2.1, hHeld.2.2.1, hHeld.2.2.2.1, hHeld.2.2.2.2.1, hHeld.2.2.2.2.2.1, hHeld.2.2.2.2.2.2.1, hHeld.2.2.2.2.2.2.2.1, hHeld.2.2.2.2.2.2.2.2⟩ (fun hHeld => ?_)
      clear hK K
      refine norm_ (a' := ?_) ?_ ?_
      rotate_left
      · show Act.put _ (some 32) _ = _
        simp only [Act.put, List.setIfInBounds_toArray, List.set_cons_zero, List.set_cons_succ, i64_w, i32_w]
        rfl
      refine pure_ (i := 12) (N := some 33) (v := ?_) (a' := ?_) #[true, true, true, true, true, true, true, true, true, true, true, true, true, false, false, false] rfl rfl (any_of HT_.out (by kernel_rfl)) (fun _ _ _ h => h) (Or.inl ⟨by rfl, ?_⟩) ?_ ?_
      rotate_left
      · intro w'
        go_simp
        with_reducible rfl
      rotate_left
      · simp only [Act.put, List.setIfInBounds_toArray, List.set_cons_zero, List.set_cons_succ, i64_w, i32_w]
        rfl
      exact norm_ (by simp only [putAll, Act.put, List.setIfInBounds_toArray, List.set_cons_zero, List.set_cons_succ]) (hCont (A6, n6, c6) _ hB6)
    · skip
      refine goes_ Tryz.func18 (by kernel_rfl) rfl #[.agg #[.int .i64 k, .string text, .string more, .int .i64 n, .int .u64 bits, .int .u64 high, .slice A0 xb c0, .slice K' xk dd]] (by rfl) rfl rfl (by simp only [List.map_toArray, List.map_cons, List.map_nil]; rfl) ?_
      with_reducible refine (HDV1.out _ hB5).mono ?_
      rintro e w6 ⟨A6, n6, c6, rfl, k6, hb6⟩
      refine ⟨_, rfl, ?_⟩
      have hB6 := bthen hB5 hb6
      refine hK.out _ _ ⟨((hb6.cell (World.block_lt_of_cell? _ _ hHeld.1)).trans hHeld.1), ((hb6.cell (World.block_lt_of_cell? _ _ hHeld.2.1)).trans hHeld.2.1), ((hb6.cell (World.block_lt_of_cell? _ _ hHeld.2.2.1)).trans hHeld.2.2.1), ((hb6.cell (World.block_lt_of_cell? _ _ hHeld.2.2.2.1)).trans hHeld.2.2.2.1), ((hb6.cell (World.block_lt_of_cell? _ _ hHeld.2.2.2.2.1)).trans hHeld.2.2.2.2.1), ((hb6.cell (World.block_lt_of_cell? _ _ hHeld.2.2.2.2.2.1)).trans hHeld.2.2.2.2.2.1), ((hb6.cell (World.block_lt_of_cell? _ _ hHeld.2.2.2.2.2.2.1)).trans hHeld.2.2.2.2.2.2.1), ((hb6.cell (World.block_lt_of_cell? _ _ hHeld.2.2.2.2.2.2.2.1)).trans hHeld.2.2.2.2.2.2.2.1), (HD.out _ hB6)⟩ (fun hHeld => ?_)
      clear hK K
      refine norm_ (a' := ?_) ?_ ?_
      rotate_left
      · show Act.put _ (some 31) _ = _
        simp only [Act.put, List.setIfInBounds_toArray, List.set_cons_zero, List.set_cons_succ, i64_w, i32_w]
        rfl
      refine two_ (i := 6) (j := 11) (Ni := some 27) (Nj := some 32) #[true, true, true, true, true, true, true, true, true, true, true, false, false, false, false, false] #[true, true, true, true, true, true, false, true, true, true, true, true, false, false, false, false] rfl rfl rfl rfl (two_of HT_.out (by kernel_rfl)) (by decide) (by decide) (fun K hK => ?_) (fun K hK => ?_)
      · skip
        have k5a := K5.out _ hb6
        refine value_ (w1 := ?_) (v := ?_) (by rfl) rfl ?_ ?_
        rotate_left 2
        · go_simp
          constructor
          · rfl
          · rfl
        refine hK.out _ _ ⟨hHeld.1, hHeld.2.1, hHeld.2.2.1, hHeld.2.2.2.1, hHeld.2.2.2.2.1, hHeld.2.2.2.2.2.1, hHeld.2.2.2.2.2.2.1, hHeld.2.2.2.2.2.2.2.1, hHeld.2.2.2.2.2.2.2.2⟩ (fun hHeld => ?_)
        clear hK K
        refine norm_ (a' := ?_) ?_ ?_
        rotate_left
        · show Act.put _ (some 27) _ = _
          simp only [Act.put, List.setIfInBounds_toArray, List.set_cons_zero, List.set_cons_succ, i64_w, i32_w]
          rfl
        refine one_ (i := 11) (N := some 32) #[true, true, true, true, true, true, true, true, true, true, true, true, false, false, false, false] rfl rfl (one_of HT_.out (by kernel_rfl)) (by decide) (fun K hK => ?_)
        refine value_ (w1 := ?_) (v := ?_) (by rfl) rfl ?_ ?_
        rotate_left 2
        · go_simp
          constructor
          · rfl
          · rfl
        refine hK.out _ _ ⟨hHeld.1, hHeld.2.1, hHeld.2.2.1, hHeld.2.2.2.1, hHeld.2.2.2.2.1, hHeld.2.2.2.2.2.1, hHeld.2.2.2.2.2.2.1, hHeld.2.2.2.2.2.2.2.1, hHeld.2.2.2.2.2.2.2.2⟩ (fun hHeld => ?_)
        clear hK K
        refine norm_ (a' := ?_) ?_ ?_
        rotate_left
        · show Act.put _ (some 32) _ = _
          simp only [Act.put, List.setIfInBounds_toArray, List.set_cons_zero, List.set_cons_succ, i64_w, i32_w]
          rfl
        refine pure_ (i := 12) (N := some 33) (v := ?_) (a' := ?_) #[true, true, true, true, true, true, true, true, true, true, true, true, true, false, false, false] rfl rfl (any_of HT_.out (by kernel_rfl)) (fun _ _ _ h => h) (Or.inl ⟨by rfl, ?_⟩) ?_ ?_
        rotate_left
        · intro w'
          go_simp
          with_reducible rfl
        rotate_left
        · simp only [Act.put, List.setIfInBounds_toArray, List.set_cons_zero, List.set_cons_succ, i64_w, i32_w]
          rfl
        exact norm_ (by simp only [putAll, Act.put, List.setIfInBounds_toArray, List.set_cons_zero, List.set_cons_succ]) (hCont (A6, n6, c6) _ hB6)
      · skip
        refine value_ (w1 := ?_) (v := ?_) (by rfl) rfl ?_ ?_
        rotate_left 2
        · go_simp
          constructor
          · rfl
          · rfl
        refine hK.out _ _ ⟨hHeld.1, hHeld.2.1, hHeld.2.2.1, hHeld.2.2.2.1, hHeld.2.2.2.2.1, hHeld.2.2.2.2.2.1, hHeld.2.2.2.2.2.2.1, hHeld.2.2.2.2.2.2.2.1, hHeld.2.2.2.2.2.2.2.2⟩ (fun hHeld => ?_)
        clear hK K
        refine norm_ (a' := ?_) ?_ ?_
        rotate_left
        · show Act.put _ (some 32) _ = _
          simp only [Act.put, List.setIfInBounds_toArray, List.set_cons_zero, List.set_cons_succ, i64_w, i32_w]
          rfl
        refine pure_ (i := 12) (N := some 33) (v := ?_) (a' := ?_) #[true, true, true, true, true, true, false, true, true, true, true, true, true, false, false, false] rfl rfl (any_of HT_.out (by kernel_rfl)) (fun _ _ _ h => h) (Or.inl ⟨by rfl, ?_⟩) ?_ ?_
        rotate_left
        · intro w'
          go_simp
          with_reducible rfl
        rotate_left
        · simp only [Act.put, List.setIfInBounds_toArray, List.set_cons_zero, List.set_cons_succ, i64_w, i32_w]
          rfl
        refine one_ (i := 6) (N := some 27) #[true, true, true, true, true, true, true, true, true, true, true, true, true, false, false, false] rfl rfl (one_of HT_.out (by kernel_rfl)) (by decide) (fun K hK => ?_)
        have k5a := K5.out _ hb6
        refine value_ (w1 := ?_) (v := ?_) (by rfl) rfl ?_ ?_
        rotate_left 2
        · go_simp
          constructor
          · rfl
          · rfl
        refine hK.out _ _ ⟨hHeld.1, hHeld.2.1, hHeld.2.2.1, hHeld.2.2.2.1, hHeld.2.2.2.2.1, hHeld.2.2.2.2.2.1, hHeld.2.2.2.2.2.2.1, hHeld.2.2.2.2.2.2.2.1, hHeld.2.2.2.2.2.2.2.2⟩ (fun hHeld => ?_)
        clear hK K
        refine norm_ (a' := ?_) ?_ ?_
        rotate_left
        · show Act.put _ (some 27) _ = _
          simp only [Act.put, List.setIfInBounds_toArray, List.set_cons_zero, List.set_cons_succ, i64_w, i32_w]
          rfl
        exact norm_ (by simp only [putAll, Act.put, List.setIfInBounds_toArray, List.set_cons_zero, List.set_cons_succ]) (hCont (A6, n6, c6) _ hB6)
  rintro ⟨A6, n6, c6⟩ w6 hB6
  refine norm_ (a' := ?_) ?_ ?_
  rotate_left
  · simp only [putAll, Act.put, List.setIfInBounds_toArray, List.set_cons_zero, List.set_cons_succ]
    rfl
  refine pure_ (i := 13) (N := some 34) (v := ?_) (a' := ?_) #[true, true, true, true, true, true, true, true, true, true, true, true, true, true, false, false] rfl rfl (any_of HT_.out (by kernel_rfl)) (fun _ _ _ h => h) (Or.inl ⟨by rfl, ?_⟩) ?_ ?_
  rotate_left
  · intro w'
    go_simp
    with_reducible rfl
  rotate_left
  · simp only [Act.put, List.setIfInBounds_toArray, List.set_cons_zero, List.set_cons_succ, i64_w, i32_w]
    rfl
  refine pure_ (i := 14) (N := some 35) (v := ?_) (a' := ?_) #[true, true, true, true, true, true, true, true, true, true, true, true, true, true, true, false] rfl rfl (any_of HT_.out (by kernel_rfl)) (fun _ _ _ h => h) (Or.inl ⟨by rfl, ?_⟩) ?_ ?_
  rotate_left
  · intro w'
    go_simp
    with_reducible rfl
  rotate_left
  · simp only [Act.put, List.setIfInBounds_toArray, List.set_cons_zero, List.set_cons_succ, i64_w, i32_w]
    rfl
  refine pure_ (i := 15) (N := some 4) (v := ?_) (a' := ?_) #[true, true, true, true, true, true, true, true, true, true, true, true, true, true, true, true] rfl rfl (any_of HT_.out (by kernel_rfl)) (fun _ _ _ h => h) (Or.inl ⟨by rfl, ?_⟩) ?_ ?_
  rotate_left
  · intro w'
    go_simp
    with_reducible rfl
  rotate_left
  · simp only [Act.put, List.setIfInBounds_toArray, List.set_cons_zero, List.set_cons_succ, i64_w, i32_w]
    rfl
  refine done_ (done_of HT_.out (by kernel_rfl)) ?_
  have HE := Lib.hid hB6
  clear HD HCP1 HAP1 HDV1
  go_wp2_with fail
  go_ret
  exact ⟨rfl, HE.out⟩
end Ap
end Go.Proofs.YtohfgfbfohkkkaaGreatDoor.X
