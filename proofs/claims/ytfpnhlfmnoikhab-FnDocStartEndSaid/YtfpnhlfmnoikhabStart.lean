/- Contracts of bsoncore's beginnings and ends of documents and arrays. -/
import Derived.Test.YtfpnhlfmnoikhabOver
import Derived.Test.YtfpnhlfmnoikhabNum
set_option linter.unusedVariables false
set_option linter.unusedSimpArgs false
namespace Go.Proofs.Ytfpnhlfmnoikhab.X
open Go.RowKit Go.Proofs.YtfpnhlfmnoikhabW.PrintLast
def R11.T2 : Bool × List (List Nat × List Nat) := (true, [([], []), ([], []), ([1], [1]), ([0, 0], [0]), ([2, 3, 0, 1, 2, 3], [2])])
def R11.B2 : List Nat := [0, 0, 2, 1, 15]
theorem R11.tab2 : rtab .any (opsOf Try.f11 2) = R11.T2 := by kernel_rfl
theorem R11.bits2 : waitsOk R11.T2.2 R11.B2 = true := by kernel_rfl
def R12.T2 : Bool × List (List Nat × List Nat) := (true, [([], []), ([], []), ([1], [1]), ([0, 0], [0]), ([2, 3, 0, 1, 2, 3], [2])])
def R12.B2 : List Nat := [0, 0, 2, 1, 15]
theorem R12.tab2 : rtab .any (opsOf Try.f12 2) = R12.T2 := by kernel_rfl
theorem R12.bits2 : waitsOk R12.T2.2 R12.B2 = true := by kernel_rfl
theorem reserve (W : World) (base : Nat) (v : Value) (l : List UInt8) (HO : OB 5 W base v l) (hbase : base ≤ W.heap.size) (hl : l.length ≤ 2147483000) :
    Calls Try.prog 34 #[v] W fun e w1 => ∃ v1, e = .returned (.tuple #[.int .i32 (l.length : Int), v1]) ∧ App (E := 5) W base v (l ++ [0, 0, 0, 0]) v1 w1 := by
  obtain ⟨A, c, rfl, hs, -⟩ := HO.sb
  have hlc := hs.le
  have hcc := hs.cap
  clear hs
  go_enter Try.func34, Try.ntmps34
  go_wp2_with (first | (refine wp_app (.tmp 9) (.tmp 10) 25 rfl rfl infoB Try.underlying25 _ base _ l _ _ [0, 0, 0, 0] rfl rfl ?a1 ?a2 ?a3 ?a4 ?_) | fail)
  case a1 => exact HO.alloc _
  case a2 => exact SB.lit_ _ [0, 0, 0, 0] _ (by simp [byv]) (by simp) _ rfl
  case a3 => simp; omega
  case a4 => simp; omega
  intro v1 w1 hap
  go_wp2_with fail
  exact bodyPost_ret (v := .tuple #[.int .i32 (l.length : Int), v1]) (by simp [results, Try.results34, go_sem]) rfl ⟨v1, rfl, hap.pre (balloc (Below.refl _ _) (Nat.le_refl _) _)⟩
theorem docStart (W : World) (base : Nat) (v : Value) (l : List UInt8) (HO : OB 5 W base v l) (hbase : base ≤ W.heap.size) (hl : l.length ≤ 2147483000) :
    Calls Try.prog 22 #[v] W fun e w1 => ∃ v1, e = .returned (.tuple #[.int .i32 (l.length : Int), v1]) ∧ App (E := 5) W base v (l ++ [0, 0, 0, 0]) v1 w1 := by
  go_enter Try.func22, Try.ntmps22
  go_wp2_with fail
  refine (reserve W base v l HO hbase hl).mono ?_
  rintro e w1 ⟨v1, rfl, hap⟩
  go_wp2_with fail
  exact bodyPost_ret (v := .tuple #[.int .i32 (l.length : Int), v1]) (by simp [results, Try.results22, go_sem]) rfl ⟨v1, rfl, hap⟩
theorem arrStart (W : World) (base : Nat) (v : Value) (l : List UInt8) (HO : OB 5 W base v l) (hbase : base ≤ W.heap.size) (hl : l.length ≤ 2147483000) :
    Calls Try.prog 24 #[v] W fun e w1 => ∃ v1, e = .returned (.tuple #[.int .i32 (l.length : Int), v1]) ∧ App (E := 5) W base v (l ++ [0, 0, 0, 0]) v1 w1 := by
  go_enter Try.func24, Try.ntmps24
  go_wp2_with fail
  refine (reserve W base v l HO hbase hl).mono ?_
  rintro e w1 ⟨v1, rfl, hap⟩
  go_wp2_with fail
  exact bodyPost_ret (v := .tuple #[.int .i32 (l.length : Int), v1]) (by simp [results, Try.results24, go_sem]) rfl ⟨v1, rfl, hap⟩
theorem implDocStart (A : Option Addr) (c : Nat) (l : List UInt8) (w : World) (hs : SB w A c l) (hl : l.length ≤ 2147483000) :
    Calls Try.prog 8 #[.slice A l.length c] w fun e w' => ∃ A1 c1, e = .returned (.tuple #[.int .i64 (l.length : Int), .slice A1 (l ++ [0, 0, 0, 0]).length c1]) ∧ SB w' A1 c1 (l ++ [0, 0, 0, 0]) ∧ OB 5 w' w.heap.size (.slice A1 (l ++ [0, 0, 0, 0]).length c1) (l ++ [0, 0, 0, 0]) ∧ Below w.heap.size w w' := by
  go_enter Try.func8, Try.ntmps8
  go_wp2_with fail
  refine (implOwn A c l w hs (by omega)).mono ?_
  rintro e w1 ⟨v1, rfl, ho, hb⟩
  have hz := hb.size
  go_wp2_with fail
  refine (docStart w1 w.heap.size v1 l ho hz hl).mono ?_
  rintro e w2 ⟨v2, rfl, hap⟩
  have hend := hb.trans (hap.kept ho hz)
  obtain ⟨A2, c2, hv2, hs2, -⟩ := hap.own.sb
  have ho2 := hap.own
  rw [hv2] at ho2 ⊢
  obtain ⟨q, hq⟩ : ∃ q, q = (l ++ [0, 0, 0, 0]).length := ⟨_, rfl⟩
  rw [← hq] at ho2 ⊢
  have HQ := Lib.hid hq
  clear hq hap hb hz ho hv2
  go_wp2_with fail
  exact bodyPost_ret (v := .tuple #[.int .i64 (l.length : Int), .slice A2 q c2]) (by simp [results, Try.results8, go_sem]) rfl ⟨A2, c2, by rw [HQ.out], hs2, by rw [HQ.out] at ho2; exact ho2, hend⟩
theorem implArrStart (A : Option Addr) (c : Nat) (l : List UInt8) (w : World) (hs : SB w A c l) (hl : l.length ≤ 2147483000) :
    Calls Try.prog 10 #[.slice A l.length c] w fun e w' => ∃ A1 c1, e = .returned (.tuple #[.int .i64 (l.length : Int), .slice A1 (l ++ [0, 0, 0, 0]).length c1]) ∧ SB w' A1 c1 (l ++ [0, 0, 0, 0]) ∧ OB 5 w' w.heap.size (.slice A1 (l ++ [0, 0, 0, 0]).length c1) (l ++ [0, 0, 0, 0]) ∧ Below w.heap.size w w' := by
  go_enter Try.func10, Try.ntmps10
  go_wp2_with fail
  refine (implOwn A c l w hs (by omega)).mono ?_
  rintro e w1 ⟨v1, rfl, ho, hb⟩
  have hz := hb.size
  go_wp2_with fail
  refine (arrStart w1 w.heap.size v1 l ho hz hl).mono ?_
  rintro e w2 ⟨v2, rfl, hap⟩
  have hend := hb.trans (hap.kept ho hz)
  obtain ⟨A2, c2, hv2, hs2, -⟩ := hap.own.sb
  have ho2 := hap.own
  rw [hv2] at ho2 ⊢
  obtain ⟨q, hq⟩ : ∃ q, q = (l ++ [0, 0, 0, 0]).length := ⟨_, rfl⟩
  rw [← hq] at ho2 ⊢
  have HQ := Lib.hid hq
  clear hq hap hb hz ho hv2
  go_wp2_with fail
  exact bodyPost_ret (v := .tuple #[.int .i64 (l.length : Int), .slice A2 q c2]) (by simp [results, Try.results10, go_sem]) rfl ⟨A2, c2, by rw [HQ.out], hs2, by rw [HQ.out] at ho2; exact ho2, hend⟩
theorem docEnd (W : World) (base : Nat) (v : Value) (pre old body : List UInt8) (HO : OB 5 W base v (pre ++ (old ++ body))) (h4 : old.length = 4) (hbase : base ≤ W.heap.size) (hl : pre.length + body.length ≤ 2147483000) :
    Calls Try.prog 25 #[v, .int .i32 (pre.length : Int)] W fun e w1 => ∃ v1, e = .returned (.tuple #[v1, .nilIface]) ∧ App (E := 5) W base v (pre ++ (i32 ((body.length : Int) + 5) ++ (body ++ [0]))) v1 w1 := by
  obtain ⟨A, c, rfl, hs, -⟩ := HO.sb
  have hlc := hs.le
  have hcc := hs.cap
  obtain ⟨L, hL⟩ : ∃ L, L = pre ++ (old ++ body) := ⟨_, rfl⟩
  have hLl : L.length = pre.length + 4 + body.length := by rw [hL]; simp [h4]; omega
  rw [← hL] at HO hlc ⊢
  have HL := Lib.hid hL
  have H4 := Lib.hid h4
  have HB := Lib.hid hbase
  have hLL := Lib.hid hLl
  have g1 : ¬ (pre.length : Int) > (L.length : Int) - 4 := by omega
  obtain ⟨q, hq⟩ : ∃ q, q = L.length := ⟨_, rfl⟩
  obtain ⟨m, hm⟩ : ∃ m, m = pre.length := ⟨_, rfl⟩
  rw [← hq, ← hm] at g1 hLL
  rw [← hq] at hlc HO
  rw [← hq, ← hm]
  have hq1 : q ≤ 2147483004 := by omega
  have hm1 : m + 4 ≤ q := by omega
  have HQ := Lib.hid hq
  have HM := Lib.hid hm
  clear hs hL h4 hbase hLl hl hq hm
  go_enter Try.func25, Try.ntmps25
  go_wp2_with (first | (refine wp_app (.tmp 14) (.tmp 15) 25 rfl rfl infoB Try.underlying25 _ base _ L _ _ [0] rfl rfl ?a1 ?a2 ?a3 ?a4 ?_) | fail)
  case a1 => exact HO.alloc _
  case a2 => exact SB.lit_ _ [0] _ (by simp [byv]) (by simp) _ rfl
  case a3 => have := HB.out; simp; omega
  case a4 => have := HQ.out; simp; omega
  intro v1 w1 hap
  have hap2 := hap.pre (balloc (Below.refl _ _) (Nat.le_refl _) _)
  have hz := hap2.size
  obtain ⟨g, c1, hv1, hlc1, hcm1, hbg, -, -⟩ := hap.own.form (by simp)
  have hq2 : (L ++ [0]).length = q + 1 := by rw [HQ.out]; simp
  rw [hq2] at hv1 hlc1
  have ho1 := hap.own
  rw [hv1] at ho1 ⊢
  have hA2 := hap2
  rw [hv1] at hA2
  have HA2 := Lib.hid hA2
  have hsl := slice_at (P := Try.prog) Try.underlying25 rfl rfl .i32 g (q + 1) c1 m (by omega) (by omega) (by omega)
  have e1 : L ++ [0] = pre ++ (old ++ (body ++ [0])) := by rw [HL.out]; simp [List.append_assoc]
  have hup : ∀ wx, wx = w1 → Calls Try.prog 36 #[.slice (some ⟨g, 0, none⟩) (q + 1) c1, .int .i32 (m : Int), .int .i32 ((q + 1 - m : Nat) : Int)] wx fun e w2 => ∃ v2, e = .returned v2 ∧ App (E := 5) W base (.slice A q c) (pre ++ (i32 ((body.length : Int) + 5) ++ (body ++ [0]))) v2 w2 := by
    rintro wx rfl
    have ho3 := ho1
    rw [e1] at ho3
    have hk := HQ.out
    have hk2 := hLL.out
    rw [HM.out]
    refine (updLen wx base _ pre old (body ++ [0]) (q + 1 - pre.length) ho3 H4.out (by omega) (by have := HM.out; omega) (by have := HB.out; omega)).mono ?_
    rintro e w2 ⟨v2, rfl, rfl, hx⟩
    refine ⟨_, rfl, ?_⟩
    have e5 : ((q + 1 - pre.length : Nat) : Int) = (body.length : Int) + 5 := by have := HM.out; omega
    rw [e5] at hx
    exact HA2.out.trans hx
  have HU := Lib.hid (hup w1 rfl)
  have hw0 : ((q + 1 - m : Nat) : Int) ≤ 2147483647 := by omega
  clear hap hap2 hz ho1 hA2 hup hq2 e1 hv1 HL H4 HB hLL HQ HM HO HA2
  go_wp2_with fail
  refine HU.out.mono ?_
  rintro e w2 ⟨v2, rfl, hx⟩
  have HX := Lib.hid hx
  clear hx HU hsl
  go_wp2_with fail
  exact bodyPost_ret (v := .tuple #[v2, .nilIface]) (by simp [results, Try.results25, go_sem]) rfl ⟨v2, rfl, HX.out⟩
theorem arrEnd (W : World) (base : Nat) (v : Value) (pre old body : List UInt8) (HO : OB 5 W base v (pre ++ (old ++ body))) (h4 : old.length = 4) (hbase : base ≤ W.heap.size) (hl : pre.length + body.length ≤ 2147483000) :
    Calls Try.prog 26 #[v, .int .i32 (pre.length : Int)] W fun e w1 => ∃ v1, e = .returned (.tuple #[v1, .nilIface]) ∧ App (E := 5) W base v (pre ++ (i32 ((body.length : Int) + 5) ++ (body ++ [0]))) v1 w1 := by
  go_enter Try.func26, Try.ntmps26
  go_wp2_with fail
  refine (docEnd W base v pre old body HO h4 hbase hl).mono ?_
  rintro e w1 ⟨v1, rfl, hap⟩
  go_wp2_with fail
  exact bodyPost_ret (v := .tuple #[v1, .nilIface]) (by simp [results, Try.results26, go_sem]) rfl ⟨v1, rfl, hap⟩
theorem implDocEnd (A : Option Addr) (c : Nat) (pre old body : List UInt8) (w : World) (hs : SB w A c (pre ++ (old ++ body))) (h4 : old.length = 4) (hl : pre.length + body.length ≤ 2147483000) :
    Calls Try.prog 11 #[.slice A (pre ++ (old ++ body)).length c, .int .i64 (pre.length : Int)] w fun e w' => ∃ A1 c1, e = .returned (.tuple #[.slice A1 (pre ++ (i32 ((body.length : Int) + 5) ++ (body ++ [0]))).length c1, .bool true]) ∧ SB w' A1 c1 (pre ++ (i32 ((body.length : Int) + 5) ++ (body ++ [0]))) ∧ OB 5 w' w.heap.size (.slice A1 (pre ++ (i32 ((body.length : Int) + 5) ++ (body ++ [0]))).length c1) (pre ++ (i32 ((body.length : Int) + 5) ++ (body ++ [0]))) ∧ Below w.heap.size w w' := by
  have hpl : (pre.length : Int) ≤ 2147483000 := by omega
  have HH := Lib.hid (fun w1 v1 ho hz => docEnd w1 w.heap.size v1 pre old body ho h4 hz hl)
  have HC := Lib.hid (implOwn A c _ w hs (by simp [h4]; omega))
  obtain ⟨q, hq⟩ : ∃ q, q = (pre ++ (old ++ body)).length := ⟨_, rfl⟩
  rw [← hq] at HC ⊢
  clear hq hs
  go_enter Try.func11, Try.ntmps11
  go_wp2_with fail
  refine HC.out.mono ?_
  rintro e w1 ⟨v1, rfl, ho, hb⟩
  have hz := hb.size
  go_wp2_with fail
  refine (HH.out w1 v1 ho hz).mono ?_
  rintro e w2 ⟨v2, rfl, hap⟩
  have hend := Lib.hid (hb.trans (hap.kept ho hz))
  obtain ⟨A2, c2, hv2, hs2, -⟩ := hap.own.sb
  rw [hv2]
  have HS2 := Lib.hid hs2
  have ho2 := hap.own
  rw [hv2] at ho2
  have HO2 := Lib.hid ho2
  obtain ⟨q2, hq2⟩ : ∃ q, q = (pre ++ (i32 ((body.length : Int) + 5) ++ (body ++ [0]))).length := ⟨_, rfl⟩
  rw [← hq2]
  have HQ := Lib.hid hq2
  clear hq2 hap hb hz ho hv2 hs2 HH HC ho2
  go_wp2_with fail
  refine start_ (n := 5) (S := fun w' => True) (ds := []) #[false, false, false, false, false] (by kernel_rfl) rfl rfl trivial (fun hHeld => ?_)
  refine with_tabW R11.tab2 R11.bits2 (fun HT_ HW_ => ?_)
  refine pure_ (i := 0) (N := some 16) (v := ?_) (a' := ?_) #[true, false, false, false, false] rfl rfl (any_of HT_.out (by kernel_rfl)) (fun _ _ _ h => h) (Or.inl ⟨by rfl, ?_⟩) ?_ ?_
  rotate_left
  · intro w'
    go_simp
    with_reducible rfl
  rotate_left
  · simp only [Act.put, List.setIfInBounds_toArray, List.set_cons_zero, List.set_cons_succ, i64_w, i32_w]
    rfl
  refine pure_ (i := 1) (N := some 17) (v := ?_) (a' := ?_) #[true, true, false, false, false] rfl rfl (any_of HT_.out (by kernel_rfl)) (fun _ _ _ h => h) (Or.inl ⟨by rfl, ?_⟩) ?_ ?_
  rotate_left
  · intro w'
    go_simp
    with_reducible rfl
  rotate_left
  · simp only [Act.put, List.setIfInBounds_toArray, List.set_cons_zero, List.set_cons_succ, i64_w, i32_w]
    rfl
  refine pure_ (i := 2) (N := some 18) (v := ?_) (a' := ?_) #[true, true, true, false, false] rfl rfl (any_of HT_.out (by kernel_rfl)) (fun _ _ _ h => h) (Or.inl ⟨by rfl, ?_⟩) ?_ ?_
  rotate_left
  · intro w'
    go_simp
    with_reducible rfl
  rotate_left
  · simp only [Act.put, List.setIfInBounds_toArray, List.set_cons_zero, List.set_cons_succ, i64_w, i32_w]
    rfl
  refine pure_ (i := 3) (N := some 4) (v := ?_) (a' := ?_) #[true, true, true, true, false] rfl rfl (any_of HT_.out (by kernel_rfl)) (fun _ _ _ h => h) (Or.inl ⟨by rfl, ?_⟩) ?_ ?_
  rotate_left
  · intro w'
    go_simp
    with_reducible rfl
  rotate_left
  · simp only [Act.put, List.setIfInBounds_toArray, List.set_cons_zero, List.set_cons_succ, i64_w, i32_w]
    rfl
  refine pure_ (i := 4) (N := some 5) (v := ?_) (a' := ?_) #[true, true, true, true, true] rfl rfl (any_of HT_.out (by kernel_rfl)) (fun _ _ _ h => h) (Or.inl ⟨by rfl, ?_⟩) ?_ ?_
  rotate_left
  · intro w'
    go_simp
    with_reducible rfl
  rotate_left
  · simp only [Act.put, List.setIfInBounds_toArray, List.set_cons_zero, List.set_cons_succ, i64_w, i32_w]
    rfl
  refine done_ (done_of HT_.out (by kernel_rfl)) ?_
  go_wp2_with fail
  exact bodyPost_ret (v := .tuple #[.slice A2 q2 c2, .bool true]) (by simp [results, Try.results11, go_sem]) rfl ⟨A2, c2, by rw [HQ.out], HS2.out.drew, HO2.out.drewN 1, bdrew hend.out⟩
theorem implArrEnd (A : Option Addr) (c : Nat) (pre old body : List UInt8) (w : World) (hs : SB w A c (pre ++ (old ++ body))) (h4 : old.length = 4) (hl : pre.length + body.length ≤ 2147483000) :
    Calls Try.prog 12 #[.slice A (pre ++ (old ++ body)).length c, .int .i64 (pre.length : Int)] w fun e w' => ∃ A1 c1, e = .returned (.tuple #[.slice A1 (pre ++ (i32 ((body.length : Int) + 5) ++ (body ++ [0]))).length c1, .bool true]) ∧ SB w' A1 c1 (pre ++ (i32 ((body.length : Int) + 5) ++ (body ++ [0]))) ∧ OB 5 w' w.heap.size (.slice A1 (pre ++ (i32 ((body.length : Int) + 5) ++ (body ++ [0]))).length c1) (pre ++ (i32 ((body.length : Int) + 5) ++ (body ++ [0]))) ∧ Below w.heap.size w w' := by
  have hpl : (pre.length : Int) ≤ 2147483000 := by omega
  have HH := Lib.hid (fun w1 v1 ho hz => arrEnd w1 w.heap.size v1 pre old body ho h4 hz hl)
  have HC := Lib.hid (implOwn A c _ w hs (by simp [h4]; omega))
  obtain ⟨q, hq⟩ : ∃ q, q = (pre ++ (old ++ body)).length := ⟨_, rfl⟩
  rw [← hq] at HC ⊢
  clear hq hs
  go_enter Try.func12, Try.ntmps12
  go_wp2_with fail
  refine HC.out.mono ?_
  rintro e w1 ⟨v1, rfl, ho, hb⟩
  have hz := hb.size
  go_wp2_with fail
  refine (HH.out w1 v1 ho hz).mono ?_
  rintro e w2 ⟨v2, rfl, hap⟩
  have hend := Lib.hid (hb.trans (hap.kept ho hz))
  obtain ⟨A2, c2, hv2, hs2, -⟩ := hap.own.sb
  rw [hv2]
  have HS2 := Lib.hid hs2
  have ho2 := hap.own
  rw [hv2] at ho2
  have HO2 := Lib.hid ho2
  obtain ⟨q2, hq2⟩ : ∃ q, q = (pre ++ (i32 ((body.length : Int) + 5) ++ (body ++ [0]))).length := ⟨_, rfl⟩
  rw [← hq2]
  have HQ := Lib.hid hq2
  clear hq2 hap hb hz ho hv2 hs2 HH HC ho2
  go_wp2_with fail
  refine start_ (n := 5) (S := fun w' => True) (ds := []) #[false, false, false, false, false] (by kernel_rfl) rfl rfl trivial (fun hHeld => ?_)
  refine with_tabW R12.tab2 R12.bits2 (fun HT_ HW_ => ?_)
  refine pure_ (i := 0) (N := some 16) (v := ?_) (a' := ?_) #[true, false, false, false, false] rfl rfl (any_of HT_.out (by kernel_rfl)) (fun _ _ _ h => h) (Or.inl ⟨by rfl, ?_⟩) ?_ ?_
  rotate_left
  · intro w'
    go_simp
    with_reducible rfl
  rotate_left
  · simp only [Act.put, List.setIfInBounds_toArray, List.set_cons_zero, List.set_cons_succ, i64_w, i32_w]
    rfl
  refine pure_ (i := 1) (N := some 17) (v := ?_) (a' := ?_) #[true, true, false, false, false] rfl rfl (any_of HT_.out (by kernel_rfl)) (fun _ _ _ h => h) (Or.inl ⟨by rfl, ?_⟩) ?_ ?_
  rotate_left
  · intro w'
    go_simp
    with_reducible rfl
  rotate_left
  · simp only [Act.put, List.setIfInBounds_toArray, List.set_cons_zero, List.set_cons_succ, i64_w, i32_w]
    rfl
  refine pure_ (i := 2) (N := some 18) (v := ?_) (a' := ?_) #[true, true, true, false, false] rfl rfl (any_of HT_.out (by kernel_rfl)) (fun _ _ _ h => h) (Or.inl ⟨by rfl, ?_⟩) ?_ ?_
  rotate_left
  · intro w'
    go_simp
    with_reducible rfl
  rotate_left
  · simp only [Act.put, List.setIfInBounds_toArray, List.set_cons_zero, List.set_cons_succ, i64_w, i32_w]
    rfl
  refine pure_ (i := 3) (N := some 4) (v := ?_) (a' := ?_) #[true, true, true, true, false] rfl rfl (any_of HT_.out (by kernel_rfl)) (fun _ _ _ h => h) (Or.inl ⟨by rfl, ?_⟩) ?_ ?_
  rotate_left
  · intro w'
    go_simp
    with_reducible rfl
  rotate_left
  · simp only [Act.put, List.setIfInBounds_toArray, List.set_cons_zero, List.set_cons_succ, i64_w, i32_w]
    rfl
  refine pure_ (i := 4) (N := some 5) (v := ?_) (a' := ?_) #[true, true, true, true, true] rfl rfl (any_of HT_.out (by kernel_rfl)) (fun _ _ _ h => h) (Or.inl ⟨by rfl, ?_⟩) ?_ ?_
  rotate_left
  · intro w'
    go_simp
    with_reducible rfl
  rotate_left
  · simp only [Act.put, List.setIfInBounds_toArray, List.set_cons_zero, List.set_cons_succ, i64_w, i32_w]
    rfl
  refine done_ (done_of HT_.out (by kernel_rfl)) ?_
  go_wp2_with fail
  exact bodyPost_ret (v := .tuple #[.slice A2 q2 c2, .bool true]) (by simp [results, Try.results12, go_sem]) rfl ⟨A2, c2, by rw [HQ.out], HS2.out.drew, HO2.out.drewN 1, bdrew hend.out⟩
end Go.Proofs.Ytfpnhlfmnoikhab.X
