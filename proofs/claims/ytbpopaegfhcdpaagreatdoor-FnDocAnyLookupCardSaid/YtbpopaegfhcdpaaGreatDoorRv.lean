/- Contracts of bsoncore's readers of values and elements, for all bytes. -/
import Derived.Test.YtbpopaegfhcdpaaGreatDoorRdn
import Derived.Test.YtbpopaegfhcdpaaGreatDoorFresh
set_option linter.unusedVariables false
set_option linter.unusedSimpArgs false
set_option maxRecDepth 100000
namespace Go.Proofs.YtbpopaegfhcdpaaGreatDoor.X
open Go.RowKit Go.Proofs.YtbpopaegfhcdpaaGreatDoorW.PrintLast
def R119.T4 : Bool × List (List Nat × List Nat) := (true, [([], []), ([], []), ([0, 1], [0, 1]), ([], []), ([], []), ([3, 4], [3, 4]), ([2, 0, 1, 2], [2]), ([5, 6, 0, 1, 2, 3, 4, 5, 6], [5]), ([7, 0, 1, 2, 3, 4, 5, 6, 7], [])])
def R119.B4 : List Nat := [0, 0, 3, 0, 0, 24, 7, 127, 255]
theorem R119.tab4 : rtab .any (opsOf Tryz.f119 4) = R119.T4 := by kernel_rfl
theorem R119.bits4 : waitsOk R119.T4.2 R119.B4 = true := by kernel_rfl
def LB (p : Int × Bool) : Prop := -2147483648 ≤ p.1 ∧ p.1 ≤ 2147483647
theorem ite_LB {c : Prop} [Decidable c] {a b : Int × Bool} (ha : LB a) (hb : LB b) : LB (if c then a else b) := by split <;> assumption
theorem base_LB (k : Int) (l : List UInt8) : LB (valBase k l) := by
  have h : LB (readLen l) := readLen_bd l
  have w : ∀ n b, LB (wrap32 n, b) := fun n b => wrap32_bd n
  have d : ∀ n b, -2147483648 ≤ n → n ≤ 2147483647 → LB (n, b) := fun n b h1 h2 => ⟨h1, h2⟩
  unfold valBase
  exact ite_LB h (ite_LB (w _ _) (ite_LB (d _ _ (by omega) (by omega)) (ite_LB (w _ _) (ite_LB (d _ _ (by omega) (by omega)) (ite_LB (d _ _ (by omega) (by omega)) (ite_LB (d _ _ (by omega) (by omega)) (ite_LB (w _ _) (ite_LB (d _ _ (by omega) (by omega)) (ite_LB (d _ _ (by omega) (by omega)) (ite_LB (ite_LB (d _ _ (by omega) (by omega)) (ite_LB (d _ _ (by omega) (by omega)) (w _ _))) (d _ _ (by omega) (by omega))))))))))))
theorem base_len (k : Int) (l : List UInt8) : -2147483648 ≤ (valBase k l).1 ∧ (valBase k l).1 ≤ 2147483647 := base_LB k l
theorem valLen_bd (k : Int) (l : List UInt8) : -2147483648 ≤ (valLen k l).1 ∧ (valLen k l).1 ≤ 2147483647 := base_len k l
theorem valLen_nn {k : Int} {l : List UInt8} (h : (valLen k l).2 = true) : 0 ≤ (valLen k l).1 := by
  have h2 : ((valBase k l).2 && decide (0 ≤ (valBase k l).1)) = true := h
  rw [Bool.and_eq_true] at h2
  exact of_decide_eq_true h2.2
/-- Whether a value of a kind begins some bytes. -/
def valIs (k : Int) (l : List UInt8) : Bool := (valLen k l).2 && decide ((valLen k l).1 ≤ l.length)
set_option maxRecDepth 100000 in
theorem readValue_ok (A : Option Addr) (c : Nat) (l : List UInt8) (k : Int) (n : Nat) (w : World) (hs : SB w A c l) (hv : valLen k l = ((n : Int), true)) (hn : n ≤ l.length) :
    Calls Tryz.prog 119 #[.slice A l.length c, .int .u8 k] w fun e w' => ∃ A1 c1 A2 c2, e = .returned (.tuple #[.slice A1 n c1, .slice A2 (l.length - n) c2, .bool true]) ∧ (∀ wx, SB wx A c l → SB wx A1 c1 (l.take n) ∧ SB wx A2 c2 (l.drop n)) ∧ Below w.heap.size w w' := by
  have hlc := hs.le
  have hcc := hs.cap
  have hbd := valLen_bd k l
  rw [hv] at hbd
  have HC := Lib.hid (valueLength A c l k w hs)
  rw [hv] at HC
  obtain ⟨A1, e1, s1⟩ := SB.to_ (P := Tryz.prog) Tryz.underlying22 rfl rfl .i32 A c l n hn hlc
  obtain ⟨A2, e2, s2⟩ := SB.from_ (P := Tryz.prog) Tryz.underlying22 rfl rfl .i32 A c l n hn hlc
  have HS := Lib.hid (fun wx (h : SB wx A c l) => And.intro (s1 wx h) (s2 wx h))
  obtain ⟨q, hq⟩ : ∃ q, q = l.length := ⟨_, rfl⟩
  rw [← hq] at HC e1 e2 hn hlc ⊢
  have hn3 : (n : Int) ≤ q := by omega
  have hbd2 : (n : Int) ≤ 2147483647 := hbd.2
  clear hs hv s1 s2 hq hbd
  go_enter Tryz.func119, Tryz.ntmps119
  go_wp2_with fail
  refine HC.out.mono ?_
  rintro e w1 ⟨rfl, hb⟩
  have HB := Lib.hid hb
  clear hb HC
  go_wp2_with fail
  refine start_ (n := 9) (S := fun w' => True) (ds := []) #[false, false, false, false, false, false, false, false, false] (by kernel_rfl) rfl rfl trivial (fun hHeld => ?_)
  refine with_tabW R119.tab4 R119.bits4 (fun HT_ HW_ => ?_)
  refine pure_ (i := 0) (N := some 25) (v := ?_) (a' := ?_) #[true, false, false, false, false, false, false, false, false] rfl rfl (any_of HT_.out (by kernel_rfl)) (fun _ _ _ h => h) (Or.inl ⟨by rfl, ?_⟩) ?_ ?_
  rotate_left
  · intro w'
    go_simp
    with_reducible rfl
  rotate_left
  · simp only [Act.put, List.setIfInBounds_toArray, List.set_cons_zero, List.set_cons_succ, i64_w, i32_w]
    rfl
  refine pure_ (i := 1) (N := some 26) (v := ?_) (a' := ?_) #[true, true, false, false, false, false, false, false, false] rfl rfl (any_of HT_.out (by kernel_rfl)) (fun _ _ _ h => h) (Or.inl ⟨by rfl, ?_⟩) ?_ ?_
  rotate_left
  · intro w'
    go_simp
    with_reducible rfl
  rotate_left
  · simp only [Act.put, List.setIfInBounds_toArray, List.set_cons_zero, List.set_cons_succ, i64_w, i32_w]
    rfl
  refine pure_ (i := 2) (N := some 27) (v := ?_) (a' := ?_) #[true, true, true, false, false, false, false, false, false] rfl rfl (any_of HT_.out (by kernel_rfl)) (fun _ _ _ h => h) (Or.inl ⟨by rfl, ?_⟩) ?_ ?_
  rotate_left
  · intro w'
    go_simp
    with_reducible rfl
  rotate_left
  · simp only [Act.put, List.setIfInBounds_toArray, List.set_cons_zero, List.set_cons_succ, i64_w, i32_w]
    rfl
  refine pure_ (i := 3) (N := some 28) (v := ?_) (a' := ?_) #[true, true, true, true, false, false, false, false, false] rfl rfl (any_of HT_.out (by kernel_rfl)) (fun _ _ _ h => h) (Or.inl ⟨by rfl, ?_⟩) ?_ ?_
  rotate_left
  · intro w'
    go_simp
    with_reducible rfl
  rotate_left
  · simp only [Act.put, List.setIfInBounds_toArray, List.set_cons_zero, List.set_cons_succ, i64_w, i32_w]
    rfl
  refine pure_ (i := 4) (N := some 29) (v := ?_) (a' := ?_) #[true, true, true, true, true, false, false, false, false] rfl rfl (any_of HT_.out (by kernel_rfl)) (fun _ _ _ h => h) (Or.inl ⟨by rfl, ?_⟩) ?_ ?_
  rotate_left
  · intro w'
    go_simp
    with_reducible rfl
  rotate_left
  · simp only [Act.put, List.setIfInBounds_toArray, List.set_cons_zero, List.set_cons_succ, i64_w, i32_w]
    rfl
  refine pure_ (i := 5) (N := some 30) (v := ?_) (a' := ?_) #[true, true, true, true, true, true, false, false, false] rfl rfl (any_of HT_.out (by kernel_rfl)) (fun _ _ _ h => h) (Or.inl ⟨by rfl, ?_⟩) ?_ ?_
  rotate_left
  · intro w'
    go_simp
    with_reducible rfl
  rotate_left
  · simp only [Act.put, List.setIfInBounds_toArray, List.set_cons_zero, List.set_cons_succ, i64_w, i32_w]
    rfl
  refine pure_ (i := 6) (N := some 4) (v := ?_) (a' := ?_) #[true, true, true, true, true, true, true, false, false] rfl rfl (any_of HT_.out (by kernel_rfl)) (fun _ _ _ h => h) (Or.inl ⟨by rfl, ?_⟩) ?_ ?_
  rotate_left
  · intro w'
    go_simp
    with_reducible rfl
  rotate_left
  · simp only [Act.put, List.setIfInBounds_toArray, List.set_cons_zero, List.set_cons_succ, i64_w, i32_w]
    rfl
  refine pure_ (i := 7) (N := some 5) (v := ?_) (a' := ?_) #[true, true, true, true, true, true, true, true, false] rfl rfl (any_of HT_.out (by kernel_rfl)) (fun _ _ _ h => h) (Or.inl ⟨by rfl, ?_⟩) ?_ ?_
  rotate_left
  · intro w'
    go_simp
    with_reducible rfl
  rotate_left
  · simp only [Act.put, List.setIfInBounds_toArray, List.set_cons_zero, List.set_cons_succ, i64_w, i32_w]
    rfl
  refine pure_ (i := 8) (N := some 6) (v := ?_) (a' := ?_) #[true, true, true, true, true, true, true, true, true] rfl rfl (any_of HT_.out (by kernel_rfl)) (fun _ _ _ h => h) (Or.inl ⟨by rfl, ?_⟩) ?_ ?_
  rotate_left
  · intro w'
    go_simp
    with_reducible rfl
  rotate_left
  · simp only [Act.put, List.setIfInBounds_toArray, List.set_cons_zero, List.set_cons_succ, i64_w, i32_w]
    rfl
  refine done_ (done_of HT_.out (by kernel_rfl)) ?_
  go_wp2_with fail
  exact bodyPost_ret (v := .tuple #[.slice A1 n c, .slice A2 (q - n) (c - n), .bool true]) (by simp [results, Tryz.results119, go_sem]) rfl ⟨A1, c, A2, c - n, rfl, HS.out, bdrew HB.out⟩
set_option maxRecDepth 100000 in
theorem readValue_no (A : Option Addr) (c : Nat) (l : List UInt8) (k : Int) (w : World) (hs : SB w A c l) (hv : valIs k l = false) :
    Calls Tryz.prog 119 #[.slice A l.length c, .int .u8 k] w fun e w' => e = .returned (.tuple #[.slice none 0 0, .slice A l.length c, .bool false]) ∧ Below w.heap.size w w' := by
  have HC := Lib.hid (valueLength A c l k w hs)
  have hlc := hs.le
  have hcc := hs.cap
  have hbd := valLen_bd k l
  unfold valIs at hv
  obtain ⟨n, hn⟩ : ∃ n, n = (valLen k l).1 := ⟨_, rfl⟩
  obtain ⟨b, hb⟩ : ∃ b, b = (valLen k l).2 := ⟨_, rfl⟩
  rw [← hn, ← hb] at HC hv
  rw [← hn] at hbd
  clear hn hb hs
  cases b with
  | false =>
    clear hv
    go_enter Tryz.func119, Tryz.ntmps119
    go_wp2_with fail
    refine HC.out.mono ?_
    rintro e w1 ⟨rfl, hb⟩
    go_wp2_with fail
    exact bodyPost_ret (v := .tuple #[.slice none 0 0, .slice A l.length c, .bool false]) (by simp [results, Tryz.results119, go_sem]) rfl ⟨rfl, hb⟩
  | true =>
    have hgt : (l.length : Int) < n := by simpa using hv
    clear hv
    go_enter Tryz.func119, Tryz.ntmps119
    go_wp2_with fail
    refine HC.out.mono ?_
    rintro e w1 ⟨rfl, hb⟩
    go_wp2_with fail
    exact bodyPost_ret (v := .tuple #[.slice none 0 0, .slice A l.length c, .bool false]) (by simp [results, Tryz.results119, go_sem]) rfl ⟨rfl, hb⟩
set_option maxRecDepth 100000 in
theorem readValueV_ok (A : Option Addr) (c : Nat) (l : List UInt8) (k : Int) (n : Nat) (w : World) (hs : SB w A c l) (hv : valLen k l = ((n : Int), true)) (hn : n ≤ l.length) :
    Calls Tryz.prog 64 #[.slice A l.length c, .int .u8 k] w fun e w' => ∃ A1 c1 A2 c2, e = .returned (.tuple #[.agg #[.int .u8 k, .slice A1 n c1], .slice A2 (l.length - n) c2, .bool true]) ∧ (∀ wx, SB wx A c l → SB wx A1 c1 (l.take n) ∧ SB wx A2 c2 (l.drop n)) ∧ Below w.heap.size w w' := by
  have HC := Lib.hid (fun wx (h : Below w.heap.size w wx) => readValue_ok A c l k n wx (hs.keep h) hv hn)
  clear hs hv hn
  go_enter Tryz.func64, Tryz.ntmps64
  go_wp2_with fail
  refine (HC.out _ (balloc (Below.refl _ _) (Nat.le_refl _) _)).mono ?_
  rintro e w1 ⟨A1, c1, A2, c2, rfl, hss, hb⟩
  have hb1 : Below (w.heap.size + 1) (w.alloc (.cells #[.int .u8 0, .slice none 0 0] 73)) w1 := by simpa using hb
  have q0 := boxc hb1 0
  have q1 := boxc hb1 1
  simp only [List.getElem?_cons_succ, List.getElem?_cons_zero] at q0 q1
  have f0 := boxf hb1 0
  have f1 := boxf hb1 1
  have hz1 := boxs hb1
  have hlt : w.heap.size < w1.heap.size := by omega
  have HB := Lib.hid (boxb hb1)
  have HSS := Lib.hid hss
  clear hb hb1 hss HC
  go_wp2_with fail
  exact bodyPost_ret (v := .tuple #[.agg #[.int .u8 k, .slice A1 n c1], .slice A2 (l.length - n) c2, .bool true]) (by simp [results, Tryz.results64, go_sem, q0, q1]) rfl ⟨A1, c1, A2, c2, rfl, HSS.out, (HB.out.setCell (Nat.le_refl _) _).setCell (Nat.le_refl _) _⟩
set_option maxRecDepth 100000 in
theorem readValueV_no (A : Option Addr) (c : Nat) (l : List UInt8) (k : Int) (w : World) (hs : SB w A c l) (hv : valIs k l = false) :
    Calls Tryz.prog 64 #[.slice A l.length c, .int .u8 k] w fun e w' => e = .returned (.tuple #[.agg #[.int .u8 0, .slice none 0 0], .slice A l.length c, .bool false]) ∧ Below w.heap.size w w' := by
  have HC := Lib.hid (fun wx (h : Below w.heap.size w wx) => readValue_no A c l k wx (hs.keep h) hv)
  clear hs hv
  go_enter Tryz.func64, Tryz.ntmps64
  go_wp2_with fail
  refine (HC.out _ (balloc (Below.refl _ _) (Nat.le_refl _) _)).mono ?_
  rintro e w1 ⟨rfl, hb⟩
  have hb1 : Below (w.heap.size + 1) (w.alloc (.cells #[.int .u8 0, .slice none 0 0] 73)) w1 := by simpa using hb
  have q0 := boxc hb1 0
  have q1 := boxc hb1 1
  simp only [List.getElem?_cons_succ, List.getElem?_cons_zero] at q0 q1
  have f0 := boxf hb1 0
  have f1 := boxf hb1 1
  have hz1 := boxs hb1
  have hlt : w.heap.size < w1.heap.size := by omega
  have HB := Lib.hid (boxb hb1)
  clear hb hb1 HC
  go_wp2_with fail
  exact bodyPost_ret (v := .tuple #[.agg #[.int .u8 0, .slice none 0 0], .slice A l.length c, .bool false]) (by simp [results, Tryz.results64, go_sem, q0, q1]) rfl ⟨rfl, (HB.out.setCell (Nat.le_refl _) _).setCell (Nat.le_refl _) _⟩
end Go.Proofs.YtbpopaegfhcdpaaGreatDoor.X
