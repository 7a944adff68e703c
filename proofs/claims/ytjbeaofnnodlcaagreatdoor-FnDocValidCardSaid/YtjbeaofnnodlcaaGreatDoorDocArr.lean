/- laws.docArray: the array of some values: each under its number, in order. -/
import Derived.Test.YtjbeaofnnodlcaaGreatDoorOpenV
import Derived.Test.YtjbeaofnnodlcaaGreatDoorOwnN
import Derived.Test.YtjbeaofnnodlcaaGreatDoorFresh
import Derived.Test.YtjbeaofnnodlcaaGreatDoorWLast
import Derived.Test.YtjbeaofnnodlcaaGreatDoorWTab
set_option linter.unusedVariables false
set_option linter.unusedSimpArgs false
set_option maxRecDepth 100000
namespace Go.Proofs.YtjbeaofnnodlcaaGreatDoor.X
open Go.RowKit Go.Proofs.YtjbeaofnnodlcaaGreatDoorW.PrintLast
def R11.T5 : Bool × List (List Nat × List Nat) := (true, [([], []), ([0], [0]), ([], []), ([2], [2]), ([], []), ([], []), ([4, 5], [4, 5]), ([6], [6]), ([3, 7], [3, 7]), ([8], [8]), ([1, 9, 3], [1, 9]), ([0, 1, 2, 3, 4, 5, 6, 7, 8, 9, 10], []), ([11, 10, 10, 0, 1, 2, 3, 4, 5, 6, 7, 8, 9, 10], [10, 11])])
def R11.B5 : List Nat := [0, 1, 0, 4, 0, 0, 48, 112, 252, 508, 1023, 2047, 4095]
theorem R11.tab5 : rtab .any (opsOf Tryz.f11 5) = R11.T5 := by kernel_rfl
theorem R11.bits5 : waitsOk R11.T5.2 R11.B5 = true := by kernel_rfl
/-- The elements of an array: each value under its number. -/
def arrKF : Nat → List Val → List (ByteArray × Val)
  | _, [] => []
  | i, v :: r => (⟨(digits i).toArray⟩, v) :: arrKF (i + 1) r
def arrK (vs : List Val) : List (ByteArray × Val) := arrKF 0 vs
theorem arrKF_len : ∀ (vs : List Val) (i : Nat), (arrKF i vs).length = vs.length
  | [], _ => rfl
  | v :: r, i => by simp [arrKF, arrKF_len r (i + 1)]
theorem arrKF_snoc : ∀ (vs : List Val) (v : Val) (i : Nat), arrKF i (vs ++ [v]) = arrKF i vs ++ [(⟨(digits (i + vs.length)).toArray⟩, v)]
  | [], v, i => by simp [arrKF]
  | x :: r, v, i => by
    simp only [List.cons_append, arrKF, arrKF_snoc r v (i + 1), List.length_cons]
    rw [show i + 1 + r.length = i + (r.length + 1) from by omega]
theorem digits_size (n : Nat) (h : n ≤ 4611686018427387904) : (digits n).length ≤ 20 := digits_len n 19 (by omega)
theorem arrKF_ok : ∀ (vs : List Val) (i : Nat), (∀ v ∈ vs, okv v) → i + vs.length ≤ 4611686018427387904 → okK (arrKF i vs)
  | [], i, h, hl => by simp only [arrKF, okK]
  | v :: r, i, h, hl => by
    simp only [arrKF, okK]
    have := digits_size i (by simp at hl; omega)
    refine ⟨?_, h v List.mem_cons_self, arrKF_ok r (i + 1) (fun x hx => h x (List.mem_cons_of_mem _ hx)) (by simp at hl; omega)⟩
    show (digits i).toArray.size ≤ _
    simp; omega
/-- The cells of elements in a row. -/
def KsC (w : World) : List (ByteArray × Val) → List Value → Prop
  | [], xs => xs = []
  | (nm, v) :: r, xs => ∃ cs ys, xs = .string nm :: (cs ++ ys) ∧ RV w v cs ∧ KsC w r ys
theorem KsC.snoc {w : World} {nm : ByteArray} {v : Val} {cs : List Value} (h : RV w v cs) : ∀ {P : List (ByteArray × Val)} {xs : List Value}, KsC w P xs → KsC w (P ++ [(nm, v)]) (xs ++ .string nm :: cs)
  | [], xs, hp => by
    simp only [KsC] at hp
    subst hp
    simp only [List.nil_append, KsC]
    exact ⟨cs, [], by simp, h, rfl⟩
  | (n1, v1) :: r, xs, hp => by
    simp only [KsC] at hp
    obtain ⟨c1, y1, rfl, h1, h2⟩ := hp
    simp only [List.cons_append, KsC]
    exact ⟨c1, y1 ++ .string nm :: cs, by simp, h1, KsC.snoc h h2⟩
theorem KsC.keep {w w1 : World} (hb : Below w.heap.size w w1) : ∀ {P : List (ByteArray × Val)} {xs : List Value}, KsC w P xs → KsC w1 P xs
  | [], xs, hp => hp
  | (n1, v1) :: r, xs, hp => by
    simp only [KsC] at hp ⊢
    obtain ⟨c1, y1, rfl, h1, h2⟩ := hp
    exact ⟨c1, y1, rfl, RV.keep hb h1, KsC.keep hb h2⟩
theorem KsC.far {w w1 : World} (hR : ∀ v cs, RV w v cs → RV w1 v cs) : ∀ {P : List (ByteArray × Val)} {xs : List Value}, KsC w P xs → KsC w1 P xs
  | [], xs, hp => hp
  | (n1, v1) :: r, xs, hp => by
    simp only [KsC] at hp ⊢
    obtain ⟨c1, y1, rfl, h1, h2⟩ := hp
    exact ⟨c1, y1, rfl, hR _ _ h1, KsC.far hR h2⟩
theorem KsC.rows {w : World} (g : Nat) : ∀ {P : List (ByteArray × Val)} {xs : List Value} (off : Nat), KsC w P xs → (∀ j u, xs[j]? = some u → w.cell? ⟨g, off + j, none⟩ = some u) → RKs w g off P
  | [], xs, off, hp, h => by simp only [RKs]
  | (n1, v1) :: r, xs, off, hp, h => by
    simp only [KsC] at hp
    obtain ⟨c1, y1, rfl, h1, h2⟩ := hp
    have hl := h1.len
    simp only [RKs]
    refine ⟨⟨c1, h1, by have := h 0 _ (by simp; rfl); simpa using this, fun j hj => ?_⟩, KsC.rows g (off + 9) h2 fun j u hu => ?_⟩
    · have := h (j + 1) c1[j] (by rw [List.getElem?_cons_succ, List.getElem?_append_left hj, List.getElem?_eq_getElem hj])
      rw [show off + 1 + j = off + (j + 1) from by omega]
      exact this
    · have := h (9 + j) u (by
        rw [show 9 + j = (8 + j) + 1 from by omega, List.getElem?_cons_succ, List.getElem?_append_right (by omega), hl, Nat.add_sub_cancel_left]
        exact hu)
      rw [show off + 9 + j = off + (9 + j) from by omega]
      exact this
theorem set_grownN (w : World) (b o : Nat) (x : Value) : w.grownBy (w.setCell ⟨b, o, none⟩ x) (some b) := by
  have h := (Below.refl w.heap.size w)
  exact ⟨h.os, h.tape, h.output, by simp [World.setCell], fun i hi hne => heap_setCell_other w ⟨b, o, none⟩ i x (fun e => hne (by rw [e]))⟩
theorem ON.far {w : World} {base : Nat} {v : Value} {n sz : Nat} {xs : List Value} {E : TypeId} (h : ON E sz w base v n xs) {b o : Nat} (hb : b < base) (x : Value) : ON E sz (w.setCell ⟨b, o, none⟩ x) base v n xs := by
  refine h.other (set_grownN w b o x) ?_
  cases e : v.ownBlock with
  | none => exact .inl rfl
  | some k =>
    have := (h.lt k e).1
    exact .inr (fun e2 => by have := Option.some.inj e2; omega)
theorem set8 (w : World) (B t : Nat) (c0 c1 c2 c3 c4 c5 c6 c7 x0 x1 x2 x3 x4 x5 x6 x7 : Value) (h : w.heap[B]? = some (.cells #[c0, c1, c2, c3, c4, c5, c6, c7] t (0, 0))) :
    ((((((((w.setCell ⟨B, 0, none⟩ x0).setCell ⟨B, 1, none⟩ x1).setCell ⟨B, 2, none⟩ x2).setCell ⟨B, 3, none⟩ x3).setCell ⟨B, 4, none⟩ x4).setCell ⟨B, 5, none⟩ x5).setCell ⟨B, 6, none⟩ x6).setCell ⟨B, 7, none⟩ x7).heap[B]? = some (.cells #[x0, x1, x2, x3, x4, x5, x6, x7] t (0, 0)) := by
  have h0 := heap_setCell_same w B 0 _ _ x0 h
  have h1 := heap_setCell_same _ B 1 _ _ x1 h0
  have h2 := heap_setCell_same _ B 2 _ _ x2 h1
  have h3 := heap_setCell_same _ B 3 _ _ x3 h2
  have h4 := heap_setCell_same _ B 4 _ _ x4 h3
  have h5 := heap_setCell_same _ B 5 _ _ x5 h4
  have h6 := heap_setCell_same _ B 6 _ _ x6 h5
  have h7 := heap_setCell_same _ B 7 _ _ x7 h6
  simpa using h7
theorem rv_one {w : World} {v : Val} {cs : List Value} (h : RV w v cs) : ∀ u ∈ cs, u.oneCell' = true := by
  cases v
  simp only [RV] at h
  obtain ⟨A, c, K', d, rfl, _⟩ := h
  simp [Value.oneCell']
theorem measA {q n : Nat} (h : q < n) : n - (intOf (.int .i64 ((q : Int) + 1))).toNat < n - (intOf (.int .i64 (q : Int))).toNat := by simp [intOf]; omega
theorem w64q {q n : Nat} (h : q < n) (hl : n ≤ 2147483647) : wrap64 ((q : Int) + 1) = (q : Int) + 1 := by unfold wrap64; omega
/-- What is known in the loop: q values have been put behind one another. -/
structure DA (w wr : World) (vs : List Val) (u : Value) (q : Nat) : Prop where
  b0 : wr.heap[w.heap.size]? = some (.cells #[.int .i64 0, .string ⟨#[]⟩, .string ⟨#[]⟩, .int .i64 0, .int .u64 0, .int .u64 0, .slice none 0 0, .slice none 0 0] 32 (0, 0))
  b1 : wr.heap[w.heap.size + 1]? = some (.cells #[.int .i64 4, .string ⟨#[]⟩, .string ⟨#[]⟩, .int .i64 0, .int .u64 0, .int .u64 0, .slice none 0 0, u] 32 (0, 0))
  own : ∃ xs, ON 39 9 wr (w.heap.size + 2) u q xs ∧ KsC w (arrK (vs.take q)) xs
  below : Below w.heap.size w wr
theorem infoE : (Tryz.prog.info? 39).map (fun i => (i.zero, i.size, i.bytes)) = some (some (.agg #[.string ⟨#[]⟩, .int .i64 0, .string ⟨#[]⟩, .string ⟨#[]⟩, .int .i64 0, .int .u64 0, .int .u64 0, .slice none 0 0, .slice none 0 0]), 9, 128) := by kernel_rfl
set_option maxHeartbeats 1600000 in
theorem docArray (vs : List Val) (K0 : Option Addr) (d : Nat) (w : World) (hk : ValsAt w K0 d vs) (hl : vs.length ≤ 2147483647) :
    Calls Tryz.prog 11 #[.slice K0 vs.length d] w fun e w' => ∃ cs, e = .returned (.agg cs.toArray) ∧ RV w' (.mk 4 ⟨#[]⟩ ⟨#[]⟩ 0 0 0 [] (arrK vs)) cs ∧ Below w.heap.size w w' := by
  have HK := Lib.hid hk
  obtain ⟨n, hn⟩ : ∃ n, n = vs.length := ⟨_, rfl⟩
  have HN := Lib.hid hn
  rw [← hn] at hl ⊢
  have HL := Lib.hid hl
  clear hk hn hl
  go_enter Tryz.func11, Tryz.ntmps11
  go_wp2_with fail
  go_loopw [4] (fun i wr => ∃ (q : Nat) (u : Value), q ≤ n ∧ i = .int .i64 q ∧ Hid (DA w wr vs u q)) (fun i _ => n - (intOf i).toNat)
  case atStart => 
    refine ⟨0, .slice none 0 0, Nat.zero_le _, rfl, Lib.hid ⟨?_, ?_, ⟨[], ON.nil _ _, by simp [arrK, arrKF, KsC]⟩, balloc (balloc (Below.refl _ _) (Nat.le_refl _) _) (by simp) _⟩⟩
    · exact (heap_alloc_old _ _ (by simp)).trans (heap_alloc_new _ _)
    · have := heap_alloc_new (w.alloc (.cells #[.int .i64 0, .string ⟨#[]⟩, .string ⟨#[]⟩, .int .i64 0, .int .u64 0, .int .u64 0, .slice none 0 0, .slice none 0 0] 32)) (.cells #[.int .i64 4, .string ⟨#[]⟩, .string ⟨#[]⟩, .int .i64 0, .int .u64 0, .int .u64 0, .slice none 0 0, .slice none 0 0] 32)
      simpa using this
  case round =>
    obtain ⟨q, u, hq, rfl, HI⟩ := hrel
    by_cases hlt : q < n
    · obtain ⟨xs, ho, hks⟩ := HI.out.own
      obtain ⟨Av, cv, rfl⟩ := ho.form
      obtain ⟨g1, g2, g3, g4, g5⟩ := HK.out
      obtain ⟨blk, off, rfl, hrv⟩ : ∃ blk off, K0 = some ⟨blk, off, none⟩ ∧ RVs w blk off vs := by
        rcases g3 with h | h
        · rw [HN.out, h] at hlt; exact absurd hlt (Nat.not_lt_zero _)
        · exact h
      obtain ⟨c0, c1, c2, c3, c4, c5, c6, c7, hv, e0, e1, e2, e3, e4, e5, e6, e7⟩ := hrv.cells_ q (by rw [← HN.out]; exact hlt)
      have hB := HI.out.below
      replace e0 := (hB.cell (World.block_lt_of_cell? _ _ e0)).trans e0
      replace e1 := (hB.cell (World.block_lt_of_cell? _ _ e1)).trans e1
      replace e2 := (hB.cell (World.block_lt_of_cell? _ _ e2)).trans e2
      replace e3 := (hB.cell (World.block_lt_of_cell? _ _ e3)).trans e3
      replace e4 := (hB.cell (World.block_lt_of_cell? _ _ e4)).trans e4
      replace e5 := (hB.cell (World.block_lt_of_cell? _ _ e5)).trans e5
      replace e6 := (hB.cell (World.block_lt_of_cell? _ _ e6)).trans e6
      replace e7 := (hB.cell (World.block_lt_of_cell? _ _ e7)).trans e7
      have H1C : Hid (∀ (z : ByteArray), ∀ u ∈ [.string z, c0, c1, c2, c3, c4, c5, c6, c7], u.oneCell' = true) := Lib.hid fun z u hu => by
        rcases List.mem_cons.1 hu with rfl | hu
        · rfl
        · exact rv_one hv u hu
      have HSN : Hid (KsC w (arrK (vs.take (q + 1))) (xs ++ (.string ⟨(digits ((q : Int)).toNat).toArray⟩ :: [c0, c1, c2, c3, c4, c5, c6, c7]))) := Lib.hid (by
        rw [List.take_succ_eq_append_getElem (by rw [← HN.out]; exact hlt)]
        unfold arrK
        rw [arrKF_snoc, List.length_take, Nat.min_eq_left (by rw [← HN.out]; exact hq), Nat.zero_add, Int.toNat_natCast]
        exact KsC.snoc hv hks)
      obtain ⟨z0, hz0⟩ : ∃ s : ByteArray, s = ⟨(digits ((q : Int)).toNat).toArray⟩ := ⟨_, rfl⟩
      have HDG : Hid (∀ wx : World, Calls Tryz.prog 27 #[.int .i64 q] wx fun e w' => e = .returned (.string z0) ∧ Below wx.heap.size wx w') := Lib.hid fun wx => by
        rw [hz0]
        exact docDigits (q + 1) q wx (by omega) (by omega) (by have := HL.out; omega)
      rw [← hz0] at HSN
      clear hz0
      have HO := Lib.hid ho
      have hq0 : (0 : Int) ≤ (q : Int) := Int.natCast_nonneg _
      have hq1 : (q : Int) < (n : Int) := by omega
      have q7 : wr.cell? ⟨w.heap.size + 1, 7, none⟩ = some (.slice Av q cv) := by simp only [World.cell?, HI.out.b1]; rfl
      have hlt1 : Hid (w.heap.size + 2 ≤ wr.heap.size) := Lib.hid (by have := (Array.getElem?_eq_some_iff.1 HI.out.b1).1; omega)
      clear hv ho hks g1 g2 g3 g4 g5 hrv hB
      go_wp2_with fail
      refine start_ (n := 13) (S := fun w' => w'.cell? ⟨w.heap.size + 1, 7, none⟩ = some (.slice Av q cv) ∧ w'.cell? ⟨blk, off + q * 8, none⟩ = some c0 ∧ w'.cell? ⟨blk, off + q * 8 + 1, none⟩ = some c1 ∧ w'.cell? ⟨blk, off + q * 8 + 2, none⟩ = some c2 ∧ w'.cell? ⟨blk, off + q * 8 + 3, none⟩ = some c3 ∧ w'.cell? ⟨blk, off + q * 8 + 4, none⟩ = some c4 ∧ w'.cell? ⟨blk, off + q * 8 + 5, none⟩ = some c5 ∧ w'.cell? ⟨blk, off + q * 8 + 6, none⟩ = some c6 ∧ w'.cell? ⟨blk, off + q * 8 + 7, none⟩ = some c7) (ds := [10, 12]) #[false, false, false, false, false, false, false, false, false, false, false, false, false] (by kernel_rfl) rfl rfl ⟨(by exact q7), (by exact e0), (by exact e1), (by exact e2), (by exact e3), (by exact e4), (by exact e5), (by exact e6), (by exact e7)⟩ (fun hHeld => ?_)
      refine with_tabW R11.tab5 R11.bits5 (fun HT_ HW_ => ?_)
      refine pure_ (i := 0) (N := some 12) (v := ?_) (a' := ?_) #[true, false, false, false, false, false, false, false, false, false, false, false, false] rfl rfl (any_of HT_.out (by kernel_rfl)) (fun _ _ _ h => h) (Or.inl ⟨by rfl, ?_⟩) ?_ ?_
      rotate_left
      · intro w'
        go_simp
        with_reducible rfl
      rotate_left
      · simp only [Act.put, List.setIfInBounds_toArray, List.set_cons_zero, List.set_cons_succ, i64_w, i32_w]
        rfl
      refine pure_ (i := 2) (N := some 14) (v := ?_) (a' := ?_) #[true, false, true, false, false, false, false, false, false, false, false, false, false] rfl rfl (any_of HT_.out (by kernel_rfl)) (fun _ _ _ h => h) (Or.inl ⟨by rfl, ?_⟩) ?_ ?_
      rotate_left
      · intro w'
        go_simp
        with_reducible rfl
      rotate_left
      · simp only [Act.put, List.setIfInBounds_toArray, List.set_cons_zero, List.set_cons_succ, i64_w, i32_w]
        rfl
      refine pure_ (i := 4) (N := some 16) (v := ?_) (a' := ?_) #[true, false, true, false, true, false, false, false, false, false, false, false, false] rfl rfl (any_of HT_.out (by kernel_rfl)) (fun _ _ _ h => h) (Or.inl ⟨by rfl, ?_⟩) ?_ ?_
      rotate_left
      · intro w'
        go_simp
        with_reducible rfl
      rotate_left
      · simp only [Act.put, List.setIfInBounds_toArray, List.set_cons_zero, List.set_cons_succ, i64_w, i32_w]
        rfl
      refine pure_ (i := 5) (N := some 17) (v := ?_) (a' := ?_) #[true, false, true, false, true, true, false, false, false, false, false, false, false] rfl rfl (any_of HT_.out (by kernel_rfl)) (fun _ _ _ h => h) (Or.inl ⟨by rfl, ?_⟩) ?_ ?_
      rotate_left
      · intro w'
        go_simp
        with_reducible rfl
      rotate_left
      · simp only [Act.put, List.setIfInBounds_toArray, List.set_cons_zero, List.set_cons_succ, i64_w, i32_w]
        rfl
      refine pure_ (i := 6) (N := some 18) (v := ?_) (a' := ?_) #[true, false, true, false, true, true, true, false, false, false, false, false, false] rfl rfl (any_of HT_.out (by kernel_rfl)) (fun _ _ _ h => h) (Or.inl ⟨by rfl, ?_⟩) ?_ ?_
      rotate_left
      · intro w'
        go_simp
        with_reducible rfl
      rotate_left
      · simp only [Act.put, List.setIfInBounds_toArray, List.set_cons_zero, List.set_cons_succ, i64_w, i32_w]
        rfl
      refine take_ (i := 1) (N := some 13) (v := ?_) (a' := ?_) #[true, true, true, false, true, true, true, false, false, false, false, false, false] rfl rfl (take_ofW HT_.out HW_.out (by kernel_rfl)) (fun _ _ _ h => h) (Or.inl ⟨by rfl, ?_⟩) hHeld ?_ ?_
      rotate_left
      · rintro w' ⟨s0, s1, s2, s3, s4, s5, s6, s7, s8⟩
        go_simp
        with_reducible rfl
      rotate_left
      · simp only [Act.put, List.setIfInBounds_toArray, List.set_cons_zero, List.set_cons_succ, i64_w, i32_w]
        rfl
      refine take_ (i := 7) (N := some 19) (v := ?_) (a' := ?_) #[true, true, true, false, true, true, true, true, false, false, false, false, false] rfl rfl (take_ofW HT_.out HW_.out (by kernel_rfl)) (fun _ _ _ h => h) (Or.inl ⟨by rfl, ?_⟩) hHeld ?_ ?_
      rotate_left
      · rintro w' ⟨s0, s1, s2, s3, s4, s5, s6, s7, s8⟩
        go_simp
        with_reducible rfl
      rotate_left
      · simp only [Act.put, List.setIfInBounds_toArray, List.set_cons_zero, List.set_cons_succ, i64_w, i32_w]
        rfl
      refine one_ (i := 3) (N := some 15) #[true, true, true, true, true, true, true, true, false, false, false, false, false] rfl rfl (one_of HT_.out (by kernel_rfl)) (by decide) (fun K hK => ?_)
      refine goes_ Tryz.func27 (by kernel_rfl) rfl #[.int .i64 q] (by rfl) rfl rfl (by simp only [List.map_toArray, List.map_cons, List.map_nil]; rfl) ?_
      with_reducible refine (HDG.out _).mono ?_
      rintro e w3 ⟨rfl, hb3⟩
      refine ⟨_, rfl, ?_⟩
      refine hK.out _ _ ⟨((hb3.cell (World.block_lt_of_cell? _ _ hHeld.1)).trans hHeld.1), ((hb3.cell (World.block_lt_of_cell? _ _ hHeld.2.1)).trans hHeld.2.1), ((hb3.cell (World.block_lt_of_cell? _ _ hHeld.2.2.1)).trans hHeld.2.2.1), ((hb3.cell (World.block_lt_of_cell? _ _ hHeld.2.2.2.1)).trans hHeld.2.2.2.1), ((hb3.cell (World.block_lt_of_cell? _ _ hHeld.2.2.2.2.1)).trans hHeld.2.2.2.2.1), ((hb3.cell (World.block_lt_of_cell? _ _ hHeld.2.2.2.2.2.1)).trans hHeld.2.2.2.2.2.1), ((hb3.cell (World.block_lt_of_cell? _ _ hHeld.2.2.2.2.2.2.1)).trans hHeld.2.2.2.2.2.2.1), ((hb3.cell (World.block_lt_of_cell? _ _ hHeld.2.2.2.2.2.2.2.1)).trans hHeld.2.2.2.2.2.2.2.1), ((hb3.cell (World.block_lt_of_cell? _ _ hHeld.2.2.2.2.2.2.2.2)).trans hHeld.2.2.2.2.2.2.2.2)⟩ (fun hHeld => ?_)
      clear hK K
      refine norm_ (a' := ?_) ?_ ?_
      rotate_left
      · show Act.put _ (some 15) _ = _
        simp only [Act.put, List.setIfInBounds_toArray, List.set_cons_zero, List.set_cons_succ, i64_w, i32_w]
        rfl
      refine pure_ (i := 8) (N := some 20) (v := ?_) (a' := ?_) #[true, true, true, true, true, true, true, true, true, false, false, false, false] rfl rfl (any_of HT_.out (by kernel_rfl)) (fun _ _ _ h => h) (Or.inl ⟨by rfl, ?_⟩) ?_ ?_
      rotate_left
      · intro w'
        go_simp
        with_reducible rfl
      rotate_left
      · simp only [Act.put, List.setIfInBounds_toArray, List.set_cons_zero, List.set_cons_succ, i64_w, i32_w]
        rfl
      refine one_ (i := 9) (N := some 21) #[true, true, true, true, true, true, true, true, true, true, false, false, false] rfl rfl (one_of HT_.out (by kernel_rfl)) (by decide) (fun K hK => ?_)
      refine value_ (w1 := ?_) (v := ?_) (by rfl) rfl ?_ ?_
      rotate_left 2
      · go_simp
        constructor
        · rfl
        · rfl
      refine hK.out _ _ ⟨(((balloc (Below.refl _ _) (Nat.le_refl _) _).cell (World.block_lt_of_cell? _ _ hHeld.1)).trans hHeld.1), (((balloc (Below.refl _ _) (Nat.le_refl _) _).cell (World.block_lt_of_cell? _ _ hHeld.2.1)).trans hHeld.2.1), (((balloc (Below.refl _ _) (Nat.le_refl _) _).cell (World.block_lt_of_cell? _ _ hHeld.2.2.1)).trans hHeld.2.2.1), (((balloc (Below.refl _ _) (Nat.le_refl _) _).cell (World.block_lt_of_cell? _ _ hHeld.2.2.2.1)).trans hHeld.2.2.2.1), (((balloc (Below.refl _ _) (Nat.le_refl _) _).cell (World.block_lt_of_cell? _ _ hHeld.2.2.2.2.1)).trans hHeld.2.2.2.2.1), (((balloc (Below.refl _ _) (Nat.le_refl _) _).cell (World.block_lt_of_cell? _ _ hHeld.2.2.2.2.2.1)).trans hHeld.2.2.2.2.2.1), (((balloc (Below.refl _ _) (Nat.le_refl _) _).cell (World.block_lt_of_cell? _ _ hHeld.2.2.2.2.2.2.1)).trans hHeld.2.2.2.2.2.2.1), (((balloc (Below.refl _ _) (Nat.le_refl _) _).cell (World.block_lt_of_cell? _ _ hHeld.2.2.2.2.2.2.2.1)).trans hHeld.2.2.2.2.2.2.2.1), (((balloc (Below.refl _ _) (Nat.le_refl _) _).cell (World.block_lt_of_cell? _ _ hHeld.2.2.2.2.2.2.2.2)).trans hHeld.2.2.2.2.2.2.2.2)⟩ (fun hHeld => ?_)
      clear hK K
      refine norm_ (a' := ?_) ?_ ?_
      rotate_left
      · show Act.put _ (some 21) _ = _
        simp only [Act.put, List.setIfInBounds_toArray, List.set_cons_zero, List.set_cons_succ, i64_w, i32_w]
        rfl
      refine last_ (i := 10) (N := some 22) #[true, true, true, true, true, true, true, true, true, true, true, false, false] rfl rfl (one_of HT_.out (by kernel_rfl)) (by decide) (fun K hK => ?_)
      refine appN_step (E := 39) (sz := 9) (.tmp 13) (.tmp 21) 28 (by rfl) rfl rfl (.agg #[.string ⟨#[]⟩, .int .i64 0, .string ⟨#[]⟩, .string ⟨#[]⟩, .int .i64 0, .int .u64 0, .int .u64 0, .slice none 0 0, .slice none 0 0]) 128 infoE rfl (by decide) Tryz.underlying28 _ (w.heap.size + 2) (.slice Av q cv) q xs w3.heap.size 1 [.string z0, c0, c1, c2, c3, c4, c5, c6, c7] rfl rfl (((HO.out.keep (bdrew (Below.refl _ _))).keep hb3).alloc _) rfl (fun j u h => (boxc (w := w3) (cs := [.string z0, c0, c1, c2, c3, c4, c5, c6, c7]) (t := 39) (Below.refl _ _) j).trans h) (by have h1 := hb3.size; have h2 := hlt1.out; simp at h1 ⊢; omega) (H1C.out z0) (by have := HL.out; omega) (by have := HL.out; omega) ?_
      intro v5 w5 h5
      have hk5 : Below (w.heap.size + 2) wr w5 := ((bleft hb3).mono hlt1.out).trans ((balloc (Below.refl _ _) (by have h1 := hb3.size; have h2 := hlt1.out; simp at h1; omega) _).trans (h5.kept (((HO.out.keep (bdrew (Below.refl _ _))).keep hb3).alloc _) (by have h1 := hb3.size; have h2 := hlt1.out; simp at h1 ⊢; omega)))
      have hx5 : w5.heap[w.heap.size + 1]? = _ := (hk5.block _ (by omega)).trans HI.out.b1
      have p7 : w5.cell? ⟨w.heap.size + 1, 7, none⟩ = some (.slice Av q cv) := by simp only [World.cell?, hx5]; rfl
      have z7 : w5.frozen? ⟨w.heap.size + 1, 7, none⟩ = false := by simp only [World.frozen?, hx5]; rfl
      have hlt5 : w.heap.size + 1 < w5.heap.size := by have h1 := hk5.size; have h2 := hlt1.out; omega
      have HK5 := Lib.hid hk5
      have HX5 := Lib.hid hx5
      have HO5 := Lib.hid h5.own
      obtain ⟨Aw, cw, rfl⟩ := h5.own.form
      clear h5 hk5 hx5
      refine hK.out _ _ ?_
      clear hK K
      refine norm_ (a' := ?_) ?_ ?_
      rotate_left
      · show Act.put _ (some 22) _ = _
        simp only [Act.put, List.setIfInBounds_toArray, List.set_cons_zero, List.set_cons_succ, i64_w, i32_w]
        rfl
      refine pure_ (i := 11) (N := some 23) (v := ?_) (a' := ?_) #[true, true, true, true, true, true, true, true, true, true, true, true, false] rfl rfl (any_of HT_.out (by kernel_rfl)) (fun _ _ _ h => h) (Or.inl ⟨by rfl, ?_⟩) ?_ ?_
      rotate_left
      · intro w'
        go_simp
        with_reducible rfl
      rotate_left
      · simp only [Act.put, List.setIfInBounds_toArray, List.set_cons_zero, List.set_cons_succ, i64_w, i32_w]
        rfl
      refine last_ (i := 12) (N := none) #[true, true, true, true, true, true, true, true, true, true, true, true, true] rfl rfl (one_of HT_.out (by kernel_rfl)) (by decide) (fun K hK => ?_)
      refine skip_ (w1 := ?_) (by rfl) rfl ?_ ?_
      rotate_left
      · go_simp
        rfl
      refine hK.out _ _ ?_
      clear hK K
      refine done_ (done_of HT_.out (by kernel_rfl)) ?_
      clear hHeld
      have hw64 : wrap64 ((q : Int) + 1) = (q : Int) + 1 := w64q hlt HL.out
      go_wp2_with fail
      go_roundw
      case rel =>
        have hk5 := HK5.out
        have hs5 := hk5.size
        have hl1 := hlt1.out
        refine ⟨q + 1, .slice Aw (q + 1) cw, by omega, by go_num, Lib.hid ⟨?_, ?_, ⟨_, ON.far HO5.out (Nat.lt_succ_self _) _, HSN.out⟩, ?_⟩⟩
        · rw [heap_setCell_other _ _ _ _ (by simp)]
          exact (hk5.block _ (by omega)).trans HI.out.b0
        · simpa using heap_setCell_same w5 (w.heap.size + 1) 7 _ _ (.slice Aw (q + 1) cw) HX5.out
        · exact (HI.out.below.trans (hk5.mono (by omega))).setCell (by simp) _
      case measure => first | exact measA hlt | (rw [hw64]; exact measA hlt)
    · have hqn : q = n := by omega
      subst hqn
      obtain ⟨xs, ho, hks⟩ := HI.out.own
      obtain ⟨Av, cv, rfl⟩ := ho.form
      have HO := Lib.hid ho
      have HX := Lib.hid hks
      clear ho hks
      have hb0 := HI.out.b0
      have hb1 := HI.out.b1
      have hltz : w.heap.size + 1 < wr.heap.size := (Array.getElem?_eq_some_iff.1 hb1).1
      have p0 : wr.cell? ⟨w.heap.size + 1, 0, none⟩ = some (.int .i64 4) := by simp only [World.cell?, hb1]; rfl
      have p1 : wr.cell? ⟨w.heap.size + 1, 1, none⟩ = some (.string ⟨#[]⟩) := by simp only [World.cell?, hb1]; rfl
      have p2 : wr.cell? ⟨w.heap.size + 1, 2, none⟩ = some (.string ⟨#[]⟩) := by simp only [World.cell?, hb1]; rfl
      have p3 : wr.cell? ⟨w.heap.size + 1, 3, none⟩ = some (.int .i64 0) := by simp only [World.cell?, hb1]; rfl
      have p4 : wr.cell? ⟨w.heap.size + 1, 4, none⟩ = some (.int .u64 0) := by simp only [World.cell?, hb1]; rfl
      have p5 : wr.cell? ⟨w.heap.size + 1, 5, none⟩ = some (.int .u64 0) := by simp only [World.cell?, hb1]; rfl
      have p6 : wr.cell? ⟨w.heap.size + 1, 6, none⟩ = some (.slice none 0 0) := by simp only [World.cell?, hb1]; rfl
      have p7 : wr.cell? ⟨w.heap.size + 1, 7, none⟩ = some (.slice Av q cv) := by simp only [World.cell?, hb1]; rfl
      have y0 : wr.cell? ⟨w.heap.size, 0, none⟩ = some (.int .i64 0) := by simp only [World.cell?, hb0]; rfl
      have y1 : wr.cell? ⟨w.heap.size, 1, none⟩ = some (.string ⟨#[]⟩) := by simp only [World.cell?, hb0]; rfl
      have y2 : wr.cell? ⟨w.heap.size, 2, none⟩ = some (.string ⟨#[]⟩) := by simp only [World.cell?, hb0]; rfl
      have y3 : wr.cell? ⟨w.heap.size, 3, none⟩ = some (.int .i64 0) := by simp only [World.cell?, hb0]; rfl
      have y4 : wr.cell? ⟨w.heap.size, 4, none⟩ = some (.int .u64 0) := by simp only [World.cell?, hb0]; rfl
      have y5 : wr.cell? ⟨w.heap.size, 5, none⟩ = some (.int .u64 0) := by simp only [World.cell?, hb0]; rfl
      have y6 : wr.cell? ⟨w.heap.size, 6, none⟩ = some (.slice none 0 0) := by simp only [World.cell?, hb0]; rfl
      have y7 : wr.cell? ⟨w.heap.size, 7, none⟩ = some (.slice none 0 0) := by simp only [World.cell?, hb0]; rfl
      have z0 : wr.frozen? ⟨w.heap.size, 0, none⟩ = false := by simp only [World.frozen?, hb0]; rfl
      have z1 : wr.frozen? ⟨w.heap.size, 1, none⟩ = false := by simp only [World.frozen?, hb0]; rfl
      have z2 : wr.frozen? ⟨w.heap.size, 2, none⟩ = false := by simp only [World.frozen?, hb0]; rfl
      have z3 : wr.frozen? ⟨w.heap.size, 3, none⟩ = false := by simp only [World.frozen?, hb0]; rfl
      have z4 : wr.frozen? ⟨w.heap.size, 4, none⟩ = false := by simp only [World.frozen?, hb0]; rfl
      have z5 : wr.frozen? ⟨w.heap.size, 5, none⟩ = false := by simp only [World.frozen?, hb0]; rfl
      have z6 : wr.frozen? ⟨w.heap.size, 6, none⟩ = false := by simp only [World.frozen?, hb0]; rfl
      have z7 : wr.frozen? ⟨w.heap.size, 7, none⟩ = false := by simp only [World.frozen?, hb0]; rfl
      have hlty : w.heap.size < wr.heap.size := by omega
      clear hb0 hb1
      go_wp2_with fail
      have hL : (arrK vs).length = q := by rw [HN.out]; exact arrKF_len vs 0
      have hbig : Below w.heap.size w ((((((((wr.setCell ⟨w.heap.size, 0, none⟩ (.int .i64 4)).setCell ⟨w.heap.size, 1, none⟩ (.string ⟨#[]⟩)).setCell ⟨w.heap.size, 2, none⟩ (.string ⟨#[]⟩)).setCell ⟨w.heap.size, 3, none⟩ (.int .i64 0)).setCell ⟨w.heap.size, 4, none⟩ (.int .u64 0)).setCell ⟨w.heap.size, 5, none⟩ (.int .u64 0)).setCell ⟨w.heap.size, 6, none⟩ (.slice none 0 0)).setCell ⟨w.heap.size, 7, none⟩ (.slice Av q cv)) := (((((((HI.out.below.setCell (Nat.le_refl _) _).setCell (Nat.le_refl _) _).setCell (Nat.le_refl _) _).setCell (Nat.le_refl _) _).setCell (Nat.le_refl _) _).setCell (Nat.le_refl _) _).setCell (Nat.le_refl _) _).setCell (Nat.le_refl _) _
      have hlt2 : w.heap.size < w.heap.size + 2 := by omega
      have hon := ((((((((HO.out.far hlt2 (.int .i64 4) (o := 0)).far hlt2 (.string ⟨#[]⟩) (o := 1)).far hlt2 (.string ⟨#[]⟩) (o := 2)).far hlt2 (.int .i64 0) (o := 3)).far hlt2 (.int .u64 0) (o := 4)).far hlt2 (.int .u64 0) (o := 5)).far hlt2 (.slice none 0 0) (o := 6)).far hlt2 (.slice Av q cv) (o := 7))
      generalize hw9 : ((((((((wr.setCell ⟨w.heap.size, 0, none⟩ (.int .i64 4)).setCell ⟨w.heap.size, 1, none⟩ (.string ⟨#[]⟩)).setCell ⟨w.heap.size, 2, none⟩ (.string ⟨#[]⟩)).setCell ⟨w.heap.size, 3, none⟩ (.int .i64 0)).setCell ⟨w.heap.size, 4, none⟩ (.int .u64 0)).setCell ⟨w.heap.size, 5, none⟩ (.int .u64 0)).setCell ⟨w.heap.size, 6, none⟩ (.slice none 0 0)).setCell ⟨w.heap.size, 7, none⟩ (.slice Av q cv)) = w9 at hbig hon ⊢
      have hx9 : w9.heap[w.heap.size]? = some (.cells #[.int .i64 4, .string ⟨#[]⟩, .string ⟨#[]⟩, .int .i64 0, .int .u64 0, .int .u64 0, .slice none 0 0, .slice Av q cv] 32 (0, 0)) := by
        rw [← hw9]; exact set8 wr w.heap.size _ _ _ _ _ _ _ _ _ _ _ _ _ _ _ _ _ HI.out.b0
      have t0 : w9.cell? ⟨w.heap.size, 0, none⟩ = some (.int .i64 4) := by simp only [World.cell?, hx9]; rfl
      have t1 : w9.cell? ⟨w.heap.size, 1, none⟩ = some (.string ⟨#[]⟩) := by simp only [World.cell?, hx9]; rfl
      have t2 : w9.cell? ⟨w.heap.size, 2, none⟩ = some (.string ⟨#[]⟩) := by simp only [World.cell?, hx9]; rfl
      have t3 : w9.cell? ⟨w.heap.size, 3, none⟩ = some (.int .i64 0) := by simp only [World.cell?, hx9]; rfl
      have t4 : w9.cell? ⟨w.heap.size, 4, none⟩ = some (.int .u64 0) := by simp only [World.cell?, hx9]; rfl
      have t5 : w9.cell? ⟨w.heap.size, 5, none⟩ = some (.int .u64 0) := by simp only [World.cell?, hx9]; rfl
      have t6 : w9.cell? ⟨w.heap.size, 6, none⟩ = some (.slice none 0 0) := by simp only [World.cell?, hx9]; rfl
      have t7 : w9.cell? ⟨w.heap.size, 7, none⟩ = some (.slice Av q cv) := by simp only [World.cell?, hx9]; rfl
      have HRV : RV w9 (.mk 4 ⟨#[]⟩ ⟨#[]⟩ 0 0 0 [] (arrK vs)) [.int .i64 4, .string ⟨#[]⟩, .string ⟨#[]⟩, .int .i64 0, .int .u64 0, .int .u64 0, .slice none 0 0, .slice Av q cv] := by
        have hks := HX.out
        rw [HN.out, List.take_length] at hks
        simp only [RV]
        have hrow : ∃ blk, (arrK vs = [] ∨ Av = some ⟨blk, 0, none⟩ ∧ RKs w9 blk 0 (arrK vs)) ∧ q ≤ cv ∧ cv ≤ 9223372036854775807 := by
          by_cases h0 : 0 < q
          · obtain ⟨g, c, hs, _, h2, h3, h4⟩ := hon.cells h0
            have he : Av = some ⟨g, 0, none⟩ ∧ cv = c := by simpa using hs
            obtain ⟨rfl, rfl⟩ := he
            exact ⟨g, .inr ⟨rfl, KsC.rows g 0 (KsC.keep hbig hks) (fun j u hj => by rw [Nat.zero_add]; exact h4 j u hj)⟩, h2, h3⟩
          · have hq00 : q = 0 := by omega
            have hnil : arrK vs = [] := List.eq_nil_of_length_eq_zero (by rw [hL, hq00])
            have hf : cv ≤ 9223372036854775807 := by
              rcases hon.1.2 with ⟨h, _⟩ | ⟨g, cap, cur, h, _, _, _, hm, _⟩
              · have : cv = 0 := by simpa using (Value.slice.inj h).2.2
                omega
              · have : cv = cap := (Value.slice.inj h).2.2
                simp only [maxLen] at hm
                omega
            exact ⟨0, .inl hnil, by omega, hf⟩
        obtain ⟨blk, h1, h2, h3⟩ := hrow
        refine ⟨none, 0, Av, cv, by rw [hL]; rfl, SB.nil _, by rw [hL]; exact h2, h3, ?_⟩
        rcases h1 with h1 | ⟨h1, h4⟩
        · exact .inl h1
        · exact .inr ⟨blk, 0, h1, h4⟩
      exact bodyPost_ret (v := .agg #[.int .i64 4, .string ⟨#[]⟩, .string ⟨#[]⟩, .int .i64 0, .int .u64 0, .int .u64 0, .slice none 0 0, .slice Av q cv]) (by simp [results, Tryz.results11, go_sem, t0, t1, t2, t3, t4, t5, t6, t7]) rfl ⟨_, rfl, HRV, hbig⟩
end Go.Proofs.YtjbeaofnnodlcaaGreatDoor.X
