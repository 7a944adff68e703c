/- Contracts of readers of vectors: floats of 32 bits. -/
import Derived.Test.YtjjfdamlicoeeaaDoorVecQ
import Derived.Test.YtjjfdamlicoeeaaDoorLe
set_option linter.unusedVariables false
set_option linter.unusedSimpArgs false
set_option maxRecDepth 100000
namespace Go.Proofs.YtjjfdamlicoeeaaDoor.X
open Go.RowKit Go.Deep Go.Proofs.YtjjfdamlicoeeaaDoorW.PrintLast
def R68.T14 : Bool × List (List Nat × List Nat) := (true, [([], []), ([], []), ([], []), ([], []), ([], []), ([4], [4]), ([2, 3, 5], [2, 3, 5]), ([1, 6], [1, 6]), ([7, 7], [7]), ([8], [8]), ([0, 9, 8], [0, 9]), ([10, 10, 0, 1, 2, 3, 4, 5, 6, 7, 8, 9, 10], [0, 10])])
def R68.B14 : List Nat := [0, 0, 0, 0, 0, 16, 60, 126, 254, 510, 1023, 2047]
theorem R68.tab14 : rtab .any (opsOf Tryd.f68 14) = R68.T14 := by kernel_rfl
theorem R68.bits14 : waitsOk R68.T14.2 R68.B14 = true := by kernel_rfl
/-- The words of bytes, four at a time, the lowest byte first. -/
def quads : List UInt8 → List Nat
  | a :: b :: c :: d :: r => Lib.leNat [a, b, c, d] :: quads r
  | _ => []
theorem quads_len : ∀ (m : Nat) (r : List UInt8), r.length = 4 * m → (quads r).length = m
  | 0, [], _ => rfl
  | 0, _ :: _, h => by simp at h
  | m + 1, a :: b :: c :: d :: r, h => by
    simp only [List.length_cons] at h
    simp only [quads, List.length_cons, quads_len m r (by omega)]
  | m + 1, [], h => by simp at h
  | m + 1, [_], h => by simp at h; omega
  | m + 1, [_, _], h => by simp at h; omega
  | m + 1, [_, _, _], h => by simp at h; omega
theorem quads_at : ∀ (k m : Nat) (r : List UInt8), r.length = 4 * m → k < m → ∃ a b c d r', r.drop (4 * k) = a :: b :: c :: d :: r' ∧ (quads r).take (k + 1) = (quads r).take k ++ [Lib.leNat [a, b, c, d]]
  | _, 0, _, _, h => by omega
  | 0, m + 1, a :: b :: c :: d :: r, h, _ => ⟨a, b, c, d, r, by simp, by simp [quads]⟩
  | k + 1, m + 1, a :: b :: c :: d :: r, h, hk => by
    simp only [List.length_cons] at h
    obtain ⟨a', b', c', d', r', h1, h2⟩ := quads_at k m r (by omega) (by omega)
    refine ⟨a', b', c', d', r', ?_, ?_⟩
    · rw [show 4 * (k + 1) = 4 * k + 1 + 1 + 1 + 1 from by omega]
      simpa using h1
    · simp only [quads, List.take_succ_cons, h2, List.cons_append]
  | _, m + 1, [], h, _ => by simp at h
  | _, m + 1, [_], h, _ => by simp at h; omega
  | _, m + 1, [_, _], h, _ => by simp at h; omega
  | _, m + 1, [_, _, _], h, _ => by simp at h; omega
def f32v (l : List Nat) : List Value := l.map (.float .f32 ·)
theorem f32v_one (l : List Nat) : ∀ u ∈ f32v l, u.oneCell' = true := by
  intro u hu
  simp only [f32v, List.mem_map] at hu
  obtain ⟨x, _, rfl⟩ := hu
  rfl
theorem frombitsN (n : Nat) (w : World) : (callFunc 98 #[.int .u32 (n : Int)]).run Tryd.prog w = .ok (.value (.float .f32 n)) w := frombits n w
theorem newF_start (w : World) (o1 o2 : Obj) (z : Value) (q : Nat) (hq : q ≤ 9223372036854775807) : OG 84 (((w.alloc o1).alloc o2).alloc (.cells (madeCells #[z] q) 84)) (w.heap.size + 1 + 1) (.slice (some ⟨w.heap.size + 1 + 1, 0, none⟩) 0 q) (f32v []) := by
  have h := OG.made (E := 84) ((w.alloc o1).alloc o2) (w.heap.size + 1 + 1) (by simp) z q hq
  simpa [f32v] using h
def NewFRel (w : World) (B : Nat) (r : List UInt8) (m : Nat) (s i : Value) (wr : World) : Prop := ∃ k : Nat, k ≤ m ∧ i = .int .i64 (4 * (k : Int) + 1) ∧ OG 84 wr B s (f32v ((quads r).take k)) ∧ Below B w wr
theorem newF32 (A : Option Addr) (c m : Nat) (r : List UInt8) (w : World) (hs : SB w A c (0 :: r)) (hm : r.length = 4 * m) (hl : r.length ≤ 1000000) :
    Calls Tryd.prog 68 #[.slice A (r.length + 1) c] w fun e w' => ∃ A', e = .returned (.tuple #[vecF32 A' m m, .nilIface]) ∧ GS w' A' m (f32v (quads r)) ∧ (∀ a, A' = some a → w.heap.size + 1 ≤ a.block) ∧ Below w.heap.size w w' := by
  obtain ⟨b, off, rfl, hc⟩ := hs.cells (by simp)
  have hc0 := hc 0 (by simp)
  simp at hc0
  have hql := quads_len m r hm
  obtain ⟨q, hq⟩ : ∃ q, q = r.length := ⟨_, rfl⟩
  rw [← hq] at hl hm ⊢
  have hmk := run_make0 (P := Tryd.prog) 72 84 (.float .f32 0) 4 Tryd.underlying72 infoF32 rfl .i64 .i64 m (by omega) (by omega)
  have HQ := Lib.hid hq
  have HM := Lib.hid hm
  have HQL := Lib.hid hql
  have HSB := Lib.hid hs
  have hblt : b < w.heap.size := World.block_lt_of_cell? w _ hc0
  have hne0 : ((q : Int) + 1 == 0) = false := by rw [beq_eq_false_iff_ne]; omega
  have hdv : (q : Int).tdiv 4 = (m : Int) := by rw [hm]; rw [Int.natCast_mul]; exact Int.mul_tdiv_cancel_left _ (by decide)
  have hmm : ((m : Int) * 4 != (q : Int)) = false := by simp; omega
  have hmq : m ≤ q := by omega
  clear hq hc hs hm hql
  go_enter Tryd.func68, Tryd.ntmps68
  go_wp2_with fail
  go_loopw [7, 8] (fun s i wr => NewFRel ((w.alloc (.cells #[.int .u8 0, .slice none 0 0, .slice none 0 0, .slice none 0 0, .int .u8 0] 74)).alloc (.cells #[.int .u8 0, .slice none 0 0, .slice none 0 0, .slice none 0 0, .int .u8 0] 74)) (w.heap.size + 1 + 1) r m s i wr) (fun _ i _ => q + 1 - (intOf i).toNat)
  case atStart => exact ⟨0, Nat.zero_le _, by simp, newF_start w _ _ _ m (by omega), balloc (Below.refl _ _) (by simp) _⟩
  case round =>
    obtain ⟨k, hk, rfl, hog, hb⟩ := hrel
    have hq := HQ.out
    have hm := HM.out
    by_cases hkq : k < m
    · obtain ⟨b0, b1, b2, b3, r', hdr, htk⟩ := quads_at k m r (by omega) hkq
      have hcut : ((0 :: r).take (4 * k + 5)).drop (4 * k + 1) = [b0, b1, b2, b3] := by
        rw [List.take_succ_cons, List.drop_succ_cons, List.drop_take, hdr, show 4 * k + 4 - 4 * k = 4 from by omega]
        rfl
      obtain ⟨A2, e2, s2⟩ := SB.cut (P := Tryd.prog) Tryd.underlying38 rfl rfl .i64 .i64 (some ⟨b, off, none⟩) c (0 :: r) (4 * k + 1) (4 * k + 5) (by omega) (by simp; omega) HSB.out.le
      have hS2 := s2 w HSB.out
      rw [hcut] at hS2
      have HS2 := Lib.hid hS2
      have HU := Lib.hid (fun wx (h : Below w.heap.size w wx) => leUint32 A2 (c - (4 * k + 1)) b0 b1 b2 b3 [] wx (hS2.keep h))
      obtain ⟨c2, hc2⟩ : ∃ c2, c2 = c - (4 * k + 1) := ⟨_, rfl⟩
      obtain ⟨n, hn⟩ : ∃ n, n = Lib.leNat [b0, b1, b2, b3] := ⟨_, rfl⟩
      obtain ⟨y, hy⟩ : ∃ y : Int, y = 4 * (k : Int) + 1 := ⟨_, rfl⟩
      rw [← hc2] at HU e2
      rw [← hn] at HU htk
      simp only [List.length_cons, ← hq, List.length_nil, Nat.zero_add, Nat.reduceAdd] at HU e2
      rw [show ((4 * k + 1 : Nat) : Int) = y from by omega, show ((4 * k + 5 : Nat) : Int) = y + 4 from by omega, show 4 * k + 5 - (4 * k + 1) = 4 from by omega] at e2
      have hlt : decide (y < (q : Int) + 1) = true := by simp; omega
      have hyw : wrap64 (y + 4) = y + 4 := by unfold wrap64; omega
      rw [← hy]
      have HY := Lib.hid hy
      have HTK := Lib.hid htk
      have hfr := frombitsN n
      obtain ⟨A6, c6, rfl, hg6, hn6⟩ := hog.sb
      have hl6 : (f32v ((quads r).take k)).length = k := by simp only [f32v, List.length_map, List.length_take]; have := HQL.out; omega
      have HOG := Lib.hid hog
      rw [hl6] at HOG ⊢
      obtain ⟨L, hL⟩ : ∃ L, L = f32v ((quads r).take k) := ⟨_, rfl⟩
      rw [← hL] at HOG hl6
      have HL := Lib.hid hL
      have HLL := Lib.hid hl6
      have hz := hb.size
      simp only [World.size_alloc] at hz
      have HBB := Lib.hid ((balloc (balloc (Below.refl _ w) (Nat.le_refl _) _) (by simp) _).trans (hb.mono (by omega)))
      have HB := Lib.hid hb
      clear hq hm hog hg6 hl6 hL hy hdr htk hcut s2 hS2 hc2 hn hb
      go_wp2_with fail
      refine start_ (n := 12) (S := fun w' => True) (ds := []) #[false, false, false, false, false, false, false, false, false, false, false, false] (by kernel_rfl) rfl rfl trivial (fun hHeld => ?_)
      refine with_tabW R68.tab14 R68.bits14 (fun HT_ HW_ => ?_)
      refine pure_ (i := 0) (N := some 41) (v := ?_) (a' := ?_) #[true, false, false, false, false, false, false, false, false, false, false, false] rfl rfl (any_of HT_.out (by kernel_rfl)) (fun _ _ _ h => h) (Or.inl ⟨by rfl, ?_⟩) ?_ ?_
      rotate_left
      · intro w'
        go_simp
        with_reducible rfl
      rotate_left
      · simp only [Act.put, List.setIfInBounds_toArray, List.set_cons_zero, List.set_cons_succ, i64_w, i32_w]
        rfl
      refine pure_ (i := 2) (N := some 43) (v := ?_) (a' := ?_) #[true, false, true, false, false, false, false, false, false, false, false, false] rfl rfl (any_of HT_.out (by kernel_rfl)) (fun _ _ _ h => h) (Or.inl ⟨by rfl, ?_⟩) ?_ ?_
      rotate_left
      · intro w'
        go_simp
        with_reducible rfl
      rotate_left
      · simp only [Act.put, List.setIfInBounds_toArray, List.set_cons_zero, List.set_cons_succ, i64_w, i32_w]
        rfl
      refine pure_ (i := 3) (N := some 44) (v := ?_) (a' := ?_) #[true, false, true, true, false, false, false, false, false, false, false, false] rfl rfl (any_of HT_.out (by kernel_rfl)) (fun _ _ _ h => h) (Or.inl ⟨by rfl, ?_⟩) ?_ ?_
      rotate_left
      · intro w'
        go_simp
        with_reducible rfl
      rotate_left
      · simp only [Act.put, List.setIfInBounds_toArray, List.set_cons_zero, List.set_cons_succ, i64_w, i32_w]
        rfl
      refine pure_ (i := 4) (N := some 45) (v := ?_) (a' := ?_) #[true, false, true, true, true, false, false, false, false, false, false, false] rfl rfl (any_of HT_.out (by kernel_rfl)) (fun _ _ _ h => h) (Or.inl ⟨by rfl, ?_⟩) ?_ ?_
      rotate_left
      · intro w'
        go_simp
        with_reducible rfl
      rotate_left
      · simp only [Act.put, List.setIfInBounds_toArray, List.set_cons_zero, List.set_cons_succ, i64_w, i32_w]
        rfl
      refine pure_ (i := 5) (N := some 46) (v := ?_) (a' := ?_) #[true, false, true, true, true, true, false, false, false, false, false, false] rfl rfl (any_of HT_.out (by kernel_rfl)) (fun _ _ _ h => h) (Or.inl ⟨by rfl, ?_⟩) ?_ ?_
      rotate_left
      · intro w'
        go_simp
        with_reducible rfl
      rotate_left
      · simp only [Act.put, List.setIfInBounds_toArray, List.set_cons_zero, List.set_cons_succ, i64_w, i32_w]
        rfl
      refine pure_ (i := 6) (N := some 47) (v := ?_) (a' := ?_) #[true, false, true, true, true, true, true, false, false, false, false, false] rfl rfl (any_of HT_.out (by kernel_rfl)) (fun _ _ _ h => h) (Or.inl ⟨by rfl, ?_⟩) ?_ ?_
      rotate_left
      · intro w'
        go_simp
        with_reducible rfl
      rotate_left
      · simp only [Act.put, List.setIfInBounds_toArray, List.set_cons_zero, List.set_cons_succ, i64_w, i32_w]
        rfl
      refine take_ (i := 1) (N := some 42) (v := ?_) (a' := ?_) #[true, true, true, true, true, true, true, false, false, false, false, false] rfl rfl (take_ofW HT_.out HW_.out (by kernel_rfl)) (fun _ _ _ h => h) (Or.inl ⟨by rfl, ?_⟩) hHeld ?_ ?_
      rotate_left
      · intro w' _
        go_simp
        with_reducible rfl
      rotate_left
      · simp only [Act.put, List.setIfInBounds_toArray, List.set_cons_zero, List.set_cons_succ, i64_w, i32_w]
        rfl
      refine one_ (i := 7) (N := some 48) #[true, true, true, true, true, true, true, true, false, false, false, false] rfl rfl (one_of HT_.out (by kernel_rfl)) (by decide) (fun K hK => ?_)
      refine goes_ Tryd.func99 (by kernel_rfl) rfl #[.agg #[], .slice A2 4 c2] (by rfl) rfl rfl (by simp only [List.map_toArray, List.map_cons, List.map_nil]; rfl) ?_
      with_reducible refine (HU.out _ (by exact bdrew HBB.out)).mono ?_
      rintro e w3 ⟨rfl, hb3⟩
      refine ⟨_, rfl, ?_⟩
      refine hK.out _ _ trivial (fun hHeld => ?_)
      clear hK K
      refine norm_ (a' := ?_) ?_ ?_
      rotate_left
      · show Act.put _ (some 48) _ = _
        simp only [Act.put, List.setIfInBounds_toArray, List.set_cons_zero, List.set_cons_succ, i64_w, i32_w]
        rfl
      refine take_ (i := 8) (N := some 49) (v := ?_) (a' := ?_) #[true, true, true, true, true, true, true, true, true, false, false, false] rfl rfl (take_ofW HT_.out HW_.out (by kernel_rfl)) (fun _ _ _ h => h) (Or.inl ⟨by rfl, ?_⟩) hHeld ?_ ?_
      rotate_left
      · intro w' _
        go_simp
        with_reducible rfl
      rotate_left
      · simp only [Act.put, List.setIfInBounds_toArray, List.set_cons_zero, List.set_cons_succ, i64_w, i32_w]
        rfl
      refine one_ (i := 9) (N := some 50) #[true, true, true, true, true, true, true, true, true, true, false, false] rfl rfl (one_of HT_.out (by kernel_rfl)) (by decide) (fun K hK => ?_)
      refine value_ (w1 := ?_) (v := ?_) (by rfl) rfl ?_ ?_
      rotate_left 2
      · go_simp
        constructor
        · rfl
        · rfl
      refine hK.out _ _ trivial (fun hHeld => ?_)
      clear hK K
      refine norm_ (a' := ?_) ?_ ?_
      rotate_left
      · show Act.put _ (some 50) _ = _
        simp only [Act.put, List.setIfInBounds_toArray, List.set_cons_zero, List.set_cons_succ, i64_w, i32_w]
        rfl
      refine one_ (i := 10) (N := some 51) #[true, true, true, true, true, true, true, true, true, true, true, false] rfl rfl (one_of HT_.out (by kernel_rfl)) (by decide) (fun K hK => ?_)
      refine appG_step (.tmp 41) (.tmp 50) 72 (by rfl) rfl rfl (.float .f32 0) 4 infoF32 rfl Tryd.underlying72 _ (w.heap.size + 1 + 1) (.slice A6 k c6) L (some ⟨w3.heap.size, 0, none⟩) 1 [.float .f32 n] rfl rfl ?a1 ?a2 ?a3 ?a4 ?a5 ?a6 ?_
      case a1 => exact (HOG.out.keep ((bdrew (Below.refl _ _)).trans hb3)).alloc _
      case a2 => exact GS.lit_ _ [.float .f32 n] _ rfl (by simp) _ rfl
      case a3 => have := hb3.size; simp at this; simp; omega
      case a4 => simp [Value.oneCell']
      case a5 => rw [HLL.out]; simp; omega
      case a6 => rw [HLL.out]; simp; omega
      intro v5 w5 hap
      refine hK.out _ _ trivial (fun hHeld => ?_)
      clear hK K
      refine norm_ (a' := ?_) ?_ ?_
      rotate_left
      · show Act.put _ (some 51) _ = _
        simp only [Act.put, List.setIfInBounds_toArray, List.set_cons_zero, List.set_cons_succ, i64_w, i32_w]
        rfl
      refine pure_ (i := 11) (N := some 7) (v := ?_) (a' := ?_) #[true, true, true, true, true, true, true, true, true, true, true, true] rfl rfl (any_of HT_.out (by kernel_rfl)) (fun _ _ _ h => h) (Or.inl ⟨by rfl, ?_⟩) ?_ ?_
      rotate_left
      · intro w'
        go_simp
        with_reducible rfl
      rotate_left
      · simp only [Act.put, List.setIfInBounds_toArray, List.set_cons_zero, List.set_cons_succ, i64_w, i32_w]
        rfl
      refine done_ (done_of HT_.out (by kernel_rfl)) ?_
      have HAP := Lib.hid hap
      have HB3 := Lib.hid hb3
      clear hap hb3
      go_wp2_with fail
      go_roundw
      case rel =>
        have hq := HQ.out
        have hz3 := HB3.out.size
        simp at hz3
        refine ⟨k + 1, by omega, by rw [hyw, HY.out]; congr 1, ?_, ?_⟩
        · rw [HTK.out, show f32v (List.take k (quads r) ++ [n]) = L ++ [.float .f32 n] from by rw [HL.out]; simp [f32v]]
          exact HAP.out.own
        · exact (balloc (HB.out.trans ((bdrew (Below.refl _ _)).trans (HB3.out.mono (by simp; omega)))) (by omega) _).trans (HAP.out.kept ((HOG.out.keep ((bdrew (Below.refl _ _)).trans HB3.out)).alloc _) (by simp; omega))
      case measure =>
        have h1 := HY.out
        have h2 := HM.out
        show q + 1 - (wrap64 (y + 4)).toNat < q + 1 - y.toNat
        rw [hyw]
        omega
    · obtain rfl : k = m := by omega
      obtain ⟨A6, c6, rfl, hg6, hn6⟩ := hog.sb
      have et : (quads r).take k = quads r := by rw [← HQL.out]; exact List.take_length
      have hl6 : (f32v ((quads r).take k)).length = k := by rw [et]; simp [f32v, HQL.out]
      have HV := Lib.hid (newVecF32 A6 c6 _ wr hg6 (f32v_one _) (by rw [hl6]; omega))
      rw [hl6] at HV ⊢
      rw [et] at HV
      obtain ⟨y, hy⟩ : ∃ y : Int, y = 4 * (k : Int) + 1 := ⟨_, rfl⟩
      have hge : decide (y < (q : Int) + 1) = false := by simp; omega
      rw [← hy]
      have h0 := hb.size
      simp only [World.size_alloc] at h0
      have hend := (balloc (balloc (Below.refl _ w) (Nat.le_refl _) _) (by simp) _).trans (hb.mono (by omega))
      have r0 := hb.cell (p := ⟨w.heap.size, 0, none⟩) (by show w.heap.size < _; omega)
      have r1 := hb.cell (p := ⟨w.heap.size, 1, none⟩) (by show w.heap.size < _; omega)
      have r2 := hb.cell (p := ⟨w.heap.size, 2, none⟩) (by show w.heap.size < _; omega)
      have r3 := hb.cell (p := ⟨w.heap.size, 3, none⟩) (by show w.heap.size < _; omega)
      have r4 := hb.cell (p := ⟨w.heap.size, 4, none⟩) (by show w.heap.size < _; omega)
      have s0 : ∀ o, wr.frozen? ⟨w.heap.size, o, none⟩ = _ := fun o => hb.frozen (p := ⟨w.heap.size, o, none⟩) (by show w.heap.size < _; omega)
      simp [go_sem] at r0 r1 r2 r3 r4
      clear hb hog hg6 hn6 et hl6 hq hm hne0 hy
      go_wp2_with fail
      refine HV.out.mono ?_
      rintro e w4 ⟨A', rfl, hs4, hn4, hb4⟩
      obtain ⟨hc4, hf4⟩ := bcell hb4
      have hz4 := hb4.size
      have hl4 : w.heap.size < wr.heap.size := by omega
      have hl5 : w.heap.size < w4.heap.size := by omega
      have hend4 := bstep hend (by omega) hb4
      have d0 := (hc4 _ 0 hl4).trans r0
      have d1 := (hc4 _ 1 hl4).trans r1
      have d2 := (hc4 _ 2 hl4).trans r2
      have d3 := (hc4 _ 3 hl4).trans r3
      have d4 := (hc4 _ 4 hl4).trans r4
      have HS4 := Lib.hid hs4
      have hne : ∀ a, A' = some a → a.block ≠ w.heap.size := fun a ha => by have := hn4 a ha; omega
      have HN := Lib.hid hne
      have HM : Hid (∀ a, A' = some a → w.heap.size + 1 ≤ a.block) := Lib.hid fun a ha => by have := hn4 a ha; omega
      clear hs4 hb4 HV hn4 hne
      unfold vecF32
      go_wp2_with fail
      have hbb : w.heap.size ≤ w.heap.size := Nat.le_refl _
      exact bodyPost_ret (v := .tuple #[vecF32 A' k k, .nilIface]) (by simp [results, Tryd.results68, go_sem, vecF32, d0, d1, d2, d3, d4, hl5]) rfl ⟨A', rfl, ((((HS4.out.far HN.out _).far HN.out _).far HN.out _).far HN.out _).far HN.out _, HM.out, ((((hend4.setCell hbb _).setCell hbb _).setCell hbb _).setCell hbb _).setCell hbb _⟩
end Go.Proofs.YtjjfdamlicoeeaaDoor.X
