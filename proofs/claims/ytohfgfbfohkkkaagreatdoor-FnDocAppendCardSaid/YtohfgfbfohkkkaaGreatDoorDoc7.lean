/- Contracts of the reference's functions that write values, elements and documents. -/
import Derived.Test.YtohfgfbfohkkkaaGreatDoorDoc1
import Derived.Test.YtohfgfbfohkkkaaGreatDoorDoc2
import Derived.Test.YtohfgfbfohkkkaaGreatDoorDoc6
import Derived.Test.YtohfgfbfohkkkaaGreatDoorWLast
import Derived.Test.YtohfgfbfohkkkaaGreatDoorWTab
set_option linter.unusedVariables false
set_option linter.unusedSimpArgs false
set_option maxRecDepth 100000
namespace Go.Proofs.YtohfgfbfohkkkaaGreatDoor.X
open Go.RowKit Go.Proofs.YtohfgfbfohkkkaaGreatDoorW.PrintLast
def R100.T1 : Bool × List (List Nat × List Nat) := (true, [([], []), ([0], [0]), ([1], [1]), ([], []), ([3], [3]), ([2, 4], [2, 4]), ([], []), ([6], [6]), ([7, 5], [7]), ([5, 8, 8], [5, 8]), ([9, 9, 0, 1, 2, 3, 4, 5, 6, 7, 8, 9], [9])])
def R100.B1 : List Nat := [0, 1, 3, 0, 8, 31, 0, 64, 255, 511, 1023]
theorem R100.tab1 : rtab .any (opsOf Tryz.f100 1) = R100.T1 := by kernel_rfl
theorem R100.bits1 : waitsOk R100.T1.2 R100.B1 = true := by kernel_rfl
def bs (s : ByteArray) : List UInt8 := s.data.toList
mutual
/-- The bytes of a value. -/
def docValue : Val → List UInt8
  | .mk k t m n bi hi b ks =>
    if k = 1 ∨ k = 17 then i64 bi
    else if k = 2 ∨ k = 13 ∨ k = 14 then txt (bs t)
    else if k = 3 ∨ k = 4 then i32 (((docElems ks).length : Int) + 5) ++ docElems ks ++ [0]
    else if k = 5 then (if n = 2 then i32 ((b.length : Int) + 4) ++ [2] ++ i32 (b.length : Int) else i32 (b.length : Int) ++ [ub n]) ++ b
    else if k = 7 then b
    else if k = 8 then [ub n]
    else if k = 9 ∨ k = 18 then i64 (n % 18446744073709551616)
    else if k = 16 then i32 n
    else if k = 11 then bs t ++ [0] ++ bs m ++ [0]
    else if k = 12 then txt (bs t) ++ b
    else if k = 15 then i32 (4 + ((txt (bs t)).length : Int) + ((i32 (((docElems ks).length : Int) + 5) ++ docElems ks ++ [0]).length : Int)) ++ txt (bs t) ++ (i32 (((docElems ks).length : Int) + 5) ++ docElems ks ++ [0])
    else if k = 19 then i64 bi ++ i64 hi
    else []
/-- The bytes of elements. -/
def docElems : List (ByteArray × Val) → List UInt8
  | [] => []
  | (nm, v) :: r => hd v.kind (bs nm) ++ docValue v ++ docElems r
end
/-- The bytes of a document. -/
def docBytesOf (ks : List (ByteArray × Val)) : List UInt8 := i32 (((docElems ks).length : Int) + 5) ++ docElems ks ++ [0]
/-- The bytes of an element. -/
def docElemOf (nm : ByteArray) (v : Val) : List UInt8 := hd v.kind (bs nm) ++ docValue v
theorem docElems_at (ks : List (ByteArray × Val)) (i : Nat) (h : i < ks.length) : docElems (ks.take (i + 1)) = docElems (ks.take i) ++ docElemOf (ks[i]).1 (ks[i]).2 := by
  induction ks generalizing i with
  | nil => exact absurd h (Nat.not_lt_zero i)
  | cons x r ih =>
    obtain ⟨nm, v⟩ := x
    cases i with
    | zero => simp [docElems, docElemOf]
    | succ i =>
      have := ih i (by simpa using h)
      simp only [List.take_succ_cons, docElems, List.getElem_cons_succ, this, List.append_assoc]
theorem docElems_le (ks : List (ByteArray × Val)) (i : Nat) : (docElems (ks.take i)).length ≤ (docElems ks).length := by
  induction ks generalizing i with
  | nil => simp
  | cons x r ih =>
    obtain ⟨nm, v⟩ := x
    cases i with
    | zero => simp [docElems]
    | succ i =>
      have := ih i
      simp only [List.take_succ_cons, docElems, List.length_append]
      omega

/-- What a call leaves that makes bytes of its own. -/
def Made (W : World) (l : List UInt8) (v1 : Value) (w1 : World) : Prop := OB 5 w1 W.heap.size v1 l ∧ Below W.heap.size W w1
/-- The contract of DocValue for values up to a size. -/
def ValueUpto (N : Nat) : Prop := ∀ (v : Val) (cs : List Value) (W : World), wt v < N → (docValue v).length ≤ 1000000000000 → RV W v cs →
  Calls Tryz.prog 18 #[.agg cs.toArray] W (After (Made W (docValue v)))
def BytesUpto (N : Nat) : Prop := ∀ (ks : List (ByteArray × Val)) (K : Option Addr) (d : Nat) (W : World), wtK ks < N → (docElems ks).length ≤ 1000000000000 → ks.length ≤ d → d ≤ 9223372036854775807 → (ks = [] ∨ ∃ blk off, K = some ⟨blk, off, none⟩ ∧ RKs W blk off ks) →
  Calls Tryz.prog 40 #[.slice K ks.length d] W (After (Made W (docBytesOf ks)))

set_option maxHeartbeats 1600000 in
theorem docElem (N : Nat) (hV : ValueUpto N) (nm : ByteArray) (v : Val) (c0 c1 c2 c3 c4 c5 c6 c7 : Value) (W : World) (hw : wt v < N) (hl : (docElemOf nm v).length ≤ 1000000000000) (hv : RV W v [c0, c1, c2, c3, c4, c5, c6, c7]) :
    Calls Tryz.prog 100 #[.agg #[.string nm, c0, c1, c2, c3, c4, c5, c6, c7]] W (After (Made W (docElemOf nm v))) := by
  have hl2 : nm.size + (docValue v).length ≤ 1000000000000 := by simp [docElemOf, hd, bs] at hl; omega
  have HV := Lib.hid hv
  have hV2 := fun W h1 => hV v [c0, c1, c2, c3, c4, c5, c6, c7] W hw (by omega) h1
  have HV2 := Lib.hid hV2
  have hk0 : c0 = .int .i64 v.kind := by
    obtain ⟨k, t, m, n, bi, hi, b, ks⟩ := v
    simp only [RV] at hv
    obtain ⟨A, c, K, d, e, _⟩ := hv
    simp only [List.cons.injEq] at e
    exact e.1
  subst hk0
  clear hv hV2 hV
  obtain ⟨k, hk⟩ : ∃ k, k = v.kind := ⟨_, rfl⟩
  have HK : Hid (docElemOf nm v = hd k (bs nm) ++ docValue v) := Lib.hid (by rw [hk]; rfl)
  rw [← hk] at HV HV2 ⊢
  clear hk
  obtain ⟨dv, hdv⟩ : ∃ x, x = docValue v := ⟨_, rfl⟩
  rw [← hdv] at HV2 HK hl2
  clear hdv
  have hnl : nm.size ≤ 10000000000000 := by omega
  have HF : Hid (∀ v1 w1, Made W (hd k (bs nm) ++ dv) v1 w1 → After (Made W (docElemOf nm v)) (.returned v1) w1) := Lib.hid fun v1 w1 h => ⟨v1, rfl, by rw [HK.out]; exact h⟩
  go_enter Tryz.func100, Tryz.ntmps100
  go_wp2_with fail
  refine start_ (n := 11) (S := fun w' => w'.cell? ⟨W.heap.size, 0, none⟩ = some (.string nm) ∧ w'.cell? ⟨W.heap.size, 1, none⟩ = some (.int .i64 k) ∧ w'.cell? ⟨W.heap.size, 2, none⟩ = some c1 ∧ w'.cell? ⟨W.heap.size, 3, none⟩ = some c2 ∧ w'.cell? ⟨W.heap.size, 4, none⟩ = some c3 ∧ w'.cell? ⟨W.heap.size, 5, none⟩ = some c4 ∧ w'.cell? ⟨W.heap.size, 6, none⟩ = some c5 ∧ w'.cell? ⟨W.heap.size, 7, none⟩ = some c6 ∧ w'.cell? ⟨W.heap.size, 8, none⟩ = some c7) (ds := [8, 9]) #[false, false, false, false, false, false, false, false, false, false, false] (by kernel_rfl) rfl rfl ⟨(by go_simp), (by go_simp), (by go_simp), (by go_simp), (by go_simp), (by go_simp), (by go_simp), (by go_simp), (by go_simp)⟩ (fun hHeld => ?_)
  refine with_tabW R100.tab1 R100.bits1 (fun HT_ HW_ => ?_)
  refine pure_ (i := 0) (N := some 3) (v := ?_) (a' := ?_) #[true, false, false, false, false, false, false, false, false, false, false] rfl rfl (any_of HT_.out (by kernel_rfl)) (fun _ _ _ h => h) (Or.inl ⟨by rfl, ?_⟩) ?_ ?_
  rotate_left
  · intro w'
    go_simp
    with_reducible rfl
  rotate_left
  · simp only [Act.put, List.setIfInBounds_toArray, List.set_cons_zero, List.set_cons_succ, i64_w, i32_w]
    rfl
  refine pure_ (i := 1) (N := some 4) (v := ?_) (a' := ?_) #[true, true, false, false, false, false, false, false, false, false, false] rfl rfl (any_of HT_.out (by kernel_rfl)) (fun _ _ _ h => h) (Or.inl ⟨by rfl, ?_⟩) ?_ ?_
  rotate_left
  · intro w'
    go_simp
    with_reducible rfl
  rotate_left
  · simp only [Act.put, List.setIfInBounds_toArray, List.set_cons_zero, List.set_cons_succ, i64_w, i32_w]
    rfl
  refine pure_ (i := 3) (N := some 6) (v := ?_) (a' := ?_) #[true, true, false, true, false, false, false, false, false, false, false] rfl rfl (any_of HT_.out (by kernel_rfl)) (fun _ _ _ h => h) (Or.inl ⟨by rfl, ?_⟩) ?_ ?_
  rotate_left
  · intro w'
    go_simp
    with_reducible rfl
  rotate_left
  · simp only [Act.put, List.setIfInBounds_toArray, List.set_cons_zero, List.set_cons_succ, i64_w, i32_w]
    rfl
  refine pure_ (i := 6) (N := some 9) (v := ?_) (a' := ?_) #[true, true, false, true, false, false, true, false, false, false, false] rfl rfl (any_of HT_.out (by kernel_rfl)) (fun _ _ _ h => h) (Or.inl ⟨by rfl, ?_⟩) ?_ ?_
  rotate_left
  · intro w'
    go_simp
    with_reducible rfl
  rotate_left
  · simp only [Act.put, List.setIfInBounds_toArray, List.set_cons_zero, List.set_cons_succ, i64_w, i32_w]
    rfl
  refine take_ (i := 2) (N := some 5) (v := ?_) (a' := ?_) #[true, true, true, true, false, false, true, false, false, false, false] rfl rfl (take_ofW HT_.out HW_.out (by kernel_rfl)) (fun _ _ _ h => h) (Or.inl ⟨by rfl, ?_⟩) hHeld ?_ ?_
  rotate_left
  · rintro w' ⟨s0, s1, s2, s3, s4, s5, s6, s7, s8⟩
    go_simp
    with_reducible rfl
  rotate_left
  · simp only [Act.put, List.setIfInBounds_toArray, List.set_cons_zero, List.set_cons_succ, i64_w, i32_w]
    rfl
  refine take_ (i := 4) (N := some 7) (v := ?_) (a' := ?_) #[true, true, true, true, true, false, true, false, false, false, false] rfl rfl (take_ofW HT_.out HW_.out (by kernel_rfl)) (fun _ _ _ h => h) (Or.inl ⟨by rfl, ?_⟩) hHeld ?_ ?_
  rotate_left
  · rintro w' ⟨s0, s1, s2, s3, s4, s5, s6, s7, s8⟩
    go_simp
    with_reducible rfl
  rotate_left
  · simp only [Act.put, List.setIfInBounds_toArray, List.set_cons_zero, List.set_cons_succ, i64_w, i32_w]
    rfl
  refine take_ (i := 7) (N := some 10) (v := ?_) (a' := ?_) #[true, true, true, true, true, false, true, true, false, false, false] rfl rfl (take_ofW HT_.out HW_.out (by kernel_rfl)) (fun _ _ _ h => h) (Or.inl ⟨by rfl, ?_⟩) hHeld ?_ ?_
  rotate_left
  · rintro w' ⟨s0, s1, s2, s3, s4, s5, s6, s7, s8⟩
    go_simp
    with_reducible rfl
  rotate_left
  · simp only [Act.put, List.setIfInBounds_toArray, List.set_cons_zero, List.set_cons_succ, i64_w, i32_w]
    rfl
  refine one_ (i := 5) (N := some 8) #[true, true, true, true, true, true, true, true, false, false, false] rfl rfl (one_of HT_.out (by kernel_rfl)) (by decide) (fun K hK => ?_)
  refine goes_ Tryz.func180 (by kernel_rfl) rfl #[.int .i64 k, .string nm] (by rfl) rfl rfl (by simp only [List.map_toArray, List.map_cons, List.map_nil]; rfl) ?_
  with_reducible refine (docHead _ k nm hnl).mono ?_
  rintro e w3 ⟨v3, rfl, ho3, hb3⟩
  refine ⟨_, rfl, ?_⟩
  refine hK.out _ _ ⟨((hb3.cell (World.block_lt_of_cell? _ _ hHeld.1)).trans hHeld.1), ((hb3.cell (World.block_lt_of_cell? _ _ hHeld.2.1)).trans hHeld.2.1), ((hb3.cell (World.block_lt_of_cell? _ _ hHeld.2.2.1)).trans hHeld.2.2.1), ((hb3.cell (World.block_lt_of_cell? _ _ hHeld.2.2.2.1)).trans hHeld.2.2.2.1), ((hb3.cell (World.block_lt_of_cell? _ _ hHeld.2.2.2.2.1)).trans hHeld.2.2.2.2.1), ((hb3.cell (World.block_lt_of_cell? _ _ hHeld.2.2.2.2.2.1)).trans hHeld.2.2.2.2.2.1), ((hb3.cell (World.block_lt_of_cell? _ _ hHeld.2.2.2.2.2.2.1)).trans hHeld.2.2.2.2.2.2.1), ((hb3.cell (World.block_lt_of_cell? _ _ hHeld.2.2.2.2.2.2.2.1)).trans hHeld.2.2.2.2.2.2.2.1), ((hb3.cell (World.block_lt_of_cell? _ _ hHeld.2.2.2.2.2.2.2.2)).trans hHeld.2.2.2.2.2.2.2.2)⟩ (fun hHeld => ?_)
  clear hK K
  refine norm_ (a' := ?_) ?_ ?_
  rotate_left
  · show Act.put _ (some 8) _ = _
    simp only [Act.put, List.setIfInBounds_toArray, List.set_cons_zero, List.set_cons_succ, i64_w, i32_w]
    rfl
  refine last_ (i := 8) (N := some 11) #[true, true, true, true, true, true, true, true, true, false, false] rfl rfl (one_of HT_.out (by kernel_rfl)) (by decide) (fun K hK => ?_)
  refine goes_ Tryz.func18 (by kernel_rfl) rfl #[.agg #[.int .i64 k, c1, c2, c3, c4, c5, c6, c7]] (by rfl) rfl rfl (by simp only [List.map_toArray, List.map_cons, List.map_nil]; rfl) ?_
  with_reducible refine (HV2.out _ (by exact HV.out.keep (bstep (bdrew (balloc (Below.refl _ _) (Nat.le_refl _) _)) (by simp) hb3))).mono ?_
  rintro e w4 ⟨v4, rfl, ho4, hb4⟩
  refine ⟨_, rfl, ?_⟩
  refine hK.out _ _ ?_
  clear hK K
  refine norm_ (a' := ?_) ?_ ?_
  rotate_left
  · show Act.put _ (some 11) _ = _
    simp only [Act.put, List.setIfInBounds_toArray, List.set_cons_zero, List.set_cons_succ, i64_w, i32_w]
    rfl
  refine last_ (i := 9) (N := some 12) #[true, true, true, true, true, true, true, true, true, true, false] rfl rfl (one_of HT_.out (by kernel_rfl)) (by decide) (fun K hK => ?_)
  obtain ⟨A4, c4, rfl, hs4, -⟩ := ho4.sb
  have hz3 := hb3.size
  have hz4 := hb4.size
  refine app_step (.tmp 8) (.tmp 11) 22 (by rfl) rfl rfl infoB Tryz.underlying22 _ _ v3 (hd k (bs nm)) _ _ dv rfl rfl (ho3.keep hb4) hs4 (by omega) (by simp [hd, bs]; omega) ?_
  intro v5 w5 h5
  refine hK.out _ _ ?_
  clear hK K
  refine norm_ (a' := ?_) ?_ ?_
  rotate_left
  · show Act.put _ (some 12) _ = _
    simp only [Act.put, List.setIfInBounds_toArray, List.set_cons_zero, List.set_cons_succ, i64_w, i32_w]
    rfl
  refine pure_ (i := 10) (N := some 2) (v := ?_) (a' := ?_) #[true, true, true, true, true, true, true, true, true, true, true] rfl rfl (any_of HT_.out (by kernel_rfl)) (fun _ _ _ h => h) (Or.inl ⟨by rfl, ?_⟩) ?_ ?_
  rotate_left
  · intro w'
    go_simp
    with_reducible rfl
  rotate_left
  · simp only [Act.put, List.setIfInBounds_toArray, List.set_cons_zero, List.set_cons_succ, i64_w, i32_w]
    rfl
  refine done_ (done_of HT_.out (by kernel_rfl)) ?_
  go_wp2
  go_ret
  have hz5 := h5.size
  have hb4' := bstep (bstep (bdrew (balloc (Below.refl _ _) (Nat.le_refl _) _)) (by simp) hb3) (by simp at hz3; omega) hb4
  refine HF.out v5 w5 ⟨h5.own.mono (by simp), ?_⟩
  exact bgrown hb4' (by simp at hz3; omega) h5.grown (fun k hk => by have := ((ho3.keep hb4).lt k hk).1; simp at this; omega)

set_option maxHeartbeats 1600000 in
theorem docBytes_step (N : Nat) (hV : ValueUpto N) : BytesUpto (N + 1) := by
  intro ks K d W hw hl hd1 hd2 hk
  have HK := Lib.hid hk
  have HVN := Lib.hid hV
  clear hk hV
  have HF : Hid (∀ v1 w1, Made W (docBytesOf ks) v1 w1 → After (Made W (docBytesOf ks)) (.returned v1) w1) := Lib.hid fun v1 w1 h => ⟨v1, rfl, h⟩
  go_enter Tryz.func40, Tryz.ntmps40
  go_wp2_with fail
  go_loopw [3, 4] (fun u i wr => ∃ q : Nat, q ≤ ks.length ∧ i = .int .i64 q ∧ OB 5 wr W.heap.size u (docElems (ks.take q)) ∧ Below W.heap.size W wr) (fun _ i _ => ks.length - (intOf i).toNat)
  case atStart => exact ⟨0, Nat.zero_le _, rfl, by simpa [docElems] using OB.nil W W.heap.size, Below.refl _ _⟩
  case round =>
    obtain ⟨q, hq, rfl, ho, hb⟩ := hrel
    have hz := hb.size
    have hle := docElems_le ks q
    by_cases hlt : q < ks.length
    · obtain ⟨blk, off, rfl, hks⟩ : ∃ blk off, K = some ⟨blk, off, none⟩ ∧ RKs W blk off ks := by
        rcases HK.out with hk | hk
        · rw [hk] at hlt; exact absurd hlt (Nat.not_lt_zero _)
        · exact hk
      obtain ⟨c0, c1, c2, c3, c4, c5, c6, c7, hv, hnm, f0, f1, f2, f3, f4, f5, f6, f7⟩ := (RKs.keep hb hks).cells_ q hlt
      have g2 : wr.cell? ⟨blk, off + q * 9 + 2, none⟩ = some c1 := f1
      have g3 : wr.cell? ⟨blk, off + q * 9 + 3, none⟩ = some c2 := f2
      have g4 : wr.cell? ⟨blk, off + q * 9 + 4, none⟩ = some c3 := f3
      have g5 : wr.cell? ⟨blk, off + q * 9 + 5, none⟩ = some c4 := f4
      have g6 : wr.cell? ⟨blk, off + q * 9 + 6, none⟩ = some c5 := f5
      have g7 : wr.cell? ⟨blk, off + q * 9 + 7, none⟩ = some c6 := f6
      have g8 : wr.cell? ⟨blk, off + q * 9 + 8, none⟩ = some c7 := f7
      clear f1 f2 f3 f4 f5 f6 f7
      have hat := docElems_at ks q hlt
      have hle2 := docElems_le ks (q + 1)
      have hwt := wtK_at ks q hlt
      obtain ⟨nm, hnme⟩ : ∃ x, x = (ks[q]).1 := ⟨_, rfl⟩
      obtain ⟨kv, hkve⟩ : ∃ x, x = (ks[q]).2 := ⟨_, rfl⟩
      rw [← hnme] at hnm hat
      rw [← hkve] at hv hat hwt
      have hlen : (docElems (ks.take q)).length + (docElemOf nm kv).length ≤ 1000000000000 := by rw [hat, List.length_append] at hle2; omega
      have HAT := Lib.hid hat
      have HV := Lib.hid hv
      clear hat hv hnme hkve hle2
      go_wp2_with fail
      refine (docElem N HVN.out nm kv c0 c1 c2 c3 c4 c5 c6 c7 wr (by omega) (by omega) HV.out).mono ?_
      rintro e w1 ⟨v1, rfl, ho1, hb1⟩
      obtain ⟨A1, d1, rfl, hs1, -⟩ := ho1.sb
      have hz1 := hb1.size
      go_wp2_with (refine wp_app (.tmp 12) (.tmp 17) 22 rfl rfl infoB Tryz.underlying22 _ W.heap.size _ (docElems (ks.take q)) _ _ (docElemOf nm kv) rfl rfl (ho.keep hb1) hs1 (by omega) (by omega) ?_; intro v2 w2 h2)
      have hb2 := bgrown (bstep hb hz hb1) (by omega) h2.grown (fun k hk => ((ho.keep hb1).lt k hk).1)
      go_roundw
      case rel => exact ⟨q + 1, by omega, by go_num, by rw [HAT.out]; exact h2.own, hb2⟩
      case measure => simp [intOf]; omega
    · have hqe : ks.take q = ks := List.take_of_length_le (by omega)
      rw [hqe] at ho
      clear hqe hle
      obtain ⟨Ab, cb, rfl, hsb, hab⟩ := ho.sb
      go_wp2_with fail
      refine (docInt32 wr W.heap.size (.slice none 0 0) [] (((docElems ks).length : Int) + 5) (OB.nil _ _) hz (by simp)).mono ?_
      rintro e w1 ⟨v1, rfl, h1⟩
      have hb1 := h1.fresh
      have hz1 := hb1.size
      have hs1 := hsb.keep hb1
      go_wp2_with (first | (refine wp_app (.tmp 23) (.tmp 24) 22 rfl rfl infoB Tryz.underlying22 _ W.heap.size _ ([] ++ i32 (((docElems ks).length : Int) + 5)) _ _ (docElems ks) rfl rfl h1.own hs1 (by omega) (by simp [i32]; omega) ?_; intro v2 w2 h2; have hz2 := h2.size) | (refine wp_app (.tmp 26) (.tmp 27) 22 rfl rfl infoB Tryz.underlying22 _ W.heap.size _ ([] ++ i32 (((docElems ks).length : Int) + 5) ++ docElems ks) _ _ [0] rfl rfl (h2.own.alloc _) (SB.lit_ _ _ _ ?h1 (by simp) _ rfl) (by simp; omega) (by simp [i32]; omega) ?_; (case h1 => simp [byv]); intro v3 w3 h3))
      go_ret
      have hall := (h1.trans h2).trans (h3.pre (balloc (Below.refl _ _) (Nat.le_refl _) _))
      exact HF.out v3 w3 ⟨by simpa [docBytesOf] using hall.own, bstep hb hz hall.fresh⟩
end Go.Proofs.YtohfgfbfohkkkaaGreatDoor.X
