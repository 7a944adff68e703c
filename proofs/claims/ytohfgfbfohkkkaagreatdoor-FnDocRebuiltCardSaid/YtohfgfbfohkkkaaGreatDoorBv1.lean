/- Put together: BuiltV, BuiltVs. -/
import Derived.Test.YtohfgfbfohkkkaaGreatDoorRb1
import Derived.Test.YtohfgfbfohkkkaaGreatDoorHead
import Derived.Test.YtohfgfbfohkkkaaGreatDoorAw
import Derived.Test.YtohfgfbfohkkkaaGreatDoorOwnN
/- bsoncore.AppendValueElement, the builder's AppendValue, and impl.BuiltValues. -/
set_option linter.unusedVariables false
set_option linter.unusedSimpArgs false
set_option maxRecDepth 100000
namespace Go.Proofs.YtohfgfbfohkkkaaGreatDoor.X
open Go.RowKit Go.Proofs.YtohfgfbfohkkkaaGreatDoorW.PrintLast
namespace Ck
open Sp Al Av Aw
def R31.T1 : Bool × List (List Nat × List Nat) := (true, [([], []), ([], []), ([1], [1]), ([2], [2]), ([3], [3]), ([], []), ([], []), ([4, 5, 6], [4, 5, 6]), ([0, 0, 1, 2, 3, 4, 5, 6, 7], [0]), ([8, 0, 1, 2, 3, 4, 5, 6, 7], [8]), ([9, 7, 7, 0, 1, 2, 3, 4, 5, 6, 7], [7, 9])])
def R31.B1 : List Nat := [0, 0, 2, 6, 14, 0, 0, 126, 255, 511, 1023]
theorem R31.tab1 : rtab .any (opsOf Tryz.f31 1) = R31.T1 := by kernel_rfl
theorem R31.bits1 : waitsOk R31.T1.2 R31.B1 = true := by kernel_rfl
theorem sb_grownB {W w1 : World} {A : Option Addr} {c : Nat} {m : List UInt8} {row : Option Nat} (h : SB W A c m) (hg : W.grownBy w1 row) (hne : 0 < m.length → ∀ a, A = some a → row ≠ some a.block) : SB w1 A c m :=
  ⟨h.le, h.cap, fun hp => by
    obtain ⟨b, off, e, hc⟩ := h.cells hp
    refine ⟨b, off, e, fun j hj => ?_⟩
    have h1 := hc j hj
    have hlt : b < W.heap.size := World.block_lt_of_cell? _ _ h1
    have hb := hg.block b hlt (fun e2 => hne hp _ e e2.symm)
    rw [← h1]
    simp only [World.cell?, hb]⟩
/-- A kind, a name and a value behind bytes of the call's own. -/
theorem appValEl (W W0 : World) (base : Nat) (v : Value) (l : List UInt8) (k : Int) (s : ByteArray) (D : Option Addr) (d : Nat) (m : List UInt8) (h0 : 0 ≤ k) (h1 : k ≤ 255) (hp : plainB s.data.toList = true) (hs1 : s.size ≤ 20000) (hm : m.length ≤ 20000) (hs : SB W0 D d m) (hb0 : Below W0.heap.size W0 W) (hle : W0.heap.size ≤ base) (HO : OB 5 W base v l) (hbase : base ≤ W.heap.size) (hl : l.length ≤ 1000000) :
    Calls Tryz.prog 75 #[v, .string s, .agg #[.int .u8 k, .slice D m.length d]] W (After fun v1 w1 => App (E := 5) W base v (l ++ (hd k s.data.toList ++ m)) v1 w1) := by
  have HH := Lib.hid (fun wx (hx : Below W.heap.size W wx) => Hd.appHeaderN wx base v l k s h0 h1 hp (by omega) (HO.keep hx) (by have := hx.size; omega) (by omega))
  have HSB : Hid (∀ wx v1 l1 w1, Below W.heap.size W wx → App (E := 5) wx base v l1 v1 w1 → SB w1 D d m) := Lib.hid fun wx v1 l1 w1 hx h => hs.keep (hb0.trans ((hx.mono hb0.size).trans ((h.kept (HO.keep hx) (by have := hx.size; omega)).mono hle)))
  have HNE : Hid (some W.heap.size ≠ v.ownBlock) := Lib.hid (fun e => by have := (HO.lt _ e.symm).2; omega)
  obtain ⟨q, hq⟩ : ∃ q, q = m.length := ⟨_, rfl⟩
  have hB0 : Below W.heap.size W (W.alloc (.cells #[.int .u8 k, .slice D q d] 71)) := balloc (Below.refl _ _) (Nat.le_refl _) _
  have HNW := Lib.hid (heap_alloc_new W (.cells #[.int .u8 k, .slice D q d] 71))
  have HQ := Lib.hid hq
  have HM : Hid (m.length ≤ 20000 ∧ l.length ≤ 1000000 ∧ base ≤ W.heap.size ∧ s.size ≤ 20000) := Lib.hid ⟨hm, hl, hbase, hs1⟩
  rw [← List.append_assoc, ← hq]
  obtain ⟨l1, hl1⟩ : ∃ x, x = l ++ hd k s.data.toList := ⟨_, rfl⟩
  have HQ1 : Hid (l1.length = l.length + (s.size + 2)) := Lib.hid (by rw [hl1, List.length_append]; simp [hd, size_data])
  rw [← hl1] at HH ⊢
  clear hl1 HO h0 h1 hp hs1 hm hs hb0 hle hbase hl hq
  go_enter Tryz.func75, Tryz.ntmps75
  go_wp2_with fail
  refine (HH.out _ hB0).mono ?_
  rintro e w1 ⟨v1, rfl, h⟩
  have hx1 : w1.heap[W.heap.size]? = _ := (h.grown.block W.heap.size (by simp) HNE.out).trans HNW.out
  have q1 : w1.cell? ⟨W.heap.size, 1, none⟩ = some (.slice D q d) := by simp only [World.cell?, hx1]; rfl
  have hz := h.size
  have ho1 := h.own
  have hsb := HSB.out _ _ _ _ hB0 h
  have H1 := Lib.hid (h.pre hB0)
  obtain ⟨A1, c1, rfl, -, -⟩ := ho1.sb
  clear h HH hx1
  go_wp2_with (first | (refine wp_app (.tmp 12) (.tmp 14) 22 rfl rfl infoB Tryz.underlying22 _ base _ l1 D d m rfl ?b0 ?b1 ?b2 ?b3 ?b4 ?_) | fail)
  case b0 => rw [← HQ.out]; rfl
  case b1 => exact ho1
  case b2 => exact hsb
  case b3 => have := HM.out; simp at hz; omega
  case b4 => have := HM.out; have := HQ1.out; omega
  intro v4 w4 h4
  have HE := Lib.hid (H1.out.trans h4)
  clear h4 ho1 hsb
  go_wp2_with fail
  go_ret
  exact ⟨v4, rfl, HE.out⟩
set_option maxHeartbeats 1600000 in
theorem appVal (W W0 : World) (base B : Nat) (l : List UInt8) (k : Int) (s : ByteArray) (D : Option Addr) (d : Nat) (m : List UInt8) (h0 : 0 ≤ k) (h1 : k ≤ 255) (hp : plainB s.data.toList = true) (hs1 : s.size ≤ 20000) (hm : m.length ≤ 20000) (hs : SB W0 D d m) (hb0 : Below W0.heap.size W0 W) (hle : W0.heap.size ≤ base) (hB : B < base) (hbase : base ≤ W.heap.size) (h : Bld W base B l) (hl : l.length ≤ 1000000) :
    Calls Tryz.prog 31 #[.pointer (some ⟨B, 0, none⟩), .string s, .agg #[.int .u8 k, .slice D m.length d]] W fun e w' => e = .returned (.pointer (some ⟨B, 0, none⟩)) ∧ Bld w' base B (l ++ (hd k s.data.toList ++ m)) ∧ Below B W w' := by
  obtain ⟨A, c, Ai, ci, hbx, ho, hg⟩ := h
  have q0 : W.cell? ⟨B, 0, none⟩ = some (.slice A l.length c) := by simp only [World.cell?, hbx]; rfl
  have HC := Lib.hid (fun wx (hx : Below W.heap.size W wx) => appValEl wx W0 base _ l k s D d m h0 h1 hp hs1 hm hs (hb0.trans (hx.mono hb0.size)) hle (ho.keep hx) (by have := hx.size; omega) hl)
  have HBX := Lib.hid hbx
  have HO := Lib.hid ho
  have HG := Lib.hid hg
  have HH : Hid (B < base ∧ base ≤ W.heap.size) := Lib.hid ⟨hB, hbase⟩
  have hlt0 : B < W.heap.size := by omega
  obtain ⟨n, hn⟩ : ∃ n, n = l.length := ⟨_, rfl⟩
  obtain ⟨q, hq⟩ : ∃ q, q = m.length := ⟨_, rfl⟩
  rw [← hn] at q0 HC HBX HO
  rw [← hq] at HC ⊢
  have HN := Lib.hid hn
  obtain ⟨l2, hl2⟩ : ∃ x, x = l ++ (hd k s.data.toList ++ m) := ⟨_, rfl⟩
  rw [← hl2] at HC ⊢
  have hB0 : Below W.heap.size W (W.alloc (.cells #[.int .u8 k, .slice D q d] 71)) := balloc (Below.refl _ _) (Nat.le_refl _) _
  have HNW := Lib.hid (heap_alloc_new W (.cells #[.int .u8 k, .slice D q d] 71))
  clear h0 h1 hp hs1 hm hs hb0 hle hB hbase hl hbx ho hg hn hq hl2
  go_enter Tryz.func31, Tryz.ntmps31
  go_wp2_with fail
  refine start_ (n := 11) (S := fun w' => w'.cell? ⟨B, 0, none⟩ = some (.slice A n c) ∧ w'.cell? ⟨W.heap.size, 0, none⟩ = some (.int .u8 k) ∧ w'.cell? ⟨W.heap.size, 1, none⟩ = some (.slice D q d)) (ds := [10]) #[false, false, false, false, false, false, false, false, false, false, false] (by kernel_rfl) rfl rfl ⟨(by exact (hB0.cell (World.block_lt_of_cell? _ _ q0)).trans q0), (by go_simp), (by go_simp)⟩ (fun hHeld => ?_)
  refine with_tabW R31.tab1 R31.bits1 (fun HT_ HW_ => ?_)
  refine pure_ (i := 0) (N := some 7) (v := ?_) (a' := ?_) #[true, false, false, false, false, false, false, false, false, false, false] rfl rfl (any_of HT_.out (by kernel_rfl)) (fun _ _ _ h => h) (Or.inl ⟨by rfl, ?_⟩) ?_ ?_
  rotate_left
  · intro w'
    go_simp
    with_reducible rfl
  rotate_left
  · simp only [Act.put, List.setIfInBounds_toArray, List.set_cons_zero, List.set_cons_succ, i64_w, i32_w]
    rfl
  refine pure_ (i := 1) (N := some 8) (v := ?_) (a' := ?_) #[true, true, false, false, false, false, false, false, false, false, false] rfl rfl (any_of HT_.out (by kernel_rfl)) (fun _ _ _ h => h) (Or.inl ⟨by rfl, ?_⟩) ?_ ?_
  rotate_left
  · intro w'
    go_simp
    with_reducible rfl
  rotate_left
  · simp only [Act.put, List.setIfInBounds_toArray, List.set_cons_zero, List.set_cons_succ, i64_w, i32_w]
    rfl
  refine pure_ (i := 2) (N := some 9) (v := ?_) (a' := ?_) #[true, true, true, false, false, false, false, false, false, false, false] rfl rfl (any_of HT_.out (by kernel_rfl)) (fun _ _ _ h => h) (Or.inl ⟨by rfl, ?_⟩) ?_ ?_
  rotate_left
  · intro w'
    go_simp
    with_reducible rfl
  rotate_left
  · simp only [Act.put, List.setIfInBounds_toArray, List.set_cons_zero, List.set_cons_succ, i64_w, i32_w]
    rfl
  refine pure_ (i := 3) (N := some 10) (v := ?_) (a' := ?_) #[true, true, true, true, false, false, false, false, false, false, false] rfl rfl (any_of HT_.out (by kernel_rfl)) (fun _ _ _ h => h) (Or.inl ⟨by rfl, ?_⟩) ?_ ?_
  rotate_left
  · intro w'
    go_simp
    with_reducible rfl
  rotate_left
  · simp only [Act.put, List.setIfInBounds_toArray, List.set_cons_zero, List.set_cons_succ, i64_w, i32_w]
    rfl
  refine pure_ (i := 5) (N := some 12) (v := ?_) (a' := ?_) #[true, true, true, true, false, true, false, false, false, false, false] rfl rfl (any_of HT_.out (by kernel_rfl)) (fun _ _ _ h => h) (Or.inl ⟨by rfl, ?_⟩) ?_ ?_
  rotate_left
  · intro w'
    go_simp
    with_reducible rfl
  rotate_left
  · simp only [Act.put, List.setIfInBounds_toArray, List.set_cons_zero, List.set_cons_succ, i64_w, i32_w]
    rfl
  refine take_ (i := 4) (N := some 11) (v := ?_) (a' := ?_) #[true, true, true, true, true, true, false, false, false, false, false] rfl rfl (take_ofW HT_.out HW_.out (by kernel_rfl)) (fun _ _ _ h => h) (Or.inl ⟨by rfl, ?_⟩) hHeld ?_ ?_
  rotate_left
  · rintro w' ⟨s0, s1, s2⟩
    go_simp
    with_reducible rfl
  rotate_left
  · simp only [Act.put, List.setIfInBounds_toArray, List.set_cons_zero, List.set_cons_succ, i64_w, i32_w]
    rfl
  refine take_ (i := 6) (N := some 13) (v := ?_) (a' := ?_) #[true, true, true, true, true, true, true, false, false, false, false] rfl rfl (take_ofW HT_.out HW_.out (by kernel_rfl)) (fun _ _ _ h => h) (Or.inl ⟨by rfl, ?_⟩) hHeld ?_ ?_
  rotate_left
  · rintro w' ⟨s0, s1, s2⟩
    go_simp
    with_reducible rfl
  rotate_left
  · simp only [Act.put, List.setIfInBounds_toArray, List.set_cons_zero, List.set_cons_succ, i64_w, i32_w]
    rfl
  refine one_ (i := 7) (N := some 14) #[true, true, true, true, true, true, true, true, false, false, false] rfl rfl (one_of HT_.out (by kernel_rfl)) (by decide) (fun K hK => ?_)
  refine goes_ Tryz.func75 (by kernel_rfl) rfl #[.slice A n c, .string s, .agg #[.int .u8 k, .slice D q d]] (by rfl) rfl rfl (by simp only [List.map_toArray, List.map_cons, List.map_nil]; rfl) ?_
  with_reducible refine (HC.out _ (by exact bdrew hB0)).mono ?_
  rintro e w3 ⟨v3, rfl, hap⟩
  refine ⟨_, rfl, ?_⟩
  have hne : some B ≠ (Value.slice A n c).ownBlock := fun e => by have h1 := (HO.out.lt B e.symm).1; have h2 := HH.out.1; omega
  have hne2 : some W.heap.size ≠ (Value.slice A n c).ownBlock := fun e => by have h1 := (HO.out.lt _ e.symm).2; omega
  have hbx3 : w3.heap[B]? = _ := (hap.grown.block B (by simp; omega) hne).trans ((hB0.block B hlt0).trans HBX.out)
  have hcg : w3.heap[W.heap.size]? = _ := (hap.grown.block W.heap.size (by simp) hne2).trans HNW.out
  have hz3 := hap.size
  have r0 : w3.cell? ⟨B, 0, none⟩ = some (.slice A n c) := by simp only [World.cell?, hbx3]; rfl
  have r1 : w3.cell? ⟨W.heap.size, 0, none⟩ = some (.int .u8 k) := by simp only [World.cell?, hcg]; rfl
  have r2 : w3.cell? ⟨W.heap.size, 1, none⟩ = some (.slice D q d) := by simp only [World.cell?, hcg]; rfl
  have g0 : w3.frozen? ⟨B, 0, none⟩ = false := by simp only [World.frozen?, hbx3]; rfl
  have hlt3 : B < w3.heap.size := by simp at hz3; omega
  have ho3 := hap.own
  obtain ⟨A3, c3, rfl, hs3, -⟩ := ho3.sb
  refine hK.out _ _ ⟨r0, r1, r2⟩ (fun hHeld => ?_)
  clear hK K
  refine norm_ (a' := ?_) ?_ ?_
  rotate_left
  · show Act.put _ (some 14) _ = _
    simp only [Act.put, List.setIfInBounds_toArray, List.set_cons_zero, List.set_cons_succ, i64_w, i32_w]
    rfl
  refine pure_ (i := 8) (N := some 15) (v := ?_) (a' := ?_) #[true, true, true, true, true, true, true, true, true, false, false] rfl rfl (any_of HT_.out (by kernel_rfl)) (fun _ _ _ h => h) (Or.inl ⟨by rfl, ?_⟩) ?_ ?_
  rotate_left
  · intro w'
    go_simp
    with_reducible rfl
  rotate_left
  · simp only [Act.put, List.setIfInBounds_toArray, List.set_cons_zero, List.set_cons_succ, i64_w, i32_w]
    rfl
  refine pure_ (i := 9) (N := some 16) (v := ?_) (a' := ?_) #[true, true, true, true, true, true, true, true, true, true, false] rfl rfl (any_of HT_.out (by kernel_rfl)) (fun _ _ _ h => h) (Or.inl ⟨by rfl, ?_⟩) ?_ ?_
  rotate_left
  · intro w'
    go_simp
    with_reducible rfl
  rotate_left
  · simp only [Act.put, List.setIfInBounds_toArray, List.set_cons_zero, List.set_cons_succ, i64_w, i32_w]
    rfl
  refine last_ (i := 10) (N := none) #[true, true, true, true, true, true, true, true, true, true, true] rfl rfl (one_of HT_.out (by kernel_rfl)) (by decide) (fun K hK => ?_)
  refine skip_ (w1 := ?_) (by rfl) rfl ?_ ?_
  rotate_left
  · go_simp
    rfl
  refine hK.out _ _ ?_
  clear hK K
  refine done_ (done_of HT_.out (by kernel_rfl)) ?_
  have hbo := HO.out.keep (bdrew hB0)
  have hb3 : Below base W w3 := (bdrew (balloc (Below.refl _ _) HH.out.2 _)).trans (hap.kept hbo (by have := HH.out.2; simp; omega))
  have hg3 := (HG.out.keep (bdrew hB0)).other hap.grown (apart (by decide) hbo (HG.out.keep (bdrew hB0)))
  have HB3 : Hid (Below B W w3) := Lib.hid (hb3.mono (by have := HH.out.1; omega))
  have HBX3 := Lib.hid hbx3
  have HO3 := Lib.hid ho3
  have HG3 := Lib.hid hg3
  obtain ⟨m2, hm2⟩ : ∃ m2, m2 = l2.length := ⟨_, rfl⟩
  rw [← hm2] at HO3 ⊢
  have HM2 := Lib.hid hm2
  clear hap ho3 hs3 hb3 hne hne2 hbx3 hcg hz3 HC q0 hbo hg3 hm2
  go_wp2_with fail
  go_ret
  refine ⟨rfl, ⟨A3, c3, Ai, ci, ?_, ?_, ?_⟩, HB3.out.setCell (Nat.le_refl _) _⟩
  · have := heap_setCell_same w3 B 0 _ _ (.slice A3 m2 c3) HBX3.out
    rw [← HM2.out]
    simpa using this
  · rw [← HM2.out]
    exact OB.far HO3.out HH.out.1 _
  · exact OG.far HG3.out HH.out.1 _
end Ck
end Go.Proofs.YtohfgfbfohkkkaaGreatDoor.X


/- impl.BuiltValues: names and values put together again. -/
set_option linter.unusedVariables false
set_option linter.unusedSimpArgs false
set_option maxRecDepth 100000
namespace Go.Proofs.YtohfgfbfohkkkaaGreatDoor.X
open Go.RowKit Go.Proofs.YtohfgfbfohkkkaaGreatDoorW.PrintLast
namespace Ck
open Sp Al Av Aw
def R14.T5 : Bool × List (List Nat × List Nat) := (true, [([], []), ([], []), ([], []), ([1, 2], [1, 2]), ([3], [3]), ([], []), ([5], [5]), ([0, 4, 6, 6], [0, 4, 6])])
def R14.B5 : List Nat := [0, 0, 0, 6, 14, 0, 32, 127]
theorem R14.tab5 : rtab .any (opsOf Tryz.f14 5) = R14.T5 := by kernel_rfl
theorem R14.bits5 : waitsOk R14.T5.2 R14.B5 = true := by kernel_rfl
/-- An element: kind, name, value. -/
abbrev Tr := UInt8 × List UInt8 × List UInt8
def trB (x : Tr) : List UInt8 := x.1 :: (x.2.1 ++ 0 :: x.2.2)
def nmV (x : Tr) : Value := .string ⟨x.2.1.toArray⟩
theorem trB_hd (x : Tr) : hd (x.1.toNat : Int) x.2.1 ++ x.2.2 = trB x := by
  have : ub (x.1.toNat : Int) = x.1 := by
    apply UInt8.toNat_inj.1
    have h1 := ub_toNat (x.1.toNat : Int)
    have h2 := x.1.toNat_lt
    omega
  simp [hd, trB, this]
/-- The values of elements in a row of two cells each. -/
structure RawAt (w : World) (g go i : Nat) (x : Tr) : Prop where
  ex : ∃ D d, w.cell? ⟨g, go + i * 2, none⟩ = some (.int .i64 (x.1.toNat : Int)) ∧ w.cell? ⟨g, go + i * 2 + 1, none⟩ = some (.slice D x.2.2.length d) ∧ SB w D d x.2.2
theorem implCoreB (A : Option Addr) (n c : Nat) (k : Int) (w : World) (h0 : 0 ≤ k) (h1 : k ≤ 255) :
    Calls Tryz.prog 32 #[.agg #[.int .i64 k, .slice A n c]] w fun e w' => e = .returned (.agg #[.int .u8 k, .slice A n c]) ∧ Below w.heap.size w w' := by
  have hw : k % 256 = k := by omega
  go_enter Tryz.func32, Tryz.ntmps32
  go_wp2_with fail
  exact bodyPost_ret (v := .agg #[.int .u8 k, .slice A n c]) (by simp [results, Tryz.results32, go_sem, hw]) rfl ⟨rfl, by exact balloc (balloc (Below.refl _ _) (Nat.le_refl _) _) (by simp) _⟩
theorem bldKeep {w w1 : World} {base B : Nat} {l : List UInt8} (h : Bld w base B l) (hx : Below w.heap.size w w1) (hB : B < w.heap.size) : Bld w1 base B l := by
  obtain ⟨A, c, Ai, ci, hbx, ho, hg⟩ := h
  exact ⟨A, c, Ai, ci, (hx.block B hB).trans hbx, ho.keep hx, hg.keep hx⟩
theorem tr_take (T : List Tr) (q : Nat) (h : q < T.length) : ((T.take (q + 1)).map trB).flatten = ((T.take q).map trB).flatten ++ trB T[q] := by
  rw [List.take_succ_eq_append_getElem h, List.map_append, List.flatten_append]
  simp
theorem tr_le (T : List Tr) (q : Nat) : (((T.take q).map trB).flatten).length ≤ ((T.map trB).flatten).length := by
  rw [List.map_take]
  exact flat_take (T.map trB) q
theorem tr_one (T : List Tr) (q : Nat) (h : q < T.length) : (trB T[q]).length ≤ ((T.map trB).flatten).length := by
  have := flat_one (T.map trB) q (by simpa using h)
  simpa using this
theorem trB_len (x : Tr) : (trB x).length = 2 + x.2.1.length + x.2.2.length := by simp [trB]; omega
set_option maxHeartbeats 4000000 in
theorem builtVals (W : World) (An : Option Addr) (cn : Nat) (Av : Option Addr) (cv : Nat) (T : List Tr) (hN : GS W An cn (T.map nmV)) (hV : T = [] ∨ ∃ g go, Av = some ⟨g, go, none⟩ ∧ ∀ i (hi : i < T.length), RawAt W g go i T[i]) (hcv : T.length ≤ cv) (hp : ∀ x ∈ T, plainB x.2.1 = true) (hT1 : T.length ≤ 20000) (hT2 : ((T.map trB).flatten).length ≤ 20000) :
    Calls Tryz.prog 14 #[.slice An T.length cn, .slice Av T.length cv] W fun e w' => ∃ A c, e = .returned (.slice A (i32 ((((T.map trB).flatten).length : Int) + 5) ++ ((T.map trB).flatten ++ [0])).length c) ∧ SB w' A c (i32 ((((T.map trB).flatten).length : Int) + 5) ++ ((T.map trB).flatten ++ [0])) ∧ Below W.heap.size W w' := by
  have HNB := Lib.hid (newBuilder W)
  have HBD : Hid (∀ wr, Bld wr (W.heap.size + 1) W.heap.size ([0, 0, 0, 0] ++ ((T.take T.length).map trB).flatten) → W.heap.size + 1 ≤ wr.heap.size → Calls Tryz.prog 33 #[.pointer (some ⟨W.heap.size, 0, none⟩)] wr fun e w' => ∃ A c, e = .returned (.slice A (i32 ((((T.map trB).flatten).length : Int) + 5) ++ ((T.map trB).flatten ++ [0])).length c) ∧ SB w' A c (i32 ((((T.map trB).flatten).length : Int) + 5) ++ ((T.map trB).flatten ++ [0])) ∧ Below W.heap.size wr w') := Lib.hid fun wr h hz => by
    rw [List.take_length] at h
    exact buildDoc wr _ _ _ (Nat.lt_succ_self _) hz h (by omega)
  obtain ⟨R, hR⟩ : ∃ R, R = i32 ((((T.map trB).flatten).length : Int) + 5) ++ ((T.map trB).flatten ++ [0]) := ⟨_, rfl⟩
  obtain ⟨n, hn⟩ : ∃ n, n = T.length := ⟨_, rfl⟩
  rw [← hR] at HBD ⊢
  rw [← hn]
  have HN := Lib.hid hn
  have HNM := Lib.hid hN
  have HVV := Lib.hid hV
  have HP := Lib.hid hp
  have HT : Hid (n ≤ 20000 ∧ ((T.map trB).flatten).length ≤ 20000 ∧ n ≤ cv) := Lib.hid ⟨by omega, hT2, by omega⟩
  clear hN hV hcv hp hT1 hT2 hR hn
  go_enter Tryz.func14, Tryz.ntmps14
  go_wp2_with fail
  refine HNB.out.mono ?_
  rintro e w1 ⟨rfl, hbld, hb1⟩
  have hz1 : W.heap.size + 1 ≤ w1.heap.size := by
    obtain ⟨A, c, Ai, ci, hbx, -⟩ := hbld
    exact (Array.getElem?_eq_some_iff.1 hbx).1
  have H1 := Lib.hid (And.intro hbld (And.intro hb1 hz1))
  clear hbld hb1 hz1 HNB
  go_wp2_with fail
  go_loopw [11] (fun i wr => ∃ q : Nat, q ≤ n ∧ i = .int .i64 q ∧ Hid (Bld wr (W.heap.size + 1) W.heap.size ([0, 0, 0, 0] ++ ((T.take q).map trB).flatten) ∧ Below W.heap.size W wr ∧ W.heap.size + 1 ≤ wr.heap.size)) (fun i _ => n - (intOf i).toNat)
  case atStart => exact ⟨0, Nat.zero_le _, rfl, Lib.hid (by simpa using H1.out)⟩
  case round =>
    obtain ⟨q, hq, rfl, HA⟩ := hrel
    by_cases hlt : q < n
    · have hqT : q < T.length := by rw [← HN.out]; exact hlt
      obtain ⟨hA1, hA2, hA3⟩ := HA.out
      obtain ⟨g, go, rfl, hraw⟩ : ∃ g go, Av = some ⟨g, go, none⟩ ∧ ∀ i (hi : i < T.length), RawAt W g go i T[i] := by
        rcases HVV.out with h | h
        · rw [h] at hqT; exact absurd hqT (Nat.not_lt_zero _)
        · exact h
      obtain ⟨D, d, e0, e1, hsD⟩ := (hraw q hqT).ex
      obtain ⟨bn, on, rfl, hnc⟩ := HNM.out.cells (by simp; omega)
      have hcn : wr.cell? ⟨bn, on + q, none⟩ = some (nmV T[q]) := by
        have h1 := hnc q (by simpa using hqT)
        have h2 : (T.map nmV)[q]'(by simpa using hqT) = nmV T[q] := by simp
        rw [h2] at h1
        exact (hA2.cell (World.block_lt_of_cell? _ _ h1)).trans h1
      replace e0 := (hA2.cell (World.block_lt_of_cell? _ _ e0)).trans e0
      replace e1 := (hA2.cell (World.block_lt_of_cell? _ _ e1)).trans e1
      have hx255 := (T[q]).1.toNat_lt
      have htl := tr_one T q hqT
      have hbl := trB_len T[q]
      have htk := tr_le T q
      have hT2 := HT.out.2.1
      have hpl := HP.out T[q] (List.getElem_mem hqT)
      have hst := tr_take T q hqT
      have hsz : (⟨(T[q]).2.1.toArray⟩ : ByteArray).size = (T[q]).2.1.length := str_size _
      have HAV : Hid (∀ wx, Below W.heap.size W wx → W.heap.size + 1 ≤ wx.heap.size → Bld wx (W.heap.size + 1) W.heap.size ([0, 0, 0, 0] ++ ((T.take q).map trB).flatten) → Calls Tryz.prog 31 #[.pointer (some ⟨W.heap.size, 0, none⟩), nmV T[q], .agg #[.int .u8 ((T[q]).1.toNat : Int), .slice D (T[q]).2.2.length d]] wx fun e w' => e = .returned (.pointer (some ⟨W.heap.size, 0, none⟩)) ∧ Bld w' (W.heap.size + 1) W.heap.size ([0, 0, 0, 0] ++ ((T.take (q + 1)).map trB).flatten) ∧ Below W.heap.size wx w') := Lib.hid fun wx hx hz hb => by
        have h := appVal wx W (W.heap.size + 1) W.heap.size _ ((T[q]).1.toNat : Int) ⟨(T[q]).2.1.toArray⟩ D d (T[q]).2.2 (by omega) (by omega) hpl (by rw [hsz]; omega) (by omega) hsD hx (Nat.le_succ _) (Nat.lt_succ_self _) hz hb (by rw [List.length_append]; simp only [List.length_cons, List.length_nil]; omega)
        rw [show hd ((T[q]).1.toNat : Int) (⟨(T[q]).2.1.toArray⟩ : ByteArray).data.toList ++ (T[q]).2.2 = trB T[q] from trB_hd _, List.append_assoc, ← hst] at h
        exact h
      have HCO := Lib.hid (fun wx => implCoreB D (T[q]).2.2.length d ((T[q]).1.toNat : Int) wx (by omega) (by omega))
      have hnv : nmV T[q] = .string ⟨(T[q]).2.1.toArray⟩ := rfl
      rw [hnv] at hcn HAV
      obtain ⟨z0, hz0⟩ : ∃ s : ByteArray, s = ⟨(T[q]).2.1.toArray⟩ := ⟨_, rfl⟩
      obtain ⟨k, hk⟩ : ∃ k : Int, k = ((T[q]).1.toNat : Int) := ⟨_, rfl⟩
      obtain ⟨m, hm⟩ : ∃ m : Nat, m = (T[q]).2.2.length := ⟨_, rfl⟩
      rw [← hz0] at hcn HAV
      rw [← hk, ← hm] at HAV HCO
      rw [← hk] at e0
      rw [← hm] at e1
      have hq0 : (0 : Int) ≤ (q : Int) := Int.natCast_nonneg _
      have hq1 : (q : Int) < (n : Int) := by omega
      have hcv := HT.out.2.2
      have hltW : W.heap.size < wr.heap.size := by omega
      clear hsD hraw hnc hx255 htl hbl htk hT2 hpl hst hsz hnv hz0 hk hm hA1 hA2 hA3
      have hBr : Below wr.heap.size wr (wr.alloc (.cells #[.int .i64 k, .slice D m d] 37)) := balloc (Below.refl _ _) (Nat.le_refl _) _
      have hcnA := (hBr.cell (World.block_lt_of_cell? _ _ hcn)).trans hcn
      go_wp2_with fail
      refine start_ (n := 8) (S := fun w' => w'.cell? ⟨bn, on + q, none⟩ = some (.string z0) ∧ w'.cell? ⟨wr.heap.size, 0, none⟩ = some (.int .i64 k) ∧ w'.cell? ⟨wr.heap.size, 1, none⟩ = some (.slice D m d)) (ds := [7]) #[false, false, false, false, false, false, false, false] (by kernel_rfl) rfl rfl ⟨(by exact hcnA), (by go_simp), (by go_simp)⟩ (fun hHeld => ?_)
      refine with_tabW R14.tab5 R14.bits5 (fun HT_ HW_ => ?_)
      refine pure_ (i := 0) (N := some 16) (v := ?_) (a' := ?_) #[true, false, false, false, false, false, false, false] rfl rfl (any_of HT_.out (by kernel_rfl)) (fun _ _ _ h => h) (Or.inl ⟨by rfl, ?_⟩) ?_ ?_
      rotate_left
      · intro w'
        go_simp
        with_reducible rfl
      rotate_left
      · simp only [Act.put, List.setIfInBounds_toArray, List.set_cons_zero, List.set_cons_succ, i64_w, i32_w]
        rfl
      refine pure_ (i := 1) (N := some 17) (v := ?_) (a' := ?_) #[true, true, false, false, false, false, false, false] rfl rfl (any_of HT_.out (by kernel_rfl)) (fun _ _ _ h => h) (Or.inl ⟨by rfl, ?_⟩) ?_ ?_
      rotate_left
      · intro w'
        go_simp
        with_reducible rfl
      rotate_left
      · simp only [Act.put, List.setIfInBounds_toArray, List.set_cons_zero, List.set_cons_succ, i64_w, i32_w]
        rfl
      refine pure_ (i := 2) (N := some 18) (v := ?_) (a' := ?_) #[true, true, true, false, false, false, false, false] rfl rfl (any_of HT_.out (by kernel_rfl)) (fun _ _ _ h => h) (Or.inl ⟨by rfl, ?_⟩) ?_ ?_
      rotate_left
      · intro w'
        go_simp
        with_reducible rfl
      rotate_left
      · simp only [Act.put, List.setIfInBounds_toArray, List.set_cons_zero, List.set_cons_succ, i64_w, i32_w]
        rfl
      refine pure_ (i := 3) (N := some 19) (v := ?_) (a' := ?_) #[true, true, true, true, false, false, false, false] rfl rfl (any_of HT_.out (by kernel_rfl)) (fun _ _ _ h => h) (Or.inl ⟨by rfl, ?_⟩) ?_ ?_
      rotate_left
      · intro w'
        go_simp
        with_reducible rfl
      rotate_left
      · simp only [Act.put, List.setIfInBounds_toArray, List.set_cons_zero, List.set_cons_succ, i64_w, i32_w]
        rfl
      refine take_ (i := 4) (N := some 20) (v := ?_) (a' := ?_) #[true, true, true, true, true, false, false, false] rfl rfl (take_ofW HT_.out HW_.out (by kernel_rfl)) (fun _ _ _ h => h) (Or.inl ⟨by rfl, ?_⟩) hHeld ?_ ?_
      rotate_left
      · rintro w' ⟨s0, s1, s2⟩
        go_simp
        with_reducible rfl
      rotate_left
      · simp only [Act.put, List.setIfInBounds_toArray, List.set_cons_zero, List.set_cons_succ, i64_w, i32_w]
        rfl
      refine take_ (i := 5) (N := some 21) (v := ?_) (a' := ?_) #[true, true, true, true, true, true, false, false] rfl rfl (take_ofW HT_.out HW_.out (by kernel_rfl)) (fun _ _ _ h => h) (Or.inl ⟨by rfl, ?_⟩) hHeld ?_ ?_
      rotate_left
      · rintro w' ⟨s0, s1, s2⟩
        go_simp
        with_reducible rfl
      rotate_left
      · simp only [Act.put, List.setIfInBounds_toArray, List.set_cons_zero, List.set_cons_succ, i64_w, i32_w]
        rfl
      refine one_ (i := 6) (N := some 22) #[true, true, true, true, true, true, true, false] rfl rfl (one_of HT_.out (by kernel_rfl)) (by decide) (fun K hK => ?_)
      refine goes_ Tryz.func32 (by kernel_rfl) rfl #[.agg #[.int .i64 k, .slice D m d]] (by rfl) rfl rfl (by simp only [List.map_toArray, List.map_cons, List.map_nil]; rfl) ?_
      with_reducible refine (HCO.out _).mono ?_
      rintro e w3 ⟨rfl, hb3⟩
      refine ⟨_, rfl, ?_⟩
      have hB3 : Below wr.heap.size wr w3 := bthen' (bdrew hBr) hb3 (by simp)
      refine hK.out _ _ ⟨((hb3.cell (World.block_lt_of_cell? _ _ hHeld.1)).trans hHeld.1), ((hb3.cell (World.block_lt_of_cell? _ _ hHeld.2.1)).trans hHeld.2.1), ((hb3.cell (World.block_lt_of_cell? _ _ hHeld.2.2)).trans hHeld.2.2)⟩ (fun hHeld => ?_)
      clear hK K
      refine norm_ (a' := ?_) ?_ ?_
      rotate_left
      · show Act.put _ (some 22) _ = _
        simp only [Act.put, List.setIfInBounds_toArray, List.set_cons_zero, List.set_cons_succ, i64_w, i32_w]
        rfl
      refine last_ (i := 7) (N := some 23) #[true, true, true, true, true, true, true, true] rfl rfl (one_of HT_.out (by kernel_rfl)) (by decide) (fun K hK => ?_)
      refine goes_ Tryz.func31 (by kernel_rfl) rfl #[.pointer (some ⟨W.heap.size, 0, none⟩), .string z0, .agg #[.int .u8 k, .slice D m d]] (by rfl) rfl rfl (by simp only [List.map_toArray, List.map_cons, List.map_nil]; rfl) ?_
      with_reducible refine (HAV.out _ (bthen HA.out.2.1 hB3) (Nat.le_trans HA.out.2.2 hB3.size) (bldKeep HA.out.1 hB3 hltW)).mono ?_
      rintro e w4 ⟨rfl, h4, hb4⟩
      refine ⟨_, rfl, ?_⟩
      refine hK.out _ _ ?_
      clear hK K
      refine norm_ (a' := ?_) ?_ ?_
      rotate_left
      · show Act.put _ (some 23) _ = _
        simp only [Act.put, List.setIfInBounds_toArray, List.set_cons_zero, List.set_cons_succ, i64_w, i32_w]
        rfl
      refine done_ (done_of HT_.out (by kernel_rfl)) ?_
      have HE : Hid (Bld w4 (W.heap.size + 1) W.heap.size ([0, 0, 0, 0] ++ ((T.take (q + 1)).map trB).flatten) ∧ Below W.heap.size W w4 ∧ W.heap.size + 1 ≤ w4.heap.size) := Lib.hid ⟨h4, (bthen HA.out.2.1 hB3).trans hb4, Nat.le_trans (Nat.le_trans HA.out.2.2 hB3.size) hb4.size⟩
      clear h4 hb4 hb3 hB3 hcn hcnA e0 e1 HAV HCO hBr
      have hw64 : wrap64 ((q : Int) + 1) = (q : Int) + 1 := w64D hlt (by have := HT.out; omega)
      go_wp2_with fail
      go_roundw
      case rel => exact ⟨q + 1, by omega, by go_num, HE⟩
      case measure => first | exact measD hlt | (rw [hw64]; exact measD hlt)
    · have hqn : q = n := by omega
      subst hqn
      have HX := Lib.hid (HBD.out wr (by have := HA.out.1; rwa [HN.out] at this) HA.out.2.2)
      go_wp2_with fail
      refine HX.out.mono ?_
      rintro e w2 ⟨A2, c2, rfl, hs2, hb2⟩
      have HS2 := Lib.hid hs2
      have HB2 := Lib.hid (HA.out.2.1.trans hb2)
      clear hs2 hb2 HX
      go_wp2_with fail
      go_ret
      exact ⟨A2, c2, rfl, HS2.out, HB2.out⟩
end Ck
end Go.Proofs.YtohfgfbfohkkkaaGreatDoor.X


