/- Contract of bson.ObjectIDFromHex. -/
import Derived.Test.YtfpnhlfmnoikhabDoorOwn
import Derived.Test.YtfpnhlfmnoikhabDoorFresh
import Derived.Test.YtfpnhlfmnoikhabDoorWLast
import Derived.Test.YtfpnhlfmnoikhabDoorWTab
import Derived.Shelf.Hex.Tagged
import Derived.Shelf.Lay
import Derived.Ground.PaProg
set_option linter.unusedVariables false
set_option linter.unusedSimpArgs false
set_option maxRecDepth 100000
namespace Go.Proofs.YtfpnhlfmnoikhabDoor
open Go.Shelf
shelf_lay Lays.p44 Pa 44 at Tryd as Tryd.hexDecode
end Go.Proofs.YtfpnhlfmnoikhabDoor
namespace Go.Proofs.YtfpnhlfmnoikhabDoor.X
open Go.RowKit Go.Proofs.YtfpnhlfmnoikhabDoorW.PrintLast
def R12.T2 : Bool × List (List Nat × List Nat) := (true, [([], []), ([], []), ([0, 0], [0]), ([1, 2, 0, 1, 2], [1])])
def R12.B2 : List Nat := [0, 0, 1, 7]
theorem R12.tab2 : rtab .any (opsOf Tryd.f12 2) = R12.T2 := by kernel_rfl
theorem R12.bits2 : waitsOk R12.T2.2 R12.B2 = true := by kernel_rfl
theorem oid_short (s : ByteArray) (w : World) (hs : s.size ≤ 140737488351232) (h24 : ¬ s.size = 24) (T : TypeId) (x : Value) (c0 : w.cell? ⟨0, 0, none⟩ = some (.int .u8 0)) (c1 : w.cell? ⟨0, 1, none⟩ = some (.int .u8 0)) (c2 : w.cell? ⟨0, 2, none⟩ = some (.int .u8 0)) (c3 : w.cell? ⟨0, 3, none⟩ = some (.int .u8 0))
    (c4 : w.cell? ⟨0, 4, none⟩ = some (.int .u8 0)) (c5 : w.cell? ⟨0, 5, none⟩ = some (.int .u8 0)) (c6 : w.cell? ⟨0, 6, none⟩ = some (.int .u8 0)) (c7 : w.cell? ⟨0, 7, none⟩ = some (.int .u8 0)) (c8 : w.cell? ⟨0, 8, none⟩ = some (.int .u8 0)) (c9 : w.cell? ⟨0, 9, none⟩ = some (.int .u8 0)) (c10 : w.cell? ⟨0, 10, none⟩ = some (.int .u8 0)) (c11 : w.cell? ⟨0, 11, none⟩ = some (.int .u8 0)) (ce : w.cell? ⟨1, 0, none⟩ = some (.iface T x)) :
    Calls Tryd.prog 12 #[.string s] w fun e w' => e = .returned (.tuple #[.agg #[.int .u8 0, .int .u8 0, .int .u8 0, .int .u8 0, .int .u8 0, .int .u8 0, .int .u8 0, .int .u8 0, .int .u8 0, .int .u8 0, .int .u8 0, .int .u8 0], .iface T x]) ∧ Below w.heap.size w w' := by
  have hne : ((s.size : Int) == 24) = false := by rw [beq_eq_false_iff_ne]; omega
  clear h24
  have hz : 1 < w.heap.size := World.block_lt_of_cell? w _ ce
  have hz0 : 0 < w.heap.size := by omega
  go_enter Tryd.func12, Tryd.ntmps12
  go_wp2
  refine start_ (n := 4) (S := fun w' => w'.cell? ⟨0, 0, none⟩ = some (.int .u8 0) ∧ w'.cell? ⟨0, 1, none⟩ = some (.int .u8 0) ∧ w'.cell? ⟨0, 2, none⟩ = some (.int .u8 0) ∧ w'.cell? ⟨0, 3, none⟩ = some (.int .u8 0) ∧ w'.cell? ⟨0, 4, none⟩ = some (.int .u8 0) ∧ w'.cell? ⟨0, 5, none⟩ = some (.int .u8 0) ∧ w'.cell? ⟨0, 6, none⟩ = some (.int .u8 0) ∧ w'.cell? ⟨0, 7, none⟩ = some (.int .u8 0) ∧ w'.cell? ⟨0, 8, none⟩ = some (.int .u8 0) ∧ w'.cell? ⟨0, 9, none⟩ = some (.int .u8 0) ∧ w'.cell? ⟨0, 10, none⟩ = some (.int .u8 0) ∧ w'.cell? ⟨0, 11, none⟩ = some (.int .u8 0) ∧ w'.cell? ⟨1, 0, none⟩ = some (.iface T x)) (ds := []) #[false, false, false, false] (by kernel_rfl) rfl rfl ⟨(by go_simp), (by go_simp), (by go_simp), (by go_simp), (by go_simp), (by go_simp), (by go_simp), (by go_simp), (by go_simp), (by go_simp), (by go_simp), (by go_simp), (by go_simp)⟩ (fun hHeld => ?_)
  refine with_tabW R12.tab2 R12.bits2 (fun HT_ HW_ => ?_)
  refine take_ (i := 0) (N := some 10) (v := ?_) (a' := ?_) #[true, false, false, false] rfl rfl (take_ofW HT_.out HW_.out (by kernel_rfl)) (fun _ _ _ h => h) (Or.inl ⟨by rfl, ?_⟩) hHeld ?_ ?_
  rotate_left
  · rintro w' ⟨s0, s1, s2, s3, s4, s5, s6, s7, s8, s9, s10, s11, s12⟩
    go_simp
    with_reducible rfl
  rotate_left
  · simp only [Act.put, List.setIfInBounds_toArray, List.set_cons_zero, List.set_cons_succ, i64_w, i32_w]
    rfl
  refine take_ (i := 1) (N := some 11) (v := ?_) (a' := ?_) #[true, true, false, false] rfl rfl (take_ofW HT_.out HW_.out (by kernel_rfl)) (fun _ _ _ h => h) (Or.inl ⟨by rfl, ?_⟩) hHeld ?_ ?_
  rotate_left
  · rintro w' ⟨s0, s1, s2, s3, s4, s5, s6, s7, s8, s9, s10, s11, s12⟩
    go_simp
    with_reducible rfl
  rotate_left
  · simp only [Act.put, List.setIfInBounds_toArray, List.set_cons_zero, List.set_cons_succ, i64_w, i32_w]
    rfl
  refine one_ (i := 2) (N := none) #[true, true, true, false] rfl rfl (one_of HT_.out (by kernel_rfl)) (by decide) (fun K hK => ?_)
  refine skip_ (w1 := ?_) (by rfl) rfl ?_ ?_
  rotate_left
  · go_simp
    rfl
  refine hK.out _ _ ⟨(by go_simp), (by go_simp), (by go_simp), (by go_simp), (by go_simp), (by go_simp), (by go_simp), (by go_simp), (by go_simp), (by go_simp), (by go_simp), (by go_simp), (by go_simp)⟩ (fun hHeld => ?_)
  clear hK K
  refine pure_ (i := 3) (N := some 3) (v := ?_) (a' := ?_) #[true, true, true, true] rfl rfl (any_of HT_.out (by kernel_rfl)) (fun _ _ _ h => h) (Or.inl ⟨by rfl, ?_⟩) ?_ ?_
  rotate_left
  · intro w'
    go_simp
    with_reducible rfl
  rotate_left
  · simp only [Act.put, List.setIfInBounds_toArray, List.set_cons_zero, List.set_cons_succ, i64_w, i32_w]
    rfl
  refine done_ (done_of HT_.out (by kernel_rfl)) ?_
  go_wp2
  exact bodyPost_ret (v := .tuple #[.agg #[.int .u8 0, .int .u8 0, .int .u8 0, .int .u8 0, .int .u8 0, .int .u8 0, .int .u8 0, .int .u8 0, .int .u8 0, .int .u8 0, .int .u8 0, .int .u8 0], .iface T x]) (by simp [results, Tryd.results12, go_sem]) rfl ⟨rfl, bdrew (balloc (Below.refl _ _) (Nat.le_refl _) _)⟩
/-- What is decoded, at the world of the call. -/
theorem dec_call (s : ByteArray) (w : World) (W2 : World) (hW : W2 = ((w.alloc (.cells #[.int .u8 0, .int .u8 0, .int .u8 0, .int .u8 0, .int .u8 0, .int .u8 0, .int .u8 0, .int .u8 0, .int .u8 0, .int .u8 0, .int .u8 0, .int .u8 0] 38)).alloc (.cells #[.int .u8 0, .int .u8 0, .int .u8 0, .int .u8 0, .int .u8 0, .int .u8 0, .int .u8 0, .int .u8 0, .int .u8 0, .int .u8 0, .int .u8 0, .int .u8 0] 37))) (hs : s.size = 24) (ev : Value) (hE : w.cell? ⟨2, 0, none⟩ = some ev) (b : List UInt8) (o : Go.Lib.Hx.Out) (hD : Go.Lib.Hx.decode s.data.toList = (b, o)) (c : Nat) (hS : SB (bytesAt 5 s W2) (some ⟨W2.heap.size, 0, none⟩) c s.data.toList) :
    Calls Tryd.prog 18 #[.slice (some ⟨w.heap.size + 1, 0, none⟩) 12 12, .slice (some ⟨W2.heap.size, 0, none⟩) 24 c] (bytesAt 5 s W2) fun e w' => e = .returned (.tuple #[.int .i64 (b.length : Int), Go.Lib.Hx.errVal 58 ev o]) ∧ (b.length ≤ 12 → ∀ j, (hj : j < b.length) → w'.cell? ⟨w.heap.size + 1, j, none⟩ = some (.int .u8 (b[j].toNat : Int))) ∧
      (∀ j, j < 12 → w'.cell? ⟨w.heap.size, j, none⟩ = some (.int .u8 0)) ∧ (∀ j, w'.frozen? ⟨w.heap.size, j, none⟩ = false) ∧ Below w.heap.size w w' ∧ w.heap.size + 1 < w'.heap.size := by
  have hl : s.data.toList.length = 24 := by rw [Array.length_toList]; exact hs
  have hw2 : W2.heap.size = w.heap.size + 2 := by subst hW; simp
  have hB2 : Below w.heap.size w W2 := by subst hW; exact balloc (balloc (Below.refl _ _) (Nat.le_refl _) _) (by simp) _
  have hold : ∀ i, i < W2.heap.size → (bytesAt 5 s W2).heap[i]? = W2.heap[i]? := fun i hi => Lib.bytesWorld_at_old W2 5 s i hi
  have hB3 : Below w.heap.size w (bytesAt 5 s W2) := by
    obtain ⟨_, _, _, hb, _⟩ := run_bytes (P := Tryd.prog) 9 22 5 Tryd.underlying9 Tryd.underlying22 Tryd.underlying5 s (by omega) W2
    exact hB2.trans (hb.mono hB2.size)
  have hg1 : W2.heap[w.heap.size + 1]? = some (.cells #[.int .u8 0, .int .u8 0, .int .u8 0, .int .u8 0, .int .u8 0, .int .u8 0, .int .u8 0, .int .u8 0, .int .u8 0, .int .u8 0, .int .u8 0, .int .u8 0] 37 (0, 0)) := by subst hW; simpa using heap_alloc_new (w.alloc (.cells #[.int .u8 0, .int .u8 0, .int .u8 0, .int .u8 0, .int .u8 0, .int .u8 0, .int .u8 0, .int .u8 0, .int .u8 0, .int .u8 0, .int .u8 0, .int .u8 0] 38)) (.cells #[.int .u8 0, .int .u8 0, .int .u8 0, .int .u8 0, .int .u8 0, .int .u8 0, .int .u8 0, .int .u8 0, .int .u8 0, .int .u8 0, .int .u8 0, .int .u8 0] 37)
  have hg0 : W2.heap[w.heap.size]? = some (.cells #[.int .u8 0, .int .u8 0, .int .u8 0, .int .u8 0, .int .u8 0, .int .u8 0, .int .u8 0, .int .u8 0, .int .u8 0, .int .u8 0, .int .u8 0, .int .u8 0] 38 (0, 0)) := by
    subst hW
    have h1 := (balloc (Below.refl (w.heap.size + 1) (w.alloc (.cells #[.int .u8 0, .int .u8 0, .int .u8 0, .int .u8 0, .int .u8 0, .int .u8 0, .int .u8 0, .int .u8 0, .int .u8 0, .int .u8 0, .int .u8 0, .int .u8 0] 38))) (by simp) (.cells #[.int .u8 0, .int .u8 0, .int .u8 0, .int .u8 0, .int .u8 0, .int .u8 0, .int .u8 0, .int .u8 0, .int .u8 0, .int .u8 0, .int .u8 0, .int .u8 0] 37)).block w.heap.size (by omega)
    rw [h1]
    exact heap_alloc_new w _
  have hrow : (bytesAt 5 s W2).rowIs (w.heap.size + 1) 37 12 (fun _ => .int .u8 0) := by
    refine ⟨#[.int .u8 0, .int .u8 0, .int .u8 0, .int .u8 0, .int .u8 0, .int .u8 0, .int .u8 0, .int .u8 0, .int .u8 0, .int .u8 0, .int .u8 0, .int .u8 0], by rw [hold _ (by omega)]; exact hg1, rfl, fun i hi => ?_⟩
    match i, hi with
    | 0, _ | 1, _ | 2, _ | 3, _ | 4, _ | 5, _ | 6, _ | 7, _ | 8, _ | 9, _ | 10, _ | 11, _ => rfl
  obtain ⟨bb, off, ha, hc⟩ := hS.cells (by omega)
  have eb : bb = W2.heap.size := by injection ha with ha; injection ha with h1 _ _; exact h1.symm
  have eo : off = 0 := by injection ha with ha; injection ha with _ h2 _; exact h2.symm
  subst eb eo
  have hEE : (bytesAt 5 s W2).cell? ⟨2, 0, none⟩ = some ev := (hB3.cell (World.block_lt_of_cell? w _ hE)).trans hE
  have h2lt : 2 < w.heap.size := World.block_lt_of_cell? w _ hE
  have exs : Go.Lib.bytesOf (s.data.toList.map fun b : UInt8 => (b.toNat : Int)) = s.data.toList := by
    unfold Go.Lib.bytesOf
    rw [List.map_map]
    conv => rhs; rw [← List.map_id s.data.toList]
    exact List.map_congr_left (fun x _ => by simp)
  have hget : ∀ i, (hi : i < 24) → (s.data.toList.map fun b : UInt8 => (b.toNat : Int)).getD i 0 = ((s.data.toList[i]'(by omega)).toNat : Int) := fun i hi => by
    rw [List.getD_eq_getElem?_getD, List.getElem?_map, List.getElem?_eq_getElem (by omega)]; rfl
  have h := Any.hex_Decode_tag Tryd.hexDecode 37 (w.heap.size + 1) 0 12 12 12 (fun _ => .int .u8 0) W2.heap.size 0 24 c (s.data.toList.map fun b : UInt8 => (b.toNat : Int)) (bytesAt 5 s W2) ev (by simpa using hl)
    (fun i hi => by rw [hget i hi]; have := (s.data.toList[i]'(by omega)).toNat_lt; omega) (fun i hi => by rw [hget i hi]; exact hc i (by omega)) hrow (by omega) (by omega) (by omega) (by omega) hEE (by show (2 : Nat) ≠ _; omega)
  rw [exs, hD] at h
  refine h.mono ?_
  rintro e w' ⟨rfl, hr, hg⟩
  have hk0 : w'.heap[w.heap.size]? = some (.cells #[.int .u8 0, .int .u8 0, .int .u8 0, .int .u8 0, .int .u8 0, .int .u8 0, .int .u8 0, .int .u8 0, .int .u8 0, .int .u8 0, .int .u8 0, .int .u8 0] 38 (0, 0)) := by
    rw [hg.block _ (by have := hB3.size; have := Lib.bytesWorld_size W2 5 s; simp only [bytesAt]; omega) (by simp), hold _ (by omega)]
    exact hg0
  refine ⟨rfl, fun hb j hj => ?_, fun j hj => ?_, fun j => ?_, bgrown hB3 hB3.size hg (fun k hk => by injection hk with hk; omega), ?_⟩
  · rw [hr.cell (i := j) (by omega)]
    unfold Go.Lib.Hx.rowP
    rw [if_pos ⟨by omega, by show j < 0 + b.length; omega⟩]
    simp [List.getElem?_eq_getElem hj]
  · unfold World.cell?
    rw [hk0]
    match j, hj with
    | 0, _ | 1, _ | 2, _ | 3, _ | 4, _ | 5, _ | 6, _ | 7, _ | 8, _ | 9, _ | 10, _ | 11, _ => rfl
  · unfold World.frozen?
    rw [hk0]
    simp
  · have := hr.lt
    omega
set_option maxRecDepth 100000 in
set_option maxHeartbeats 4000000 in
theorem oid_ok (s : ByteArray) (w : World) (hs : s.size = 24) (ev : Value) (hE : w.cell? ⟨2, 0, none⟩ = some ev) (b0 b1 b2 b3 b4 b5 b6 b7 b8 b9 b10 b11 : UInt8) (hD : Go.Lib.Hx.decode s.data.toList = ([b0, b1, b2, b3, b4, b5, b6, b7, b8, b9, b10, b11], .ok)) :
    Calls Tryd.prog 12 #[.string s] w fun e w' => e = .returned (.tuple #[.agg #[.int .u8 b0.toNat, .int .u8 b1.toNat, .int .u8 b2.toNat, .int .u8 b3.toNat, .int .u8 b4.toNat, .int .u8 b5.toNat, .int .u8 b6.toNat, .int .u8 b7.toNat, .int .u8 b8.toNat, .int .u8 b9.toNat, .int .u8 b10.toNat, .int .u8 b11.toNat], .nilIface]) ∧ Below w.heap.size w w' := by
  have heq : ((s.size : Int) == 24) = true := by rw [beq_iff_eq]; omega
  have h2lt : 2 < w.heap.size := World.block_lt_of_cell? w _ hE
  obtain ⟨W2, hW2⟩ : ∃ W2, W2 = ((w.alloc (.cells #[.int .u8 0, .int .u8 0, .int .u8 0, .int .u8 0, .int .u8 0, .int .u8 0, .int .u8 0, .int .u8 0, .int .u8 0, .int .u8 0, .int .u8 0, .int .u8 0] 38)).alloc (.cells #[.int .u8 0, .int .u8 0, .int .u8 0, .int .u8 0, .int .u8 0, .int .u8 0, .int .u8 0, .int .u8 0, .int .u8 0, .int .u8 0, .int .u8 0, .int .u8 0] 37)) := ⟨_, rfl⟩
  obtain ⟨c, hrun, hS, hb3, hz3⟩ := run_bytes (P := Tryd.prog) 9 22 5 Tryd.underlying9 Tryd.underlying22 Tryd.underlying5 s (by omega) W2
  have hd := dec_call s w W2 hW2 hs ev hE _ _ hD c hS
  obtain ⟨W3, hW3⟩ : ∃ W3, W3 = bytesAt 5 s W2 := ⟨_, rfl⟩
  have hl : s.data.toList.length = 24 := by rw [Array.length_toList]; exact hs
  rw [← hW3] at hrun hd
  rw [hl] at hrun
  have hw2 : W2.heap.size = w.heap.size + 2 := by subst hW2; simp
  rw [hw2] at hrun hd
  rw [hW2] at hrun
  have HD := Lib.hid hd
  clear hd hS hb3 hz3 hW3 hw2 hW2 hD hs hl
  go_enter Tryd.func12, Tryd.ntmps12
  go_wp2_with fail
  refine HD.out.mono ?_
  rintro e w4 ⟨rfl, hcell, hzero, hfroz, hB4, hlt4⟩
  have q0 := hcell (by simp) 0 (by simp)
  have q1 := hcell (by simp) 1 (by simp)
  have q2 := hcell (by simp) 2 (by simp)
  have q3 := hcell (by simp) 3 (by simp)
  have q4 := hcell (by simp) 4 (by simp)
  have q5 := hcell (by simp) 5 (by simp)
  have q6 := hcell (by simp) 6 (by simp)
  have q7 := hcell (by simp) 7 (by simp)
  have q8 := hcell (by simp) 8 (by simp)
  have q9 := hcell (by simp) 9 (by simp)
  have q10 := hcell (by simp) 10 (by simp)
  have q11 := hcell (by simp) 11 (by simp)
  simp only [List.getElem_cons_succ, List.getElem_cons_zero] at q0 q1 q2 q3 q4 q5 q6 q7 q8 q9 q10 q11
  have z0 := hzero 0 (by omega)
  have z1 := hzero 1 (by omega)
  have z2 := hzero 2 (by omega)
  have z3 := hzero 3 (by omega)
  have z4 := hzero 4 (by omega)
  have z5 := hzero 5 (by omega)
  have z6 := hzero 6 (by omega)
  have z7 := hzero 7 (by omega)
  have z8 := hzero 8 (by omega)
  have z9 := hzero 9 (by omega)
  have z10 := hzero 10 (by omega)
  have z11 := hzero 11 (by omega)
  have f0 := hfroz 0
  have f1 := hfroz 1
  have f2 := hfroz 2
  have f3 := hfroz 3
  have f4 := hfroz 4
  have f5 := hfroz 5
  have f6 := hfroz 6
  have f7 := hfroz 7
  have f8 := hfroz 8
  have f9 := hfroz 9
  have f10 := hfroz 10
  have f11 := hfroz 11
  have h0lt4 : 0 < w4.heap.size := by omega
  have hlt5 : w.heap.size < w4.heap.size := by omega
  have HB4 := Lib.hid hB4
  clear hcell hzero hfroz hB4 HD
  simp only [Go.Lib.Hx.errVal]
  go_wp2
  exact bodyPost_ret (v := .tuple #[.agg #[.int .u8 b0.toNat, .int .u8 b1.toNat, .int .u8 b2.toNat, .int .u8 b3.toNat, .int .u8 b4.toNat, .int .u8 b5.toNat, .int .u8 b6.toNat, .int .u8 b7.toNat, .int .u8 b8.toNat, .int .u8 b9.toNat, .int .u8 b10.toNat, .int .u8 b11.toNat], .nilIface]) (by simp [results, Tryd.results12, go_sem, z0, z1, z2, z3, z4, z5, z6, z7, z8, z9, z10, z11]) rfl ⟨rfl, ((((((((((((HB4.out.setCell (Nat.le_refl _) _).setCell (Nat.le_refl _) _).setCell (Nat.le_refl _) _).setCell (Nat.le_refl _) _).setCell (Nat.le_refl _) _).setCell (Nat.le_refl _) _).setCell (Nat.le_refl _) _).setCell (Nat.le_refl _) _).setCell (Nat.le_refl _) _).setCell (Nat.le_refl _) _).setCell (Nat.le_refl _) _).setCell (Nat.le_refl _) _)⟩
set_option maxRecDepth 100000 in
set_option maxHeartbeats 4000000 in
theorem oid_bad (s : ByteArray) (w : World) (hs : s.size = 24) (ev : Value) (hE : w.cell? ⟨2, 0, none⟩ = some ev) (b : List UInt8) (ch : UInt8) (hD : Go.Lib.Hx.decode s.data.toList = (b, .bad ch)) (c0 : w.cell? ⟨0, 0, none⟩ = some (.int .u8 0)) (c1 : w.cell? ⟨0, 1, none⟩ = some (.int .u8 0)) (c2 : w.cell? ⟨0, 2, none⟩ = some (.int .u8 0)) (c3 : w.cell? ⟨0, 3, none⟩ = some (.int .u8 0)) (c4 : w.cell? ⟨0, 4, none⟩ = some (.int .u8 0)) (c5 : w.cell? ⟨0, 5, none⟩ = some (.int .u8 0)) (c6 : w.cell? ⟨0, 6, none⟩ = some (.int .u8 0)) (c7 : w.cell? ⟨0, 7, none⟩ = some (.int .u8 0)) (c8 : w.cell? ⟨0, 8, none⟩ = some (.int .u8 0)) (c9 : w.cell? ⟨0, 9, none⟩ = some (.int .u8 0)) (c10 : w.cell? ⟨0, 10, none⟩ = some (.int .u8 0)) (c11 : w.cell? ⟨0, 11, none⟩ = some (.int .u8 0)) :
    Calls Tryd.prog 12 #[.string s] w fun e w' => e = .returned (.tuple #[.agg #[.int .u8 0, .int .u8 0, .int .u8 0, .int .u8 0, .int .u8 0, .int .u8 0, .int .u8 0, .int .u8 0, .int .u8 0, .int .u8 0, .int .u8 0, .int .u8 0], .iface 58 (.int .u8 (ch.toNat : Int))]) ∧ Below w.heap.size w w' := by
  have heq : ((s.size : Int) == 24) = true := by rw [beq_iff_eq]; omega
  have h2lt : 2 < w.heap.size := World.block_lt_of_cell? w _ hE
  obtain ⟨W2, hW2⟩ : ∃ W2, W2 = ((w.alloc (.cells #[.int .u8 0, .int .u8 0, .int .u8 0, .int .u8 0, .int .u8 0, .int .u8 0, .int .u8 0, .int .u8 0, .int .u8 0, .int .u8 0, .int .u8 0, .int .u8 0] 38)).alloc (.cells #[.int .u8 0, .int .u8 0, .int .u8 0, .int .u8 0, .int .u8 0, .int .u8 0, .int .u8 0, .int .u8 0, .int .u8 0, .int .u8 0, .int .u8 0, .int .u8 0] 37)) := ⟨_, rfl⟩
  obtain ⟨c, hrun, hS, hb3, hz3⟩ := run_bytes (P := Tryd.prog) 9 22 5 Tryd.underlying9 Tryd.underlying22 Tryd.underlying5 s (by omega) W2
  have hd := dec_call s w W2 hW2 hs ev hE _ _ hD c hS
  obtain ⟨W3, hW3⟩ : ∃ W3, W3 = bytesAt 5 s W2 := ⟨_, rfl⟩
  have hl : s.data.toList.length = 24 := by rw [Array.length_toList]; exact hs
  rw [← hW3] at hrun hd
  rw [hl] at hrun
  have hw2 : W2.heap.size = w.heap.size + 2 := by subst hW2; simp
  rw [hw2] at hrun hd
  rw [hW2] at hrun
  have HD := Lib.hid hd
  clear hd hS hb3 hz3 hW3 hw2 hW2 hD hs hl
  go_enter Tryd.func12, Tryd.ntmps12
  go_wp2_with fail
  refine HD.out.mono ?_
  rintro e w4 ⟨rfl, hcell, hzero, hfroz, hB4, hlt4⟩
  have q0 := (hB4.cell (p := ⟨0, 0, none⟩) (by show (0 : Nat) < _; omega)).trans c0
  have q1 := (hB4.cell (p := ⟨0, 1, none⟩) (by show (0 : Nat) < _; omega)).trans c1
  have q2 := (hB4.cell (p := ⟨0, 2, none⟩) (by show (0 : Nat) < _; omega)).trans c2
  have q3 := (hB4.cell (p := ⟨0, 3, none⟩) (by show (0 : Nat) < _; omega)).trans c3
  have q4 := (hB4.cell (p := ⟨0, 4, none⟩) (by show (0 : Nat) < _; omega)).trans c4
  have q5 := (hB4.cell (p := ⟨0, 5, none⟩) (by show (0 : Nat) < _; omega)).trans c5
  have q6 := (hB4.cell (p := ⟨0, 6, none⟩) (by show (0 : Nat) < _; omega)).trans c6
  have q7 := (hB4.cell (p := ⟨0, 7, none⟩) (by show (0 : Nat) < _; omega)).trans c7
  have q8 := (hB4.cell (p := ⟨0, 8, none⟩) (by show (0 : Nat) < _; omega)).trans c8
  have q9 := (hB4.cell (p := ⟨0, 9, none⟩) (by show (0 : Nat) < _; omega)).trans c9
  have q10 := (hB4.cell (p := ⟨0, 10, none⟩) (by show (0 : Nat) < _; omega)).trans c10
  have q11 := (hB4.cell (p := ⟨0, 11, none⟩) (by show (0 : Nat) < _; omega)).trans c11
  have z0 := hzero 0 (by omega)
  have z1 := hzero 1 (by omega)
  have z2 := hzero 2 (by omega)
  have z3 := hzero 3 (by omega)
  have z4 := hzero 4 (by omega)
  have z5 := hzero 5 (by omega)
  have z6 := hzero 6 (by omega)
  have z7 := hzero 7 (by omega)
  have z8 := hzero 8 (by omega)
  have z9 := hzero 9 (by omega)
  have z10 := hzero 10 (by omega)
  have z11 := hzero 11 (by omega)
  have f0 := hfroz 0
  have f1 := hfroz 1
  have f2 := hfroz 2
  have f3 := hfroz 3
  have f4 := hfroz 4
  have f5 := hfroz 5
  have f6 := hfroz 6
  have f7 := hfroz 7
  have f8 := hfroz 8
  have f9 := hfroz 9
  have f10 := hfroz 10
  have f11 := hfroz 11
  have h0lt4 : 0 < w4.heap.size := by omega
  have hlt5 : w.heap.size < w4.heap.size := by omega
  have HB4 := Lib.hid hB4
  clear hcell hzero hfroz hB4 HD
  simp only [Go.Lib.Hx.errVal]
  go_wp2
  exact bodyPost_ret (v := .tuple #[.agg #[.int .u8 0, .int .u8 0, .int .u8 0, .int .u8 0, .int .u8 0, .int .u8 0, .int .u8 0, .int .u8 0, .int .u8 0, .int .u8 0, .int .u8 0, .int .u8 0], .iface 58 (.int .u8 (ch.toNat : Int))]) (by simp [results, Tryd.results12, go_sem, z0, z1, z2, z3, z4, z5, z6, z7, z8, z9, z10, z11]) rfl ⟨rfl, ((((((((((((HB4.out.setCell (Nat.le_refl _) _).setCell (Nat.le_refl _) _).setCell (Nat.le_refl _) _).setCell (Nat.le_refl _) _).setCell (Nat.le_refl _) _).setCell (Nat.le_refl _) _).setCell (Nat.le_refl _) _).setCell (Nat.le_refl _) _).setCell (Nat.le_refl _) _).setCell (Nat.le_refl _) _).setCell (Nat.le_refl _) _).setCell (Nat.le_refl _) _)⟩
end Go.Proofs.YtfpnhlfmnoikhabDoor.X
