/- The row of the law FnExtPointers, and its tied card. -/
import Derived.Test.YtfpnhlfmnoikhabDoorRows
import Derived.Test.YtfpnhlfmnoikhabDoorCards
import Derived.Test.YtfpnhlfmnoikhabDoorTie
import Derived.LaidMore
import Derived.LaidLaws
import Derived.Stop.LaidErr
import Derived.Stop.Joined
import Derived.SevenTiedAt
import Derived.MakeChecks
import Derived.Test.YtfpnhlfmnoikhabDoorOpenS
import Derived.Test.YtfpnhlfmnoikhabDoorExtLaw
import Derived.WalkKit
import Derived.ProofKit
import Derived.OpenShut
import Derived.ShutString
import Derived.ChangeOld
import Derived.Below
import Derived.SizedLaws
import Derived.Carry
namespace Go.Proofs.YtfpnhlfmnoikhabDoor.fnExtPointers
open Go.ChangeShapes Go.WideShapes Go.ChangeAt Go.RowKit
open Go.ChangeMaps (open_string shut_string)
set_option linter.unusedVariables false
theorem own : ownKnob Tryd.prog.godebug = none := by kernel_rfl
theorem laidOut : laidOutB Tryd.prog = true := by kernel_rfl
def laidL : List (String × DataW Unit) := [("encoding/hex.ErrLength", Rows.laid_encoding_hex_ErrLength), ("pub-gunnysack/pub/bson.ErrInvalidHex", Rows.laid_pub_gunnysack_pub_bson_ErrInvalidHex), ("pub-gunnysack/pub/bson.NilObjectID", Rows.laid_pub_gunnysack_pub_bson_NilObjectID)]
theorem door_met (os : Os) (args : Array Value) : laidMetH Tryd.prog laidL ((World.doorLaid Tryd.prog 52 os).forCall (fun _ _ => 0) ⟨#[], args, []⟩).memory :=
  laidMetH_of_parts3 (fuel := 8) (laidMet_of_run' 8 (by kernel_rfl) (by kernel_rfl)) (by kernel_rfl) (by kernel_rfl)
theorem gl0 : Tryd.prog.globalNamed "encoding/hex.ErrLength" = some 2 := by kernel_rfl
theorem rowS (u : TypeId) (h : Tryd.prog.typeName? 3 u = some "*errors.errorString") : u = 67 :=
  typeName_ptr_named (nm := "errors.errorString") (by kernel_rfl) (by kernel_rfl) (by decide) u h
theorem ty0 : (Tryd.prog.globals[2]?).map (·.type) = some 40 := by kernel_rfl
theorem gl1 : Tryd.prog.globalNamed "pub-gunnysack/pub/bson.ErrInvalidHex" = some 1 := by kernel_rfl
theorem ty1 : (Tryd.prog.globals[1]?).map (·.type) = some 40 := by kernel_rfl
theorem gl2 : Tryd.prog.globalNamed "pub-gunnysack/pub/bson.NilObjectID" = some 0 := by kernel_rfl
theorem ty2 : (Tryd.prog.globals[0]?).map (·.type) = some 38 := by kernel_rfl
set_option maxRecDepth 100000 in
theorem lifted (os : Os) (started : os.Started) (H : Type) (enc : TypeId × Value → H) :
    ReturnsInHanded {} Tryd.checked os 4 .any (fun w args => (Rows.fnExtPointersSpec.pre enc Tryd.prog Tryd.f4 [] false w args ∧ laidMetH Tryd.prog laidL w) ∧ sizedMet enc Tryd.prog Tryd.f4 (OpenSpec.ofChange Rows.fnExtPointersSpec) false w args) (Rows.fnExtPointersSpec.post enc Tryd.prog Tryd.f4 false true false false) := by
  refine returnsInHanded_of_change_and (C := Tryd.checked) (X := fun w _ => laidMetH Tryd.prog laidL w) (fun _ _ _ hh h => h.of_heap hh) own started (by kernel_rfl) Tryd.func4
    (ChangeSpec.witness_shaped (enc := enc) (C := Tryd.checked) (os := os) (X := fun w _ => laidMetH Tryd.prog laidL w) false (World.doorLaid Tryd.prog 52 os) #[.slice none 0 0, .slice none 0 0] 8 rfl (World.shaped_of_RefB (by kernel_rfl) (by kernel_rfl)) (by kernel_rfl) (by kernel_rfl) (by kernel_rfl) (door_met os _)) ?_
  intro W base args ds gs before hval0 hW hcnd hsz0 hLH _
  have hsz : (DataW.weightsEach Tryd.prog (Tryd.f4.params.toList ++ Rows.fnExtPointersSpec.plain.varTypes Tryd.prog) (ds ++ gs)).all (· ≤ reachBytes) = true := hsz0
  have hval : ∀ (j : Nat) t v, Tryd.f4.params[j]? = some t → args[j]? = some v → Value.okWide Tryd.prog W .any base t v := hval0
  have hW' := hW
  obtain ⟨p, q, hA0, hV, rfl, hfz, hnd⟩ := hW
  have hA : DataW.TrodAll enc Tryd.prog W 0 (fun _ => true) true Tryd.f4.params.toList args.toList ds p := hA0
  rw [Tryd.params4] at hA hval hsz
  obtain ⟨v0, vs0, d0, ds0, p0, q0, hargs, rfl, rfl, h0, r0⟩ := trodAll_cons hA
  obtain ⟨v1, vs1, d1, ds1, p1, q1, rfl, rfl, rfl, h1, r1⟩ := trodAll_cons r0
  obtain ⟨rfl, rfl, rfl⟩ := trodAll_nil r1
  obtain rfl : args = #[v0, v1] := by cases args; simp_all
  obtain ⟨rfl, rfl⟩ := trodVars_none hV
  obtain ⟨x0, len0, cap0, rfl⟩ := okWide_slice Tryd.underlying26 (hval 0 26 v0 rfl rfl)
  have k0 := h0
  have lt0 : ∀ x ∈ p0, x.block < W.heap.size := by obtain ⟨m, hm⟩ := k0; exact DataW.trod_lt m _ _ _ hm
  obtain ⟨A0, c0, l0, e0, s0, z0, w0⟩ : ∃ (A : Option Addr) (c : Nat) (l : List ByteArray), (Value.slice x0 len0 cap0) = .slice A (List.length l) c ∧ X.GS W A c (X.strv l) ∧ l.length ≤ 8796093022000 ∧ (∀ t ∈ l, t.size ≤ 140737488351232) := by
    obtain ⟨fuel, hf⟩ := h0
    obtain ⟨A, c, l, e, hs, hz, hw⟩ := X.open_strs hf (fun n hn => by have := List.all_eq_true.1 hsz n (DataW.weights_mem_each (j := 0) (t := 26) rfl rfl n hn); simpa using this)
    exact ⟨A, c, l, by simpa [Value.cells] using e, hs, hz, hw⟩
  obtain ⟨rfl, rfl, rfl⟩ : A0 = x0 ∧ l0.length = len0 ∧ c0 = cap0 := by simpa [eq_comm] using e0
  obtain ⟨x1, len1, cap1, rfl⟩ := okWide_slice Tryd.underlying26 (hval 1 26 v1 rfl rfl)
  have k1 := h1
  have lt1 : ∀ x ∈ p1, x.block < W.heap.size := by obtain ⟨m, hm⟩ := k1; exact DataW.trod_lt m _ _ _ hm
  obtain ⟨A1, c1, l1, e1, s1, z1, w1⟩ : ∃ (A : Option Addr) (c : Nat) (l : List ByteArray), (Value.slice x1 len1 cap1) = .slice A (List.length l) c ∧ X.GS W A c (X.strv l) ∧ l.length ≤ 8796093022000 ∧ (∀ t ∈ l, t.size ≤ 140737488351232) := by
    obtain ⟨fuel, hf⟩ := h1
    obtain ⟨A, c, l, e, hs, hz, hw⟩ := X.open_strs hf (fun n hn => by have := List.all_eq_true.1 hsz n (DataW.weights_mem_each (j := 1) (t := 26) rfl rfl n hn); simpa using this)
    exact ⟨A, c, l, by simpa [Value.cells] using e, hs, hz, hw⟩
  obtain ⟨rfl, rfl, rfl⟩ : A1 = x1 ∧ l1.length = len1 ∧ c1 = cap1 := by simpa [eq_comm] using e1
  have hL0 : laidMet Tryd.prog laidL W := by rw [← MakeChecks.laidMetH_plain _ _ _ (by kernel_rfl)]; exact hLH
  obtain ⟨la0, ls0, lw0, -, -, -⟩ := laid_sentinel hL0 gl0 ty0 Tryd.underlying40 rowS Tryd.underlying67 Tryd.underlying69 rfl rfl Tryd.underlying9 (by kernel_rfl) (by kernel_rfl)
  have lv0 := World.var?_cell gl0 lw0 0
  replace lv0 : W.cell? ⟨2, 0, none⟩ = some (.iface 67 (.pointer (some la0))) := by simpa using lv0
  obtain ⟨la1, ls1, lw1, -, -, -⟩ := laid_sentinel hL0.tail gl1 ty1 Tryd.underlying40 rowS Tryd.underlying67 Tryd.underlying69 rfl rfl Tryd.underlying9 (by kernel_rfl) (by kernel_rfl)
  have lv1 := World.var?_cell gl1 lw1 0
  replace lv1 : W.cell? ⟨1, 0, none⟩ = some (.iface 67 (.pointer (some la1))) := by simpa using lv1
  obtain ⟨lps2, ⟨lg2, lt2, lcs2, lf2, lp2, lq2, hlg2, hlt2, hlv2, hld2, -⟩, -, -⟩ := hL0.tail.tail
  obtain rfl := Option.some.inj (gl2.symm.trans hlg2)
  obtain rfl := Option.some.inj (ty2.symm.trans hlt2)
  obtain ⟨lxs2, lm2, -, lhx2, lhl2, lhn2, lel2⟩ := DataW.trod_array Tryd.underlying38 hld2
  simp only [Prod.mk.injEq, DataW.agg.injEq, Rows.laid_pub_gunnysack_pub_bson_NilObjectID] at lhx2
  have lhx := lhx2.1
  have lu8 : Tryd.prog.cellsOf 5 = 1 := by kernel_rfl
  have lv2_0 : W.cell? ⟨0, 0, none⟩ = some (.int .u8 0) := by
    have h1 := lel2 0 (by omega)
    have hi : 0 < lxs2.length := by rw [lhn2]; decide
    rw [List.getElem?_eq_getElem hi] at h1
    obtain ⟨z, e1, e2, -⟩ := DataW.trod_int Tryd.underlying5 h1
    have h2 : (lxs2.map (·.1))[0]? = some (DataW.lit (.int .u8 0)) := by rw [← lhx]; rfl
    rw [List.getElem?_map, List.getElem?_eq_getElem hi, Option.map_some, e2] at h2
    have hz : z = 0 := by simpa using h2
    rw [lu8] at e1
    have h3 := World.var?_cell gl2 hlv2 0
    have h4 : lcs2.toList[0]? = some (.int .u8 0) := by
      have h5 := congrArg (fun l => l[0]?) e1
      simp only [Nat.mul_one, List.getElem?_take, List.getElem?_drop, List.getElem?_cons_zero] at h5
      simpa [hz] using h5
    rw [Array.getElem?_toList] at h4
    exact h3.trans h4
  have lv2_1 : W.cell? ⟨0, 1, none⟩ = some (.int .u8 0) := by
    have h1 := lel2 1 (by omega)
    have hi : 1 < lxs2.length := by rw [lhn2]; decide
    rw [List.getElem?_eq_getElem hi] at h1
    obtain ⟨z, e1, e2, -⟩ := DataW.trod_int Tryd.underlying5 h1
    have h2 : (lxs2.map (·.1))[1]? = some (DataW.lit (.int .u8 0)) := by rw [← lhx]; rfl
    rw [List.getElem?_map, List.getElem?_eq_getElem hi, Option.map_some, e2] at h2
    have hz : z = 0 := by simpa using h2
    rw [lu8] at e1
    have h3 := World.var?_cell gl2 hlv2 1
    have h4 : lcs2.toList[1]? = some (.int .u8 0) := by
      have h5 := congrArg (fun l => l[0]?) e1
      simp only [Nat.mul_one, List.getElem?_take, List.getElem?_drop, List.getElem?_cons_zero] at h5
      simpa [hz] using h5
    rw [Array.getElem?_toList] at h4
    exact h3.trans h4
  have lv2_2 : W.cell? ⟨0, 2, none⟩ = some (.int .u8 0) := by
    have h1 := lel2 2 (by omega)
    have hi : 2 < lxs2.length := by rw [lhn2]; decide
    rw [List.getElem?_eq_getElem hi] at h1
    obtain ⟨z, e1, e2, -⟩ := DataW.trod_int Tryd.underlying5 h1
    have h2 : (lxs2.map (·.1))[2]? = some (DataW.lit (.int .u8 0)) := by rw [← lhx]; rfl
    rw [List.getElem?_map, List.getElem?_eq_getElem hi, Option.map_some, e2] at h2
    have hz : z = 0 := by simpa using h2
    rw [lu8] at e1
    have h3 := World.var?_cell gl2 hlv2 2
    have h4 : lcs2.toList[2]? = some (.int .u8 0) := by
      have h5 := congrArg (fun l => l[0]?) e1
      simp only [Nat.mul_one, List.getElem?_take, List.getElem?_drop, List.getElem?_cons_zero] at h5
      simpa [hz] using h5
    rw [Array.getElem?_toList] at h4
    exact h3.trans h4
  have lv2_3 : W.cell? ⟨0, 3, none⟩ = some (.int .u8 0) := by
    have h1 := lel2 3 (by omega)
    have hi : 3 < lxs2.length := by rw [lhn2]; decide
    rw [List.getElem?_eq_getElem hi] at h1
    obtain ⟨z, e1, e2, -⟩ := DataW.trod_int Tryd.underlying5 h1
    have h2 : (lxs2.map (·.1))[3]? = some (DataW.lit (.int .u8 0)) := by rw [← lhx]; rfl
    rw [List.getElem?_map, List.getElem?_eq_getElem hi, Option.map_some, e2] at h2
    have hz : z = 0 := by simpa using h2
    rw [lu8] at e1
    have h3 := World.var?_cell gl2 hlv2 3
    have h4 : lcs2.toList[3]? = some (.int .u8 0) := by
      have h5 := congrArg (fun l => l[0]?) e1
      simp only [Nat.mul_one, List.getElem?_take, List.getElem?_drop, List.getElem?_cons_zero] at h5
      simpa [hz] using h5
    rw [Array.getElem?_toList] at h4
    exact h3.trans h4
  have lv2_4 : W.cell? ⟨0, 4, none⟩ = some (.int .u8 0) := by
    have h1 := lel2 4 (by omega)
    have hi : 4 < lxs2.length := by rw [lhn2]; decide
    rw [List.getElem?_eq_getElem hi] at h1
    obtain ⟨z, e1, e2, -⟩ := DataW.trod_int Tryd.underlying5 h1
    have h2 : (lxs2.map (·.1))[4]? = some (DataW.lit (.int .u8 0)) := by rw [← lhx]; rfl
    rw [List.getElem?_map, List.getElem?_eq_getElem hi, Option.map_some, e2] at h2
    have hz : z = 0 := by simpa using h2
    rw [lu8] at e1
    have h3 := World.var?_cell gl2 hlv2 4
    have h4 : lcs2.toList[4]? = some (.int .u8 0) := by
      have h5 := congrArg (fun l => l[0]?) e1
      simp only [Nat.mul_one, List.getElem?_take, List.getElem?_drop, List.getElem?_cons_zero] at h5
      simpa [hz] using h5
    rw [Array.getElem?_toList] at h4
    exact h3.trans h4
  have lv2_5 : W.cell? ⟨0, 5, none⟩ = some (.int .u8 0) := by
    have h1 := lel2 5 (by omega)
    have hi : 5 < lxs2.length := by rw [lhn2]; decide
    rw [List.getElem?_eq_getElem hi] at h1
    obtain ⟨z, e1, e2, -⟩ := DataW.trod_int Tryd.underlying5 h1
    have h2 : (lxs2.map (·.1))[5]? = some (DataW.lit (.int .u8 0)) := by rw [← lhx]; rfl
    rw [List.getElem?_map, List.getElem?_eq_getElem hi, Option.map_some, e2] at h2
    have hz : z = 0 := by simpa using h2
    rw [lu8] at e1
    have h3 := World.var?_cell gl2 hlv2 5
    have h4 : lcs2.toList[5]? = some (.int .u8 0) := by
      have h5 := congrArg (fun l => l[0]?) e1
      simp only [Nat.mul_one, List.getElem?_take, List.getElem?_drop, List.getElem?_cons_zero] at h5
      simpa [hz] using h5
    rw [Array.getElem?_toList] at h4
    exact h3.trans h4
  have lv2_6 : W.cell? ⟨0, 6, none⟩ = some (.int .u8 0) := by
    have h1 := lel2 6 (by omega)
    have hi : 6 < lxs2.length := by rw [lhn2]; decide
    rw [List.getElem?_eq_getElem hi] at h1
    obtain ⟨z, e1, e2, -⟩ := DataW.trod_int Tryd.underlying5 h1
    have h2 : (lxs2.map (·.1))[6]? = some (DataW.lit (.int .u8 0)) := by rw [← lhx]; rfl
    rw [List.getElem?_map, List.getElem?_eq_getElem hi, Option.map_some, e2] at h2
    have hz : z = 0 := by simpa using h2
    rw [lu8] at e1
    have h3 := World.var?_cell gl2 hlv2 6
    have h4 : lcs2.toList[6]? = some (.int .u8 0) := by
      have h5 := congrArg (fun l => l[0]?) e1
      simp only [Nat.mul_one, List.getElem?_take, List.getElem?_drop, List.getElem?_cons_zero] at h5
      simpa [hz] using h5
    rw [Array.getElem?_toList] at h4
    exact h3.trans h4
  have lv2_7 : W.cell? ⟨0, 7, none⟩ = some (.int .u8 0) := by
    have h1 := lel2 7 (by omega)
    have hi : 7 < lxs2.length := by rw [lhn2]; decide
    rw [List.getElem?_eq_getElem hi] at h1
    obtain ⟨z, e1, e2, -⟩ := DataW.trod_int Tryd.underlying5 h1
    have h2 : (lxs2.map (·.1))[7]? = some (DataW.lit (.int .u8 0)) := by rw [← lhx]; rfl
    rw [List.getElem?_map, List.getElem?_eq_getElem hi, Option.map_some, e2] at h2
    have hz : z = 0 := by simpa using h2
    rw [lu8] at e1
    have h3 := World.var?_cell gl2 hlv2 7
    have h4 : lcs2.toList[7]? = some (.int .u8 0) := by
      have h5 := congrArg (fun l => l[0]?) e1
      simp only [Nat.mul_one, List.getElem?_take, List.getElem?_drop, List.getElem?_cons_zero] at h5
      simpa [hz] using h5
    rw [Array.getElem?_toList] at h4
    exact h3.trans h4
  have lv2_8 : W.cell? ⟨0, 8, none⟩ = some (.int .u8 0) := by
    have h1 := lel2 8 (by omega)
    have hi : 8 < lxs2.length := by rw [lhn2]; decide
    rw [List.getElem?_eq_getElem hi] at h1
    obtain ⟨z, e1, e2, -⟩ := DataW.trod_int Tryd.underlying5 h1
    have h2 : (lxs2.map (·.1))[8]? = some (DataW.lit (.int .u8 0)) := by rw [← lhx]; rfl
    rw [List.getElem?_map, List.getElem?_eq_getElem hi, Option.map_some, e2] at h2
    have hz : z = 0 := by simpa using h2
    rw [lu8] at e1
    have h3 := World.var?_cell gl2 hlv2 8
    have h4 : lcs2.toList[8]? = some (.int .u8 0) := by
      have h5 := congrArg (fun l => l[0]?) e1
      simp only [Nat.mul_one, List.getElem?_take, List.getElem?_drop, List.getElem?_cons_zero] at h5
      simpa [hz] using h5
    rw [Array.getElem?_toList] at h4
    exact h3.trans h4
  have lv2_9 : W.cell? ⟨0, 9, none⟩ = some (.int .u8 0) := by
    have h1 := lel2 9 (by omega)
    have hi : 9 < lxs2.length := by rw [lhn2]; decide
    rw [List.getElem?_eq_getElem hi] at h1
    obtain ⟨z, e1, e2, -⟩ := DataW.trod_int Tryd.underlying5 h1
    have h2 : (lxs2.map (·.1))[9]? = some (DataW.lit (.int .u8 0)) := by rw [← lhx]; rfl
    rw [List.getElem?_map, List.getElem?_eq_getElem hi, Option.map_some, e2] at h2
    have hz : z = 0 := by simpa using h2
    rw [lu8] at e1
    have h3 := World.var?_cell gl2 hlv2 9
    have h4 : lcs2.toList[9]? = some (.int .u8 0) := by
      have h5 := congrArg (fun l => l[0]?) e1
      simp only [Nat.mul_one, List.getElem?_take, List.getElem?_drop, List.getElem?_cons_zero] at h5
      simpa [hz] using h5
    rw [Array.getElem?_toList] at h4
    exact h3.trans h4
  have lv2_10 : W.cell? ⟨0, 10, none⟩ = some (.int .u8 0) := by
    have h1 := lel2 10 (by omega)
    have hi : 10 < lxs2.length := by rw [lhn2]; decide
    rw [List.getElem?_eq_getElem hi] at h1
    obtain ⟨z, e1, e2, -⟩ := DataW.trod_int Tryd.underlying5 h1
    have h2 : (lxs2.map (·.1))[10]? = some (DataW.lit (.int .u8 0)) := by rw [← lhx]; rfl
    rw [List.getElem?_map, List.getElem?_eq_getElem hi, Option.map_some, e2] at h2
    have hz : z = 0 := by simpa using h2
    rw [lu8] at e1
    have h3 := World.var?_cell gl2 hlv2 10
    have h4 : lcs2.toList[10]? = some (.int .u8 0) := by
      have h5 := congrArg (fun l => l[0]?) e1
      simp only [Nat.mul_one, List.getElem?_take, List.getElem?_drop, List.getElem?_cons_zero] at h5
      simpa [hz] using h5
    rw [Array.getElem?_toList] at h4
    exact h3.trans h4
  have lv2_11 : W.cell? ⟨0, 11, none⟩ = some (.int .u8 0) := by
    have h1 := lel2 11 (by omega)
    have hi : 11 < lxs2.length := by rw [lhn2]; decide
    rw [List.getElem?_eq_getElem hi] at h1
    obtain ⟨z, e1, e2, -⟩ := DataW.trod_int Tryd.underlying5 h1
    have h2 : (lxs2.map (·.1))[11]? = some (DataW.lit (.int .u8 0)) := by rw [← lhx]; rfl
    rw [List.getElem?_map, List.getElem?_eq_getElem hi, Option.map_some, e2] at h2
    have hz : z = 0 := by simpa using h2
    rw [lu8] at e1
    have h3 := World.var?_cell gl2 hlv2 11
    have h4 : lcs2.toList[11]? = some (.int .u8 0) := by
      have h5 := congrArg (fun l => l[0]?) e1
      simp only [Nat.mul_one, List.getElem?_take, List.getElem?_drop, List.getElem?_cons_zero] at h5
      simpa [hz] using h5
    rw [Array.getElem?_toList] at h4
    exact h3.trans h4
  clear hA0 hval0 hsz0 hsz
  refine (X.fnExtPointers_walk A0 A1 c0 c1 l0 l1 W (X.ids_mk lv2_0 lv2_1 lv2_2 lv2_3 lv2_4 lv2_5 lv2_6 lv2_7 lv2_8 lv2_9 lv2_10 lv2_11 lv1 lv0) s0 s1 z1 w1).mono fun e W' ⟨he, bel⟩ => ?_
  subst he
  exact ⟨_, rfl, _, _, _, [], _, [], hW', trodAll_mk1 (shut_bool Tryd.underlying4 _), (trodAll_cons_mk (Below.trod laidOut (by kernel_rfl) (of_decide_eq_true (by kernel_rfl)) k0 bel lt0) (trodAll_cons_mk (Below.trod laidOut (by kernel_rfl) (of_decide_eq_true (by kernel_rfl)) k1 bel lt1) trodAll_mk0)), rfl, bel.frame _, fun h => by cases h⟩
theorem over : Rows.fnExtPointersRow.holds Tryd.pinned (OpenSpec.ofChange Rows.fnExtPointersSpec) :=
  OpenClaim.holds_of_wide 4 Tryd.f4 rfl rfl rfl rfl rfl rfl rfl ⟨rfl, rfl, rfl, rfl, rfl⟩ rfl rfl rfl rfl rfl (by kernel_rfl) Tryd.func4 (by kernel_rfl)
    (of_decide_eq_true (by kernel_rfl)) (by unfold Func.isWrapper; first | (rw [if_pos (by decide +kernel)]; kernel_rfl) | (rw [if_neg (by decide +kernel)]; exact ⟨rfl, rfl⟩))
    (fun os started H enc _ => lifted os started H enc)
theorem proved : Rows.FnExtPointersSaid := over
theorem card : Rows.FnExtPointersCardSaid :=
  Claim7.holds_tied_plain_at .later [] [.sentinel, .sentinel, .data] true (true, "b8d3f1875524c093d318104aa734066728941d0a31fe299829d7a8a01acb91ad") true
    proved (fun _ h => by cases h) (by kernel_rfl) (fun _ h => by cases h) fnExtPointers_row_tie rfl ⟨rfl, rfl⟩ (by kernel_rfl) rfl
    (fun f fn hf hfn => by
      obtain rfl : f = 4 := Option.some.inj ((show Tryd.prog.funcNamed "pub-gunnysack/laws.FnExtPointers" = some 4 by kernel_rfl).symm.trans hf) |>.symm
      obtain rfl : fn = Tryd.f4 := (Option.some.inj (Tryd.func4.symm.trans hfn)).symm
      exact ⟨by kernel_rfl, fun j t ht => by
        rw [Tryd.params4] at ht
        rcases j with _ | _ | j
        · obtain rfl : 26 = t := by simpa using ht
          exact (show Tryd.prog.wantsStandIn 26 = false by kernel_rfl)
        · obtain rfl : 26 = t := by simpa using ht
          exact (show Tryd.prog.wantsStandIn 26 = false by kernel_rfl)
        · simp at ht⟩)
    (by kernel_rfl)
#print axioms card
end Go.Proofs.YtfpnhlfmnoikhabDoor.fnExtPointers
namespace Go.Proofs.YtfpnhlfmnoikhabDoor
/-- The tied card, under a short name, for the claim. -/
theorem fnExtPointers_holds : Rows.FnExtPointersCardSaid := fnExtPointers.card
end Go.Proofs.YtfpnhlfmnoikhabDoor
