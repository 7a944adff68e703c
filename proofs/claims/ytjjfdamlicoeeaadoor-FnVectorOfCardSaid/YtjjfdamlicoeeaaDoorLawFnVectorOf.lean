/- The row of the law FnVectorOf, and its tied card. -/
import Derived.Test.YtjjfdamlicoeeaaDoorRows
import Derived.Test.YtjjfdamlicoeeaaDoorCards
import Derived.Test.YtjjfdamlicoeeaaDoorTie
import Derived.LaidMore
import Derived.LaidLaws
import Derived.Stop.LaidErr
import Derived.Stop.Joined
import Derived.SevenTiedAt
import Derived.MakeChecks
import Derived.Test.YtjjfdamlicoeeaaDoorOpenB
import Derived.Test.YtjjfdamlicoeeaaDoorVectorOf
import Derived.WalkKit
import Derived.ProofKit
import Derived.OpenShut
import Derived.ShutString
import Derived.ChangeOld
import Derived.Below
import Derived.SizedLaws
import Derived.Carry
namespace Go.Proofs.YtjjfdamlicoeeaaDoor.fnVectorOf
open Go.ChangeShapes Go.WideShapes Go.ChangeAt Go.RowKit
open Go.ChangeMaps (open_string shut_string)
set_option linter.unusedVariables false
theorem own : ownKnob Tryd.prog.godebug = none := by kernel_rfl
theorem laidOut : laidOutB Tryd.prog = true := by kernel_rfl
def laidL : List (String × DataW Unit) := [("pub-gunnysack/pub/bson.errInsufficientVectorData", Rows.laid_pub_gunnysack_pub_bson_errInsufficientVectorData), ("pub-gunnysack/pub/bson.errNonZeroVectorPadding", Rows.laid_pub_gunnysack_pub_bson_errNonZeroVectorPadding), ("pub-gunnysack/pub/bson.errVectorPaddingTooLarge", Rows.laid_pub_gunnysack_pub_bson_errVectorPaddingTooLarge)]
theorem door_met (os : Os) (args : Array Value) : laidMetH Tryd.prog laidL ((World.doorLaid Tryd.prog 305 os).forCall (fun _ _ => 0) ⟨#[], args, []⟩).memory :=
  laidMetH_of_parts3 (fuel := 8) (laidMet_of_run' 8 (by kernel_rfl) (by kernel_rfl)) (by kernel_rfl) (by kernel_rfl)
theorem gl0 : Tryd.prog.globalNamed "pub-gunnysack/pub/bson.errInsufficientVectorData" = some 6 := by kernel_rfl
theorem rowS (u : TypeId) (h : Tryd.prog.typeName? 3 u = some "*errors.errorString") : u = 157 :=
  typeName_ptr_named (nm := "errors.errorString") (by kernel_rfl) (by kernel_rfl) (by decide) u h
theorem ty0 : (Tryd.prog.globals[6]?).map (·.type) = some 59 := by kernel_rfl
theorem gl1 : Tryd.prog.globalNamed "pub-gunnysack/pub/bson.errNonZeroVectorPadding" = some 8 := by kernel_rfl
theorem ty1 : (Tryd.prog.globals[8]?).map (·.type) = some 59 := by kernel_rfl
theorem gl2 : Tryd.prog.globalNamed "pub-gunnysack/pub/bson.errVectorPaddingTooLarge" = some 13 := by kernel_rfl
theorem ty2 : (Tryd.prog.globals[13]?).map (·.type) = some 59 := by kernel_rfl
set_option maxRecDepth 100000 in
theorem lifted (os : Os) (started : os.Started) (H : Type) (enc : TypeId × Value → H) :
    ReturnsInHanded {} Tryd.checked os 7 .any (fun w args => (Rows.fnVectorOfSpec.pre enc Tryd.prog Tryd.f7 [] false w args ∧ laidMetH Tryd.prog laidL w) ∧ sizedMet enc Tryd.prog Tryd.f7 (OpenSpec.ofChange Rows.fnVectorOfSpec) false w args) (Rows.fnVectorOfSpec.post enc Tryd.prog Tryd.f7 false true false false) := by
  refine returnsInHanded_of_change_and (C := Tryd.checked) (X := fun w _ => laidMetH Tryd.prog laidL w) (fun _ _ _ hh h => h.of_heap hh) own started (by kernel_rfl) Tryd.func7
    (ChangeSpec.witness_shaped (enc := enc) (C := Tryd.checked) (os := os) (X := fun w _ => laidMetH Tryd.prog laidL w) false (World.doorLaid Tryd.prog 305 os) #[.int .u8 0, .slice none 0 0] 8 rfl (World.shaped_of_RefB (by kernel_rfl) (by kernel_rfl)) (by kernel_rfl) (by kernel_rfl) (by kernel_rfl) (door_met os _)) ?_
  intro W base args ds gs before hval0 hW hcnd hsz0 hLH _
  have hsz : (DataW.weightsEach Tryd.prog (Tryd.f7.params.toList ++ Rows.fnVectorOfSpec.plain.varTypes Tryd.prog) (ds ++ gs)).all (· ≤ reachBytes) = true := hsz0
  have hval : ∀ (j : Nat) t v, Tryd.f7.params[j]? = some t → args[j]? = some v → Value.okWide Tryd.prog W .any base t v := hval0
  have hW' := hW
  obtain ⟨p, q, hA0, hV, rfl, hfz, hnd⟩ := hW
  have hA : DataW.TrodAll enc Tryd.prog W 0 (fun _ => true) true Tryd.f7.params.toList args.toList ds p := hA0
  rw [Tryd.params7] at hA hval hsz
  obtain ⟨v0, vs0, d0, ds0, p0, q0, hargs, rfl, rfl, h0, r0⟩ := trodAll_cons hA
  obtain ⟨v1, vs1, d1, ds1, p1, q1, rfl, rfl, rfl, h1, r1⟩ := trodAll_cons r0
  obtain ⟨rfl, rfl, rfl⟩ := trodAll_nil r1
  obtain rfl : args = #[v0, v1] := by cases args; simp_all
  obtain ⟨rfl, rfl⟩ := trodVars_none hV
  obtain ⟨a0, rfl, rfl, rfl, w0⟩ := open_int Tryd.underlying5 (hval 0 5 v0 rfl rfl) h0
  obtain ⟨x1, len1, cap1, rfl⟩ := okWide_slice Tryd.underlying38 (hval 1 38 v1 rfl rfl)
  have k1 := h1
  have lt1 : ∀ x ∈ p1, x.block < W.heap.size := by obtain ⟨m, hm⟩ := k1; exact DataW.trod_lt m _ _ _ hm
  obtain ⟨A1, c1, l1, e1, s1, z1⟩ : ∃ A c l, (Value.slice x1 len1 cap1) = .slice A (List.length l) c ∧ X.SB W A c l ∧ l.length ≤ 140737488351232 := by
    obtain ⟨fuel, hf⟩ := h1
    obtain ⟨A, c, l, e, hs, hz⟩ := X.open_bytes hf (fun n hn => by have := List.all_eq_true.1 hsz n (DataW.weights_mem_each (j := 1) (t := 38) rfl rfl n hn); simpa using this)
    exact ⟨A, c, l, by simpa [Value.cells] using e, hs, hz⟩
  obtain ⟨rfl, rfl, rfl⟩ : A1 = x1 ∧ l1.length = len1 ∧ c1 = cap1 := by simpa [eq_comm] using e1
  have hL0 : laidMet Tryd.prog laidL W := by rw [← MakeChecks.laidMetH_plain _ _ _ (by kernel_rfl)]; exact hLH
  obtain ⟨la0, ls0, lw0, -, -, -⟩ := laid_sentinel hL0 gl0 ty0 Tryd.underlying59 rowS Tryd.underlying157 Tryd.underlying159 rfl rfl Tryd.underlying9 (by kernel_rfl) (by kernel_rfl)
  have lv0 := World.var?_cell gl0 lw0 0
  replace lv0 : W.cell? ⟨6, 0, none⟩ = some (.iface 157 (.pointer (some la0))) := by simpa using lv0
  obtain ⟨la1, ls1, lw1, -, -, -⟩ := laid_sentinel hL0.tail gl1 ty1 Tryd.underlying59 rowS Tryd.underlying157 Tryd.underlying159 rfl rfl Tryd.underlying9 (by kernel_rfl) (by kernel_rfl)
  have lv1 := World.var?_cell gl1 lw1 0
  replace lv1 : W.cell? ⟨8, 0, none⟩ = some (.iface 157 (.pointer (some la1))) := by simpa using lv1
  obtain ⟨la2, ls2, lw2, -, -, -⟩ := laid_sentinel hL0.tail.tail gl2 ty2 Tryd.underlying59 rowS Tryd.underlying157 Tryd.underlying159 rfl rfl Tryd.underlying9 (by kernel_rfl) (by kernel_rfl)
  have lv2 := World.var?_cell gl2 lw2 0
  replace lv2 : W.cell? ⟨13, 0, none⟩ = some (.iface 157 (.pointer (some la2))) := by simpa using lv2
  clear hA0 hval0 hsz0 hsz
  refine (X.fnVectorOf_walk a0 A1 c1 l1 W (X.wf_u8 w0) s1 z1 ⟨⟨_, _, lv0⟩, ⟨_, _, lv1⟩, ⟨_, _, lv2⟩⟩).mono fun e W' ⟨he, bel⟩ => ?_
  subst he
  exact ⟨_, rfl, _, _, _, [], _, [], hW', trodAll_mk1 (shut_bool Tryd.underlying4 _), (trodAll_cons_mk (shut_int Tryd.underlying5 w0) (trodAll_cons_mk (Below.trod laidOut (by kernel_rfl) (of_decide_eq_true (by kernel_rfl)) k1 bel lt1) trodAll_mk0)), rfl, bel.frame _, fun h => by cases h⟩
theorem over : Rows.fnVectorOfRow.holds Tryd.pinned (OpenSpec.ofChange Rows.fnVectorOfSpec) :=
  OpenClaim.holds_of_wide 7 Tryd.f7 rfl rfl rfl rfl rfl rfl rfl ⟨rfl, rfl, rfl, rfl, rfl⟩ rfl rfl rfl rfl rfl (by kernel_rfl) Tryd.func7 (by kernel_rfl)
    (of_decide_eq_true (by kernel_rfl)) (by unfold Func.isWrapper; first | (rw [if_pos (by decide +kernel)]; kernel_rfl) | (rw [if_neg (by decide +kernel)]; exact ⟨rfl, rfl⟩))
    (fun os started H enc _ => lifted os started H enc)
theorem proved : Rows.FnVectorOfSaid := over
theorem card : Rows.FnVectorOfCardSaid :=
  Claim7.holds_tied_plain_at .later [] [.sentinel, .sentinel, .sentinel] true (true, "7da068721f49058a71cf5930553b8205bb915b14a0a9b9adeb5cbc5c8bfef302") true
    proved (fun _ h => by cases h) (by kernel_rfl) (fun _ h => by cases h) fnVectorOf_row_tie rfl ⟨rfl, rfl⟩ (by kernel_rfl) rfl
    (fun f fn hf hfn => by
      obtain rfl : f = 7 := Option.some.inj ((show Tryd.prog.funcNamed "pub-gunnysack/laws.FnVectorOf" = some 7 by kernel_rfl).symm.trans hf) |>.symm
      obtain rfl : fn = Tryd.f7 := (Option.some.inj (Tryd.func7.symm.trans hfn)).symm
      exact ⟨by kernel_rfl, fun j t ht => by
        rw [Tryd.params7] at ht
        rcases j with _ | _ | j
        · obtain rfl : 5 = t := by simpa using ht
          exact (show Tryd.prog.wantsStandIn 5 = false by kernel_rfl)
        · obtain rfl : 38 = t := by simpa using ht
          exact (show Tryd.prog.wantsStandIn 38 = false by kernel_rfl)
        · simp at ht⟩)
    (by kernel_rfl)
#print axioms card
end Go.Proofs.YtjjfdamlicoeeaaDoor.fnVectorOf
namespace Go.Proofs.YtjjfdamlicoeeaaDoor
/-- The tied card, under a short name, for the claim. -/
theorem fnVectorOf_holds : Rows.FnVectorOfCardSaid := fnVectorOf.card
end Go.Proofs.YtjjfdamlicoeeaaDoor
