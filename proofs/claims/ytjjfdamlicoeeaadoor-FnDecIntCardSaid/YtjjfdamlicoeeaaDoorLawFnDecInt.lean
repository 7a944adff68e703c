/- The row of the law FnDecInt, and its tied card. -/
import Derived.Test.YtjjfdamlicoeeaaDoorRows
import Derived.Test.YtjjfdamlicoeeaaDoorCards
import Derived.Test.YtjjfdamlicoeeaaDoorTie
import Derived.LaidMore
import Derived.LaidLaws
import Derived.Stop.LaidErr
import Derived.Stop.LaidTwo
import Derived.Stop.Joined
import Derived.SevenTiedAt
import Derived.MakeChecks
import Derived.Test.YtjjfdamlicoeeaaDoorOpenB
import Derived.Test.YtjjfdamlicoeeaaDoorDecIntL
import Derived.WalkKit
import Derived.ProofKit
import Derived.OpenShut
import Derived.ShutString
import Derived.ChangeOld
import Derived.Below
import Derived.SizedLaws
import Derived.Carry
namespace Go.Proofs.YtjjfdamlicoeeaaDoor.fnDecInt
open Go.ChangeShapes Go.WideShapes Go.ChangeAt Go.RowKit
open Go.ChangeMaps (open_string shut_string)
set_option linter.unusedVariables false
theorem own : ownKnob Tryd.prog.godebug = none := by kernel_rfl
theorem laidOut : laidOutB Tryd.prog = true := by kernel_rfl
def laidL : List (String × DataW Unit) := [("pub-gunnysack/pub/bson.ErrParseNaN", Rows.laid_pub_gunnysack_pub_bson_ErrParseNaN), ("pub-gunnysack/pub/bson.ErrParseInf", Rows.laid_pub_gunnysack_pub_bson_ErrParseInf), ("pub-gunnysack/pub/bson.ErrParseNegInf", Rows.laid_pub_gunnysack_pub_bson_ErrParseNegInf)]
theorem door_met (os : Os) (args : Array Value) : laidMetH Tryd.prog laidL ((World.doorLaid Tryd.prog 305 os).forCall (fun _ _ => 0) ⟨#[], args, []⟩).memory :=
  laidMetH_of_parts3 (fuel := 8) (laidMet_of_run' 8 (by kernel_rfl) (by kernel_rfl)) (by kernel_rfl) (by kernel_rfl)
theorem gl0 : Tryd.prog.globalNamed "pub-gunnysack/pub/bson.ErrParseNaN" = some 0 := by kernel_rfl
theorem rowS (u : TypeId) (h : Tryd.prog.typeName? 3 u = some "*errors.errorString") : u = 157 :=
  typeName_ptr_named (nm := "errors.errorString") (by kernel_rfl) (by kernel_rfl) (by decide) u h
theorem ty0 : (Tryd.prog.globals[0]?).map (·.type) = some 59 := by kernel_rfl
theorem gl1 : Tryd.prog.globalNamed "pub-gunnysack/pub/bson.ErrParseInf" = some 1 := by kernel_rfl
theorem ty1 : (Tryd.prog.globals[1]?).map (·.type) = some 59 := by kernel_rfl
theorem gl2 : Tryd.prog.globalNamed "pub-gunnysack/pub/bson.ErrParseNegInf" = some 2 := by kernel_rfl
theorem ty2 : (Tryd.prog.globals[2]?).map (·.type) = some 59 := by kernel_rfl
set_option maxRecDepth 100000 in
theorem lifted (os : Os) (started : os.Started) (H : Type) (enc : TypeId × Value → H) :
    ReturnsInHanded {} Tryd.checked os 3 .any (fun w args => (Rows.fnDecIntSpec.pre enc Tryd.prog Tryd.f3 [] false w args ∧ laidMetH Tryd.prog laidL w) ∧ sizedMet enc Tryd.prog Tryd.f3 (OpenSpec.ofChange Rows.fnDecIntSpec) false w args) (Rows.fnDecIntSpec.post enc Tryd.prog Tryd.f3 false true false false) := by
  refine returnsInHanded_of_change_and (C := Tryd.checked) (X := fun w _ => laidMetH Tryd.prog laidL w) (fun _ _ _ hh h => h.of_heap hh) own started (by kernel_rfl) Tryd.func3
    (ChangeSpec.witness_shaped (enc := enc) (C := Tryd.checked) (os := os) (X := fun w _ => laidMetH Tryd.prog laidL w) false (World.doorLaid Tryd.prog 305 os) #[.int .u64 0, .int .u64 0] 8 rfl (World.shaped_of_RefB (by kernel_rfl) (by kernel_rfl)) (by kernel_rfl) (by kernel_rfl) (by kernel_rfl) (door_met os _)) ?_
  intro W base args ds gs before hval0 hW hcnd hsz0 hLH _
  have hsz : (DataW.weightsEach Tryd.prog (Tryd.f3.params.toList ++ Rows.fnDecIntSpec.plain.varTypes Tryd.prog) (ds ++ gs)).all (· ≤ reachBytes) = true := hsz0
  have hval : ∀ (j : Nat) t v, Tryd.f3.params[j]? = some t → args[j]? = some v → Value.okWide Tryd.prog W .any base t v := hval0
  have hW' := hW
  obtain ⟨p, q, hA0, hV, rfl, hfz, hnd⟩ := hW
  have hA : DataW.TrodAll enc Tryd.prog W 0 (fun _ => true) true Tryd.f3.params.toList args.toList ds p := hA0
  rw [Tryd.params3] at hA hval hsz
  obtain ⟨v0, vs0, d0, ds0, p0, q0, hargs, rfl, rfl, h0, r0⟩ := trodAll_cons hA
  obtain ⟨v1, vs1, d1, ds1, p1, q1, rfl, rfl, rfl, h1, r1⟩ := trodAll_cons r0
  obtain ⟨rfl, rfl, rfl⟩ := trodAll_nil r1
  obtain rfl : args = #[v0, v1] := by cases args; simp_all
  obtain ⟨rfl, rfl⟩ := trodVars_none hV
  obtain ⟨a0, rfl, rfl, rfl, w0⟩ := open_int Tryd.underlying22 (hval 0 22 v0 rfl rfl) h0
  obtain ⟨a1, rfl, rfl, rfl, w1⟩ := open_int Tryd.underlying22 (hval 1 22 v1 rfl rfl) h1
  have hL0 : laidMet Tryd.prog laidL W := by rw [← MakeChecks.laidMetH_plain _ _ _ (by kernel_rfl)]; exact hLH
  obtain ⟨la0, ls0, lw0, lc0, lt0, -⟩ := laid_sentinel hL0 gl0 ty0 Tryd.underlying59 rowS Tryd.underlying157 Tryd.underlying159 rfl rfl Tryd.underlying9 (by kernel_rfl) (by kernel_rfl)
  have lv0 := World.var?_cell gl0 lw0 0
  replace lv0 : W.cell? ⟨0, 0, none⟩ = some (.iface 157 (.pointer (some la0))) := by simpa using lv0
  obtain ⟨la1, ls1, lw1, lc1, lt1, -⟩ := laid_sentinel hL0.tail gl1 ty1 Tryd.underlying59 rowS Tryd.underlying157 Tryd.underlying159 rfl rfl Tryd.underlying9 (by kernel_rfl) (by kernel_rfl)
  have lv1 := World.var?_cell gl1 lw1 0
  replace lv1 : W.cell? ⟨1, 0, none⟩ = some (.iface 157 (.pointer (some la1))) := by simpa using lv1
  obtain ⟨la2, ls2, lw2, lc2, lt2, -⟩ := laid_sentinel hL0.tail.tail gl2 ty2 Tryd.underlying59 rowS Tryd.underlying157 Tryd.underlying159 rfl rfl Tryd.underlying9 (by kernel_rfl) (by kernel_rfl)
  have lv2 := World.var?_cell gl2 lw2 0
  replace lv2 : W.cell? ⟨2, 0, none⟩ = some (.iface 157 (.pointer (some la2))) := by simpa using lv2
  obtain ⟨qa0, qa1, qs0, qs1, qc0, qc1, qt0, qt1, qv0, qv1, -, -, -, -, -, -, -, qb0, qb1⟩ := laid_sentinels2 hL0 gl0 ty0 gl1 ty1 Tryd.underlying59 rowS Tryd.underlying157 Tryd.underlying159 rfl rfl Tryd.underlying9 (by kernel_rfl) (by kernel_rfl)
  obtain ⟨ra0, ra1, rs0, rs1, rc0, rc1, rt0, rt1, rv0, rv1, -, -, -, -, -, -, -, rb0, rb1⟩ := laid_sentinels2 hL0.tail gl1 ty1 gl2 ty2 Tryd.underlying59 rowS Tryd.underlying157 Tryd.underlying159 rfl rfl Tryd.underlying9 (by kernel_rfl) (by kernel_rfl)
  obtain rfl : qa0 = la0 := by have := qv0.symm.trans lw0; simpa using this
  obtain rfl : qa1 = la1 := by have := qv1.symm.trans lw1; simpa using this
  obtain rfl : ra1 = la2 := by have := rv1.symm.trans lw2; simpa using this
  have HSENT : X.Sent W qa0 qa1 ra1 := by
    refine ⟨lv0, lv1, lv2, ?_, ?_, ?_, ⟨_, _, qb0⟩, ⟨_, _, qb1⟩, ⟨_, _, rb1⟩⟩
    · intro e
      rw [e, lc1] at lc0
      have e2 : ls1 = ls0 := by simpa using lc0
      rw [← e2, lt1] at lt0
      exact absurd lt0 (by decide)
    · intro e
      rw [e, lc2] at lc0
      have e2 : ls2 = ls0 := by simpa using lc0
      rw [← e2, lt2] at lt0
      exact absurd lt0 (by decide)
    · intro e
      rw [e, lc2] at lc1
      have e2 : ls2 = ls1 := by simpa using lc1
      rw [← e2, lt2] at lt1
      exact absurd lt1 (by decide)
  clear hA0 hval0 hsz0 hsz
  refine (X.fnDecInt_walk a0 a1 W (X.wf_int w0).1 (X.wf_int w0).2 (X.wf_int w1).1 (X.wf_int w1).2 HSENT).mono fun e W' ⟨he, bel⟩ => ?_
  subst he
  exact ⟨_, rfl, _, _, _, [], _, [], hW', trodAll_mk1 (shut_bool Tryd.underlying4 _), (trodAll_cons_mk (shut_int Tryd.underlying22 w0) (trodAll_cons_mk (shut_int Tryd.underlying22 w1) trodAll_mk0)), rfl, bel.frame _, fun h => by cases h⟩
theorem over : Rows.fnDecIntRow.holds Tryd.pinned (OpenSpec.ofChange Rows.fnDecIntSpec) :=
  OpenClaim.holds_of_wide 3 Tryd.f3 rfl rfl rfl rfl rfl rfl rfl ⟨rfl, rfl, rfl, rfl, rfl⟩ rfl rfl rfl rfl rfl (by kernel_rfl) Tryd.func3 (by kernel_rfl)
    (of_decide_eq_true (by kernel_rfl)) (by unfold Func.isWrapper; first | (rw [if_pos (by decide +kernel)]; kernel_rfl) | (rw [if_neg (by decide +kernel)]; exact ⟨rfl, rfl⟩))
    (fun os started H enc _ => lifted os started H enc)
theorem proved : Rows.FnDecIntSaid := over
theorem card : Rows.FnDecIntCardSaid :=
  Claim7.holds_tied_plain_at .later [] [.sentinel, .sentinel, .sentinel] true (true, "7da068721f49058a71cf5930553b8205bb915b14a0a9b9adeb5cbc5c8bfef302") true
    proved (fun _ h => by cases h) (by kernel_rfl) (fun _ h => by cases h) fnDecInt_row_tie rfl ⟨rfl, rfl⟩ (by kernel_rfl) rfl
    (fun f fn hf hfn => by
      obtain rfl : f = 3 := Option.some.inj ((show Tryd.prog.funcNamed "pub-gunnysack/laws.FnDecInt" = some 3 by kernel_rfl).symm.trans hf) |>.symm
      obtain rfl : fn = Tryd.f3 := (Option.some.inj (Tryd.func3.symm.trans hfn)).symm
      exact ⟨by kernel_rfl, fun j t ht => by
        rw [Tryd.params3] at ht
        rcases j with _ | _ | j
        · obtain rfl : 22 = t := by simpa using ht
          exact (show Tryd.prog.wantsStandIn 22 = false by kernel_rfl)
        · obtain rfl : 22 = t := by simpa using ht
          exact (show Tryd.prog.wantsStandIn 22 = false by kernel_rfl)
        · simp at ht⟩)
    (by kernel_rfl)
#print axioms card
end Go.Proofs.YtjjfdamlicoeeaaDoor.fnDecInt
namespace Go.Proofs.YtjjfdamlicoeeaaDoor
/-- The tied card, under a short name, for the claim. -/
theorem fnDecInt_holds : Rows.FnDecIntCardSaid := fnDecInt.card
end Go.Proofs.YtjjfdamlicoeeaaDoor
