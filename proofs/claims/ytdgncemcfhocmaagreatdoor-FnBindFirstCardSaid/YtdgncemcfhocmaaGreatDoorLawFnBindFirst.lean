/- The row of the law FnBindFirst, and its tied card. -/
import Derived.Test.YtdgncemcfhocmaaGreatDoorRows
import Derived.Test.YtdgncemcfhocmaaGreatDoorCards
import Derived.Test.YtdgncemcfhocmaaGreatDoorTie
import Derived.LaidMore
import Derived.LaidLaws
import Derived.Stop.LaidErr
import Derived.Stop.Joined
import Derived.SevenTiedAt
import Derived.MakeChecks
import Derived.Test.YtdgncemcfhocmaaGreatDoorOpen
import Derived.Test.YtdgncemcfhocmaaGreatDoorBindFirst
import Derived.WalkKit
import Derived.ProofKit
import Derived.OpenShut
import Derived.ShutString
import Derived.ChangeOld
import Derived.Below
import Derived.SizedLaws
import Derived.Carry
namespace Go.Proofs.YtdgncemcfhocmaaGreatDoor.fnBindFirst
open Go.ChangeShapes Go.WideShapes Go.ChangeAt Go.RowKit
open Go.ChangeMaps (open_string shut_string)
set_option linter.unusedVariables false
theorem own : ownKnob Tryz.prog.godebug = none := by kernel_rfl
theorem laidOut : laidOutB Tryz.prog = true := by kernel_rfl
def laidL : List (String × DataW Unit) := [("math/bits.deBruijn32tab", Rows.laid_math_bits_deBruijn32tab), ("math/bits.deBruijn64tab", Rows.laid_math_bits_deBruijn64tab), ("internal/strconv.uint64pow10", Rows.laid_internal_strconv_uint64pow10), ("pub-gunnysack/pub/bson.maxSize", Rows.laid_pub_gunnysack_pub_bson_maxSize), ("pub-gunnysack/impl.errKids", Rows.laid_pub_gunnysack_impl_errKids)]
theorem door_met (os : Os) (args : Array Value) : laidMetH Tryz.prog laidL ((World.doorLaid Tryz.prog 66 os).forCall (fun _ _ => 0) ⟨#[], args, []⟩).memory :=
  laidMetH_of_parts3 (fuel := 8) (laidMet_of_run' 8 (by kernel_rfl) (by kernel_rfl)) (by kernel_rfl) (by kernel_rfl)
theorem gl0 : Tryz.prog.globalNamed "math/bits.deBruijn32tab" = some 5 := by kernel_rfl
theorem gl1 : Tryz.prog.globalNamed "math/bits.deBruijn64tab" = some 6 := by kernel_rfl
theorem gl2 : Tryz.prog.globalNamed "internal/strconv.uint64pow10" = some 4 := by kernel_rfl
theorem gl3 : Tryz.prog.globalNamed "pub-gunnysack/pub/bson.maxSize" = some 1 := by kernel_rfl
theorem gl4 : Tryz.prog.globalNamed "pub-gunnysack/impl.errKids" = some 0 := by kernel_rfl
theorem rowS (u : TypeId) (h : Tryz.prog.typeName? 3 u = some "*errors.errorString") : u = 123 :=
  typeName_ptr_named (nm := "errors.errorString") (by kernel_rfl) (by kernel_rfl) (by decide) u h
theorem ty4 : (Tryz.prog.globals[0]?).map (·.type) = some 52 := by kernel_rfl
set_option maxRecDepth 100000 in
theorem lifted (os : Os) (started : os.Started) (H : Type) (enc : TypeId × Value → H) :
    ReturnsInHanded {} Tryz.checked os 3 .any (fun w args => (Rows.fnBindFirstSpec.pre enc Tryz.prog Tryz.f3 [] false w args ∧ laidMetH Tryz.prog laidL w) ∧ sizedMet enc Tryz.prog Tryz.f3 (OpenSpec.ofChange Rows.fnBindFirstSpec) false w args) (Rows.fnBindFirstSpec.post enc Tryz.prog Tryz.f3 false true false false) := by
  refine returnsInHanded_of_change_and (C := Tryz.checked) (X := fun w _ => laidMetH Tryz.prog laidL w) (fun _ _ _ hh h => h.of_heap hh) own started (by kernel_rfl) Tryz.func3
    (ChangeSpec.witness_shaped (enc := enc) (C := Tryz.checked) (os := os) (X := fun w _ => laidMetH Tryz.prog laidL w) false (World.doorLaid Tryz.prog 66 os) #[.agg #[.int .i64 0, .string ByteArray.empty, .string ByteArray.empty, .int .i64 0, .int .u64 0, .int .u64 0, .slice none 0 0, .slice none 0 0]] 8 rfl (World.shaped_of_RefB (by kernel_rfl) (by kernel_rfl)) (by kernel_rfl) (by kernel_rfl) (by kernel_rfl) (door_met os _)) ?_
  intro W base args ds gs before hval0 hW hcnd hsz0 hLH _
  have hsz : (DataW.weightsEach Tryz.prog (Tryz.f3.params.toList ++ Rows.fnBindFirstSpec.plain.varTypes Tryz.prog) (ds ++ gs)).all (· ≤ reachBytes) = true := hsz0
  have hval : ∀ (j : Nat) t v, Tryz.f3.params[j]? = some t → args[j]? = some v → Value.okWide Tryz.prog W .any base t v := hval0
  have hW' := hW
  obtain ⟨p, q, hA0, hV, rfl, hfz, hnd⟩ := hW
  have hA : DataW.TrodAll enc Tryz.prog W 0 (fun _ => true) true Tryz.f3.params.toList args.toList ds p := hA0
  rw [Tryz.params3] at hA hval hsz
  obtain ⟨v0, vs0, d0, ds0, p0, q0, hargs, rfl, rfl, h0, r0⟩ := trodAll_cons hA
  obtain ⟨rfl, rfl, rfl⟩ := trodAll_nil r0
  obtain rfl : args = #[v0] := by cases args; simp_all
  obtain ⟨rfl, rfl⟩ := trodVars_none hV
  obtain ⟨cs0, rfl, -⟩ := okWide_struct Tryz.underlying26 (hval 0 26 v0 rfl rfl)
  have k0 := h0
  have lt0 : ∀ x ∈ p0, x.block < W.heap.size := by obtain ⟨m, hm⟩ := k0; exact DataW.trod_lt m _ _ _ hm
  obtain ⟨u0, rv0, ok0⟩ := X.open_val h0 (fun n hn => by have := List.all_eq_true.1 hsz n (DataW.weights_mem_each (j := 0) (t := 26) rfl rfl n hn); simpa using this)
  have hL0 : laidMet Tryz.prog laidL W := by rw [← MakeChecks.laidMetH_plain _ _ _ (by kernel_rfl)]; exact hLH
  obtain ⟨la4, ls4, lw4, -, -, -⟩ := laid_sentinel hL0.tail.tail.tail.tail gl4 ty4 Tryz.underlying52 rowS Tryz.underlying123 Tryz.underlying125 rfl rfl Tryz.underlying9 (by kernel_rfl) (by kernel_rfl)
  have lv4 := World.var?_cell gl4 lw4 0
  replace lv4 : W.cell? ⟨0, 0, none⟩ = some (.iface 123 (.pointer (some la4))) := by simpa using lv4
  clear hA0 hval0 hsz0 hsz
  refine (X.Vw.fnBindFirst_walk u0 cs0.toList W ok0 rv0 _ _ lv4).mono fun e W' ⟨he, bel⟩ => ?_
  subst he
  exact ⟨_, rfl, _, _, _, [], _, [], hW', trodAll_mk1 (shut_bool Tryz.underlying4 _), (trodAll_cons_mk (Below.trod laidOut (by kernel_rfl) (of_decide_eq_true (by kernel_rfl)) k0 bel lt0) trodAll_mk0), rfl, bel.frame _, fun h => by cases h⟩
theorem over : Rows.fnBindFirstRow.holds Tryz.pinned (OpenSpec.ofChange Rows.fnBindFirstSpec) :=
  OpenClaim.holds_of_wide 3 Tryz.f3 rfl rfl rfl rfl rfl rfl rfl ⟨rfl, rfl, rfl, rfl, rfl⟩ rfl rfl rfl rfl rfl (by kernel_rfl) Tryz.func3 (by kernel_rfl)
    (of_decide_eq_true (by kernel_rfl)) (by unfold Func.isWrapper; first | (rw [if_pos (by decide +kernel)]; kernel_rfl) | (rw [if_neg (by decide +kernel)]; exact ⟨rfl, rfl⟩))
    (fun os started H enc _ => lifted os started H enc)
theorem proved : Rows.FnBindFirstSaid := over
theorem card : Rows.FnBindFirstCardSaid :=
  Claim7.holds_tied_plain_at .later [] [.data, .data, .data, .data, .sentinel] true (true, "a97be2bff9db4704a004f5dc65a59dce46c530acd82607443e3b1a18bf5fd011") false
    proved (fun _ h => by cases h) (by kernel_rfl) (fun _ h => by cases h) fnBindFirst_row_tie rfl ⟨rfl, rfl⟩ (by kernel_rfl) rfl
    (fun f fn hf hfn => by
      obtain rfl : f = 3 := Option.some.inj ((show Tryz.prog.funcNamed "pub-gunnysack/laws.FnBindFirst" = some 3 by kernel_rfl).symm.trans hf) |>.symm
      obtain rfl : fn = Tryz.f3 := (Option.some.inj (Tryz.func3.symm.trans hfn)).symm
      exact ⟨by kernel_rfl, fun j t ht => by
        rw [Tryz.params3] at ht
        rcases j with _ | j
        · obtain rfl : 26 = t := by simpa using ht
          exact (show Tryz.prog.wantsStandIn 26 = false by kernel_rfl)
        · simp at ht⟩)
    (by kernel_rfl)
#print axioms card
end Go.Proofs.YtdgncemcfhocmaaGreatDoor.fnBindFirst
namespace Go.Proofs.YtdgncemcfhocmaaGreatDoor
/-- The tied card, under a short name, for the claim. -/
theorem fnBindFirst_holds : Rows.FnBindFirstCardSaid := fnBindFirst.card
end Go.Proofs.YtdgncemcfhocmaaGreatDoor
