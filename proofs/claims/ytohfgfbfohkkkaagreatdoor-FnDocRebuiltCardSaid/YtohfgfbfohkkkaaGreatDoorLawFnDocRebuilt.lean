/- The row of the law FnDocRebuilt, and its tied card. -/
import Derived.Test.YtohfgfbfohkkkaaGreatDoorRows
import Derived.Test.YtohfgfbfohkkkaaGreatDoorCards
import Derived.Test.YtohfgfbfohkkkaaGreatDoorTie
import Derived.LaidMore
import Derived.LaidLaws
import Derived.Stop.LaidErr
import Derived.Stop.Joined
import Derived.SevenTiedAt
import Derived.MakeChecks
import Derived.Test.YtohfgfbfohkkkaaGreatDoorOpenR
import Derived.Test.YtohfgfbfohkkkaaGreatDoorDocReb
import Derived.WalkKit
import Derived.ProofKit
import Derived.OpenShut
import Derived.ShutString
import Derived.ChangeOld
import Derived.Below
import Derived.SizedLaws
import Derived.Carry
namespace Go.Proofs.YtohfgfbfohkkkaaGreatDoor.fnDocRebuilt
open Go.ChangeShapes Go.WideShapes Go.ChangeAt Go.RowKit
open Go.ChangeMaps (open_string shut_string)
set_option linter.unusedVariables false
theorem own : ownKnob Tryz.prog.godebug = none := by kernel_rfl
theorem laidOut : laidOutB Tryz.prog = true := by kernel_rfl
def laidL : List (String × DataW Unit) := [("math/bits.deBruijn32tab", Rows.laid_math_bits_deBruijn32tab), ("math/bits.deBruijn64tab", Rows.laid_math_bits_deBruijn64tab), ("internal/strconv.uint64pow10", Rows.laid_internal_strconv_uint64pow10), ("io.EOF", Rows.laid_io_EOF), ("pub-gunnysack/pub/bsoncore.ErrEmptyKey", Rows.laid_pub_gunnysack_pub_bsoncore_ErrEmptyKey), ("pub-gunnysack/pub/bsoncore.ErrElementNotFound", Rows.laid_pub_gunnysack_pub_bsoncore_ErrElementNotFound), ("pub-gunnysack/pub/bsoncore.ErrOutOfBounds", Rows.laid_pub_gunnysack_pub_bsoncore_ErrOutOfBounds)]
theorem door_met (os : Os) (args : Array Value) : laidMetH Tryz.prog laidL ((World.doorLaid Tryz.prog 100 os).forCall (fun _ _ => 0) ⟨#[], args, []⟩).memory :=
  laidMetH_of_parts3 (fuel := 8) (laidMet_of_run' 8 (by kernel_rfl) (by kernel_rfl)) (by kernel_rfl) (by kernel_rfl)
theorem gl0 : Tryz.prog.globalNamed "math/bits.deBruijn32tab" = some 8 := by kernel_rfl
theorem gl1 : Tryz.prog.globalNamed "math/bits.deBruijn64tab" = some 9 := by kernel_rfl
theorem gl2 : Tryz.prog.globalNamed "internal/strconv.uint64pow10" = some 7 := by kernel_rfl
theorem gl3 : Tryz.prog.globalNamed "io.EOF" = some 3 := by kernel_rfl
theorem rowS (u : TypeId) (h : Tryz.prog.typeName? 3 u = some "*errors.errorString") : u = 236 :=
  typeName_ptr_named (nm := "errors.errorString") (by kernel_rfl) (by kernel_rfl) (by decide) u h
theorem ty3 : (Tryz.prog.globals[3]?).map (·.type) = some 52 := by kernel_rfl
theorem gl4 : Tryz.prog.globalNamed "pub-gunnysack/pub/bsoncore.ErrEmptyKey" = some 2 := by kernel_rfl
theorem ty4 : (Tryz.prog.globals[2]?).map (·.type) = some 52 := by kernel_rfl
theorem gl5 : Tryz.prog.globalNamed "pub-gunnysack/pub/bsoncore.ErrElementNotFound" = some 1 := by kernel_rfl
theorem ty5 : (Tryz.prog.globals[1]?).map (·.type) = some 52 := by kernel_rfl
theorem gl6 : Tryz.prog.globalNamed "pub-gunnysack/pub/bsoncore.ErrOutOfBounds" = some 0 := by kernel_rfl
theorem ty6 : (Tryz.prog.globals[0]?).map (·.type) = some 52 := by kernel_rfl
set_option maxRecDepth 100000 in
theorem lifted (os : Os) (started : os.Started) (H : Type) (enc : TypeId × Value → H) :
    ReturnsInHanded {} Tryz.checked os 3 .any (fun w args => (Rows.fnDocRebuiltSpec.pre enc Tryz.prog Tryz.f3 [] false w args ∧ laidMetH Tryz.prog laidL w) ∧ sizedMet enc Tryz.prog Tryz.f3 (OpenSpec.ofChange Rows.fnDocRebuiltSpec) false w args) (Rows.fnDocRebuiltSpec.post enc Tryz.prog Tryz.f3 false true false false) := by
  refine returnsInHanded_of_change_and (C := Tryz.checked) (X := fun w _ => laidMetH Tryz.prog laidL w) (fun _ _ _ hh h => h.of_heap hh) own started (by kernel_rfl) Tryz.func3
    (ChangeSpec.witness_shaped (enc := enc) (C := Tryz.checked) (os := os) (X := fun w _ => laidMetH Tryz.prog laidL w) false (World.doorLaid Tryz.prog 100 os) #[.slice none 0 0] 8 rfl (World.shaped_of_RefB (by kernel_rfl) (by kernel_rfl)) (by kernel_rfl) (by kernel_rfl) (by kernel_rfl) (door_met os _)) ?_
  intro W base args ds gs before hval0 hW hcnd hsz0 hLH _
  have hsz : (DataW.weightsEach Tryz.prog (Tryz.f3.params.toList ++ Rows.fnDocRebuiltSpec.plain.varTypes Tryz.prog) (ds ++ gs)).all (· ≤ reachBytes) = true := hsz0
  have hval : ∀ (j : Nat) t v, Tryz.f3.params[j]? = some t → args[j]? = some v → Value.okWide Tryz.prog W .any base t v := hval0
  have hW' := hW
  obtain ⟨p, q, hA0, hV, rfl, hfz, hnd⟩ := hW
  have hA : DataW.TrodAll enc Tryz.prog W 0 (fun _ => true) true Tryz.f3.params.toList args.toList ds p := hA0
  rw [Tryz.params3] at hA hval hsz
  obtain ⟨v0, vs0, d0, ds0, p0, q0, hargs, rfl, rfl, h0, r0⟩ := trodAll_cons hA
  obtain ⟨rfl, rfl, rfl⟩ := trodAll_nil r0
  obtain rfl : args = #[v0] := by cases args; simp_all
  obtain ⟨rfl, rfl⟩ := trodVars_none hV
  obtain ⟨x0, len0, cap0, rfl⟩ := okWide_slice Tryz.underlying22 (hval 0 22 v0 rfl rfl)
  have k0 := h0
  have lt0 : ∀ x ∈ p0, x.block < W.heap.size := by obtain ⟨m, hm⟩ := k0; exact DataW.trod_lt m _ _ _ hm
  obtain ⟨A0, c0, l0, e0, s0, z0⟩ : ∃ A c l, (Value.slice x0 len0 cap0) = .slice A (List.length l) c ∧ X.SB W A c l ∧ l.length ≤ 140737488351232 := by
    obtain ⟨fuel, hf⟩ := h0
    obtain ⟨A, c, l, e, hs, hz⟩ := X.open_bytes hf (fun n hn => by have := List.all_eq_true.1 hsz n (DataW.weights_mem_each (j := 0) (t := 22) rfl rfl n hn); simpa using this)
    exact ⟨A, c, l, by simpa [Value.cells] using e, hs, hz⟩
  obtain ⟨rfl, rfl, rfl⟩ : A0 = x0 ∧ l0.length = len0 ∧ c0 = cap0 := by simpa [eq_comm] using e0
  have hL0 : laidMet Tryz.prog laidL W := by rw [← MakeChecks.laidMetH_plain _ _ _ (by kernel_rfl)]; exact hLH
  obtain ⟨la3, ls3, lw3, -, -, -⟩ := laid_sentinel hL0.tail.tail.tail gl3 ty3 Tryz.underlying52 rowS Tryz.underlying236 Tryz.underlying238 rfl rfl Tryz.underlying9 (by kernel_rfl) (by kernel_rfl)
  have lv3 := World.var?_cell gl3 lw3 0
  replace lv3 : W.cell? ⟨3, 0, none⟩ = some (.iface 236 (.pointer (some la3))) := by simpa using lv3
  obtain ⟨la4, ls4, lw4, -, -, -⟩ := laid_sentinel hL0.tail.tail.tail.tail gl4 ty4 Tryz.underlying52 rowS Tryz.underlying236 Tryz.underlying238 rfl rfl Tryz.underlying9 (by kernel_rfl) (by kernel_rfl)
  have lv4 := World.var?_cell gl4 lw4 0
  replace lv4 : W.cell? ⟨2, 0, none⟩ = some (.iface 236 (.pointer (some la4))) := by simpa using lv4
  obtain ⟨la5, ls5, lw5, -, -, -⟩ := laid_sentinel hL0.tail.tail.tail.tail.tail gl5 ty5 Tryz.underlying52 rowS Tryz.underlying236 Tryz.underlying238 rfl rfl Tryz.underlying9 (by kernel_rfl) (by kernel_rfl)
  have lv5 := World.var?_cell gl5 lw5 0
  replace lv5 : W.cell? ⟨1, 0, none⟩ = some (.iface 236 (.pointer (some la5))) := by simpa using lv5
  obtain ⟨la6, ls6, lw6, -, -, -⟩ := laid_sentinel hL0.tail.tail.tail.tail.tail.tail gl6 ty6 Tryz.underlying52 rowS Tryz.underlying236 Tryz.underlying238 rfl rfl Tryz.underlying9 (by kernel_rfl) (by kernel_rfl)
  have lv6 := World.var?_cell gl6 lw6 0
  replace lv6 : W.cell? ⟨0, 0, none⟩ = some (.iface 236 (.pointer (some la6))) := by simpa using lv6
  clear hA0 hval0 hsz0 hsz
  refine (X.Ck.fnDocRebuilt_walk A0 c0 l0 W s0).mono fun e W' ⟨he, bel⟩ => ?_
  subst he
  exact ⟨_, rfl, _, _, _, [], _, [], hW', trodAll_mk1 (shut_bool Tryz.underlying4 _), (trodAll_cons_mk (Below.trod laidOut (by kernel_rfl) (of_decide_eq_true (by kernel_rfl)) k0 bel lt0) trodAll_mk0), rfl, bel.frame _, fun h => by cases h⟩
theorem over : Rows.fnDocRebuiltRow.holds Tryz.pinned (OpenSpec.ofChange Rows.fnDocRebuiltSpec) :=
  OpenClaim.holds_of_wide 3 Tryz.f3 rfl rfl rfl rfl rfl rfl rfl ⟨rfl, rfl, rfl, rfl, rfl⟩ rfl rfl rfl rfl rfl (by kernel_rfl) Tryz.func3 (by kernel_rfl)
    (of_decide_eq_true (by kernel_rfl)) (by unfold Func.isWrapper; first | (rw [if_pos (by decide +kernel)]; kernel_rfl) | (rw [if_neg (by decide +kernel)]; exact ⟨rfl, rfl⟩))
    (fun os started H enc _ => lifted os started H enc)
theorem proved : Rows.FnDocRebuiltSaid := over
theorem card : Rows.FnDocRebuiltCardSaid :=
  Claim7.holds_tied_plain_at .later [] [.data, .data, .data, .sentinel, .sentinel, .sentinel, .sentinel] true (true, "08bf1690903de9a0cb49933f78bd47389e09cb811d6b83a95b35e8a8f49ecf50") true
    proved (fun _ h => by cases h) (by kernel_rfl) (fun _ h => by cases h) fnDocRebuilt_row_tie rfl ⟨rfl, rfl⟩ (by kernel_rfl) rfl
    (fun f fn hf hfn => by
      obtain rfl : f = 3 := Option.some.inj ((show Tryz.prog.funcNamed "pub-gunnysack/laws.FnDocRebuilt" = some 3 by kernel_rfl).symm.trans hf) |>.symm
      obtain rfl : fn = Tryz.f3 := (Option.some.inj (Tryz.func3.symm.trans hfn)).symm
      exact ⟨by kernel_rfl, fun j t ht => by
        rw [Tryz.params3] at ht
        rcases j with _ | j
        · obtain rfl : 22 = t := by simpa using ht
          exact (show Tryz.prog.wantsStandIn 22 = false by kernel_rfl)
        · simp at ht⟩)
    (by kernel_rfl)
#print axioms card
end Go.Proofs.YtohfgfbfohkkkaaGreatDoor.fnDocRebuilt
namespace Go.Proofs.YtohfgfbfohkkkaaGreatDoor
/-- The tied card, under a short name, for the claim. -/
theorem fnDocRebuilt_holds : Rows.FnDocRebuiltCardSaid := fnDocRebuilt.card
end Go.Proofs.YtohfgfbfohkkkaaGreatDoor
