/- The row of the law FnDocStartEnd. -/
import Derived.Test.YtfpnhlfmnoikhabRows
import Derived.Test.YtfpnhlfmnoikhabOpenB
import Derived.Test.YtfpnhlfmnoikhabStartEnd
import Derived.WalkKit
import Derived.ProofKit
import Derived.OpenShut
import Derived.ShutString
import Derived.ChangeOld
import Derived.Below
import Derived.SizedLaws
import Derived.Carry
namespace Go.Proofs.Ytfpnhlfmnoikhab.fnDocStartEnd
open Go.ChangeShapes Go.WideShapes Go.ChangeAt Go.RowKit
open Go.ChangeMaps (open_string shut_string)
set_option linter.unusedVariables false
theorem own : ownKnob Try.prog.godebug = none := by kernel_rfl
theorem laidOut : laidOutB Try.prog = true := by kernel_rfl
set_option maxRecDepth 100000 in
theorem lifted (os : Os) (started : os.Started) (H : Type) (enc : TypeId × Value → H) :
    ReturnsInHanded {} Try.checked os 4 .any (Rows.fnDocStartEndSpec.pre6 enc Try.prog Try.f4 Rows.fnDocStartEndRow.domain false) (Rows.fnDocStartEndSpec.post enc Try.prog Try.f4 false true false false) := by
  refine returnsInHanded_of_change_sized (C := Try.checked) own started (by kernel_rfl) Try.func4
    (ChangeSpec.witness6 (enc := enc) (C := Try.checked) false ⟨#[], #[.slice none 0 0, .slice none 0 0], []⟩ 8 (by kernel_rfl) (by kernel_rfl) (by kernel_rfl) (by kernel_rfl)) ?_
  intro W base args ds gs before hval0 hW hcnd hsz0 _
  have hsz : (DataW.weightsEach Try.prog (Try.f4.params.toList ++ Rows.fnDocStartEndSpec.plain.varTypes Try.prog) (ds ++ gs)).all (· ≤ reachBytes) = true := hsz0
  have hval : ∀ (j : Nat) t v, Try.f4.params[j]? = some t → args[j]? = some v → Value.okWide Try.prog W .any base t v := hval0
  have hW' := hW
  obtain ⟨p, q, hA0, hV, rfl, hfz, hnd⟩ := hW
  have hA : DataW.TrodAll enc Try.prog W 0 (fun _ => true) true Try.f4.params.toList args.toList ds p := hA0
  rw [Try.params4] at hA hval hsz
  obtain ⟨v0, vs0, d0, ds0, p0, q0, hargs, rfl, rfl, h0, r0⟩ := trodAll_cons hA
  obtain ⟨v1, vs1, d1, ds1, p1, q1, rfl, rfl, rfl, h1, r1⟩ := trodAll_cons r0
  obtain ⟨rfl, rfl, rfl⟩ := trodAll_nil r1
  obtain rfl : args = #[v0, v1] := by cases args; simp_all
  obtain ⟨rfl, rfl⟩ := trodVars_none hV
  obtain ⟨x0, len0, cap0, rfl⟩ := okWide_slice Try.underlying25 (hval 0 25 v0 rfl rfl)
  have k0 := h0
  have lt0 : ∀ x ∈ p0, x.block < W.heap.size := by obtain ⟨m, hm⟩ := k0; exact DataW.trod_lt m _ _ _ hm
  obtain ⟨A0, c0, l0, e0, s0, z0⟩ : ∃ A c l, (Value.slice x0 len0 cap0) = .slice A (List.length l) c ∧ X.SB W A c l ∧ l.length ≤ 140737488351232 := by
    obtain ⟨fuel, hf⟩ := h0
    obtain ⟨A, c, l, e, hs, hz⟩ := X.open_bytes hf (fun n hn => by have := List.all_eq_true.1 hsz n (DataW.weights_mem_each (j := 0) (t := 25) rfl rfl n hn); simpa using this)
    exact ⟨A, c, l, by simpa [Value.cells] using e, hs, hz⟩
  obtain ⟨rfl, rfl, rfl⟩ : A0 = x0 ∧ l0.length = len0 ∧ c0 = cap0 := by simpa [eq_comm] using e0
  obtain ⟨x1, len1, cap1, rfl⟩ := okWide_slice Try.underlying25 (hval 1 25 v1 rfl rfl)
  have k1 := h1
  have lt1 : ∀ x ∈ p1, x.block < W.heap.size := by obtain ⟨m, hm⟩ := k1; exact DataW.trod_lt m _ _ _ hm
  obtain ⟨A1, c1, l1, e1, s1, z1⟩ : ∃ A c l, (Value.slice x1 len1 cap1) = .slice A (List.length l) c ∧ X.SB W A c l ∧ l.length ≤ 140737488351232 := by
    obtain ⟨fuel, hf⟩ := h1
    obtain ⟨A, c, l, e, hs, hz⟩ := X.open_bytes hf (fun n hn => by have := List.all_eq_true.1 hsz n (DataW.weights_mem_each (j := 1) (t := 25) rfl rfl n hn); simpa using this)
    exact ⟨A, c, l, by simpa [Value.cells] using e, hs, hz⟩
  obtain ⟨rfl, rfl, rfl⟩ : A1 = x1 ∧ l1.length = len1 ∧ c1 = cap1 := by simpa [eq_comm] using e1
  clear hA0 hval0 hsz0 hsz
  refine (X.fnDocStartEnd_walk A0 c0 l0 A1 c1 l1 W s0 s1 z0 z1).mono fun e W' ⟨he, bel⟩ => ?_
  subst he
  exact ⟨_, rfl, _, _, _, [], _, [], hW', trodAll_mk1 (shut_bool Try.underlying4 _), (trodAll_cons_mk (Below.trod laidOut (by kernel_rfl) (of_decide_eq_true (by kernel_rfl)) k0 bel lt0) (trodAll_cons_mk (Below.trod laidOut (by kernel_rfl) (of_decide_eq_true (by kernel_rfl)) k1 bel lt1) trodAll_mk0)), rfl, bel.frame _, fun h => by cases h⟩
theorem over : Rows.fnDocStartEndRow.holds Try.pinned (OpenSpec.ofChange Rows.fnDocStartEndSpec) :=
  OpenClaim.holds_of_wide 4 Try.f4 rfl rfl rfl rfl rfl rfl rfl ⟨rfl, rfl, rfl, rfl, rfl⟩ rfl rfl rfl rfl rfl (by kernel_rfl) Try.func4 (by kernel_rfl)
    (of_decide_eq_true (by kernel_rfl)) (by unfold Func.isWrapper; first | (rw [if_pos (by decide +kernel)]; kernel_rfl) | (rw [if_neg (by decide +kernel)]; exact ⟨rfl, rfl⟩))
    (fun os started H enc _ => lifted os started H enc)
theorem proved : Rows.FnDocStartEndSaid := over
#print axioms proved
end Go.Proofs.Ytfpnhlfmnoikhab.fnDocStartEnd
namespace Go.Proofs.Ytfpnhlfmnoikhab
/-- The row, under a short name, for the claim. -/
theorem fnDocStartEnd_holds : Rows.FnDocStartEndSaid := fnDocStartEnd.proved
end Go.Proofs.Ytfpnhlfmnoikhab
