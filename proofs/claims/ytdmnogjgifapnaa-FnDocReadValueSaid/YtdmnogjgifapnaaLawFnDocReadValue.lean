/- The row of the law FnDocReadValue. -/
import Derived.Test.YtdmnogjgifapnaaRows
import Derived.Test.YtdmnogjgifapnaaOpen
import Derived.Test.YtdmnogjgifapnaaReadValueLaw
import Derived.WalkKit
import Derived.ProofKit
import Derived.OpenShut
import Derived.ShutString
import Derived.ChangeOld
import Derived.Below
import Derived.SizedLaws
import Derived.Carry
namespace Go.Proofs.Ytdmnogjgifapnaa.fnDocReadValue
open Go.ChangeShapes Go.WideShapes Go.ChangeAt Go.RowKit
open Go.ChangeMaps (open_string shut_string)
set_option linter.unusedVariables false
theorem own : ownKnob Try.prog.godebug = none := by kernel_rfl
theorem laidOut : laidOutB Try.prog = true := by kernel_rfl
set_option maxRecDepth 100000 in
theorem lifted (os : Os) (started : os.Started) (H : Type) (enc : TypeId × Value → H) :
    ReturnsInHanded {} Try.checked os 4 .any (Rows.fnDocReadValueSpec.pre6 enc Try.prog Try.f4 Rows.fnDocReadValueRow.domain false) (Rows.fnDocReadValueSpec.post enc Try.prog Try.f4 false true false false) := by
  refine returnsInHanded_of_change_sized (C := Try.checked) own started (by kernel_rfl) Try.func4
    (ChangeSpec.witness6 (enc := enc) (C := Try.checked) false ⟨#[], #[.string ByteArray.empty, .agg #[.int .i64 0, .string ByteArray.empty, .string ByteArray.empty, .int .i64 0, .int .u64 0, .int .u64 0, .slice none 0 0, .slice none 0 0], .slice none 0 0], []⟩ 8 (by kernel_rfl) (by kernel_rfl) (by kernel_rfl) (by kernel_rfl)) ?_
  intro W base args ds gs before hval0 hW hcnd hsz0 _
  have hsz : (DataW.weightsEach Try.prog (Try.f4.params.toList ++ Rows.fnDocReadValueSpec.plain.varTypes Try.prog) (ds ++ gs)).all (· ≤ reachBytes) = true := hsz0
  have hval : ∀ (j : Nat) t v, Try.f4.params[j]? = some t → args[j]? = some v → Value.okWide Try.prog W .any base t v := hval0
  have hW' := hW
  obtain ⟨p, q, hA0, hV, rfl, hfz, hnd⟩ := hW
  have hA : DataW.TrodAll enc Try.prog W 0 (fun _ => true) true Try.f4.params.toList args.toList ds p := hA0
  rw [Try.params4] at hA hval hsz
  obtain ⟨v0, vs0, d0, ds0, p0, q0, hargs, rfl, rfl, h0, r0⟩ := trodAll_cons hA
  obtain ⟨v1, vs1, d1, ds1, p1, q1, rfl, rfl, rfl, h1, r1⟩ := trodAll_cons r0
  obtain ⟨v2, vs2, d2, ds2, p2, q2, rfl, rfl, rfl, h2, r2⟩ := trodAll_cons r1
  obtain ⟨rfl, rfl, rfl⟩ := trodAll_nil r2
  obtain rfl : args = #[v0, v1, v2] := by cases args; simp_all
  obtain ⟨rfl, rfl⟩ := trodVars_none hV
  obtain ⟨a0, rfl, rfl, rfl, y0⟩ := open_string Try.underlying9 (hval 0 9 v0 rfl rfl) h0
  have w0 : a0.size ≤ 140737488351232 := by
    have z := sized_string hsz (j := 0) (t := 9) rfl rfl
    rw [Array.length_toList] at z
    exact z
  obtain ⟨cs1, rfl, -⟩ := okWide_struct Try.underlying29 (hval 1 29 v1 rfl rfl)
  have k1 := h1
  have lt1 : ∀ x ∈ p1, x.block < W.heap.size := by obtain ⟨m, hm⟩ := k1; exact DataW.trod_lt m _ _ _ hm
  obtain ⟨u1, rv1, ok1⟩ := X.open_val h1 (fun n hn => by have := List.all_eq_true.1 hsz n (DataW.weights_mem_each (j := 1) (t := 29) rfl rfl n hn); simpa using this)
  obtain ⟨x2, len2, cap2, rfl⟩ := okWide_slice Try.underlying26 (hval 2 26 v2 rfl rfl)
  have k2 := h2
  have lt2 : ∀ x ∈ p2, x.block < W.heap.size := by obtain ⟨m, hm⟩ := k2; exact DataW.trod_lt m _ _ _ hm
  obtain ⟨A2, c2, l2, e2, s2, z2⟩ : ∃ A c l, (Value.slice x2 len2 cap2) = .slice A (List.length l) c ∧ X.SB W A c l ∧ l.length ≤ 140737488351232 := by
    obtain ⟨fuel, hf⟩ := h2
    obtain ⟨A, c, l, e, hs, hz⟩ := X.open_bytes hf (fun n hn => by have := List.all_eq_true.1 hsz n (DataW.weights_mem_each (j := 2) (t := 26) rfl rfl n hn); simpa using this)
    exact ⟨A, c, l, by simpa [Value.cells] using e, hs, hz⟩
  obtain ⟨rfl, rfl, rfl⟩ : A2 = x2 ∧ l2.length = len2 ∧ c2 = cap2 := by simpa [eq_comm] using e2
  clear hA0 hval0 hsz0 hsz
  refine (X.fnDocReadValue_walk a0 u1 cs1.toList A2 c2 l2 W w0 ok1 rv1 s2 z2).mono fun e W' ⟨he, bel⟩ => ?_
  subst he
  exact ⟨_, rfl, _, _, _, [], _, [], hW', trodAll_mk1 (shut_bool Try.underlying4 _), (trodAll_cons_mk (shut_string Try.underlying9 y0) (trodAll_cons_mk (Below.trod laidOut (by kernel_rfl) (of_decide_eq_true (by kernel_rfl)) k1 bel lt1) (trodAll_cons_mk (Below.trod laidOut (by kernel_rfl) (of_decide_eq_true (by kernel_rfl)) k2 bel lt2) trodAll_mk0))), rfl, bel.frame _, fun h => by cases h⟩
theorem over : Rows.fnDocReadValueRow.holds Try.pinned (OpenSpec.ofChange Rows.fnDocReadValueSpec) :=
  OpenClaim.holds_of_wide 4 Try.f4 rfl rfl rfl rfl rfl rfl rfl ⟨rfl, rfl, rfl, rfl, rfl⟩ rfl rfl rfl rfl rfl (by kernel_rfl) Try.func4 (by kernel_rfl)
    (of_decide_eq_true (by kernel_rfl)) (by unfold Func.isWrapper; first | (rw [if_pos (by decide +kernel)]; kernel_rfl) | (rw [if_neg (by decide +kernel)]; exact ⟨rfl, rfl⟩))
    (fun os started H enc _ => lifted os started H enc)
theorem proved : Rows.FnDocReadValueSaid := over
#print axioms proved
end Go.Proofs.Ytdmnogjgifapnaa.fnDocReadValue
namespace Go.Proofs.Ytdmnogjgifapnaa
/-- The row, under a short name, for the claim. -/
theorem fnDocReadValue_holds : Rows.FnDocReadValueSaid := fnDocReadValue.proved
end Go.Proofs.Ytdmnogjgifapnaa
