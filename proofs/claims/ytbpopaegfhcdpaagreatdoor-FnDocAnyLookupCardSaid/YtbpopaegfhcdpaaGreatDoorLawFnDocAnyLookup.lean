/- The row of the law FnDocAnyLookup, and its tied card. -/
import Derived.Test.YtbpopaegfhcdpaaGreatDoorRows
import Derived.Test.YtbpopaegfhcdpaaGreatDoorCards
import Derived.Test.YtbpopaegfhcdpaaGreatDoorTie
import Derived.LaidMore
import Derived.LaidLaws
import Derived.Stop.LaidErr
import Derived.Stop.LaidTwo
import Derived.Stop.Joined
import Derived.SevenTiedAt
import Derived.MakeChecks
import Derived.Test.YtbpopaegfhcdpaaGreatDoorOpenT
import Derived.Test.YtbpopaegfhcdpaaGreatDoorDocAnyL
import Derived.WalkKit
import Derived.ProofKit
import Derived.OpenShut
import Derived.ShutString
import Derived.ChangeOld
import Derived.Below
import Derived.SizedLaws
import Derived.Carry
namespace Go.Proofs.YtbpopaegfhcdpaaGreatDoor.fnDocAnyLookup
open Go.ChangeShapes Go.WideShapes Go.ChangeAt Go.RowKit
open Go.ChangeMaps (open_string shut_string)
set_option linter.unusedVariables false
theorem own : ownKnob Tryz.prog.godebug = none := by kernel_rfl
theorem laidOut : laidOutB Tryz.prog = true := by kernel_rfl
def laidL : List (String × DataW Unit) := [("math/bits.deBruijn32tab", Rows.laid_math_bits_deBruijn32tab), ("math/bits.deBruijn64tab", Rows.laid_math_bits_deBruijn64tab), ("internal/strconv.uint64pow10", Rows.laid_internal_strconv_uint64pow10), ("io.EOF", Rows.laid_io_EOF), ("pub-gunnysack/pub/bsoncore.ErrEmptyKey", Rows.laid_pub_gunnysack_pub_bsoncore_ErrEmptyKey), ("pub-gunnysack/pub/bsoncore.ErrElementNotFound", Rows.laid_pub_gunnysack_pub_bsoncore_ErrElementNotFound), ("pub-gunnysack/pub/bsoncore.ErrOutOfBounds", Rows.laid_pub_gunnysack_pub_bsoncore_ErrOutOfBounds)]
theorem door_met (os : Os) (args : Array Value) : laidMetH Tryz.prog laidL ((World.doorLaid Tryz.prog 100 os).forCall (fun _ _ => 0) ⟨#[], args, []⟩).memory :=
  laidMetH_of_parts3 (fuel := 8) (laidMet_of_run' 8 (by kernel_rfl) (by kernel_rfl)) (by kernel_rfl) (by kernel_rfl)
theorem gl0 : Tryz.prog.globalNamed "math/bits.deBruijn32tab" = some 8 := by kernel_rfl
theorem gl1 : Tryz.prog.globalNamed "math/bits.deBruijn64tab" = some 9 := by kernel_rfl
theorem gl2 : Tryz.prog.globalNamed "internal/strconv.uint64pow10" = some 7 := by kernel_rfl
theorem gl3 : Tryz.prog.globalNamed "io.EOF" = some 4 := by kernel_rfl
theorem rowS (u : TypeId) (h : Tryz.prog.typeName? 3 u = some "*errors.errorString") : u = 270 :=
  typeName_ptr_named (nm := "errors.errorString") (by kernel_rfl) (by kernel_rfl) (by decide) u h
theorem ty3 : (Tryz.prog.globals[4]?).map (·.type) = some 126 := by kernel_rfl
theorem gl4 : Tryz.prog.globalNamed "pub-gunnysack/pub/bsoncore.ErrEmptyKey" = some 1 := by kernel_rfl
theorem ty4 : (Tryz.prog.globals[1]?).map (·.type) = some 126 := by kernel_rfl
theorem gl5 : Tryz.prog.globalNamed "pub-gunnysack/pub/bsoncore.ErrElementNotFound" = some 2 := by kernel_rfl
theorem ty5 : (Tryz.prog.globals[2]?).map (·.type) = some 126 := by kernel_rfl
theorem gl6 : Tryz.prog.globalNamed "pub-gunnysack/pub/bsoncore.ErrOutOfBounds" = some 3 := by kernel_rfl
theorem ty6 : (Tryz.prog.globals[3]?).map (·.type) = some 126 := by kernel_rfl
set_option maxRecDepth 100000 in
theorem lifted (os : Os) (started : os.Started) (H : Type) (enc : TypeId × Value → H) :
    ReturnsInHanded {} Tryz.checked os 5 .any (fun w args => (Rows.fnDocAnyLookupSpec.pre enc Tryz.prog Tryz.f5 [] false w args ∧ laidMetH Tryz.prog laidL w) ∧ sizedMet enc Tryz.prog Tryz.f5 (OpenSpec.ofChange Rows.fnDocAnyLookupSpec) false w args) (Rows.fnDocAnyLookupSpec.post enc Tryz.prog Tryz.f5 false true false false) := by
  refine returnsInHanded_of_change_and (C := Tryz.checked) (X := fun w _ => laidMetH Tryz.prog laidL w) (fun _ _ _ hh h => h.of_heap hh) own started (by kernel_rfl) Tryz.func5
    (ChangeSpec.witness_shaped (enc := enc) (C := Tryz.checked) (os := os) (X := fun w _ => laidMetH Tryz.prog laidL w) false (World.doorLaid Tryz.prog 100 os) #[.slice none 0 0, .slice none 0 0] 8 rfl (World.shaped_of_RefB (by kernel_rfl) (by kernel_rfl)) (by kernel_rfl) (by kernel_rfl) (by kernel_rfl) (door_met os _)) ?_
  intro W base args ds gs before hval0 hW hcnd hsz0 hLH _
  have hsz : (DataW.weightsEach Tryz.prog (Tryz.f5.params.toList ++ Rows.fnDocAnyLookupSpec.plain.varTypes Tryz.prog) (ds ++ gs)).all (· ≤ reachBytes) = true := hsz0
  have hval : ∀ (j : Nat) t v, Tryz.f5.params[j]? = some t → args[j]? = some v → Value.okWide Tryz.prog W .any base t v := hval0
  have hW' := hW
  obtain ⟨p, q, hA0, hV, rfl, hfz, hnd⟩ := hW
  have hA : DataW.TrodAll enc Tryz.prog W 0 (fun _ => true) true Tryz.f5.params.toList args.toList ds p := hA0
  rw [Tryz.params5] at hA hval hsz
  obtain ⟨v0, vs0, d0, ds0, p0, q0, hargs, rfl, rfl, h0, r0⟩ := trodAll_cons hA
  obtain ⟨v1, vs1, d1, ds1, p1, q1, rfl, rfl, rfl, h1, r1⟩ := trodAll_cons r0
  obtain ⟨rfl, rfl, rfl⟩ := trodAll_nil r1
  obtain rfl : args = #[v0, v1] := by cases args; simp_all
  obtain ⟨rfl, rfl⟩ := trodVars_none hV
  obtain ⟨x0, len0, cap0, rfl⟩ := okWide_slice Tryz.underlying22 (hval 0 22 v0 rfl rfl)
  have k0 := h0
  have lt0 : ∀ x ∈ p0, x.block < W.heap.size := by obtain ⟨m, hm⟩ := k0; exact DataW.trod_lt m _ _ _ hm
  obtain ⟨A0, c0, l0, e0, s0, z0⟩ : ∃ A c l, (Value.slice x0 len0 cap0) = .slice A (List.length l) c ∧ X.SB W A c l ∧ l.length ≤ 140737488351232 := by
    obtain ⟨fuel, hf⟩ := h0
    obtain ⟨A, c, l, e, hs, hz⟩ := X.open_bytes hf (fun n hn => by have := List.all_eq_true.1 hsz n (DataW.weights_mem_each (j := 0) (t := 22) rfl rfl n hn); simpa using this)
    exact ⟨A, c, l, by simpa [Value.cells] using e, hs, hz⟩
  obtain ⟨rfl, rfl, rfl⟩ : A0 = x0 ∧ l0.length = len0 ∧ c0 = cap0 := by simpa [eq_comm] using e0
  obtain ⟨x1, len1, cap1, rfl⟩ := okWide_slice Tryz.underlying49 (hval 1 49 v1 rfl rfl)
  have k1 := h1
  have lt1 : ∀ x ∈ p1, x.block < W.heap.size := by obtain ⟨m, hm⟩ := k1; exact DataW.trod_lt m _ _ _ hm
  obtain ⟨A1, c1, l1, e1, s1, z1, w1⟩ : ∃ (A : Option Addr) (c : Nat) (l : List ByteArray), (Value.slice x1 len1 cap1) = .slice A (List.length l) c ∧ X.GS W A c (X.strv l) ∧ l.length ≤ 8796093022000 ∧ (∀ t ∈ l, t.size ≤ 140737488351232) := by
    obtain ⟨fuel, hf⟩ := h1
    obtain ⟨A, c, l, e, hs, hz, hw⟩ := X.open_strs hf (fun n hn => by have := List.all_eq_true.1 hsz n (DataW.weights_mem_each (j := 1) (t := 49) rfl rfl n hn); simpa using this)
    exact ⟨A, c, l, by simpa [Value.cells] using e, hs, hz, hw⟩
  obtain ⟨rfl, rfl, rfl⟩ : A1 = x1 ∧ l1.length = len1 ∧ c1 = cap1 := by simpa [eq_comm] using e1
  have hL0 : laidMet Tryz.prog laidL W := by rw [← MakeChecks.laidMetH_plain _ _ _ (by kernel_rfl)]; exact hLH
  obtain ⟨la3, ls3, lw3, -, -, -⟩ := laid_sentinel hL0.tail.tail.tail gl3 ty3 Tryz.underlying126 rowS Tryz.underlying270 Tryz.underlying272 rfl rfl Tryz.underlying9 (by kernel_rfl) (by kernel_rfl)
  have lv3 := World.var?_cell gl3 lw3 0
  replace lv3 : W.cell? ⟨4, 0, none⟩ = some (.iface 270 (.pointer (some la3))) := by simpa using lv3
  obtain ⟨la4, ls4, lw4, lc4, lt4, -⟩ := laid_sentinel hL0.tail.tail.tail.tail gl4 ty4 Tryz.underlying126 rowS Tryz.underlying270 Tryz.underlying272 rfl rfl Tryz.underlying9 (by kernel_rfl) (by kernel_rfl)
  have lv4 := World.var?_cell gl4 lw4 0
  replace lv4 : W.cell? ⟨1, 0, none⟩ = some (.iface 270 (.pointer (some la4))) := by simpa using lv4
  obtain ⟨la5, ls5, lw5, lc5, lt5, -⟩ := laid_sentinel hL0.tail.tail.tail.tail.tail gl5 ty5 Tryz.underlying126 rowS Tryz.underlying270 Tryz.underlying272 rfl rfl Tryz.underlying9 (by kernel_rfl) (by kernel_rfl)
  have lv5 := World.var?_cell gl5 lw5 0
  replace lv5 : W.cell? ⟨2, 0, none⟩ = some (.iface 270 (.pointer (some la5))) := by simpa using lv5
  obtain ⟨la6, ls6, lw6, lc6, lt6, -⟩ := laid_sentinel hL0.tail.tail.tail.tail.tail.tail gl6 ty6 Tryz.underlying126 rowS Tryz.underlying270 Tryz.underlying272 rfl rfl Tryz.underlying9 (by kernel_rfl) (by kernel_rfl)
  have lv6 := World.var?_cell gl6 lw6 0
  replace lv6 : W.cell? ⟨3, 0, none⟩ = some (.iface 270 (.pointer (some la6))) := by simpa using lv6
  obtain ⟨qa0, qa1, qs0, qs1, qc0, qc1, qt0, qt1, qv0, qv1, -, -, -, -, -, -, -, qb0, qb1⟩ := laid_sentinels2 hL0.tail.tail.tail.tail gl4 ty4 gl5 ty5 Tryz.underlying126 rowS Tryz.underlying270 Tryz.underlying272 rfl rfl Tryz.underlying9 (by kernel_rfl) (by kernel_rfl)
  obtain ⟨ra0, ra1, rs0, rs1, rc0, rc1, rt0, rt1, rv0, rv1, -, -, -, -, -, -, -, rb0, rb1⟩ := laid_sentinels2 hL0.tail.tail.tail.tail.tail gl5 ty5 gl6 ty6 Tryz.underlying126 rowS Tryz.underlying270 Tryz.underlying272 rfl rfl Tryz.underlying9 (by kernel_rfl) (by kernel_rfl)
  obtain rfl : qa0 = la4 := by have := qv0.symm.trans lw4; simpa using this
  obtain rfl : qa1 = la5 := by have := qv1.symm.trans lw5; simpa using this
  obtain rfl : ra1 = la6 := by have := rv1.symm.trans lw6; simpa using this
  have HSENT : X.Ck.SentD W ra1 qa1 qa0 := by
    refine ⟨lv6, lv5, lv4, ?_, ?_, ?_, ⟨_, _, rb1⟩, ⟨_, _, qb1⟩, ⟨_, _, qb0⟩⟩
    · intro e
      rw [e, lc5] at lc6
      have e2 : ls5 = ls6 := by simpa using lc6
      rw [← e2, lt5] at lt6
      exact absurd lt6 (by decide)
    · intro e
      rw [e, lc4] at lc6
      have e2 : ls4 = ls6 := by simpa using lc6
      rw [← e2, lt4] at lt6
      exact absurd lt6 (by decide)
    · intro e
      rw [e, lc4] at lc5
      have e2 : ls4 = ls5 := by simpa using lc5
      rw [← e2, lt4] at lt5
      exact absurd lt5 (by decide)
  clear hA0 hval0 hsz0 hsz
  refine (X.Lk.fnDocAnyLookup_walk _ _ _ A0 c0 l0 A1 c1 l1 W s0 s1 HSENT w1).mono fun e W' ⟨he, bel⟩ => ?_
  subst he
  exact ⟨_, rfl, _, _, _, [], _, [], hW', trodAll_mk1 (shut_bool Tryz.underlying4 _), (trodAll_cons_mk (Below.trod laidOut (by kernel_rfl) (of_decide_eq_true (by kernel_rfl)) k0 bel lt0) (trodAll_cons_mk (Below.trod laidOut (by kernel_rfl) (of_decide_eq_true (by kernel_rfl)) k1 bel lt1) trodAll_mk0)), rfl, bel.frame _, fun h => by cases h⟩
theorem over : Rows.fnDocAnyLookupRow.holds Tryz.pinned (OpenSpec.ofChange Rows.fnDocAnyLookupSpec) :=
  OpenClaim.holds_of_wide 5 Tryz.f5 rfl rfl rfl rfl rfl rfl rfl ⟨rfl, rfl, rfl, rfl, rfl⟩ rfl rfl rfl rfl rfl (by kernel_rfl) Tryz.func5 (by kernel_rfl)
    (of_decide_eq_true (by kernel_rfl)) (by unfold Func.isWrapper; first | (rw [if_pos (by decide +kernel)]; kernel_rfl) | (rw [if_neg (by decide +kernel)]; exact ⟨rfl, rfl⟩))
    (fun os started H enc _ => lifted os started H enc)
theorem proved : Rows.FnDocAnyLookupSaid := over
theorem card : Rows.FnDocAnyLookupCardSaid :=
  Claim7.holds_tied_plain_at .later [] [.data, .data, .data, .sentinel, .sentinel, .sentinel, .sentinel] true (true, "16951da6da1fec345ef8ba922b177a084999b68aeb73639a84555eebec9a0d93") true
    proved (fun _ h => by cases h) (by kernel_rfl) (fun _ h => by cases h) fnDocAnyLookup_row_tie rfl ⟨rfl, rfl⟩ (by kernel_rfl) rfl
    (fun f fn hf hfn => by
      obtain rfl : f = 5 := Option.some.inj ((show Tryz.prog.funcNamed "pub-gunnysack/laws.FnDocAnyLookup" = some 5 by kernel_rfl).symm.trans hf) |>.symm
      obtain rfl : fn = Tryz.f5 := (Option.some.inj (Tryz.func5.symm.trans hfn)).symm
      exact ⟨by kernel_rfl, fun j t ht => by
        rw [Tryz.params5] at ht
        rcases j with _ | _ | j
        · obtain rfl : 22 = t := by simpa using ht
          exact (show Tryz.prog.wantsStandIn 22 = false by kernel_rfl)
        · obtain rfl : 49 = t := by simpa using ht
          exact (show Tryz.prog.wantsStandIn 49 = false by kernel_rfl)
        · simp at ht⟩)
    (by kernel_rfl)
#print axioms card
end Go.Proofs.YtbpopaegfhcdpaaGreatDoor.fnDocAnyLookup
namespace Go.Proofs.YtbpopaegfhcdpaaGreatDoor
/-- The tied card, under a short name, for the claim. -/
theorem fnDocAnyLookup_holds : Rows.FnDocAnyLookupCardSaid := fnDocAnyLookup.card
end Go.Proofs.YtbpopaegfhcdpaaGreatDoor
