/- The row of the law FnDocAnyRead, and its tied card. -/
import Derived.Test.YtbpopaegfhcdpaaGreatDoorRows
import Derived.Test.YtbpopaegfhcdpaaGreatDoorCards
import Derived.Test.YtbpopaegfhcdpaaGreatDoorTie
import Derived.LaidMore
import Derived.LaidLaws
import Derived.Stop.LaidErr
import Derived.Stop.Joined
import Derived.SevenTiedAt
import Derived.MakeChecks
import Derived.Test.YtbpopaegfhcdpaaGreatDoorMa
import Derived.Test.YtbpopaegfhcdpaaGreatDoorMi
import Derived.WalkKit
import Derived.ProofKit
import Derived.OpenShut
import Derived.ShutString
import Derived.ChangeOld
import Derived.Below
import Derived.SizedLaws
import Derived.Carry
namespace Go.Proofs.YtbpopaegfhcdpaaGreatDoor.fnDocAnyRead
open Go.ChangeShapes Go.WideShapes Go.ChangeAt Go.RowKit
open Go.ChangeMaps (open_string shut_string)
set_option linter.unusedVariables false
theorem own : ownKnob Tryz.prog.godebug = none := by kernel_rfl
theorem laidOut : laidOutB Tryz.prog = true := by kernel_rfl
def laidL : List (String × DataW Unit) := [("math/bits.deBruijn32tab", Rows.laid_math_bits_deBruijn32tab), ("math/bits.deBruijn64tab", Rows.laid_math_bits_deBruijn64tab), ("internal/strconv.uint64pow10", Rows.laid_internal_strconv_uint64pow10), ("io.EOF", Rows.laid_io_EOF), ("pub-gunnysack/pub/bsoncore.ErrEmptyKey", Rows.laid_pub_gunnysack_pub_bsoncore_ErrEmptyKey), ("pub-gunnysack/pub/bsoncore.ErrElementNotFound", Rows.laid_pub_gunnysack_pub_bsoncore_ErrElementNotFound), ("pub-gunnysack/pub/bsoncore.ErrOutOfBounds", Rows.laid_pub_gunnysack_pub_bsoncore_ErrOutOfBounds)]
theorem door_met (os : Os) (args : Array Value) : laidMetH Tryz.prog laidL ((World.doorLaid Tryz.prog 100 os).forCall (fun _ _ => 0) ⟨#[], args, []⟩).memory :=
  laidMetH_of_parts3 (fuel := 8) (laidMet_of_run' 8 (by kernel_rfl) (by kernel_rfl)) (by kernel_rfl) (by kernel_rfl)
theorem gl0 : Tryz.prog.globalNamed "math/bits.deBruijn32tab" = some 8 := by kernel_rfl
theorem gl1 : Tryz.prog.globalNamed "math/bits.deBruijn64tab" = some 9 := by kernel_rfl
theorem gl2 : Tryz.prog.globalNamed "internal/strconv.uint64pow10" = some 7 := by kernel_rfl
theorem gl3 : Tryz.prog.globalNamed "io.EOF" = some 4 := by kernel_rfl
theorem rowS (u : TypeId) (h : Tryz.prog.typeName? 3 u = some "*errors.errorString") : u = 270 :=
  typeName_ptr_named (nm := "errors.errorString") (by kernel_rfl) (by kernel_rfl) (by decide) u h
theorem ty3 : (Tryz.prog.globals[4]?).map (·.type) = some 126 := by kernel_rfl
theorem gl4 : Tryz.prog.globalNamed "pub-gunnysack/pub/bsoncore.ErrEmptyKey" = some 1 := by kernel_rfl
theorem ty4 : (Tryz.prog.globals[1]?).map (·.type) = some 126 := by kernel_rfl
theorem gl5 : Tryz.prog.globalNamed "pub-gunnysack/pub/bsoncore.ErrElementNotFound" = some 2 := by kernel_rfl
theorem ty5 : (Tryz.prog.globals[2]?).map (·.type) = some 126 := by kernel_rfl
theorem gl6 : Tryz.prog.globalNamed "pub-gunnysack/pub/bsoncore.ErrOutOfBounds" = some 3 := by kernel_rfl
theorem ty6 : (Tryz.prog.globals[3]?).map (·.type) = some 126 := by kernel_rfl
set_option maxRecDepth 100000 in
theorem lifted (os : Os) (started : os.Started) (H : Type) (enc : TypeId × Value → H) :
    ReturnsInHanded {} Tryz.checked os 4 .any (fun w args => (Rows.fnDocAnyReadSpec.pre enc Tryz.prog Tryz.f4 [] false w args ∧ laidMetH Tryz.prog laidL w) ∧ sizedMet enc Tryz.prog Tryz.f4 (OpenSpec.ofChange Rows.fnDocAnyReadSpec) false w args) (Rows.fnDocAnyReadSpec.post enc Tryz.prog Tryz.f4 false true false false) := by
  refine returnsInHanded_of_change_and (C := Tryz.checked) (X := fun w _ => laidMetH Tryz.prog laidL w) (fun _ _ _ hh h => h.of_heap hh) own started (by kernel_rfl) Tryz.func4
    (ChangeSpec.witness_shaped (enc := enc) (C := Tryz.checked) (os := os) (X := fun w _ => laidMetH Tryz.prog laidL w) false (World.doorLaid Tryz.prog 100 os) #[.int .u8 0, .slice none 0 0] 8 rfl (World.shaped_of_RefB (by kernel_rfl) (by kernel_rfl)) (by kernel_rfl) (by kernel_rfl) (by kernel_rfl) (door_met os _)) ?_
  intro W base args ds gs before hval0 hW hcnd hsz0 hLH _
  have hsz : (DataW.weightsEach Tryz.prog (Tryz.f4.params.toList ++ Rows.fnDocAnyReadSpec.plain.varTypes Tryz.prog) (ds ++ gs)).all (· ≤ reachBytes) = true := hsz0
  have hval : ∀ (j : Nat) t v, Tryz.f4.params[j]? = some t → args[j]? = some v → Value.okWide Tryz.prog W .any base t v := hval0
  have hW' := hW
  obtain ⟨p, q, hA0, hV, rfl, hfz, hnd⟩ := hW
  have hA : DataW.TrodAll enc Tryz.prog W 0 (fun _ => true) true Tryz.f4.params.toList args.toList ds p := hA0
  rw [Tryz.params4] at hA hval hsz
  obtain ⟨v0, vs0, d0, ds0, p0, q0, hargs, rfl, rfl, h0, r0⟩ := trodAll_cons hA
  obtain ⟨v1, vs1, d1, ds1, p1, q1, rfl, rfl, rfl, h1, r1⟩ := trodAll_cons r0
  obtain ⟨rfl, rfl, rfl⟩ := trodAll_nil r1
  obtain rfl : args = #[v0, v1] := by cases args; simp_all
  obtain ⟨rfl, rfl⟩ := trodVars_none hV
  obtain ⟨a0, rfl, rfl, rfl, w0⟩ := open_int Tryz.underlying5 (hval 0 5 v0 rfl rfl) h0
  obtain ⟨x1, len1, cap1, rfl⟩ := okWide_slice Tryz.underlying22 (hval 1 22 v1 rfl rfl)
  have k1 := h1
  have lt1 : ∀ x ∈ p1, x.block < W.heap.size := by obtain ⟨m, hm⟩ := k1; exact DataW.trod_lt m _ _ _ hm
  obtain ⟨A1, c1, l1, e1, s1, z1⟩ : ∃ A c l, (Value.slice x1 len1 cap1) = .slice A (List.length l) c ∧ X.SB W A c l ∧ l.length ≤ 140737488351232 := by
    obtain ⟨fuel, hf⟩ := h1
    obtain ⟨A, c, l, e, hs, hz⟩ := X.open_bytes hf (fun n hn => by have := List.all_eq_true.1 hsz n (DataW.weights_mem_each (j := 1) (t := 22) rfl rfl n hn); simpa using this)
    exact ⟨A, c, l, by simpa [Value.cells] using e, hs, hz⟩
  obtain ⟨rfl, rfl, rfl⟩ : A1 = x1 ∧ l1.length = len1 ∧ c1 = cap1 := by simpa [eq_comm] using e1
  have hL0 : laidMet Tryz.prog laidL W := by rw [← MakeChecks.laidMetH_plain _ _ _ (by kernel_rfl)]; exact hLH
  obtain ⟨la3, ls3, lw3, -, -, -⟩ := laid_sentinel hL0.tail.tail.tail gl3 ty3 Tryz.underlying126 rowS Tryz.underlying270 Tryz.underlying272 rfl rfl Tryz.underlying9 (by kernel_rfl) (by kernel_rfl)
  have lv3 := World.var?_cell gl3 lw3 0
  replace lv3 : W.cell? ⟨4, 0, none⟩ = some (.iface 270 (.pointer (some la3))) := by simpa using lv3
  obtain ⟨la4, ls4, lw4, -, -, -⟩ := laid_sentinel hL0.tail.tail.tail.tail gl4 ty4 Tryz.underlying126 rowS Tryz.underlying270 Tryz.underlying272 rfl rfl Tryz.underlying9 (by kernel_rfl) (by kernel_rfl)
  have lv4 := World.var?_cell gl4 lw4 0
  replace lv4 : W.cell? ⟨1, 0, none⟩ = some (.iface 270 (.pointer (some la4))) := by simpa using lv4
  obtain ⟨la5, ls5, lw5, -, -, -⟩ := laid_sentinel hL0.tail.tail.tail.tail.tail gl5 ty5 Tryz.underlying126 rowS Tryz.underlying270 Tryz.underlying272 rfl rfl Tryz.underlying9 (by kernel_rfl) (by kernel_rfl)
  have lv5 := World.var?_cell gl5 lw5 0
  replace lv5 : W.cell? ⟨2, 0, none⟩ = some (.iface 270 (.pointer (some la5))) := by simpa using lv5
  obtain ⟨la6, ls6, lw6, -, -, -⟩ := laid_sentinel hL0.tail.tail.tail.tail.tail.tail gl6 ty6 Tryz.underlying126 rowS Tryz.underlying270 Tryz.underlying272 rfl rfl Tryz.underlying9 (by kernel_rfl) (by kernel_rfl)
  have lv6 := World.var?_cell gl6 lw6 0
  replace lv6 : W.cell? ⟨3, 0, none⟩ = some (.iface 270 (.pointer (some la6))) := by simpa using lv6
  clear hA0 hval0 hsz0 hsz
  refine (X.Ar.fnDocAnyRead_walk a0 (X.Ar.wf8 w0) A1 c1 l1 W s1).mono fun e W' ⟨he, bel⟩ => ?_
  subst he
  exact ⟨_, rfl, _, _, _, [], _, [], hW', trodAll_mk1 (shut_bool Tryz.underlying4 _), (trodAll_cons_mk (shut_int Tryz.underlying5 w0) (trodAll_cons_mk (Below.trod laidOut (by kernel_rfl) (of_decide_eq_true (by kernel_rfl)) k1 bel lt1) trodAll_mk0)), rfl, bel.frame _, fun h => by cases h⟩
theorem over : Rows.fnDocAnyReadRow.holds Tryz.pinned (OpenSpec.ofChange Rows.fnDocAnyReadSpec) :=
  OpenClaim.holds_of_wide 4 Tryz.f4 rfl rfl rfl rfl rfl rfl rfl ⟨rfl, rfl, rfl, rfl, rfl⟩ rfl rfl rfl rfl rfl (by kernel_rfl) Tryz.func4 (by kernel_rfl)
    (of_decide_eq_true (by kernel_rfl)) (by unfold Func.isWrapper; first | (rw [if_pos (by decide +kernel)]; kernel_rfl) | (rw [if_neg (by decide +kernel)]; exact ⟨rfl, rfl⟩))
    (fun os started H enc _ => lifted os started H enc)
theorem proved : Rows.FnDocAnyReadSaid := over
theorem card : Rows.FnDocAnyReadCardSaid :=
  Claim7.holds_tied_plain_at .later [] [.data, .data, .data, .sentinel, .sentinel, .sentinel, .sentinel] true (true, "16951da6da1fec345ef8ba922b177a084999b68aeb73639a84555eebec9a0d93") true
    proved (fun _ h => by cases h) (by kernel_rfl) (fun _ h => by cases h) fnDocAnyRead_row_tie rfl ⟨rfl, rfl⟩ (by kernel_rfl) rfl
    (fun f fn hf hfn => by
      obtain rfl : f = 4 := Option.some.inj ((show Tryz.prog.funcNamed "pub-gunnysack/laws.FnDocAnyRead" = some 4 by kernel_rfl).symm.trans hf) |>.symm
      obtain rfl : fn = Tryz.f4 := (Option.some.inj (Tryz.func4.symm.trans hfn)).symm
      exact ⟨by kernel_rfl, fun j t ht => by
        rw [Tryz.params4] at ht
        rcases j with _ | _ | j
        · obtain rfl : 5 = t := by simpa using ht
          exact (show Tryz.prog.wantsStandIn 5 = false by kernel_rfl)
        · obtain rfl : 22 = t := by simpa using ht
          exact (show Tryz.prog.wantsStandIn 22 = false by kernel_rfl)
        · simp at ht⟩)
    (by kernel_rfl)
#print axioms card
end Go.Proofs.YtbpopaegfhcdpaaGreatDoor.fnDocAnyRead
namespace Go.Proofs.YtbpopaegfhcdpaaGreatDoor
/-- The tied card, under a short name, for the claim. -/
theorem fnDocAnyRead_holds : Rows.FnDocAnyReadCardSaid := fnDocAnyRead.card
end Go.Proofs.YtbpopaegfhcdpaaGreatDoor
