/- The row of the law FnBindMore, and its tied card. -/
import Derived.Test.YtdmnogjgifapnaaDoorRows
import Derived.Test.YtdmnogjgifapnaaDoorCards
import Derived.Test.YtdmnogjgifapnaaDoorTie
import Derived.LaidMore
import Derived.LaidLaws
import Derived.Stop.LaidErr
import Derived.Stop.Joined
import Derived.SevenTiedAt
import Derived.MakeChecks
import Derived.Test.YtdmnogjgifapnaaDoorOpen
import Derived.Test.YtdmnogjgifapnaaDoorBindMore
import Derived.WalkKit
import Derived.ProofKit
import Derived.OpenShut
import Derived.ShutString
import Derived.ChangeOld
import Derived.Below
import Derived.SizedLaws
import Derived.Carry
namespace Go.Proofs.YtdmnogjgifapnaaDoor.fnBindMore
open Go.ChangeShapes Go.WideShapes Go.ChangeAt Go.RowKit
open Go.ChangeMaps (open_string shut_string)
set_option linter.unusedVariables false
theorem own : ownKnob Tryd.prog.godebug = none := by kernel_rfl
theorem laidOut : laidOutB Tryd.prog = true := by kernel_rfl
def laidL : List (String × DataW Unit) := [("io.ErrShortBuffer", Rows.laid_io_ErrShortBuffer), ("io.EOF", Rows.laid_io_EOF), ("io.ErrUnexpectedEOF", Rows.laid_io_ErrUnexpectedEOF), ("pub-gunnysack/pub/bsoncore.ErrNilReader", Rows.laid_pub_gunnysack_pub_bsoncore_ErrNilReader), ("pub-gunnysack/pub/bsoncore.ErrEmptyKey", Rows.laid_pub_gunnysack_pub_bsoncore_ErrEmptyKey), ("pub-gunnysack/pub/bsoncore.ErrElementNotFound", Rows.laid_pub_gunnysack_pub_bsoncore_ErrElementNotFound), ("pub-gunnysack/pub/bsoncore.ErrOutOfBounds", Rows.laid_pub_gunnysack_pub_bsoncore_ErrOutOfBounds)]
theorem door_met (os : Os) (args : Array Value) : laidMetH Tryd.prog laidL ((World.doorLaid Tryd.prog 195 os).forCall (fun _ _ => 0) ⟨#[], args, []⟩).memory :=
  laidMetH_of_parts3 (fuel := 8) (laidMet_of_run' 8 (by kernel_rfl) (by kernel_rfl)) (by kernel_rfl) (by kernel_rfl)
theorem gl0 : Tryd.prog.globalNamed "io.ErrShortBuffer" = some 8 := by kernel_rfl
theorem rowS (u : TypeId) (h : Tryd.prog.typeName? 3 u = some "*errors.errorString") : u = 159 :=
  typeName_ptr_named (nm := "errors.errorString") (by kernel_rfl) (by kernel_rfl) (by decide) u h
theorem ty0 : (Tryd.prog.globals[8]?).map (·.type) = some 64 := by kernel_rfl
theorem gl1 : Tryd.prog.globalNamed "io.EOF" = some 3 := by kernel_rfl
theorem ty1 : (Tryd.prog.globals[3]?).map (·.type) = some 64 := by kernel_rfl
theorem gl2 : Tryd.prog.globalNamed "io.ErrUnexpectedEOF" = some 9 := by kernel_rfl
theorem ty2 : (Tryd.prog.globals[9]?).map (·.type) = some 64 := by kernel_rfl
theorem gl3 : Tryd.prog.globalNamed "pub-gunnysack/pub/bsoncore.ErrNilReader" = some 4 := by kernel_rfl
theorem ty3 : (Tryd.prog.globals[4]?).map (·.type) = some 64 := by kernel_rfl
theorem gl4 : Tryd.prog.globalNamed "pub-gunnysack/pub/bsoncore.ErrEmptyKey" = some 2 := by kernel_rfl
theorem ty4 : (Tryd.prog.globals[2]?).map (·.type) = some 64 := by kernel_rfl
theorem gl5 : Tryd.prog.globalNamed "pub-gunnysack/pub/bsoncore.ErrElementNotFound" = some 1 := by kernel_rfl
theorem ty5 : (Tryd.prog.globals[1]?).map (·.type) = some 64 := by kernel_rfl
theorem gl6 : Tryd.prog.globalNamed "pub-gunnysack/pub/bsoncore.ErrOutOfBounds" = some 0 := by kernel_rfl
theorem ty6 : (Tryd.prog.globals[0]?).map (·.type) = some 64 := by kernel_rfl
set_option maxRecDepth 100000 in
theorem lifted (os : Os) (started : os.Started) (H : Type) (enc : TypeId × Value → H) :
    ReturnsInHanded {} Tryd.checked os 5 .any (fun w args => (Rows.fnBindMoreSpec.pre enc Tryd.prog Tryd.f5 [] false w args ∧ laidMetH Tryd.prog laidL w) ∧ sizedMet enc Tryd.prog Tryd.f5 (OpenSpec.ofChange Rows.fnBindMoreSpec) false w args) (Rows.fnBindMoreSpec.post enc Tryd.prog Tryd.f5 false true false false) := by
  refine returnsInHanded_of_change_and (C := Tryd.checked) (X := fun w _ => laidMetH Tryd.prog laidL w) (fun _ _ _ hh h => h.of_heap hh) own started (by kernel_rfl) Tryd.func5
    (ChangeSpec.witness_shaped (enc := enc) (C := Tryd.checked) (os := os) (X := fun w _ => laidMetH Tryd.prog laidL w) false (World.doorLaid Tryd.prog 195 os) #[.agg #[.int .i64 0, .string ByteArray.empty, .string ByteArray.empty, .int .i64 0, .int .u64 0, .int .u64 0, .slice none 0 0, .slice none 0 0], .slice none 0 0, .int .i64 0] 8 rfl (World.shaped_of_RefB (by kernel_rfl) (by kernel_rfl)) (by kernel_rfl) (by kernel_rfl) (by kernel_rfl) (door_met os _)) ?_
  intro W base args ds gs before hval0 hW hcnd hsz0 hLH _
  have hsz : (DataW.weightsEach Tryd.prog (Tryd.f5.params.toList ++ Rows.fnBindMoreSpec.plain.varTypes Tryd.prog) (ds ++ gs)).all (· ≤ reachBytes) = true := hsz0
  have hval : ∀ (j : Nat) t v, Tryd.f5.params[j]? = some t → args[j]? = some v → Value.okWide Tryd.prog W .any base t v := hval0
  have hW' := hW
  obtain ⟨p, q, hA0, hV, rfl, hfz, hnd⟩ := hW
  have hA : DataW.TrodAll enc Tryd.prog W 0 (fun _ => true) true Tryd.f5.params.toList args.toList ds p := hA0
  rw [Tryd.params5] at hA hval hsz
  obtain ⟨v0, vs0, d0, ds0, p0, q0, hargs, rfl, rfl, h0, r0⟩ := trodAll_cons hA
  obtain ⟨v1, vs1, d1, ds1, p1, q1, rfl, rfl, rfl, h1, r1⟩ := trodAll_cons r0
  obtain ⟨v2, vs2, d2, ds2, p2, q2, rfl, rfl, rfl, h2, r2⟩ := trodAll_cons r1
  obtain ⟨rfl, rfl, rfl⟩ := trodAll_nil r2
  obtain rfl : args = #[v0, v1, v2] := by cases args; simp_all
  obtain ⟨rfl, rfl⟩ := trodVars_none hV
  obtain ⟨cs0, rfl, -⟩ := okWide_struct Tryd.underlying29 (hval 0 29 v0 rfl rfl)
  have k0 := h0
  have lt0 : ∀ x ∈ p0, x.block < W.heap.size := by obtain ⟨m, hm⟩ := k0; exact DataW.trod_lt m _ _ _ hm
  obtain ⟨u0, rv0, ok0⟩ := X.open_val h0 (fun n hn => by have := List.all_eq_true.1 hsz n (DataW.weights_mem_each (j := 0) (t := 29) rfl rfl n hn); simpa using this)
  obtain ⟨x1, len1, cap1, rfl⟩ := okWide_slice Tryd.underlying26 (hval 1 26 v1 rfl rfl)
  have k1 := h1
  have lt1 : ∀ x ∈ p1, x.block < W.heap.size := by obtain ⟨m, hm⟩ := k1; exact DataW.trod_lt m _ _ _ hm
  obtain ⟨A1, c1, l1, e1, s1, z1⟩ : ∃ A c l, (Value.slice x1 len1 cap1) = .slice A (List.length l) c ∧ X.SB W A c l ∧ l.length ≤ 140737488351232 := by
    obtain ⟨fuel, hf⟩ := h1
    obtain ⟨A, c, l, e, hs, hz⟩ := X.open_bytes hf (fun n hn => by have := List.all_eq_true.1 hsz n (DataW.weights_mem_each (j := 1) (t := 26) rfl rfl n hn); simpa using this)
    exact ⟨A, c, l, by simpa [Value.cells] using e, hs, hz⟩
  obtain ⟨rfl, rfl, rfl⟩ : A1 = x1 ∧ l1.length = len1 ∧ c1 = cap1 := by simpa [eq_comm] using e1
  obtain ⟨a2, rfl, rfl, rfl, w2⟩ := open_int Tryd.underlying3 (hval 2 3 v2 rfl rfl) h2
  have hL0 : laidMet Tryd.prog laidL W := by rw [← MakeChecks.laidMetH_plain _ _ _ (by kernel_rfl)]; exact hLH
  obtain ⟨la0, ls0, lw0, -, -, -⟩ := laid_sentinel hL0 gl0 ty0 Tryd.underlying64 rowS Tryd.underlying159 Tryd.underlying161 rfl rfl Tryd.underlying9 (by kernel_rfl) (by kernel_rfl)
  have lv0 := World.var?_cell gl0 lw0 0
  replace lv0 : W.cell? ⟨8, 0, none⟩ = some (.iface 159 (.pointer (some la0))) := by simpa using lv0
  obtain ⟨la1, ls1, lw1, -, -, -⟩ := laid_sentinel hL0.tail gl1 ty1 Tryd.underlying64 rowS Tryd.underlying159 Tryd.underlying161 rfl rfl Tryd.underlying9 (by kernel_rfl) (by kernel_rfl)
  have lv1 := World.var?_cell gl1 lw1 0
  replace lv1 : W.cell? ⟨3, 0, none⟩ = some (.iface 159 (.pointer (some la1))) := by simpa using lv1
  obtain ⟨la2, ls2, lw2, -, -, -⟩ := laid_sentinel hL0.tail.tail gl2 ty2 Tryd.underlying64 rowS Tryd.underlying159 Tryd.underlying161 rfl rfl Tryd.underlying9 (by kernel_rfl) (by kernel_rfl)
  have lv2 := World.var?_cell gl2 lw2 0
  replace lv2 : W.cell? ⟨9, 0, none⟩ = some (.iface 159 (.pointer (some la2))) := by simpa using lv2
  obtain ⟨la3, ls3, lw3, -, -, -⟩ := laid_sentinel hL0.tail.tail.tail gl3 ty3 Tryd.underlying64 rowS Tryd.underlying159 Tryd.underlying161 rfl rfl Tryd.underlying9 (by kernel_rfl) (by kernel_rfl)
  have lv3 := World.var?_cell gl3 lw3 0
  replace lv3 : W.cell? ⟨4, 0, none⟩ = some (.iface 159 (.pointer (some la3))) := by simpa using lv3
  obtain ⟨la4, ls4, lw4, -, -, -⟩ := laid_sentinel hL0.tail.tail.tail.tail gl4 ty4 Tryd.underlying64 rowS Tryd.underlying159 Tryd.underlying161 rfl rfl Tryd.underlying9 (by kernel_rfl) (by kernel_rfl)
  have lv4 := World.var?_cell gl4 lw4 0
  replace lv4 : W.cell? ⟨2, 0, none⟩ = some (.iface 159 (.pointer (some la4))) := by simpa using lv4
  obtain ⟨la5, ls5, lw5, -, -, -⟩ := laid_sentinel hL0.tail.tail.tail.tail.tail gl5 ty5 Tryd.underlying64 rowS Tryd.underlying159 Tryd.underlying161 rfl rfl Tryd.underlying9 (by kernel_rfl) (by kernel_rfl)
  have lv5 := World.var?_cell gl5 lw5 0
  replace lv5 : W.cell? ⟨1, 0, none⟩ = some (.iface 159 (.pointer (some la5))) := by simpa using lv5
  obtain ⟨la6, ls6, lw6, -, -, -⟩ := laid_sentinel hL0.tail.tail.tail.tail.tail.tail gl6 ty6 Tryd.underlying64 rowS Tryd.underlying159 Tryd.underlying161 rfl rfl Tryd.underlying9 (by kernel_rfl) (by kernel_rfl)
  have lv6 := World.var?_cell gl6 lw6 0
  replace lv6 : W.cell? ⟨0, 0, none⟩ = some (.iface 159 (.pointer (some la6))) := by simpa using lv6
  clear hA0 hval0 hsz0 hsz
  refine (X.fnBindMore_walk u0 cs0.toList A1 c1 l1 a2 W ok0 rv0 s1).mono fun e W' ⟨he, bel⟩ => ?_
  subst he
  exact ⟨_, rfl, _, _, _, [], _, [], hW', trodAll_mk1 (shut_bool Tryd.underlying4 _), (trodAll_cons_mk (Below.trod laidOut (by kernel_rfl) (of_decide_eq_true (by kernel_rfl)) k0 bel lt0) (trodAll_cons_mk (Below.trod laidOut (by kernel_rfl) (of_decide_eq_true (by kernel_rfl)) k1 bel lt1) (trodAll_cons_mk (shut_int Tryd.underlying3 w2) trodAll_mk0))), rfl, bel.frame _, fun h => by cases h⟩
theorem over : Rows.fnBindMoreRow.holds Tryd.pinned (OpenSpec.ofChange Rows.fnBindMoreSpec) :=
  OpenClaim.holds_of_wide 5 Tryd.f5 rfl rfl rfl rfl rfl rfl rfl ⟨rfl, rfl, rfl, rfl, rfl⟩ rfl rfl rfl rfl rfl (by kernel_rfl) Tryd.func5 (by kernel_rfl)
    (of_decide_eq_true (by kernel_rfl)) (by unfold Func.isWrapper; first | (rw [if_pos (by decide +kernel)]; kernel_rfl) | (rw [if_neg (by decide +kernel)]; exact ⟨rfl, rfl⟩))
    (fun os started H enc _ => lifted os started H enc)
theorem proved : Rows.FnBindMoreSaid := over
theorem card : Rows.FnBindMoreCardSaid :=
  Claim7.holds_tied_plain_at .later [] [.sentinel, .sentinel, .sentinel, .sentinel, .sentinel, .sentinel, .sentinel] true (true, "ffe620839e67a3af8d91f8fa7796a916ab0fd7ca7ae4887c29763e5dddc6e4df") true
    proved (fun _ h => by cases h) (by kernel_rfl) (fun _ h => by cases h) fnBindMore_row_tie rfl ⟨rfl, rfl⟩ (by kernel_rfl) rfl
    (fun f fn hf hfn => by
      obtain rfl : f = 5 := Option.some.inj ((show Tryd.prog.funcNamed "pub-gunnysack/laws.FnBindMore" = some 5 by kernel_rfl).symm.trans hf) |>.symm
      obtain rfl : fn = Tryd.f5 := (Option.some.inj (Tryd.func5.symm.trans hfn)).symm
      exact ⟨by kernel_rfl, fun j t ht => by
        rw [Tryd.params5] at ht
        rcases j with _ | _ | _ | j
        · obtain rfl : 29 = t := by simpa using ht
          exact (show Tryd.prog.wantsStandIn 29 = false by kernel_rfl)
        · obtain rfl : 26 = t := by simpa using ht
          exact (show Tryd.prog.wantsStandIn 26 = false by kernel_rfl)
        · obtain rfl : 3 = t := by simpa using ht
          exact (show Tryd.prog.wantsStandIn 3 = false by kernel_rfl)
        · simp at ht⟩)
    (by kernel_rfl)
#print axioms card
end Go.Proofs.YtdmnogjgifapnaaDoor.fnBindMore
namespace Go.Proofs.YtdmnogjgifapnaaDoor
/-- The tied card, under a short name, for the claim. -/
theorem fnBindMore_holds : Rows.FnBindMoreCardSaid := fnBindMore.card
end Go.Proofs.YtdmnogjgifapnaaDoor
