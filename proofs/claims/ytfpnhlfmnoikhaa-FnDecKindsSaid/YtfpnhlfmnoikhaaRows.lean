/-
  NARROWER THAN 'FOR EVERY INPUT', by the rows' own cells (each row's printed sentence says how): FnBindNumber: loops · FnDocCompareKey: loops.
  DERIVED. THE GIVEN ROWS OF THIS SEAT. 6 by the template 'for every input the law returns true; each argument reads behind the call as it read before'; 0 by the template 'total and deterministic' (their statements: YtfpnhlfmnoikhaaTotals.lean).
  GIVEN WITH THE SEED: the statements are not yours to turn. If you find one false, say at which input.
  Laid BY PROGRAM, IN A SANDBOX (cutbox-rows.mjs): the forced cells as the released guide's own fill.sh prints them over the translation 88195145ef1a6974… (all of the seat's roots in one cut). By AI agents, Wed Nov 11 2026. No macro, syntax, notation, axiom, sorry.
-/
import Derived.Test.YtfpnhlfmnoikhaaChecked
import GoSem.Claim
import GoSem.ClaimJoined
import GoSem.ClaimMapViews
import Derived.JoinedTies
import Derived.KernelRfl
namespace Go.Proofs.Ytfpnhlfmnoikhaa
/- THE CELL 'sum', in the pinned program and in every row, IS THE sha256 OF THE DUMP (.gsa) THAT YtfpnhlfmnoikhaaProg.lean LOADS. Nothing in Lean hashes anything: it is a label: what it is worth is what the hold of that sum in a sandbox is worth. -/
noncomputable def Try.pinned : Pinned := { name := "ytfpnhlfmnoikhaa", sum := "88195145ef1a6974f70a0d68dd31ec22d7203733d26a980306600f5995ef67aa", checked := Try.checked }
namespace Rows
def none {H : Type} : Left H := { results := [], args := [] }

/-- 'laws.FnBindZero': WHATEVER THE INPUT: true; the input reads as it did. -/
def fnBindZeroSpec : ChangeSpec := { name := "fnBindZero", fn := fun _ => fun
  | [d] => { results := [.lit (.bool true)], args := [d] }
  | _ => none }
def fnBindZeroRow : OpenClaim := { program := "ytfpnhlfmnoikhaa", sum := "88195145ef1a6974f70a0d68dd31ec22d7203733d26a980306600f5995ef67aa", func := "pub-gunnysack/laws.FnBindZero", spec := "fnBindZero", apart := false }
def FnBindZeroSaid : Prop := fnBindZeroRow.holds Try.pinned (OpenSpec.ofChange fnBindZeroSpec)

/-- ITS FALSE NEIGHBOUR: 'it returns false'. Refute it at one input. -/
def fnBindZeroWrong : ChangeSpec := { name := "fnBindZero", fn := fun _ => fun
  | [d] => { results := [.lit (.bool false)], args := [d] }
  | _ => none }
def FnBindZeroWrongFalsely : Prop := fnBindZeroRow.holds Try.pinned (OpenSpec.ofChange fnBindZeroWrong)

/-- 'laws.FnBindNumber': WHATEVER THE INPUT: true; the input reads as it did. -/
def fnBindNumberSpec : ChangeSpec := { name := "fnBindNumber", fn := fun _ => fun
  | [d] => { results := [.lit (.bool true)], args := [d] }
  | _ => none }
def fnBindNumberRow : OpenClaim := { program := "ytfpnhlfmnoikhaa", sum := "88195145ef1a6974f70a0d68dd31ec22d7203733d26a980306600f5995ef67aa", func := "pub-gunnysack/laws.FnBindNumber", spec := "fnBindNumber", recurses := true, loops := true, apart := false }
def FnBindNumberSaid : Prop := fnBindNumberRow.holds Try.pinned (OpenSpec.ofChange fnBindNumberSpec)

/-- ITS FALSE NEIGHBOUR: 'it returns false'. Refute it at one input. -/
def fnBindNumberWrong : ChangeSpec := { name := "fnBindNumber", fn := fun _ => fun
  | [d] => { results := [.lit (.bool false)], args := [d] }
  | _ => none }
def FnBindNumberWrongFalsely : Prop := fnBindNumberRow.holds Try.pinned (OpenSpec.ofChange fnBindNumberWrong)

/-- 'laws.FnDocCompareKey': WHATEVER THE INPUT: true; the input reads as it did. -/
def fnDocCompareKeySpec : ChangeSpec := { name := "fnDocCompareKey", fn := fun _ => fun
  | [d1, d2, d3] => { results := [.lit (.bool true)], args := [d1, d2, d3] }
  | _ => none }
def fnDocCompareKeyRow : OpenClaim := { program := "ytfpnhlfmnoikhaa", sum := "88195145ef1a6974f70a0d68dd31ec22d7203733d26a980306600f5995ef67aa", func := "pub-gunnysack/laws.FnDocCompareKey", spec := "fnDocCompareKey", inPlace := ["internal/bytealg.IndexByte"], recurses := true, loops := true, apart := false }
def FnDocCompareKeySaid : Prop := fnDocCompareKeyRow.holds Try.pinned (OpenSpec.ofChange fnDocCompareKeySpec)

/-- ITS FALSE NEIGHBOUR: 'it returns false'. Refute it at one input. -/
def fnDocCompareKeyWrong : ChangeSpec := { name := "fnDocCompareKey", fn := fun _ => fun
  | [d1, d2, d3] => { results := [.lit (.bool false)], args := [d1, d2, d3] }
  | _ => none }
def FnDocCompareKeyWrongFalsely : Prop := fnDocCompareKeyRow.holds Try.pinned (OpenSpec.ofChange fnDocCompareKeyWrong)

/-- 'laws.FnDecKinds': WHATEVER THE INPUT: true; the input reads as it did. -/
def fnDecKindsSpec : ChangeSpec := { name := "fnDecKinds", fn := fun _ => fun
  | [d1, d2] => { results := [.lit (.bool true)], args := [d1, d2] }
  | _ => none }
def fnDecKindsRow : OpenClaim := { program := "ytfpnhlfmnoikhaa", sum := "88195145ef1a6974f70a0d68dd31ec22d7203733d26a980306600f5995ef67aa", func := "pub-gunnysack/laws.FnDecKinds", spec := "fnDecKinds", apart := false }
def FnDecKindsSaid : Prop := fnDecKindsRow.holds Try.pinned (OpenSpec.ofChange fnDecKindsSpec)

/-- ITS FALSE NEIGHBOUR: 'it returns false'. Refute it at one input. -/
def fnDecKindsWrong : ChangeSpec := { name := "fnDecKinds", fn := fun _ => fun
  | [d1, d2] => { results := [.lit (.bool false)], args := [d1, d2] }
  | _ => none }
def FnDecKindsWrongFalsely : Prop := fnDecKindsRow.holds Try.pinned (OpenSpec.ofChange fnDecKindsWrong)

/-- 'laws.FnTextStart': WHATEVER THE INPUT: true; the input reads as it did. -/
def fnTextStartSpec : ChangeSpec := { name := "fnTextStart", fn := fun _ => fun
  | [d1, d2] => { results := [.lit (.bool true)], args := [d1, d2] }
  | _ => none }
def fnTextStartRow : OpenClaim := { program := "ytfpnhlfmnoikhaa", sum := "88195145ef1a6974f70a0d68dd31ec22d7203733d26a980306600f5995ef67aa", func := "pub-gunnysack/laws.FnTextStart", spec := "fnTextStart", apart := false }
def FnTextStartSaid : Prop := fnTextStartRow.holds Try.pinned (OpenSpec.ofChange fnTextStartSpec)

/-- ITS FALSE NEIGHBOUR: 'it returns false'. Refute it at one input. -/
def fnTextStartWrong : ChangeSpec := { name := "fnTextStart", fn := fun _ => fun
  | [d1, d2] => { results := [.lit (.bool false)], args := [d1, d2] }
  | _ => none }
def FnTextStartWrongFalsely : Prop := fnTextStartRow.holds Try.pinned (OpenSpec.ofChange fnTextStartWrong)

/-- 'laws.FnBindTimes': WHATEVER THE INPUT: true; the input reads as it did. -/
def fnBindTimesSpec : ChangeSpec := { name := "fnBindTimes", fn := fun _ => fun
  | [d1, d2] => { results := [.lit (.bool true)], args := [d1, d2] }
  | _ => none }
def fnBindTimesRow : OpenClaim := { program := "ytfpnhlfmnoikhaa", sum := "88195145ef1a6974f70a0d68dd31ec22d7203733d26a980306600f5995ef67aa", func := "pub-gunnysack/laws.FnBindTimes", spec := "fnBindTimes", apart := false }
def FnBindTimesSaid : Prop := fnBindTimesRow.holds Try.pinned (OpenSpec.ofChange fnBindTimesSpec)

/-- ITS FALSE NEIGHBOUR: 'it returns false'. Refute it at one input. -/
def fnBindTimesWrong : ChangeSpec := { name := "fnBindTimes", fn := fun _ => fun
  | [d1, d2] => { results := [.lit (.bool false)], args := [d1, d2] }
  | _ => none }
def FnBindTimesWrongFalsely : Prop := fnBindTimesRow.holds Try.pinned (OpenSpec.ofChange fnBindTimesWrong)

/- THE SECOND FORM. 'bulk': how many values and letters a reading holds, each counted each time it is reached (what is shared counts as often as it is met; a slice's spare places count too). A statement '..UptoSaid' is the law's where the arguments, and the package variables that the reading takes, are together of bulk at most 1048576: NARROWER than '..Said'. Prove '..Said' where nothing that the law and all that it calls make is longer than what came in: it says more and counts as full. Else prove '..UptoSaid'. A law counts once. -/
mutual
def uptoBulk {H : Type} : DataW H → Nat
  | .lit (.string bytes) => bytes.length + 1
  | .lit _ => 1
  | .nil => 1
  | .ptr d => uptoBulk d + 1
  | .slice elems spare => uptoBulkAll elems + uptoBulkAll spare + 1
  | .agg parts => uptoBulkAll parts + 1
  | .iface _ d => uptoBulk d + 1
  | .map entries => uptoBulkEntries entries + 1
  | .held _ => 1
def uptoBulkAll {H : Type} : List (DataW H) → Nat
  | [] => 0
  | d :: r => uptoBulk d + uptoBulkAll r
def uptoBulkEntries {H : Type} : List (Lit × DataW H) → Nat
  | [] => 0
  | x :: r => uptoBulkEntry x + uptoBulkEntries r
def uptoBulkEntry {H : Type} : Lit × DataW H → Nat
  | (.string bytes, d) => bytes.length + uptoBulk d + 1
  | (_, d) => uptoBulk d + 1
 end
def uptoSmall : (H : Type) → List (DataW H) → Bool := fun _ ds => decide (uptoBulkAll ds ≤ 1048576)
def OpenSpec.upto (s : _root_.Go.ChangeSpec) : _root_.Go.OpenSpec := { _root_.Go.OpenSpec.ofChange s with cond := some uptoSmall }

/-- 'laws.FnBindZero', WHERE WHAT IT READS IS OF BULK AT MOST 1048576: true; the input reads as it did. -/
def fnBindZeroUptoRow : OpenClaim := { program := "ytfpnhlfmnoikhaa", sum := "88195145ef1a6974f70a0d68dd31ec22d7203733d26a980306600f5995ef67aa", func := "pub-gunnysack/laws.FnBindZero", spec := "fnBindZero", apart := false, narrowed := true }
def FnBindZeroUptoSaid : Prop := fnBindZeroUptoRow.holds Try.pinned (OpenSpec.upto fnBindZeroSpec)

/-- 'laws.FnBindNumber', WHERE WHAT IT READS IS OF BULK AT MOST 1048576: true; the input reads as it did. -/
def fnBindNumberUptoRow : OpenClaim := { program := "ytfpnhlfmnoikhaa", sum := "88195145ef1a6974f70a0d68dd31ec22d7203733d26a980306600f5995ef67aa", func := "pub-gunnysack/laws.FnBindNumber", spec := "fnBindNumber", recurses := true, loops := true, apart := false, narrowed := true }
def FnBindNumberUptoSaid : Prop := fnBindNumberUptoRow.holds Try.pinned (OpenSpec.upto fnBindNumberSpec)

/-- 'laws.FnDocCompareKey', WHERE WHAT IT READS IS OF BULK AT MOST 1048576: true; the input reads as it did. -/
def fnDocCompareKeyUptoRow : OpenClaim := { program := "ytfpnhlfmnoikhaa", sum := "88195145ef1a6974f70a0d68dd31ec22d7203733d26a980306600f5995ef67aa", func := "pub-gunnysack/laws.FnDocCompareKey", spec := "fnDocCompareKey", inPlace := ["internal/bytealg.IndexByte"], recurses := true, loops := true, apart := false, narrowed := true }
def FnDocCompareKeyUptoSaid : Prop := fnDocCompareKeyUptoRow.holds Try.pinned (OpenSpec.upto fnDocCompareKeySpec)

/-- 'laws.FnDecKinds', WHERE WHAT IT READS IS OF BULK AT MOST 1048576: true; the input reads as it did. -/
def fnDecKindsUptoRow : OpenClaim := { program := "ytfpnhlfmnoikhaa", sum := "88195145ef1a6974f70a0d68dd31ec22d7203733d26a980306600f5995ef67aa", func := "pub-gunnysack/laws.FnDecKinds", spec := "fnDecKinds", apart := false, narrowed := true }
def FnDecKindsUptoSaid : Prop := fnDecKindsUptoRow.holds Try.pinned (OpenSpec.upto fnDecKindsSpec)

/-- 'laws.FnTextStart', WHERE WHAT IT READS IS OF BULK AT MOST 1048576: true; the input reads as it did. -/
def fnTextStartUptoRow : OpenClaim := { program := "ytfpnhlfmnoikhaa", sum := "88195145ef1a6974f70a0d68dd31ec22d7203733d26a980306600f5995ef67aa", func := "pub-gunnysack/laws.FnTextStart", spec := "fnTextStart", apart := false, narrowed := true }
def FnTextStartUptoSaid : Prop := fnTextStartUptoRow.holds Try.pinned (OpenSpec.upto fnTextStartSpec)

/-- 'laws.FnBindTimes', WHERE WHAT IT READS IS OF BULK AT MOST 1048576: true; the input reads as it did. -/
def fnBindTimesUptoRow : OpenClaim := { program := "ytfpnhlfmnoikhaa", sum := "88195145ef1a6974f70a0d68dd31ec22d7203733d26a980306600f5995ef67aa", func := "pub-gunnysack/laws.FnBindTimes", spec := "fnBindTimes", apart := false, narrowed := true }
def FnBindTimesUptoSaid : Prop := fnBindTimesUptoRow.holds Try.pinned (OpenSpec.upto fnBindTimesSpec)

end Rows
end Go.Proofs.Ytfpnhlfmnoikhaa
