/- Contracts of docCopy and of the appenders of numbers. -/
import Derived.Test.YtohfgfbfohkkkaaGreatDoorOwn
import Derived.Test.YtohfgfbfohkkkaaGreatDoorDoc6
set_option linter.unusedVariables false
set_option linter.unusedSimpArgs false
set_option maxRecDepth 100000
namespace Go.Proofs.YtohfgfbfohkkkaaGreatDoor.X
open Go.RowKit
theorem docCopy (A : Option Addr) (c : Nat) (l : List UInt8) (w : World) (hs : SB w A c l) (hl : l.length ≤ 140737488355328) :
    Calls Tryz.prog 7 #[.slice A l.length c] w (After fun v1 w1 => OB 5 w1 w.heap.size v1 l ∧ Below w.heap.size w w1) := by
  go_enter Tryz.func7, Tryz.ntmps7
  go_wp2_with (first | (refine wp_app (.tmp 3) (.tmp 4) 22 rfl rfl infoB Tryz.underlying22 _ w.heap.size _ [] A c l rfl rfl ?a1 ?a2 ?a3 ?a4 ?_) | fail)
  case a1 => exact OB.lit_ w w.heap.size (Nat.le_refl _) [] [] rfl (by simp) 0 rfl
  case a2 => exact hs.alloc _
  case a3 => simp
  case a4 => simpa using hl
  intro v2 w2 h2
  go_wp2
  go_ret
  exact ⟨v2, rfl, by simpa using h2.own, (balloc (Below.refl _ _) (Nat.le_refl _) _).trans (h2.kept (OB.lit_ w w.heap.size (Nat.le_refl _) [] [] rfl (by simp) 0 rfl) (by simp))⟩
theorem putU32 (W : World) (base : Nat) (v : Value) (l : List UInt8) (n : Int) (h0 : 0 ≤ n) (h1 : n ≤ 4294967295) (HO : OB 5 W base v l) (hbase : base ≤ W.heap.size) (hl : l.length ≤ 100000000000000) :
    Calls Tryz.prog 179 #[v, .int .u32 n] W (After fun v1 w1 => App (E := 5) W base v (l ++ i32 n) v1 w1) := by
  go_enter Tryz.func179, Tryz.ntmps179
  go_wp2_with (first | (refine wp_app (.tmp 5) (.tmp 17) 22 rfl rfl infoB Tryz.underlying22 _ base v l _ _ (i32 n) rfl rfl ?a1 ?a2 ?a3 ?a4 ?_) | fail)
  case a1 => exact HO.alloc _
  case a2 => refine SB.lit_ _ (i32 n) _ ?_ (by simp [i32]) _ rfl; simp [byv, i32, ub_toNat]; omega
  case a3 => simp; omega
  case a4 => simp [i32]; omega
  intro v1 w1 hap
  go_wp2
  go_ret
  exact ⟨v1, rfl, hap.pre (balloc (Below.refl _ _) (Nat.le_refl _) _)⟩
theorem putU64 (W : World) (base : Nat) (v : Value) (l : List UInt8) (n : Int) (h0 : 0 ≤ n) (h1 : n ≤ 18446744073709551615) (HO : OB 5 W base v l) (hbase : base ≤ W.heap.size) (hl : l.length ≤ 100000000000000) :
    Calls Tryz.prog 151 #[v, .int .u64 n] W (After fun v1 w1 => App (E := 5) W base v (l ++ i64 n) v1 w1) := by
  have e8 : i64 n = [ub n, ub (n / 256), ub (n / 65536), ub (n / 16777216), ub (n / 4294967296), ub (n / 1099511627776), ub (n / 281474976710656), ub (n / 72057594037927936)] := by simp [i64, List.range_succ]
  rw [e8]
  go_enter Tryz.func151, Tryz.ntmps151
  go_wp2_with (first | (refine wp_app (.tmp 5) (.tmp 29) 22 rfl rfl infoB Tryz.underlying22 _ base v l _ _ [ub n, ub (n / 256), ub (n / 65536), ub (n / 16777216), ub (n / 4294967296), ub (n / 1099511627776), ub (n / 281474976710656), ub (n / 72057594037927936)] rfl rfl ?a1 ?a2 ?a3 ?a4 ?_) | fail)
  case a1 => exact HO.alloc _
  case a2 => refine SB.lit_ _ ([ub n, ub (n / 256), ub (n / 65536), ub (n / 16777216), ub (n / 4294967296), ub (n / 1099511627776), ub (n / 281474976710656), ub (n / 72057594037927936)]) _ ?_ (by simp [i32]) _ rfl; simp [byv, i32, ub_toNat]; omega
  case a3 => simp; omega
  case a4 => simp [i32]; omega
  intro v1 w1 hap
  go_wp2
  go_ret
  exact ⟨v1, rfl, hap.pre (balloc (Below.refl _ _) (Nat.le_refl _) _)⟩
end Go.Proofs.YtohfgfbfohkkkaaGreatDoor.X
