/- What a new writer says to a value that is no document: impl.writeScalar, by kind. (gen_vw.py) -/
import Derived.Test.YtdgncemcfhocmaaGreatDoorVwA
import Derived.Test.YtdgncemcfhocmaaGreatDoorImplId
set_option linter.unusedVariables false
set_option linter.unusedSimpArgs false
set_option maxRecDepth 100000
namespace Go.Proofs.YtdgncemcfhocmaaGreatDoor.X
open Go.RowKit Go.Proofs.YtdgncemcfhocmaaGreatDoorW.PrintLast
namespace Vw
open Ap
def R25.T21 : Bool × List (List Nat × List Nat) := (true, [([], []), ([], []), ([1], [1]), ([], []), ([3], [3]), ([4], [4]), ([0, 2, 5, 5], [0, 2, 5]), ([6, 6, 0, 1, 2, 3, 4, 5, 6], [6])])
def R25.B21 : List Nat := [0, 0, 2, 0, 8, 24, 63, 127]
theorem R25.tab21 : rtab .any (opsOf Tryz.f25 21) = R25.T21 := by kernel_rfl
theorem R25.bits21 : waitsOk R25.T21.2 R25.B21 = true := by kernel_rfl
theorem bthenV {B : Nat} {w0 W w1 : World} (h : Below B w0 W) (k : Below W.heap.size W w1) (hB : B ≤ W.heap.size := by first | (simp; done) | (simp; omega) | omega) : Below B w0 w1 := h.trans (k.mono hB)
theorem vWriteDouble (B S : Nat) (x1 : Value) (w : World) (h : Vw0 w B S) : Calls Tryz.prog 45 #[.pointer (some ⟨B, 0, none⟩), x1] w fun e w' => Err e ∧ Below w.heap.size w w' := by
  have HH := Lib.hid (fun t d s => header B S t d s w h)
  clear h
  go_enter Tryz.func45, Tryz.ntmps45
  go_wp2_with fail
  refine (HH.out _ _ _).mono ?_
  rintro e w1 ⟨⟨E, x, rfl⟩, hb1⟩
  have HB1 := Lib.hid hb1
  clear hb1 HH
  go_wp2_with fail
  go_ret
  exact ⟨⟨E, x, rfl⟩, HB1.out⟩
theorem vWriteString (B S : Nat) (x1 : Value) (w : World) (h : Vw0 w B S) : Calls Tryz.prog 47 #[.pointer (some ⟨B, 0, none⟩), x1] w fun e w' => Err e ∧ Below w.heap.size w w' := by
  have HH := Lib.hid (fun t d s => header B S t d s w h)
  clear h
  go_enter Tryz.func47, Tryz.ntmps47
  go_wp2_with fail
  refine (HH.out _ _ _).mono ?_
  rintro e w1 ⟨⟨E, x, rfl⟩, hb1⟩
  have HB1 := Lib.hid hb1
  clear hb1 HH
  go_wp2_with fail
  go_ret
  exact ⟨⟨E, x, rfl⟩, HB1.out⟩
theorem vWriteBinaryWithSubtype (B S : Nat) (x1 x2 : Value) (w : World) (h : Vw0 w B S) : Calls Tryz.prog 48 #[.pointer (some ⟨B, 0, none⟩), x1, x2] w fun e w' => Err e ∧ Below w.heap.size w w' := by
  have HH := Lib.hid (fun t d s => header B S t d s w h)
  clear h
  go_enter Tryz.func48, Tryz.ntmps48
  go_wp2_with fail
  refine (HH.out _ _ _).mono ?_
  rintro e w1 ⟨⟨E, x, rfl⟩, hb1⟩
  have HB1 := Lib.hid hb1
  clear hb1 HH
  go_wp2_with fail
  go_ret
  exact ⟨⟨E, x, rfl⟩, HB1.out⟩
theorem vWriteUndefined (B S : Nat) (w : World) (h : Vw0 w B S) : Calls Tryz.prog 49 #[.pointer (some ⟨B, 0, none⟩)] w fun e w' => Err e ∧ Below w.heap.size w w' := by
  have HH := Lib.hid (fun t d s => header B S t d s w h)
  clear h
  go_enter Tryz.func49, Tryz.ntmps49
  go_wp2_with fail
  refine (HH.out _ _ _).mono ?_
  rintro e w1 ⟨⟨E, x, rfl⟩, hb1⟩
  have HB1 := Lib.hid hb1
  clear hb1 HH
  go_wp2_with fail
  go_ret
  exact ⟨⟨E, x, rfl⟩, HB1.out⟩
theorem vWriteBoolean (B S : Nat) (x1 : Value) (w : World) (h : Vw0 w B S) : Calls Tryz.prog 52 #[.pointer (some ⟨B, 0, none⟩), x1] w fun e w' => Err e ∧ Below w.heap.size w w' := by
  have HH := Lib.hid (fun t d s => header B S t d s w h)
  clear h
  go_enter Tryz.func52, Tryz.ntmps52
  go_wp2_with fail
  refine (HH.out _ _ _).mono ?_
  rintro e w1 ⟨⟨E, x, rfl⟩, hb1⟩
  have HB1 := Lib.hid hb1
  clear hb1 HH
  go_wp2_with fail
  go_ret
  exact ⟨⟨E, x, rfl⟩, HB1.out⟩
theorem vWriteDateTime (B S : Nat) (x1 : Value) (w : World) (h : Vw0 w B S) : Calls Tryz.prog 53 #[.pointer (some ⟨B, 0, none⟩), x1] w fun e w' => Err e ∧ Below w.heap.size w w' := by
  have HH := Lib.hid (fun t d s => header B S t d s w h)
  clear h
  go_enter Tryz.func53, Tryz.ntmps53
  go_wp2_with fail
  refine (HH.out _ _ _).mono ?_
  rintro e w1 ⟨⟨E, x, rfl⟩, hb1⟩
  have HB1 := Lib.hid hb1
  clear hb1 HH
  go_wp2_with fail
  go_ret
  exact ⟨⟨E, x, rfl⟩, HB1.out⟩
theorem vWriteNull (B S : Nat) (w : World) (h : Vw0 w B S) : Calls Tryz.prog 54 #[.pointer (some ⟨B, 0, none⟩)] w fun e w' => Err e ∧ Below w.heap.size w w' := by
  have HH := Lib.hid (fun t d s => header B S t d s w h)
  clear h
  go_enter Tryz.func54, Tryz.ntmps54
  go_wp2_with fail
  refine (HH.out _ _ _).mono ?_
  rintro e w1 ⟨⟨E, x, rfl⟩, hb1⟩
  have HB1 := Lib.hid hb1
  clear hb1 HH
  go_wp2_with fail
  go_ret
  exact ⟨⟨E, x, rfl⟩, HB1.out⟩
theorem vWriteJavascript (B S : Nat) (x1 : Value) (w : World) (h : Vw0 w B S) : Calls Tryz.prog 57 #[.pointer (some ⟨B, 0, none⟩), x1] w fun e w' => Err e ∧ Below w.heap.size w w' := by
  have HH := Lib.hid (fun t d s => header B S t d s w h)
  clear h
  go_enter Tryz.func57, Tryz.ntmps57
  go_wp2_with fail
  refine (HH.out _ _ _).mono ?_
  rintro e w1 ⟨⟨E, x, rfl⟩, hb1⟩
  have HB1 := Lib.hid hb1
  clear hb1 HH
  go_wp2_with fail
  go_ret
  exact ⟨⟨E, x, rfl⟩, HB1.out⟩
theorem vWriteSymbol (B S : Nat) (x1 : Value) (w : World) (h : Vw0 w B S) : Calls Tryz.prog 58 #[.pointer (some ⟨B, 0, none⟩), x1] w fun e w' => Err e ∧ Below w.heap.size w w' := by
  have HH := Lib.hid (fun t d s => header B S t d s w h)
  clear h
  go_enter Tryz.func58, Tryz.ntmps58
  go_wp2_with fail
  refine (HH.out _ _ _).mono ?_
  rintro e w1 ⟨⟨E, x, rfl⟩, hb1⟩
  have HB1 := Lib.hid hb1
  clear hb1 HH
  go_wp2_with fail
  go_ret
  exact ⟨⟨E, x, rfl⟩, HB1.out⟩
theorem vWriteInt32 (B S : Nat) (x1 : Value) (w : World) (h : Vw0 w B S) : Calls Tryz.prog 59 #[.pointer (some ⟨B, 0, none⟩), x1] w fun e w' => Err e ∧ Below w.heap.size w w' := by
  have HH := Lib.hid (fun t d s => header B S t d s w h)
  clear h
  go_enter Tryz.func59, Tryz.ntmps59
  go_wp2_with fail
  refine (HH.out _ _ _).mono ?_
  rintro e w1 ⟨⟨E, x, rfl⟩, hb1⟩
  have HB1 := Lib.hid hb1
  clear hb1 HH
  go_wp2_with fail
  go_ret
  exact ⟨⟨E, x, rfl⟩, HB1.out⟩
theorem vWriteTimestamp (B S : Nat) (x1 x2 : Value) (w : World) (h : Vw0 w B S) : Calls Tryz.prog 60 #[.pointer (some ⟨B, 0, none⟩), x1, x2] w fun e w' => Err e ∧ Below w.heap.size w w' := by
  have HH := Lib.hid (fun t d s => header B S t d s w h)
  clear h
  go_enter Tryz.func60, Tryz.ntmps60
  go_wp2_with fail
  refine (HH.out _ _ _).mono ?_
  rintro e w1 ⟨⟨E, x, rfl⟩, hb1⟩
  have HB1 := Lib.hid hb1
  clear hb1 HH
  go_wp2_with fail
  go_ret
  exact ⟨⟨E, x, rfl⟩, HB1.out⟩
theorem vWriteInt64 (B S : Nat) (x1 : Value) (w : World) (h : Vw0 w B S) : Calls Tryz.prog 61 #[.pointer (some ⟨B, 0, none⟩), x1] w fun e w' => Err e ∧ Below w.heap.size w w' := by
  have HH := Lib.hid (fun t d s => header B S t d s w h)
  clear h
  go_enter Tryz.func61, Tryz.ntmps61
  go_wp2_with fail
  refine (HH.out _ _ _).mono ?_
  rintro e w1 ⟨⟨E, x, rfl⟩, hb1⟩
  have HB1 := Lib.hid hb1
  clear hb1 HH
  go_wp2_with fail
  go_ret
  exact ⟨⟨E, x, rfl⟩, HB1.out⟩
theorem vWriteMinKey (B S : Nat) (w : World) (h : Vw0 w B S) : Calls Tryz.prog 64 #[.pointer (some ⟨B, 0, none⟩)] w fun e w' => Err e ∧ Below w.heap.size w w' := by
  have HH := Lib.hid (fun t d s => header B S t d s w h)
  clear h
  go_enter Tryz.func64, Tryz.ntmps64
  go_wp2_with fail
  refine (HH.out _ _ _).mono ?_
  rintro e w1 ⟨⟨E, x, rfl⟩, hb1⟩
  have HB1 := Lib.hid hb1
  clear hb1 HH
  go_wp2_with fail
  go_ret
  exact ⟨⟨E, x, rfl⟩, HB1.out⟩
theorem vWriteMaxKey (B S : Nat) (w : World) (h : Vw0 w B S) : Calls Tryz.prog 65 #[.pointer (some ⟨B, 0, none⟩)] w fun e w' => Err e ∧ Below w.heap.size w w' := by
  have HH := Lib.hid (fun t d s => header B S t d s w h)
  clear h
  go_enter Tryz.func65, Tryz.ntmps65
  go_wp2_with fail
  refine (HH.out _ _ _).mono ?_
  rintro e w1 ⟨⟨E, x, rfl⟩, hb1⟩
  have HB1 := Lib.hid hb1
  clear hb1 HH
  go_wp2_with fail
  go_ret
  exact ⟨⟨E, x, rfl⟩, HB1.out⟩
theorem vWriteObjectID (B S : Nat) (m : List UInt8) (hm : m.length = 12) (w : World) (h : Vw0 w B S) : Calls Tryz.prog 50 #[.pointer (some ⟨B, 0, none⟩), oid12 m] w fun e w' => Err e ∧ Below w.heap.size w w' := by
  have HH := Lib.hid (fun t d s wx (hb : Below w.heap.size w wx) => header B S t d s wx (h.keep hb))
  clear h
  obtain ⟨b0, b1, b2, b3, b4, b5, b6, b7, b8, b9, b10, b11, hmb⟩ := oid_split hm
  rw [show oid12 m = .agg #[.int .u8 b0.toNat, .int .u8 b1.toNat, .int .u8 b2.toNat, .int .u8 b3.toNat, .int .u8 b4.toNat, .int .u8 b5.toNat, .int .u8 b6.toNat, .int .u8 b7.toNat, .int .u8 b8.toNat, .int .u8 b9.toNat, .int .u8 b10.toNat, .int .u8 b11.toNat] from by rw [hmb]; rfl]
  clear hm hmb
  go_enter Tryz.func50, Tryz.ntmps50
  go_wp2_with fail
  refine (HH.out _ _ _ _ (balloc (Below.refl _ _) (Nat.le_refl _) _)).mono ?_
  rintro e w1 ⟨⟨E, x, rfl⟩, hb1⟩
  have HB1 := Lib.hid (bthenV (balloc (Below.refl _ _) (Nat.le_refl _) _) hb1)
  clear hb1 HH
  go_wp2_with fail
  go_ret
  exact ⟨⟨E, x, rfl⟩, HB1.out⟩
theorem vWriteDBPointer (B S : Nat) (x1 : Value) (m : List UInt8) (hm : m.length = 12) (w : World) (h : Vw0 w B S) : Calls Tryz.prog 56 #[.pointer (some ⟨B, 0, none⟩), x1, oid12 m] w fun e w' => Err e ∧ Below w.heap.size w w' := by
  have HH := Lib.hid (fun t d s wx (hb : Below w.heap.size w wx) => header B S t d s wx (h.keep hb))
  clear h
  obtain ⟨b0, b1, b2, b3, b4, b5, b6, b7, b8, b9, b10, b11, hmb⟩ := oid_split hm
  rw [show oid12 m = .agg #[.int .u8 b0.toNat, .int .u8 b1.toNat, .int .u8 b2.toNat, .int .u8 b3.toNat, .int .u8 b4.toNat, .int .u8 b5.toNat, .int .u8 b6.toNat, .int .u8 b7.toNat, .int .u8 b8.toNat, .int .u8 b9.toNat, .int .u8 b10.toNat, .int .u8 b11.toNat] from by rw [hmb]; rfl]
  clear hm hmb
  go_enter Tryz.func56, Tryz.ntmps56
  go_wp2_with fail
  refine (HH.out _ _ _ _ (balloc (Below.refl _ _) (Nat.le_refl _) _)).mono ?_
  rintro e w1 ⟨⟨E, x, rfl⟩, hb1⟩
  have HB1 := Lib.hid (bthenV (balloc (Below.refl _ _) (Nat.le_refl _) _) hb1)
  clear hb1 HH
  go_wp2_with fail
  go_ret
  exact ⟨⟨E, x, rfl⟩, HB1.out⟩
theorem vWriteDecimal128 (B S : Nat) (x y : Int) (w : World) (h : Vw0 w B S) : Calls Tryz.prog 62 #[.pointer (some ⟨B, 0, none⟩), .agg #[.int .u64 x, .int .u64 y]] w fun e w' => Err e ∧ Below w.heap.size w w' := by
  have HH := Lib.hid (fun t d s wx (hb : Below w.heap.size w wx) => header B S t d s wx (h.keep hb))
  clear h
  skip
  go_enter Tryz.func62, Tryz.ntmps62
  go_wp2_with fail
  refine (HH.out _ _ _ _ (balloc (Below.refl _ _) (Nat.le_refl _) _)).mono ?_
  rintro e w1 ⟨⟨E, x, rfl⟩, hb1⟩
  have HB1 := Lib.hid (bthenV (balloc (Below.refl _ _) (Nat.le_refl _) _) hb1)
  clear hb1 HH
  go_wp2_with fail
  go_ret
  exact ⟨⟨E, x, rfl⟩, HB1.out⟩
theorem validCs (s : ByteArray) (w : World) : Calls Tryz.prog 74 #[.string s] w fun e w' => (∃ v, e = .returned (.bool v)) ∧ w = w' := by
  have H1 := Lib.hid (strIdx s 0 w)
  go_enter Tryz.func74, Tryz.ntmps74
  go_wp2_with fail
  refine H1.out.mono ?_
  rintro e w1 ⟨⟨n, rfl⟩, rfl⟩
  clear H1
  go_wp2_with fail
  go_ret
  exact ⟨⟨_, rfl⟩, rfl⟩
theorem errNewV (s : ByteArray) (w : World) : Calls Tryz.prog 41 #[.string s] w fun e w' => Err e ∧ Below w.heap.size w w' := by
  go_enter Tryz.func41, Tryz.ntmps41
  go_wp2
  go_ret
  exact ⟨⟨_, _, rfl⟩, balloc (Below.refl _ _) (Nat.le_refl _) _⟩
theorem vWriteRegex (B S : Nat) (s1 s2 : ByteArray) (w : World) (h : Vw0 w B S) : Calls Tryz.prog 55 #[.pointer (some ⟨B, 0, none⟩), .string s1, .string s2] w fun e w' => Err e ∧ Below w.heap.size w w' := by
  have HH := Lib.hid (fun t d s => header B S t d s w h)
  clear h
  go_enter Tryz.func55, Tryz.ntmps55
  go_wp2_with fail
  refine (validCs s1 w).mono ?_
  rintro e w1 ⟨⟨v1, rfl⟩, rfl⟩
  cases v1 with
  | false =>
    go_wp2_with fail
    refine (errNewV _ w).mono ?_
    rintro e w1 ⟨⟨E, x, rfl⟩, hb1⟩
    have HB1 := Lib.hid hb1
    clear hb1 HH
    go_wp2_with fail
    go_ret
    exact ⟨⟨E, x, rfl⟩, HB1.out⟩
  | true =>
    go_wp2_with fail
    refine (validCs s2 w).mono ?_
    rintro e w1 ⟨⟨v2, rfl⟩, rfl⟩
    cases v2 with
    | false =>
      go_wp2_with fail
      refine (errNewV _ w).mono ?_
      rintro e w1 ⟨⟨E, x, rfl⟩, hb1⟩
      have HB1 := Lib.hid hb1
      clear hb1 HH
      go_wp2_with fail
      go_ret
      exact ⟨⟨E, x, rfl⟩, HB1.out⟩
    | true =>
      go_wp2_with fail
      refine (HH.out _ _ _).mono ?_
      rintro e w1 ⟨⟨E, x, rfl⟩, hb1⟩
      have HB1 := Lib.hid hb1
      clear hb1 HH
      go_wp2_with fail
      go_ret
      exact ⟨⟨E, x, rfl⟩, HB1.out⟩
theorem newDec (x y : Int) (w : World) : Calls Tryz.prog 63 #[.int .u64 x, .int .u64 y] w fun e w' => e = .returned (.agg #[.int .u64 x, .int .u64 y]) ∧ Below w.heap.size w w' := by
  go_enter Tryz.func63, Tryz.ntmps63
  go_wp2
  exact bodyPost_ret (v := .agg #[.int .u64 x, .int .u64 y]) (by simp [results, Tryz.results63, go_sem]) rfl ⟨rfl, by first | exact Below.refl _ _ | exact balloc (Below.refl _ _) (Nat.le_refl _) _⟩
theorem sc_1 (B S : Nat) (text more : ByteArray) (n bits high : Int) (A0 K' : Option Addr) (xb c0 xk dd : Nat) (w : World) (h : Vw0 w B S) : Calls Tryz.prog 25 #[.pointer (some ⟨B, 0, none⟩), .agg #[.int .i64 1, .string text, .string more, .int .i64 n, .int .u64 bits, .int .u64 high, .slice A0 xb c0, .slice K' xk dd]] w fun e w' => Err e ∧ Below w.heap.size w w' := by
  have HX := Lib.hid (fun x1 wx (hb : Below w.heap.size w wx) => vWriteDouble B S x1 wx (h.keep hb))
  have hfb : ∀ W : World, Sem.run Tryz.prog (callFunc 46 #[.int .u64 bits]) W = .ok (.value (.float .f64 bits.toNat)) W := fun W => by kernel_rfl
  clear h
  go_enter Tryz.func25, Tryz.ntmps25
  go_wp2_with fail
  refine (HX.out _ _ (balloc (Below.refl _ _) (Nat.le_refl _) _)).mono ?_
  rintro e w1 ⟨⟨E, x, rfl⟩, hb1⟩
  have HB1 := Lib.hid (bthenV (balloc (Below.refl _ _) (Nat.le_refl _) _) hb1)
  clear hb1 HX
  go_wp2_with fail
  go_ret
  exact ⟨⟨E, x, rfl⟩, HB1.out⟩
theorem sc_2 (B S : Nat) (text more : ByteArray) (n bits high : Int) (A0 K' : Option Addr) (xb c0 xk dd : Nat) (w : World) (h : Vw0 w B S) : Calls Tryz.prog 25 #[.pointer (some ⟨B, 0, none⟩), .agg #[.int .i64 2, .string text, .string more, .int .i64 n, .int .u64 bits, .int .u64 high, .slice A0 xb c0, .slice K' xk dd]] w fun e w' => Err e ∧ Below w.heap.size w w' := by
  have HX := Lib.hid (fun x1 wx (hb : Below w.heap.size w wx) => vWriteString B S x1 wx (h.keep hb))
  clear h
  go_enter Tryz.func25, Tryz.ntmps25
  go_wp2_with fail
  refine (HX.out _ _ (balloc (Below.refl _ _) (Nat.le_refl _) _)).mono ?_
  rintro e w1 ⟨⟨E, x, rfl⟩, hb1⟩
  have HB1 := Lib.hid (bthenV (balloc (Below.refl _ _) (Nat.le_refl _) _) hb1)
  clear hb1 HX
  go_wp2_with fail
  go_ret
  exact ⟨⟨E, x, rfl⟩, HB1.out⟩
theorem sc_5 (B S : Nat) (text more : ByteArray) (n bits high : Int) (A0 K' : Option Addr) (xb c0 xk dd : Nat) (w : World) (h : Vw0 w B S) : Calls Tryz.prog 25 #[.pointer (some ⟨B, 0, none⟩), .agg #[.int .i64 5, .string text, .string more, .int .i64 n, .int .u64 bits, .int .u64 high, .slice A0 xb c0, .slice K' xk dd]] w fun e w' => Err e ∧ Below w.heap.size w w' := by
  have HX := Lib.hid (fun x1 x2 wx (hb : Below w.heap.size w wx) => vWriteBinaryWithSubtype B S x1 x2 wx (h.keep hb))
  clear h
  go_enter Tryz.func25, Tryz.ntmps25
  go_wp2_with fail
  refine (HX.out _ _ _ (balloc (Below.refl _ _) (Nat.le_refl _) _)).mono ?_
  rintro e w1 ⟨⟨E, x, rfl⟩, hb1⟩
  have HB1 := Lib.hid (bthenV (balloc (Below.refl _ _) (Nat.le_refl _) _) hb1)
  clear hb1 HX
  go_wp2_with fail
  go_ret
  exact ⟨⟨E, x, rfl⟩, HB1.out⟩
theorem sc_6 (B S : Nat) (text more : ByteArray) (n bits high : Int) (A0 K' : Option Addr) (xb c0 xk dd : Nat) (w : World) (h : Vw0 w B S) : Calls Tryz.prog 25 #[.pointer (some ⟨B, 0, none⟩), .agg #[.int .i64 6, .string text, .string more, .int .i64 n, .int .u64 bits, .int .u64 high, .slice A0 xb c0, .slice K' xk dd]] w fun e w' => Err e ∧ Below w.heap.size w w' := by
  have HX := Lib.hid (fun wx (hb : Below w.heap.size w wx) => vWriteUndefined B S wx (h.keep hb))
  clear h
  go_enter Tryz.func25, Tryz.ntmps25
  go_wp2_with fail
  refine (HX.out _ (balloc (Below.refl _ _) (Nat.le_refl _) _)).mono ?_
  rintro e w1 ⟨⟨E, x, rfl⟩, hb1⟩
  have HB1 := Lib.hid (bthenV (balloc (Below.refl _ _) (Nat.le_refl _) _) hb1)
  clear hb1 HX
  go_wp2_with fail
  go_ret
  exact ⟨⟨E, x, rfl⟩, HB1.out⟩
theorem sc_8 (B S : Nat) (text more : ByteArray) (n bits high : Int) (A0 K' : Option Addr) (xb c0 xk dd : Nat) (w : World) (h : Vw0 w B S) : Calls Tryz.prog 25 #[.pointer (some ⟨B, 0, none⟩), .agg #[.int .i64 8, .string text, .string more, .int .i64 n, .int .u64 bits, .int .u64 high, .slice A0 xb c0, .slice K' xk dd]] w fun e w' => Err e ∧ Below w.heap.size w w' := by
  have HX := Lib.hid (fun x1 wx (hb : Below w.heap.size w wx) => vWriteBoolean B S x1 wx (h.keep hb))
  clear h
  go_enter Tryz.func25, Tryz.ntmps25
  go_wp2_with fail
  refine (HX.out _ _ (balloc (Below.refl _ _) (Nat.le_refl _) _)).mono ?_
  rintro e w1 ⟨⟨E, x, rfl⟩, hb1⟩
  have HB1 := Lib.hid (bthenV (balloc (Below.refl _ _) (Nat.le_refl _) _) hb1)
  clear hb1 HX
  go_wp2_with fail
  go_ret
  exact ⟨⟨E, x, rfl⟩, HB1.out⟩
theorem sc_9 (B S : Nat) (text more : ByteArray) (n bits high : Int) (A0 K' : Option Addr) (xb c0 xk dd : Nat) (w : World) (h : Vw0 w B S) : Calls Tryz.prog 25 #[.pointer (some ⟨B, 0, none⟩), .agg #[.int .i64 9, .string text, .string more, .int .i64 n, .int .u64 bits, .int .u64 high, .slice A0 xb c0, .slice K' xk dd]] w fun e w' => Err e ∧ Below w.heap.size w w' := by
  have HX := Lib.hid (fun x1 wx (hb : Below w.heap.size w wx) => vWriteDateTime B S x1 wx (h.keep hb))
  clear h
  go_enter Tryz.func25, Tryz.ntmps25
  go_wp2_with fail
  refine (HX.out _ _ (balloc (Below.refl _ _) (Nat.le_refl _) _)).mono ?_
  rintro e w1 ⟨⟨E, x, rfl⟩, hb1⟩
  have HB1 := Lib.hid (bthenV (balloc (Below.refl _ _) (Nat.le_refl _) _) hb1)
  clear hb1 HX
  go_wp2_with fail
  go_ret
  exact ⟨⟨E, x, rfl⟩, HB1.out⟩
theorem sc_10 (B S : Nat) (text more : ByteArray) (n bits high : Int) (A0 K' : Option Addr) (xb c0 xk dd : Nat) (w : World) (h : Vw0 w B S) : Calls Tryz.prog 25 #[.pointer (some ⟨B, 0, none⟩), .agg #[.int .i64 10, .string text, .string more, .int .i64 n, .int .u64 bits, .int .u64 high, .slice A0 xb c0, .slice K' xk dd]] w fun e w' => Err e ∧ Below w.heap.size w w' := by
  have HX := Lib.hid (fun wx (hb : Below w.heap.size w wx) => vWriteNull B S wx (h.keep hb))
  clear h
  go_enter Tryz.func25, Tryz.ntmps25
  go_wp2_with fail
  refine (HX.out _ (balloc (Below.refl _ _) (Nat.le_refl _) _)).mono ?_
  rintro e w1 ⟨⟨E, x, rfl⟩, hb1⟩
  have HB1 := Lib.hid (bthenV (balloc (Below.refl _ _) (Nat.le_refl _) _) hb1)
  clear hb1 HX
  go_wp2_with fail
  go_ret
  exact ⟨⟨E, x, rfl⟩, HB1.out⟩
theorem sc_13 (B S : Nat) (text more : ByteArray) (n bits high : Int) (A0 K' : Option Addr) (xb c0 xk dd : Nat) (w : World) (h : Vw0 w B S) : Calls Tryz.prog 25 #[.pointer (some ⟨B, 0, none⟩), .agg #[.int .i64 13, .string text, .string more, .int .i64 n, .int .u64 bits, .int .u64 high, .slice A0 xb c0, .slice K' xk dd]] w fun e w' => Err e ∧ Below w.heap.size w w' := by
  have HX := Lib.hid (fun x1 wx (hb : Below w.heap.size w wx) => vWriteJavascript B S x1 wx (h.keep hb))
  clear h
  go_enter Tryz.func25, Tryz.ntmps25
  go_wp2_with fail
  refine (HX.out _ _ (balloc (Below.refl _ _) (Nat.le_refl _) _)).mono ?_
  rintro e w1 ⟨⟨E, x, rfl⟩, hb1⟩
  have HB1 := Lib.hid (bthenV (balloc (Below.refl _ _) (Nat.le_refl _) _) hb1)
  clear hb1 HX
  go_wp2_with fail
  go_ret
  exact ⟨⟨E, x, rfl⟩, HB1.out⟩
theorem sc_14 (B S : Nat) (text more : ByteArray) (n bits high : Int) (A0 K' : Option Addr) (xb c0 xk dd : Nat) (w : World) (h : Vw0 w B S) : Calls Tryz.prog 25 #[.pointer (some ⟨B, 0, none⟩), .agg #[.int .i64 14, .string text, .string more, .int .i64 n, .int .u64 bits, .int .u64 high, .slice A0 xb c0, .slice K' xk dd]] w fun e w' => Err e ∧ Below w.heap.size w w' := by
  have HX := Lib.hid (fun x1 wx (hb : Below w.heap.size w wx) => vWriteSymbol B S x1 wx (h.keep hb))
  clear h
  go_enter Tryz.func25, Tryz.ntmps25
  go_wp2_with fail
  refine (HX.out _ _ (balloc (Below.refl _ _) (Nat.le_refl _) _)).mono ?_
  rintro e w1 ⟨⟨E, x, rfl⟩, hb1⟩
  have HB1 := Lib.hid (bthenV (balloc (Below.refl _ _) (Nat.le_refl _) _) hb1)
  clear hb1 HX
  go_wp2_with fail
  go_ret
  exact ⟨⟨E, x, rfl⟩, HB1.out⟩
theorem sc_16 (B S : Nat) (text more : ByteArray) (n bits high : Int) (A0 K' : Option Addr) (xb c0 xk dd : Nat) (w : World) (h : Vw0 w B S) : Calls Tryz.prog 25 #[.pointer (some ⟨B, 0, none⟩), .agg #[.int .i64 16, .string text, .string more, .int .i64 n, .int .u64 bits, .int .u64 high, .slice A0 xb c0, .slice K' xk dd]] w fun e w' => Err e ∧ Below w.heap.size w w' := by
  have HX := Lib.hid (fun x1 wx (hb : Below w.heap.size w wx) => vWriteInt32 B S x1 wx (h.keep hb))
  clear h
  go_enter Tryz.func25, Tryz.ntmps25
  go_wp2_with fail
  refine (HX.out _ _ (balloc (Below.refl _ _) (Nat.le_refl _) _)).mono ?_
  rintro e w1 ⟨⟨E, x, rfl⟩, hb1⟩
  have HB1 := Lib.hid (bthenV (balloc (Below.refl _ _) (Nat.le_refl _) _) hb1)
  clear hb1 HX
  go_wp2_with fail
  go_ret
  exact ⟨⟨E, x, rfl⟩, HB1.out⟩
theorem sc_17 (B S : Nat) (text more : ByteArray) (n bits high : Int) (A0 K' : Option Addr) (xb c0 xk dd : Nat) (w : World) (h : Vw0 w B S) : Calls Tryz.prog 25 #[.pointer (some ⟨B, 0, none⟩), .agg #[.int .i64 17, .string text, .string more, .int .i64 n, .int .u64 bits, .int .u64 high, .slice A0 xb c0, .slice K' xk dd]] w fun e w' => Err e ∧ Below w.heap.size w w' := by
  have HX := Lib.hid (fun x1 x2 wx (hb : Below w.heap.size w wx) => vWriteTimestamp B S x1 x2 wx (h.keep hb))
  clear h
  go_enter Tryz.func25, Tryz.ntmps25
  go_wp2_with fail
  refine (HX.out _ _ _ (balloc (Below.refl _ _) (Nat.le_refl _) _)).mono ?_
  rintro e w1 ⟨⟨E, x, rfl⟩, hb1⟩
  have HB1 := Lib.hid (bthenV (balloc (Below.refl _ _) (Nat.le_refl _) _) hb1)
  clear hb1 HX
  go_wp2_with fail
  go_ret
  exact ⟨⟨E, x, rfl⟩, HB1.out⟩
theorem sc_18 (B S : Nat) (text more : ByteArray) (n bits high : Int) (A0 K' : Option Addr) (xb c0 xk dd : Nat) (w : World) (h : Vw0 w B S) : Calls Tryz.prog 25 #[.pointer (some ⟨B, 0, none⟩), .agg #[.int .i64 18, .string text, .string more, .int .i64 n, .int .u64 bits, .int .u64 high, .slice A0 xb c0, .slice K' xk dd]] w fun e w' => Err e ∧ Below w.heap.size w w' := by
  have HX := Lib.hid (fun x1 wx (hb : Below w.heap.size w wx) => vWriteInt64 B S x1 wx (h.keep hb))
  clear h
  go_enter Tryz.func25, Tryz.ntmps25
  go_wp2_with fail
  refine (HX.out _ _ (balloc (Below.refl _ _) (Nat.le_refl _) _)).mono ?_
  rintro e w1 ⟨⟨E, x, rfl⟩, hb1⟩
  have HB1 := Lib.hid (bthenV (balloc (Below.refl _ _) (Nat.le_refl _) _) hb1)
  clear hb1 HX
  go_wp2_with fail
  go_ret
  exact ⟨⟨E, x, rfl⟩, HB1.out⟩
theorem sc_255 (B S : Nat) (text more : ByteArray) (n bits high : Int) (A0 K' : Option Addr) (xb c0 xk dd : Nat) (w : World) (h : Vw0 w B S) : Calls Tryz.prog 25 #[.pointer (some ⟨B, 0, none⟩), .agg #[.int .i64 255, .string text, .string more, .int .i64 n, .int .u64 bits, .int .u64 high, .slice A0 xb c0, .slice K' xk dd]] w fun e w' => Err e ∧ Below w.heap.size w w' := by
  have HX := Lib.hid (fun wx (hb : Below w.heap.size w wx) => vWriteMinKey B S wx (h.keep hb))
  clear h
  go_enter Tryz.func25, Tryz.ntmps25
  go_wp2_with fail
  refine (HX.out _ (balloc (Below.refl _ _) (Nat.le_refl _) _)).mono ?_
  rintro e w1 ⟨⟨E, x, rfl⟩, hb1⟩
  have HB1 := Lib.hid (bthenV (balloc (Below.refl _ _) (Nat.le_refl _) _) hb1)
  clear hb1 HX
  go_wp2_with fail
  go_ret
  exact ⟨⟨E, x, rfl⟩, HB1.out⟩
theorem sc_127 (B S : Nat) (text more : ByteArray) (n bits high : Int) (A0 K' : Option Addr) (xb c0 xk dd : Nat) (w : World) (h : Vw0 w B S) : Calls Tryz.prog 25 #[.pointer (some ⟨B, 0, none⟩), .agg #[.int .i64 127, .string text, .string more, .int .i64 n, .int .u64 bits, .int .u64 high, .slice A0 xb c0, .slice K' xk dd]] w fun e w' => Err e ∧ Below w.heap.size w w' := by
  have HX := Lib.hid (fun wx (hb : Below w.heap.size w wx) => vWriteMaxKey B S wx (h.keep hb))
  clear h
  go_enter Tryz.func25, Tryz.ntmps25
  go_wp2_with fail
  refine (HX.out _ (balloc (Below.refl _ _) (Nat.le_refl _) _)).mono ?_
  rintro e w1 ⟨⟨E, x, rfl⟩, hb1⟩
  have HB1 := Lib.hid (bthenV (balloc (Below.refl _ _) (Nat.le_refl _) _) hb1)
  clear hb1 HX
  go_wp2_with fail
  go_ret
  exact ⟨⟨E, x, rfl⟩, HB1.out⟩
theorem sc_11 (B S : Nat) (text more : ByteArray) (n bits high : Int) (A0 K' : Option Addr) (xb c0 xk dd : Nat) (w : World) (h : Vw0 w B S) : Calls Tryz.prog 25 #[.pointer (some ⟨B, 0, none⟩), .agg #[.int .i64 11, .string text, .string more, .int .i64 n, .int .u64 bits, .int .u64 high, .slice A0 xb c0, .slice K' xk dd]] w fun e w' => Err e ∧ Below w.heap.size w w' := by
  have HX := Lib.hid (fun x1 x2 wx (hb : Below w.heap.size w wx) => vWriteRegex B S x1 x2 wx (h.keep hb))
  clear h
  go_enter Tryz.func25, Tryz.ntmps25
  go_wp2_with fail
  refine (HX.out _ _ _ (balloc (Below.refl _ _) (Nat.le_refl _) _)).mono ?_
  rintro e w1 ⟨⟨E, x, rfl⟩, hb1⟩
  have HB1 := Lib.hid (bthenV (balloc (Below.refl _ _) (Nat.le_refl _) _) hb1)
  clear hb1 HX
  go_wp2_with fail
  go_ret
  exact ⟨⟨E, x, rfl⟩, HB1.out⟩
theorem sc_7 (B S : Nat) (text more : ByteArray) (n bits high : Int) (A0 K' : Option Addr) (xb c0 xk dd : Nat) (w : World) (h : Vw0 w B S) (m : List UInt8) (hsm : SB w A0 c0 m) (hm : m.length = 12) (hxb : xb = 12) : Calls Tryz.prog 25 #[.pointer (some ⟨B, 0, none⟩), .agg #[.int .i64 7, .string text, .string more, .int .i64 n, .int .u64 bits, .int .u64 high, .slice A0 xb c0, .slice K' xk dd]] w fun e w' => Err e ∧ Below w.heap.size w w' := by
  have HX := Lib.hid (fun wx (hb : Below w.heap.size w wx) => vWriteObjectID B S m hm wx (h.keep hb))
  have HID := Lib.hid (fun wx (hb : Below w.heap.size w wx) => implId A0 c0 m wx (hsm.keep hb) hm)
  rw [hm] at HID
  subst hxb
  clear hsm hm
  clear h
  go_enter Tryz.func25, Tryz.ntmps25
  go_wp2_with fail
  refine (HID.out _ (balloc (Below.refl _ _) (Nat.le_refl _) _)).mono ?_
  rintro e w2 ⟨rfl, hb2⟩
  have HB2 := Lib.hid (bthenV (balloc (Below.refl _ _) (Nat.le_refl _) _) hb2)
  clear hb2 HID
  go_wp2_with fail
  refine (HX.out _ HB2.out).mono ?_
  rintro e w1 ⟨⟨E, x, rfl⟩, hb1⟩
  have HB1 := Lib.hid (bthenV HB2.out hb1 HB2.out.size)
  clear hb1 HX
  go_wp2_with fail
  go_ret
  exact ⟨⟨E, x, rfl⟩, HB1.out⟩
theorem sc_19 (B S : Nat) (text more : ByteArray) (n bits high : Int) (A0 K' : Option Addr) (xb c0 xk dd : Nat) (w : World) (h : Vw0 w B S) : Calls Tryz.prog 25 #[.pointer (some ⟨B, 0, none⟩), .agg #[.int .i64 19, .string text, .string more, .int .i64 n, .int .u64 bits, .int .u64 high, .slice A0 xb c0, .slice K' xk dd]] w fun e w' => Err e ∧ Below w.heap.size w w' := by
  have HX := Lib.hid (fun wx (hb : Below w.heap.size w wx) => vWriteDecimal128 B S high bits wx (h.keep hb))
  clear h
  go_enter Tryz.func25, Tryz.ntmps25
  go_wp2_with fail
  refine (newDec high bits _).mono ?_
  rintro e w2 ⟨rfl, hb2⟩
  have HB2 := Lib.hid (bthenV (balloc (Below.refl _ _) (Nat.le_refl _) _) hb2)
  clear hb2
  go_wp2_with fail
  refine (HX.out _ HB2.out).mono ?_
  rintro e w1 ⟨⟨E, x, rfl⟩, hb1⟩
  have HB1 := Lib.hid (bthenV HB2.out hb1 HB2.out.size)
  clear hb1 HX
  go_wp2_with fail
  go_ret
  exact ⟨⟨E, x, rfl⟩, HB1.out⟩
theorem sc_12 (B S : Nat) (text more : ByteArray) (n bits high : Int) (A0 K' : Option Addr) (xb c0 xk dd : Nat) (w : World) (h : Vw0 w B S) (m : List UInt8) (hsm : SB w A0 c0 m) (hm : m.length = 12) (hxb : xb = 12) : Calls Tryz.prog 25 #[.pointer (some ⟨B, 0, none⟩), .agg #[.int .i64 12, .string text, .string more, .int .i64 n, .int .u64 bits, .int .u64 high, .slice A0 xb c0, .slice K' xk dd]] w fun e w' => Err e ∧ Below w.heap.size w w' := by
  have HX := Lib.hid (fun x1 wx (hb : Below w.heap.size w wx) => vWriteDBPointer B S x1 m hm wx (h.keep hb))
  have HID := Lib.hid (fun wx (hb : Below w.heap.size w wx) => implId A0 c0 m wx (hsm.keep hb) hm)
  rw [hm] at HID
  subst hxb
  clear hsm hm
  clear h
  go_enter Tryz.func25, Tryz.ntmps25
  go_wp2_with fail
  refine start_ (n := 8) (S := fun w' => w'.cell? ⟨w.heap.size, 1, none⟩ = some (.string text) ∧ w'.cell? ⟨w.heap.size, 6, none⟩ = some (.slice A0 12 c0)) (ds := []) #[false, false, false, false, false, false, false, false] (by kernel_rfl) rfl rfl ⟨(by go_simp), (by go_simp)⟩ (fun hHeld => ?_)
  refine with_tabW R25.tab21 R25.bits21 (fun HT_ HW_ => ?_)
  refine pure_ (i := 0) (N := some 67) (v := ?_) (a' := ?_) #[true, false, false, false, false, false, false, false] rfl rfl (any_of HT_.out (by kernel_rfl)) (fun _ _ _ h => h) (Or.inl ⟨by rfl, ?_⟩) ?_ ?_
  rotate_left
  · intro w'
    go_simp
    with_reducible rfl
  rotate_left
  · simp only [Act.put, List.setIfInBounds_toArray, List.set_cons_zero, List.set_cons_succ, i64_w, i32_w]
    rfl
  refine pure_ (i := 1) (N := some 68) (v := ?_) (a' := ?_) #[true, true, false, false, false, false, false, false] rfl rfl (any_of HT_.out (by kernel_rfl)) (fun _ _ _ h => h) (Or.inl ⟨by rfl, ?_⟩) ?_ ?_
  rotate_left
  · intro w'
    go_simp
    with_reducible rfl
  rotate_left
  · simp only [Act.put, List.setIfInBounds_toArray, List.set_cons_zero, List.set_cons_succ, i64_w, i32_w]
    rfl
  refine pure_ (i := 3) (N := some 70) (v := ?_) (a' := ?_) #[true, true, false, true, false, false, false, false] rfl rfl (any_of HT_.out (by kernel_rfl)) (fun _ _ _ h => h) (Or.inl ⟨by rfl, ?_⟩) ?_ ?_
  rotate_left
  · intro w'
    go_simp
    with_reducible rfl
  rotate_left
  · simp only [Act.put, List.setIfInBounds_toArray, List.set_cons_zero, List.set_cons_succ, i64_w, i32_w]
    rfl
  refine take_ (i := 2) (N := some 69) (v := ?_) (a' := ?_) #[true, true, true, true, false, false, false, false] rfl rfl (take_ofW HT_.out HW_.out (by kernel_rfl)) (fun _ _ _ h => h) (Or.inl ⟨by rfl, ?_⟩) hHeld ?_ ?_
  rotate_left
  · rintro w' ⟨s0, s1⟩
    go_simp
    with_reducible rfl
  rotate_left
  · simp only [Act.put, List.setIfInBounds_toArray, List.set_cons_zero, List.set_cons_succ, i64_w, i32_w]
    rfl
  refine take_ (i := 4) (N := some 71) (v := ?_) (a' := ?_) #[true, true, true, true, true, false, false, false] rfl rfl (take_ofW HT_.out HW_.out (by kernel_rfl)) (fun _ _ _ h => h) (Or.inl ⟨by rfl, ?_⟩) hHeld ?_ ?_
  rotate_left
  · rintro w' ⟨s0, s1⟩
    go_simp
    with_reducible rfl
  rotate_left
  · simp only [Act.put, List.setIfInBounds_toArray, List.set_cons_zero, List.set_cons_succ, i64_w, i32_w]
    rfl
  refine one_ (i := 5) (N := some 72) #[true, true, true, true, true, true, false, false] rfl rfl (one_of HT_.out (by kernel_rfl)) (by decide) (fun K hK => ?_)
  refine goes_ Tryz.func51 (by kernel_rfl) rfl #[.slice A0 12 c0] (by rfl) rfl rfl (by simp only [List.map_toArray, List.map_cons, List.map_nil]; rfl) ?_
  with_reducible refine (HID.out _ (bdrew (balloc (Below.refl _ _) (Nat.le_refl _) _))).mono ?_
  rintro e w2 ⟨rfl, hb2⟩
  refine ⟨_, rfl, ?_⟩
  have HB2 := Lib.hid (bthenV (bdrew (balloc (Below.refl _ _) (Nat.le_refl _) _)) hb2)
  refine hK.out _ _ ⟨((hb2.cell (World.block_lt_of_cell? _ _ hHeld.1)).trans hHeld.1), ((hb2.cell (World.block_lt_of_cell? _ _ hHeld.2)).trans hHeld.2)⟩ (fun hHeld => ?_)
  clear hK K
  refine norm_ (a' := ?_) ?_ ?_
  rotate_left
  · show Act.put _ (some 72) _ = _
    simp only [Act.put, List.setIfInBounds_toArray, List.set_cons_zero, List.set_cons_succ, i64_w, i32_w]
    rfl
  refine one_ (i := 6) (N := some 73) #[true, true, true, true, true, true, true, false] rfl rfl (one_of HT_.out (by kernel_rfl)) (by decide) (fun K hK => ?_)
  refine goes_ Tryz.func56 (by kernel_rfl) rfl #[.pointer (some ⟨B, 0, none⟩), .string text, oid12 m] (by rfl) rfl rfl (by simp only [List.map_toArray, List.map_cons, List.map_nil]; rfl) ?_
  with_reducible refine (HX.out _ _ HB2.out).mono ?_
  rintro e w3 ⟨⟨E, x, rfl⟩, hb3⟩
  refine ⟨_, rfl, ?_⟩
  refine hK.out _ _ ⟨((hb3.cell (World.block_lt_of_cell? _ _ hHeld.1)).trans hHeld.1), ((hb3.cell (World.block_lt_of_cell? _ _ hHeld.2)).trans hHeld.2)⟩ (fun hHeld => ?_)
  clear hK K
  refine norm_ (a' := ?_) ?_ ?_
  rotate_left
  · show Act.put _ (some 73) _ = _
    simp only [Act.put, List.setIfInBounds_toArray, List.set_cons_zero, List.set_cons_succ, i64_w, i32_w]
    rfl
  refine pure_ (i := 7) (N := some 4) (v := ?_) (a' := ?_) #[true, true, true, true, true, true, true, true] rfl rfl (any_of HT_.out (by kernel_rfl)) (fun _ _ _ h => h) (Or.inl ⟨by rfl, ?_⟩) ?_ ?_
  rotate_left
  · intro w'
    go_simp
    with_reducible rfl
  rotate_left
  · simp only [Act.put, List.setIfInBounds_toArray, List.set_cons_zero, List.set_cons_succ, i64_w, i32_w]
    rfl
  refine done_ (done_of HT_.out (by kernel_rfl)) ?_
  have HB3 := Lib.hid (bthenV HB2.out hb3 HB2.out.size)
  clear hb3 hHeld
  go_wp2_with fail
  go_ret
  exact ⟨⟨E, x, rfl⟩, HB3.out⟩
end Vw
end Go.Proofs.YtdgncemcfhocmaaGreatDoor.X
