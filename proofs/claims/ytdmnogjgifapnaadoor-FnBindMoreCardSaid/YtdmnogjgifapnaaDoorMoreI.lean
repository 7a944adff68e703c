/- RawRead and RawValidate. -/
import Derived.Test.YtdmnogjgifapnaaDoorNewBuf
import Derived.Test.YtdmnogjgifapnaaDoorDocVal
import Derived.Test.YtdmnogjgifapnaaDoorOwn
set_option linter.unusedVariables false
set_option linter.unusedSimpArgs false
set_option maxRecDepth 100000
namespace Go.Proofs.YtdmnogjgifapnaaDoor.X
open Go.RowKit
theorem rawVal1 (A : Option Addr) (n c : Nat) (w : World) (h : Calls Tryd.prog 62 #[.slice A n c] w fun e w' => e = .returned .nilIface ∧ Below w.heap.size w w') :
    Calls Tryd.prog 46 #[.slice A n c] w fun e w' => e = .returned .nilIface ∧ Below w.heap.size w w' := by
  have H := Lib.hid h
  clear h
  go_enter Tryd.func46, Tryd.ntmps46
  go_wp2_with fail
  refine H.out.mono ?_
  rintro e w1 ⟨rfl, hb⟩
  go_wp2_with fail
  go_ret
  exact ⟨rfl, hb⟩
theorem codeNil (w : World) : Calls Tryd.prog 39 #[.nilIface] w fun e w' => e = .returned (.int .i64 0) ∧ Below w.heap.size w w' := by
  go_enter Tryd.func39, Tryd.ntmps39
  go_wp2_with fail
  go_ret
  exact ⟨rfl, Below.refl _ _⟩
theorem rawVal2 (A : Option Addr) (n c : Nat) (w : World) (h : Calls Tryd.prog 62 #[.slice A n c] w fun e w' => e = .returned .nilIface ∧ Below w.heap.size w w') :
    Calls Tryd.prog 23 #[.slice A n c] w fun e w' => e = .returned (.int .i64 0) ∧ Below w.heap.size w w' := by
  have H := Lib.hid (rawVal1 A n c w h)
  clear h
  go_enter Tryd.func23, Tryd.ntmps23
  go_wp2_with fail
  refine H.out.mono ?_
  rintro e w1 ⟨rfl, hb⟩
  go_wp2_with fail
  refine (codeNil w1).mono ?_
  rintro e w2 ⟨rfl, hb2⟩
  go_wp2_with fail
  go_ret
  exact ⟨rfl, bstep hb hb.size hb2⟩
theorem docRead1 (w0 W : World) (B : Nat) (b0 b1 b2 b3 : UInt8) (rest more : List UInt8) (n : Int) (hB : w0.heap.size ≤ B) (hb : Below w0.heap.size w0 W) (hF : Few w0 W B (b0 :: b1 :: b2 :: b3 :: (rest ++ 0 :: more)) n)
    (hlen : leI [b0, b1, b2, b3] = (rest.length : Int) + 5) (hmax : rest.length ≤ 2000000000) (hn : 1 ≤ n) (hn2 : n ≤ 100) :
    Calls Tryd.prog 61 #[.iface 87 (.pointer (some ⟨B, 0, none⟩))] W fun e w' => ∃ A c, e = .returned (.tuple #[.slice A (rest.length + 5) c, .nilIface]) ∧ SB w' A c (b0 :: b1 :: b2 :: b3 :: (rest ++ [0])) ∧ Below w0.heap.size w0 w' := by
  have H := Lib.hid (newBuffer w0 W B b0 b1 b2 b3 rest more n hB hb hF hlen hmax hn hn2)
  clear hb hF hlen
  go_enter Tryd.func61, Tryd.ntmps61
  go_wp2_with fail
  refine H.out.mono ?_
  rintro e w1 ⟨A, c, rfl, hs, hb⟩
  go_wp2_with fail
  go_ret2
  exact ⟨_, _, rfl, hs, hb⟩
theorem docRead2 (w0 W : World) (B : Nat) (b0 b1 b2 b3 : UInt8) (rest more : List UInt8) (n : Int) (hB : w0.heap.size ≤ B) (hb : Below w0.heap.size w0 W) (hF : Few w0 W B (b0 :: b1 :: b2 :: b3 :: (rest ++ 0 :: more)) n)
    (hlen : leI [b0, b1, b2, b3] = (rest.length : Int) + 5) (hmax : rest.length ≤ 2000000000) (hn : 1 ≤ n) (hn2 : n ≤ 100) :
    Calls Tryd.prog 45 #[.iface 87 (.pointer (some ⟨B, 0, none⟩))] W fun e w' => ∃ A c, e = .returned (.tuple #[.slice A (rest.length + 5) c, .nilIface]) ∧ SB w' A c (b0 :: b1 :: b2 :: b3 :: (rest ++ [0])) ∧ Below w0.heap.size w0 w' := by
  have H := Lib.hid (docRead1 w0 W B b0 b1 b2 b3 rest more n hB hb hF hlen hmax hn hn2)
  clear hb hF hlen
  go_enter Tryd.func45, Tryd.ntmps45
  go_wp2_with fail
  refine H.out.mono ?_
  rintro e w1 ⟨A, c, rfl, hs, hb⟩
  go_wp2_with fail
  go_ret2
  exact ⟨_, _, rfl, hs, hb⟩
theorem rawRead (W : World) (A : Option Addr) (c : Nat) (b0 b1 b2 b3 : UInt8) (rest more : List UInt8) (n : Int) (m : Nat) (hm : m = (b0 :: b1 :: b2 :: b3 :: (rest ++ 0 :: more)).length) (hs : SB W A c (b0 :: b1 :: b2 :: b3 :: (rest ++ 0 :: more)))
    (hlen : leI [b0, b1, b2, b3] = (rest.length : Int) + 5) (hmax : rest.length ≤ 2000000000) (hn : 1 ≤ n) (hn2 : n ≤ 100) :
    Calls Tryd.prog 22 #[.slice A m c, .int .i64 n] W fun e w' => ∃ A2 c2, e = .returned (.tuple #[.slice A2 (rest.length + 5) c2, .int .i64 0]) ∧ SB w' A2 c2 (b0 :: b1 :: b2 :: b3 :: (rest ++ [0])) ∧ Below W.heap.size W w' := by
  have HV := Lib.hid (fun (wx : World) (hx : wx = W.alloc (.cells #[.slice A m c, .int .i64 n] 89)) => docRead2 W wx W.heap.size b0 b1 b2 b3 rest more n (Nat.le_refl _) (by rw [hx]; exact balloc (Below.refl _ _) (Nat.le_refl _) _) ⟨A, c, hs, by rw [hx, hm]; exact heap_alloc_new W _⟩ hlen hmax hn hn2)
  have hl5 : (b0 :: b1 :: b2 :: b3 :: (rest ++ [0])).length = rest.length + 5 := by simp
  have HO := Lib.hid (fun (w : World) (A2 : Option Addr) (c2 : Nat) (h : SB w A2 c2 (b0 :: b1 :: b2 :: b3 :: (rest ++ [0]))) => implOwn A2 c2 _ w h (by rw [hl5]; omega))
  rw [hl5] at HO
  have HL5 := Lib.hid hl5
  clear hs hlen hm hl5
  go_enter Tryd.func22, Tryd.ntmps22
  go_wp2_with fail
  refine (HV.out _ rfl).mono ?_
  rintro e w1 ⟨A2, c2, rfl, hs1, hb1⟩
  have HO1 := Lib.hid (HO.out w1 A2 c2 hs1)
  have HB1 := Lib.hid hb1
  clear hs1 hb1 HV HO
  go_wp2_with fail
  refine HO1.out.mono ?_
  rintro e w2 ⟨v2, rfl, ho, hb2⟩
  obtain ⟨A3, c3, rfl, hs3, -⟩ := ho.sb
  have HS3 := Lib.hid hs3
  have HB2 := Lib.hid (bstep HB1.out HB1.out.size hb2)
  clear hs3 hb2 ho HO1
  go_wp2_with fail
  refine (codeNil w2).mono ?_
  rintro e w3 ⟨rfl, hb3⟩
  go_wp2_with fail
  go_ret2
  exact ⟨A3, c3, rfl, HS3.out.keep hb3, bstep HB2.out HB2.out.size hb3⟩
end Go.Proofs.YtdmnogjgifapnaaDoor.X
