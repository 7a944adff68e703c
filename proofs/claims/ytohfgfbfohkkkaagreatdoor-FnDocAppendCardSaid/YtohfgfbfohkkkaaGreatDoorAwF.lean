/- impl.Validate where the length is above the bytes. -/
import Derived.Test.YtohfgfbfohkkkaaGreatDoorLen
import Derived.Test.YtohfgfbfohkkkaaGreatDoorWLast
import Derived.Test.YtohfgfbfohkkkaaGreatDoorWTab
import Derived.Outline
set_option linter.unusedVariables false
set_option linter.unusedSimpArgs false
set_option maxRecDepth 100000
namespace Go.Proofs.YtohfgfbfohkkkaaGreatDoor.X
open Go.RowKit Go.Proofs.YtohfgfbfohkkkaaGreatDoorW.PrintLast
namespace Aw

/-- Neither of two messages. -/
def OtherMsg (s : ByteArray) : Prop := (s.toList == ([100, 111, 99, 117, 109, 101, 110, 116, 32, 111, 114, 32, 97, 114, 114, 97, 121, 32, 108, 101, 110, 103, 116, 104, 32, 105, 115, 32, 105, 110, 118, 97, 108, 105, 100] : List UInt8)) = false ∧ (s.toList == ([100, 111, 99, 117, 109, 101, 110, 116, 32, 111, 114, 32, 97, 114, 114, 97, 121, 32, 101, 110, 100, 32, 105, 115, 32, 109, 105, 115, 115, 105, 110, 103, 32, 110, 117, 108, 108, 32, 98, 121, 116, 101] : List UInt8)) = false
theorem lengthErr (n m : Int) (w : World) :
    Calls Tryz.prog 45 #[.int .i64 n, .int .i64 m] w fun e w' => ∃ s, e = .returned (.iface 88 (.string s)) ∧ OtherMsg s ∧ Below w.heap.size w w' := by
  have HL : Hid (Calls Tryz.prog 104 #[.string ⟨#[100, 111, 99, 117, 109, 101, 110, 116]⟩, .int .i64 n, .int .i64 m] w fun e w' => ∃ s, e = .returned (.iface 88 (.string s)) ∧ OtherMsg s ∧ Below w.heap.size w w') := Lib.hid (by
    go_enter Tryz.func104, Tryz.ntmps104
    go_wp2_with fail
    go_ret
    exact ⟨_, rfl, ⟨by decide +kernel, by decide +kernel⟩, Below.refl _ _⟩)
  go_enter Tryz.func45, Tryz.ntmps45
  go_wp2_with fail
  refine HL.out.mono ?_
  rintro e w1 ⟨s, rfl, hs, hb⟩
  have HS := Lib.hid hs
  clear hs HL
  go_wp2_with fail
  go_ret
  exact ⟨s, rfl, HS.out, hb⟩
theorem code_len (s : ByteArray) (h : OtherMsg s) (w : World) : Calls Tryz.prog 19 #[.iface 88 (.string s)] w fun e w' => e = .returned (.int .i64 4) ∧ Below w.heap.size w w' := by
  have t1 : ∀ W : World, (Instr.typeAssert (.iface 88 (.string s)) 52 87 true).run Tryz.prog W = .ok (.tuple #[.agg #[.slice none 0 0, .slice none 0 0], .bool false]) W := fun W => by rfl
  have t2 : ∀ W : World, (Instr.typeAssert (.iface 88 (.string s)) 52 88 true).run Tryz.prog W = .ok (.tuple #[.string s, .bool true]) W := fun W => by rfl
  obtain ⟨h1, h2⟩ := h
  go_enter Tryz.func19, Tryz.ntmps19
  go_wp2
  go_ret
  exact ⟨rfl, Below.refl _ _⟩
theorem w64m {m : Int} (h0 : 0 ≤ m) (h1 : m ≤ 2147483647) : wrap64 m = m := by unfold wrap64; omega
theorem docLenErr (A : Option Addr) (c n : Nat) (l : List UInt8) (m : Int) (w : World) (hn : n = l.length) (hs : SB w A c l) (hr : readLen l = (m, true)) (hm : (l.length : Int) < m) :
    Calls Tryz.prog 20 #[.slice A n c] w fun e w' => ∃ s, e = .returned (.iface 88 (.string s)) ∧ OtherMsg s ∧ Below w.heap.size w w' := by
  have HL : Hid (Calls Tryz.prog 43 #[.slice A n c] w fun e w' => ∃ A1 n1 c1, e = .returned (.tuple #[.int .i32 m, .slice A1 n1 c1, .bool true]) ∧ Below w.heap.size w w') := Lib.hid (by
    subst hn
    refine (readLength A c l w hs).mono ?_
    rintro e w' ⟨A1, n1, c1, rfl, -, -, hb⟩
    exact ⟨A1, n1, c1, by rw [hr], hb⟩)
  rw [← hn] at hm
  have hwm : wrap64 m = m := w64m (by omega) (by have := readLen_bd l; rw [hr] at this; exact this.2)
  have HE := Lib.hid (fun w => lengthErr m (n : Int) w)
  clear hs hr hn
  go_enter Tryz.func20, Tryz.ntmps20
  go_wp2_with fail
  refine HL.out.mono ?_
  rintro e w1 ⟨A1, n1, c1, rfl, hb⟩
  go_wp2_with fail
  refine (HE.out w1).mono ?_
  rintro e w2 ⟨s, rfl, hs, hb2⟩
  have HS := Lib.hid hs
  have HB := Lib.hid (hb.trans (hb2.mono hb.size))
  clear hs hb2 HE HL
  go_wp2_with fail
  go_ret
  exact ⟨s, rfl, HS.out, HB.out⟩
theorem valLenErr (A : Option Addr) (c n : Nat) (l : List UInt8) (m : Int) (w : World) (hn : n = l.length) (hs : SB w A c l) (hr : readLen l = (m, true)) (hm : (l.length : Int) < m) :
    Calls Tryz.prog 6 #[.slice A n c] w fun e w' => e = .returned (.int .i64 4) ∧ Below w.heap.size w w' := by
  have HV := Lib.hid (docLenErr A c n l m w hn hs hr hm)
  clear hn hs hr hm
  go_enter Tryz.func6, Tryz.ntmps6
  go_wp2_with fail
  refine HV.out.mono ?_
  rintro e w1 ⟨s, rfl, hs, hb⟩
  have HC := Lib.hid (code_len s hs w1)
  clear hs HV
  go_wp2_with fail
  refine HC.out.mono ?_
  rintro e w2 ⟨rfl, hb2⟩
  have HB := Lib.hid (hb.trans (hb2.mono hb.size))
  clear hb2 HC
  go_wp2_with fail
  go_ret
  exact ⟨rfl, HB.out⟩
end Aw
end Go.Proofs.YtohfgfbfohkkkaaGreatDoor.X
