/- impl.code of a new error, and impl.ValidateArray for all bytes. -/
import Derived.Test.YtjbeaofnnodlcaaGreatDoorChkA
import Derived.Test.YtjbeaofnnodlcaaGreatDoorIs
set_option linter.unusedVariables false
set_option linter.unusedSimpArgs false
set_option maxRecDepth 100000
namespace Go.Proofs.YtjbeaofnnodlcaaGreatDoor.X
open Go.RowKit Go.Proofs.YtjbeaofnnodlcaaGreatDoorW.PrintLast
namespace Ck
open Sp Al Av Aw
/-- A package's variable holds an error of its own. -/
def SentAt (w : World) (g : Nat) : Prop := ∃ a : Addr, w.cell? ⟨g, 0, none⟩ = some (.iface 183 (.pointer (some a))) ∧ ∃ c t, w.heap[a.block]? = some (.cells c t (0, 0))
theorem SentAt.keep {w w1 : World} {g : Nat} (h : SentAt w g) (hb : Below w.heap.size w w1) : SentAt w1 g := by
  obtain ⟨a, h1, c, t, h2⟩ := h
  exact ⟨a, (hb.cell (World.block_lt_of_cell? _ _ h1)).trans h1, c, t, (hb.block _ (Array.getElem?_eq_some_iff.1 h2).1).trans h2⟩
/-- The errors that codes are told by. -/
structure Sents (w : World) : Prop where
  e1 : SentAt w 0
  e2 : SentAt w 1
  e3 : SentAt w 2
  e4 : SentAt w 3
theorem Sents.keep {w w1 : World} (h : Sents w) (hb : Below w.heap.size w w1) : Sents w1 := ⟨h.e1.keep hb, h.e2.keep hb, h.e3.keep hb, h.e4.keep hb⟩
/-- A sentinel of ahead of the call is not the new error. -/
theorem notNew (w W : World) (g n : Nat) (s : ByteArray) (hS : SentAt w g) (hb : Below w.heap.size w W) (hn : w.heap.size ≤ n) (hh : W.heap[n]? = some (.cells #[.string s] 185 (0, 0))) :
    ∃ a : Addr, W.cell? ⟨g, 0, none⟩ = some (.iface 183 (.pointer (some a))) ∧ Calls Tryz.prog 64 #[.iface 183 (.pointer (some ⟨n, 0, none⟩)), .iface 183 (.pointer (some a))] W fun e w' => e = .returned (.bool false) ∧ W = w' := by
  obtain ⟨a, h1, c, t, h2⟩ := hS
  have hlt := (Array.getElem?_eq_some_iff.1 h2).1
  refine ⟨a, (hb.cell (World.block_lt_of_cell? _ _ h1)).trans h1, is_other ⟨n, 0, none⟩ a _ _ _ _ W ?_ hh ((hb.block _ hlt).trans h2)⟩
  intro e
  rw [← e] at hlt
  have : n < w.heap.size := hlt
  omega
theorem codeNew (w W : World) (n : Nat) (s : ByteArray) (hS : Sents w) (hb : Below w.heap.size w W) (hn : w.heap.size ≤ n) (hh : W.heap[n]? = some (.cells #[.string s] 185 (0, 0))) :
    Calls Tryz.prog 22 #[.iface 183 (.pointer (some ⟨n, 0, none⟩))] W fun e w' => e = .returned (.int .i64 9) ∧ Below W.heap.size W w' := by
  obtain ⟨a1, c1, H1⟩ := notNew w W _ n s hS.e1 hb hn hh
  obtain ⟨a2, c2, H2⟩ := notNew w W _ n s hS.e2 hb hn hh
  obtain ⟨a3, c3, H3⟩ := notNew w W _ n s hS.e3 hb hn hh
  obtain ⟨a4, c4, H4⟩ := notNew w W _ n s hS.e4 hb hn hh
  have h1 := Lib.hid H1
  have h2 := Lib.hid H2
  have h3 := Lib.hid H3
  have h4 := Lib.hid H4
  have t1 : ∀ W : World, (Instr.typeAssert (.iface 183 (.pointer (some ⟨n, 0, none⟩))) 52 119 true).run Tryz.prog W = .ok (.tuple #[.agg #[.slice none 0 0, .slice none 0 0], .bool false]) W := fun W => by rfl
  have t2 : ∀ W : World, (Instr.typeAssert (.iface 183 (.pointer (some ⟨n, 0, none⟩))) 52 120 true).run Tryz.prog W = .ok (.tuple #[.string ⟨#[]⟩, .bool false]) W := fun W => by rfl
  have t3 : ∀ W : World, (Instr.typeAssert (.iface 183 (.pointer (some ⟨n, 0, none⟩))) 52 121 true).run Tryz.prog W = .ok (.tuple #[.string ⟨#[]⟩, .bool false]) W := fun W => by rfl
  have t4 : ∀ W : World, (Instr.typeAssert (.iface 183 (.pointer (some ⟨n, 0, none⟩))) 52 123 true).run Tryz.prog W = .ok (.tuple #[.agg #[.string ⟨#[]⟩, .int .u8 0], .bool false]) W := fun W => by rfl
  clear H1 H2 H3 H4 hS hb hn hh
  go_enter Tryz.func22, Tryz.ntmps22
  go_wp2_with fail
  refine h1.out.mono ?_
  rintro e w1 ⟨rfl, rfl⟩
  go_wp2_with fail
  refine h2.out.mono ?_
  rintro e w1 ⟨rfl, rfl⟩
  go_wp2_with fail
  refine h3.out.mono ?_
  rintro e w1 ⟨rfl, rfl⟩
  go_wp2_with fail
  refine h4.out.mono ?_
  rintro e w1 ⟨rfl, rfl⟩
  go_wp2_with fail
  go_ret
  exact ⟨rfl, Below.refl _ _⟩
/-- What ValidateArray tells. -/
def arrTold (l : List UInt8) : Int := if arrCode l = 9 then 6 else arrCode l
theorem implValidateArray (A : Option Addr) (c : Nat) (l : List UInt8) (w : World) (hs : SB w A c l) (hl : l.length ≤ 20000) (htab : Lib.TabIs Tryz.prog w "internal/strconv.uint64pow10" .u64 Lib.pow10Tab) (hS : Sents w) :
    Calls Tryz.prog 10 #[.slice A l.length c] w fun e w' => e = .returned (.int .i64 (arrTold l)) ∧ Below w.heap.size w w' := by
  have HV := Lib.hid (arrCheck A c l w hs hl htab)
  obtain ⟨n, hn⟩ : ∃ n, n = arrCode l := ⟨_, rfl⟩
  have ht : arrTold l = if n = 9 then 6 else n := by unfold arrTold; rw [hn]
  obtain ⟨p, hp⟩ : ∃ p, p = l.length := ⟨_, rfl⟩
  rw [← hn, ← hp] at HV
  rw [ht, ← hp]
  have HS := Lib.hid hS
  clear hs hl hn hp htab hS ht
  go_enter Tryz.func10, Tryz.ntmps10
  go_wp2_with fail
  refine HV.out.mono ?_
  rintro e w1 ⟨⟨v, rfl, h5⟩, hb⟩
  have HB := Lib.hid hb
  have HC : Hid (Calls Tryz.prog 22 #[v] w1 fun e w' => e = .returned (.int .i64 n) ∧ Below w1.heap.size w1 w') := Lib.hid (by
    rcases h5 with h4 | ⟨rfl, g, hg, rfl, s, hh⟩
    · exact code4 h4 w1
    · exact codeNew w w1 g s HS.out hb hg hh)
  clear h5 hb HV
  go_wp2_with fail
  refine HC.out.mono ?_
  rintro e w2 ⟨rfl, hb2⟩
  have HB2 := Lib.hid (bthen HB.out hb2)
  clear hb2 HC HB
  by_cases h9 : n = 9
  · subst h9
    go_wp2_with fail
    go_ret
    exact ⟨by first | rfl | simp, HB2.out⟩
  · have e9 : (n == 9) = false := by rw [beq_eq_false_iff_ne]; exact h9
    have H9 := Lib.hid h9
    clear h9
    go_wp2_with fail
    go_ret
    exact ⟨by first | rfl | (rw [if_neg H9.out]; rfl), HB2.out⟩
end Ck
end Go.Proofs.YtjbeaofnnodlcaaGreatDoor.X
