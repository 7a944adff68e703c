/- Array.Validate for all bytes, with its codes. -/
import Derived.Test.YtjbeaofnnodlcaaGreatDoorChk
import Derived.Shelf.Strconv.Itoa4
import Derived.Shelf.Lay
set_option linter.unusedVariables false
set_option linter.unusedSimpArgs false
set_option maxRecDepth 100000
namespace Go.Proofs.YtjbeaofnnodlcaaGreatDoor
open Go.Shelf
shelf_lay LaysM.n173 Nm 173 at Tryz as Tryz.fmtIntLaid
end Go.Proofs.YtjbeaofnnodlcaaGreatDoor
namespace Go.Proofs.YtjbeaofnnodlcaaGreatDoor.X
open Go.RowKit Go.Proofs.YtjbeaofnnodlcaaGreatDoorW.PrintLast
namespace Ck
open Sp Al Av Aw

theorem grow_below {w : World} {B : Nat} (hB : B ≤ w.heap.size) (k : Nat) (os : Array Obj) : Below B w (Go.Sort.grow (w.drewN k) os) := by
  refine ⟨rfl, rfl, rfl, by simp [Go.Sort.grow, World.drewN], fun i hi => ?_⟩
  show (w.heap ++ os)[i]? = w.heap[i]?
  rw [Array.getElem?_append_left (by omega)]
theorem formatInt (n : Int) (h0 : -9223372036854775808 ≤ n) (h1 : n ≤ 9223372036854775807) (w : World) (htab : Lib.TabIs Tryz.prog w "internal/strconv.uint64pow10" .u64 Lib.pow10Tab) :
    Calls Tryz.prog 73 #[.int .i64 n, .int .i64 10] w fun e w' => e = .returned (.string ⟨(Lib.itoa n).toArray⟩) ∧ Below w.heap.size w w' := by
  refine (Any.strconv_FormatInt_10 Tryz.fmtIntLaid n h0 h1 w htab).mono ?_
  rintro e w' ⟨rfl, k, os, rfl⟩
  exact ⟨rfl, grow_below (Nat.le_refl _) k os⟩
theorem tab_keep {w w1 : World} (h : Lib.TabIs Tryz.prog w "internal/strconv.uint64pow10" .u64 Lib.pow10Tab) (hb : Below w.heap.size w w1) : Lib.TabIs Tryz.prog w1 "internal/strconv.uint64pow10" .u64 Lib.pow10Tab := by
  have hg : Tryz.prog.globalNamed "internal/strconv.uint64pow10" = some 7 := by kernel_rfl
  have hc : w.cell? ⟨7, 0, none⟩ = some (.int .u64 (Lib.pow10Tab.getD 0 0)) := Lib.TabIs.cell h hg 0 (by decide)
  have hlt : 7 < w.heap.size := World.block_lt_of_cell? w _ hc
  unfold Lib.TabIs
  rw [World.Since.var (⟨hb.os, hb.tape, hb.output, hb.size, hb.block⟩ : w.Since w.heap.size w1) hg hlt]
  exact h
/-- The table is there, whatever is made beside it. -/
structure TabK (w : World) : Prop where
  out : ∀ wx, Below w.heap.size w wx → Lib.TabIs Tryz.prog wx "internal/strconv.uint64pow10" .u64 Lib.pow10Tab
theorem tabK {w : World} (h : Lib.TabIs Tryz.prog w "internal/strconv.uint64pow10" .u64 Lib.pow10Tab) : TabK w := ⟨fun wx hb => tab_keep h hb⟩
theorem w64one' (i : Nat) (h : i ≤ 1000000) : wrap64 ((i : Int) + 1) = (i : Int) + 1 := by unfold wrap64; omega
/-- The name of the element that begins some bytes. -/
def elName (l : List UInt8) : List UInt8 := (l.drop 1).take ((nmOf (l.drop 1)).1.toNat - 1)
theorem first_split (l : List UInt8) (k : Nat) (h : firstN l = some k) : ∃ t nm v, l.take k = t :: (nm ++ 0 :: v) ∧ plainB nm = true ∧ elName l = nm := by
  match l, h with
  | t :: r, h =>
    cases hn : (nmOf r).2 with
    | false => simp [firstN, hn] at h
    | true =>
      obtain ⟨nm, bl, rfl, hp, e1, e2⟩ := nm_split r hn
      have e3 : (nm ++ 0 :: bl).drop (nm.length + 1) = bl := by rw [← e1]; exact e2
      simp only [firstN, hn, e1, e3, if_true] at h
      cases hv : valIs (t.toNat : Int) bl with
      | false => rw [hv] at h; simp at h
      | true =>
        rw [hv] at h
        simp only [if_true, Option.some.injEq] at h
        refine ⟨t, nm, bl.take (valLen (t.toNat : Int) bl).1.toNat, ?_, hp, ?_⟩
        · rw [← h, show 1 + (nm.length + 1) + (valLen (t.toNat : Int) bl).1.toNat = nm.length + 1 + (valLen (t.toNat : Int) bl).1.toNat + 1 from by omega, List.take_succ_cons]
          congr 1
          rw [List.take_append, List.take_of_length_le (by omega), show nm.length + 1 + (valLen (t.toNat : Int) bl).1.toNat - nm.length = (valLen (t.toNat : Int) bl).1.toNat + 1 from by omega, List.take_succ_cons]
        · unfold elName
          show (nm ++ 0 :: bl).take ((nmOf (nm ++ 0 :: bl)).1.toNat - 1) = nm
          rw [e1]
          simp
theorem elKey (A : Option Addr) (c : Nat) (t : UInt8) (nm v : List UInt8) (w : World) (hs : SB w A c (t :: (nm ++ 0 :: v))) (hn : plainB nm = true) (hmax : (t :: (nm ++ 0 :: v)).length ≤ 140737488355328) :
    Calls Tryz.prog 74 #[.slice A (t :: (nm ++ 0 :: v)).length c] w fun e w' => e = .returned (.string ⟨nm.toArray⟩) ∧ Below w.heap.size w w' := by
  have HK := Lib.hid (keyErr A c t nm v w hs hn hmax)
  obtain ⟨p, hp⟩ : ∃ p, p = (t :: (nm ++ 0 :: v)).length := ⟨_, rfl⟩
  obtain ⟨S, hS⟩ : ∃ s : ByteArray, s = ⟨nm.toArray⟩ := ⟨_, rfl⟩
  rw [← hp, ← hS] at HK
  rw [← hp, ← hS]
  clear hs hn hmax hp hS
  go_enter Tryz.func74, Tryz.ntmps74
  go_wp2_with fail
  refine HK.out.mono ?_
  rintro e w1 ⟨rfl, rfl⟩
  go_wp2_with fail
  go_ret
  exact ⟨rfl, Below.refl _ _⟩
theorem errNew (s : ByteArray) (w : World) : Calls Tryz.prog 75 #[.string s] w fun e w' => e = .returned (.iface 183 (.pointer (some ⟨w.heap.size, 0, none⟩))) ∧ Below w.heap.size w w' ∧ w'.heap[w.heap.size]? = some (.cells #[.string s] 185 (0, 0)) := by
  have HN := Lib.hid (heap_alloc_new w (.cells #[.string s] 185))
  go_enter Tryz.func75, Tryz.ntmps75
  go_wp2_with fail
  go_ret
  exact ⟨rfl, balloc (Below.refl _ _) (Nat.le_refl _) _, HN.out⟩
/-- What the elements of an array come to. -/
def chkA : Nat → Int → List UInt8 → Nat → Int
  | 0, _, _, _ => 1
  | f + 1, left, rem, i => if 1 < left then (match firstN rem with
      | none => 1
      | some k => if elemCode (rem.take k) = 0 then (if elName rem = Lib.itoa (i : Int) then chkA f (left - k) (rem.drop k) (i + 1) else 9) else elemCode (rem.take k))
    else (if rem.headD 1 = 0 then 0 else 3)
def arrCode (l : List UInt8) : Int :=
  if (readLen l).2 = true then (if (l.length : Int) < (readLen l).1 then 4 else if (readLen l).1 < 5 then 2 else if l.getD ((readLen l).1 - 1).toNat 0 = 0 then chkA (l.length + 1) ((readLen l).1 - 4) (l.drop 4) 0 else 3) else 1
/-- Codes of arrays: a new error besides. -/
def Code5 (w w' : World) (n : Int) (v : Value) : Prop := Code4 n v ∨ (n = 9 ∧ ∃ g, w.heap.size ≤ g ∧ v = .iface 183 (.pointer (some ⟨g, 0, none⟩)) ∧ ∃ s : ByteArray, w'.heap[g]? = some (.cells #[.string s] 185 (0, 0)))
theorem chkA_step (f : Nat) (left : Int) (rem : List UInt8) (k i : Nat) (h1 : 1 < left) (h2 : firstN rem = some k) (h3 : elemCode (rem.take k) = 0) (h4 : elName rem = Lib.itoa (i : Int)) : chkA (f + 1) left rem i = chkA f (left - k) (rem.drop k) (i + 1) := by
  rw [chkA, if_pos h1, h2]; simp [h3, h4]
theorem chkA_name (f : Nat) (left : Int) (rem : List UInt8) (k i : Nat) (h1 : 1 < left) (h2 : firstN rem = some k) (h3 : elemCode (rem.take k) = 0) (h4 : ¬ elName rem = Lib.itoa (i : Int)) : chkA (f + 1) left rem i = 9 := by
  rw [chkA, if_pos h1, h2]; simp [h3, h4]
theorem chkA_bad (f : Nat) (left : Int) (rem : List UInt8) (k i : Nat) (n : Int) (hn : n ≠ 0) (h1 : 1 < left) (h2 : firstN rem = some k) (h3 : elemCode (rem.take k) = n) : chkA (f + 1) left rem i = n := by
  rw [chkA, if_pos h1, h2]; simp [h3, hn]
theorem chkA_none (f : Nat) (left : Int) (rem : List UInt8) (i : Nat) (h1 : 1 < left) (h2 : firstN rem = none) : chkA (f + 1) left rem i = 1 := by
  rw [chkA, if_pos h1, h2]
theorem chkA_end (f : Nat) (left : Int) (rem : List UInt8) (i : Nat) (h1 : ¬ 1 < left) : chkA (f + 1) left rem i = (if rem.headD 1 = 0 then 0 else 3) := by
  rw [chkA, if_neg h1]
theorem arrLenMsg (n m : Int) (w : World) :
    Calls Tryz.prog 72 #[.int .i64 n, .int .i64 m] w fun e w' => ∃ s, e = .returned (.iface 120 (.string s)) ∧ OtherMsg s ∧ Below w.heap.size w w' := by
  have HL : Hid (Calls Tryz.prog 123 #[.string ⟨#[97, 114, 114, 97, 121]⟩, .int .i64 n, .int .i64 m] w fun e w' => ∃ s, e = .returned (.iface 120 (.string s)) ∧ OtherMsg s ∧ Below w.heap.size w w') := Lib.hid (by
    go_enter Tryz.func123, Tryz.ntmps123
    go_wp2_with fail
    go_ret
    exact ⟨_, rfl, ⟨by decide +kernel, by decide +kernel⟩, Below.refl _ _⟩)
  go_enter Tryz.func72, Tryz.ntmps72
  go_wp2_with fail
  refine HL.out.mono ?_
  rintro e w1 ⟨s, rfl, hs, hb⟩
  have HS := Lib.hid hs
  clear hs HL
  go_wp2_with fail
  go_ret
  exact ⟨s, rfl, HS.out, hb⟩
theorem arrLenErr (A : Option Addr) (c n : Nat) (l : List UInt8) (m : Int) (w : World) (hn : n = l.length) (hs : SB w A c l) (hr : readLen l = (m, true)) (hm : (l.length : Int) < m) :
    Calls Tryz.prog 28 #[.slice A n c] w fun e w' => ∃ s, e = .returned (.iface 120 (.string s)) ∧ OtherMsg s ∧ Below w.heap.size w w' := by
  have HL : Hid (Calls Tryz.prog 65 #[.slice A n c] w fun e w' => ∃ A1 n1 c1, e = .returned (.tuple #[.int .i32 m, .slice A1 n1 c1, .bool true]) ∧ Below w.heap.size w w') := Lib.hid (by
    subst hn
    refine (readLength A c l w hs).mono ?_
    rintro e w' ⟨A1, n1, c1, rfl, -, -, hb⟩
    exact ⟨A1, n1, c1, by rw [hr], hb⟩)
  rw [← hn] at hm
  have hwm : wrap64 m = m := w64m (by omega) (by have := readLen_bd l; rw [hr] at this; exact this.2)
  have HE := Lib.hid (fun w => arrLenMsg m (n : Int) w)
  clear hs hr hn
  go_enter Tryz.func28, Tryz.ntmps28
  go_wp2_with fail
  refine HL.out.mono ?_
  rintro e w1 ⟨A1, n1, c1, rfl, hb⟩
  go_wp2_with fail
  refine (HE.out w1).mono ?_
  rintro e w2 ⟨s, rfl, hs, hb2⟩
  have HS := Lib.hid hs
  have HB := Lib.hid (hb.trans (hb2.mono hb.size))
  clear hs hb2 HE HL
  go_wp2_with fail
  go_ret
  exact ⟨s, rfl, HS.out, HB.out⟩
set_option maxHeartbeats 4000000 in
theorem arrLoop (A : Option Addr) (c : Nat) (l : List UInt8) (nn R : Int) (w : World) (hs : SB w A c l) (hl : l.length ≤ 20000) (hr : readLen l = (nn, true)) (h5 : 5 ≤ nn) (hle : nn ≤ (l.length : Int)) (hz : l.getD (nn - 1).toNat 0 = 0) (htab : Lib.TabIs Tryz.prog w "internal/strconv.uint64pow10" .u64 Lib.pow10Tab) (hR : chkA (l.length + 1) (nn - 4) (l.drop 4) 0 = R) :
    Calls Tryz.prog 28 #[.slice A l.length c] w fun e w' => (∃ v, e = .returned v ∧ Code5 w w' R v) ∧ Below w.heap.size w w' := by
  obtain ⟨p, hp⟩ : ∃ p, p = l.length := ⟨_, rfl⟩
  have HL : Hid (Calls Tryz.prog 65 #[.slice A p c] w fun e w' => ∃ A1 c1, e = .returned (.tuple #[.int .i32 nn, .slice A1 (p - 4) c1, .bool true]) ∧ SB w' A1 c1 (l.drop 4) ∧ Below w.heap.size w w') := Lib.hid (by
    rw [hp]
    refine (readLength A c l w hs).mono ?_
    rintro e w' ⟨A1, n1, c1, rfl, h4, -, hb⟩
    obtain ⟨rfl, rfl, h5⟩ := h4 (by omega)
    exact ⟨A1, _, by rw [hr], h5, hb⟩)
  obtain ⟨b, off, rfl, hc⟩ := hs.cells (by omega)
  have hzc : w.cell? ⟨b, off + (nn - 1).toNat, none⟩ = some (.int .u8 0) := by
    have h := hc (nn - 1).toNat (by omega)
    rw [h]
    have hg : l.getD (nn - 1).toNat 0 = l[(nn - 1).toNat]'(by omega) := by rw [List.getD_eq_getElem?_getD, List.getElem?_eq_getElem (by omega)]; rfl
    rw [hg] at hz
    rw [hz]
    rfl
  obtain ⟨N4, g8⟩ : ∃ N4 : Nat, (nn - 1).toNat = N4 := ⟨_, rfl⟩
  rw [g8] at hzc
  have hbl := World.block_lt_of_cell? _ _ hzc
  have HTAB : Hid (TabK w) := Lib.hid (tabK htab)
  have HD : Hid ((l.drop 4).length = p - 4 ∧ p ≤ 20000 ∧ nn ≤ 20000 ∧ chkA (p + 1) (nn - 4) (l.drop 4) 0 = R) := Lib.hid ⟨by rw [List.length_drop, hp], by omega, by omega, by rw [hp]; exact hR⟩
  rw [← hp] at hle ⊢
  have i1 : wrap32 (nn - 1) = nn - 1 := by unfold wrap32; omega
  have i4 : wrap32 (nn - 4) = nn - 4 := by unfold wrap32; omega
  have i0 : wrap64 nn = nn := by unfold wrap64; omega
  have g0 : decide ((p : Int) < nn) = false := by simp; omega
  have g5 : decide (nn < 5) = false := by simp; omega
  have g6 : (nn - 1 < (p : Int)) = True := eq_true (by omega)
  have g7 : (0 ≤ nn - 1) = True := eq_true (by omega)
  have g9 : (nn < 1) = False := eq_false (by omega)
  have g10 : (1 ≤ nn) = True := eq_true (by omega)
  clear hs hl hr h5 hle hz hR hp hc htab
  go_enter Tryz.func28, Tryz.ntmps28
  go_wp2_with fail
  refine HL.out.mono ?_
  rintro e w1 ⟨A1, c1, rfl, hs1, hb1⟩
  have hz1 : w1.cell? ⟨b, off + N4, none⟩ = some (.int .u8 0) := (hb1.cell hbl).trans hzc
  have HB1 := Lib.hid hb1
  have HS1 := Lib.hid hs1
  clear hb1 hs1 HL hzc
  go_wp2_with fail
  go_loopw [3, 4, 7] (fun a b n7 wr => ∃ (left : Int) (q i : Nat) (A2 : Option Addr) (c2 : Nat), a = .int .i32 left ∧ b = .slice A2 q c2 ∧ n7 = .int .i64 i ∧ left ≤ 20000 ∧ q ≤ 20000 ∧ Hid (∃ rem f, q = rem.length ∧ SB wr A2 c2 rem ∧ chkA (f + 1) left rem i = R ∧ rem.length ≤ f ∧ i + rem.length ≤ 20000) ∧ Hid (Below w.heap.size w wr)) (fun a _ _ _ => (intOf a).toNat)
  case atStart =>
    have hD := HD.out
    refine ⟨nn - 4, p - 4, 0, A1, c1, by rw [i4], rfl, rfl, by omega, by omega, Lib.hid ⟨l.drop 4, p, hD.1.symm, HS1.out, hD.2.2.2, by omega, by omega⟩, HB1⟩
  case round =>
    obtain ⟨left, q, i, A2, c2, rfl, rfl, rfl, hle, hq, ⟨rem, f, hqr, hs2, hck, hf, hi5⟩, HB2⟩ := hrel
    clear i0 i1 i4 g0 g5 g6 g7 g8 g9 g10 hz1
    by_cases hlt : 1 < left
    · have HR := Lib.hid (readEl A2 c2 rem wr hs2 (by omega))
      rw [← hqr] at HR
      have d1 : decide (1 < left) = true := decide_eq_true hlt
      have HX : Hid (q = rem.length ∧ chkA (f + 1) left rem i = R ∧ rem.length ≤ f ∧ 1 < left ∧ left ≤ 20000 ∧ q ≤ 20000) := Lib.hid ⟨hqr, hck, hf, hlt, hle, hq⟩
      have HI : Hid (i + rem.length ≤ 20000) := Lib.hid hi5
      clear hi5
      clear hqr hs2 hck hf hlt hle hq
      go_wp2_with fail
      refine HR.out.mono ?_
      rintro e w2 ⟨(⟨k, hk, hk2, hkq, A3, c3, A4, c4, rfl, hs3, hs4⟩ | ⟨hk, A3, n3, c3, rfl⟩), hb2⟩
      · obtain ⟨x1, x2, x3, x4, x5, x6⟩ := HX.out
        obtain ⟨e1, e2⟩ := rnd1 x4 x5 hkq x6
        have HV := Lib.hid (fun wx (h : Below w2.heap.size w2 wx) => Av.elemValidate A3 c3 (rem.take k) wx (hs3.keep h) (by rw [List.length_take]; omega))
        have hkl : (rem.take k).length = k := by rw [List.length_take]; omega
        rw [hkl] at HV
        obtain ⟨ec, hec⟩ : ∃ x, x = elemCode (rem.take k) := ⟨_, rfl⟩
        rw [← hec] at HV
        have HK : Hid (firstN rem = some k ∧ 2 ≤ k ∧ k ≤ q ∧ ec = elemCode (rem.take k)) := Lib.hid ⟨hk, hk2, hkq, hec⟩
        have HS4 := Lib.hid hs4
        have HS33 := Lib.hid hs3
        have HBB := Lib.hid (bthen HB2.out hb2)
        clear x1 x2 x3 x4 x5 x6 hkl hec hk hk2 hkq hs3 hs4 hb2 HR
        go_wp2_with fail
        refine (HV.out _ (Below.refl _ _)).mono ?_
        rintro e w3 ⟨v, rfl, hcode, hb3⟩
        have HB3 := Lib.hid (bthen HBB.out hb3)
        have HS5 := Lib.hid (HS4.out.keep hb3)
        have HS3 := Lib.hid (HS33.out.keep hb3)
        clear HS33
        clear hb3 HV HS4 HBB
        rcases hcode with ⟨h0, rfl⟩ | ⟨h5, s, rfl⟩ | ⟨h1, B1, m1, d1', B2, m2, d2, rfl⟩
        · have H0 := Lib.hid h0
          clear h0
          obtain ⟨t, nm, v, hsp, hpl, hnm⟩ := first_split rem k HK.out.1
          have HSP := Lib.hid (And.intro hsp hnm)
          have hkl2 : (rem.take k).length = k := by rw [List.length_take]; have := HX.out.1; have := HK.out.2.2.1; omega
          have HKey : Hid (∀ wx : World, Below w3.heap.size w3 wx → Calls Tryz.prog 74 #[.slice A3 k c3] wx fun e w' => e = .returned (.string ⟨nm.toArray⟩) ∧ Below wx.heap.size wx w') := Lib.hid fun wx hx => by
            have h := elKey A3 c3 t nm v wx (by rw [← hsp]; exact (HS3.out.keep hx)) hpl (by rw [← hsp, hkl2]; have := HK.out.2.2.1; have := HX.out.2.2.2.2.2; omega)
            rw [← hsp, hkl2] at h
            exact h
          have HFm : Hid (Calls Tryz.prog 73 #[.int .i64 (i : Int), .int .i64 10] w3 fun e w' => e = .returned (.string ⟨(Lib.itoa (i : Int)).toArray⟩) ∧ Below w3.heap.size w3 w') := Lib.hid (formatInt (i : Int) (by omega) (by have := HI.out; omega) w3 (HTAB.out.out w3 HB3.out))
          clear hsp hpl hnm hkl2
          go_wp2_with fail
          refine HFm.out.mono ?_
          rintro e w4 ⟨rfl, hb4⟩
          have HKY := Lib.hid (HKey.out w4 hb4)
          have HB4 := Lib.hid (bthen HB3.out hb4)
          have HS6 := Lib.hid (HS5.out.keep hb4)
          clear hb4 HKey HFm HS5 HS3
          obtain ⟨S1, hS1⟩ : ∃ s : ByteArray, s = ⟨(Lib.itoa (i : Int)).toArray⟩ := ⟨_, rfl⟩
          obtain ⟨S2, hS2⟩ : ∃ s : ByteArray, s = ⟨nm.toArray⟩ := ⟨_, rfl⟩
          rw [← hS2] at HKY
          rw [← hS1]
          have HSS : Hid (S1 = ⟨(Lib.itoa (i : Int)).toArray⟩ ∧ S2 = ⟨nm.toArray⟩) := Lib.hid ⟨hS1, hS2⟩
          clear hS1 hS2
          go_wp2_with fail
          refine HKY.out.mono ?_
          rintro e w5 ⟨rfl, hb5⟩
          have HB5 := Lib.hid (bthen HB4.out hb5)
          have HS7 := Lib.hid (HS6.out.keep hb5)
          clear hb5 HS6 HKY
          by_cases hsame : nm = Lib.itoa (i : Int)
          · obtain rfl : S1 = S2 := by rw [HSS.out.1, HSS.out.2, hsame]
            have HSM := Lib.hid hsame
            have s7 : wrap64 ((i : Int) + 1) = (i : Int) + 1 := w64one' i (by have := HI.out; omega)
            clear hsame
            go_wp2_with fail
            go_roundw
            case rel =>
              clear s7
              obtain ⟨x1, x2, x3, x4, x5, x6⟩ := HX.out
              obtain ⟨y1, y2, y3, y4⟩ := HK.out
              have hI := HI.out
              obtain ⟨f', rfl⟩ : ∃ f', f = f' + 1 := ⟨f - 1, by omega⟩
              refine ⟨left - k, q - k, i + 1, A4, c4, by first | rfl | simp, rfl, by first | rfl | (rw [w64one' i (by omega)]; simp), by omega, by omega, Lib.hid ⟨rem.drop k, f', by rw [List.length_drop]; omega, HS7.out, ?_, by rw [List.length_drop]; omega, by rw [List.length_drop]; omega⟩, HB5⟩
              rw [← chkA_step (f' + 1) left rem k i x4 y1 (by rw [← y4, H0.out]) (by rw [HSP.out.2, HSM.out])]
              exact x2
            case measure =>
              have hm := meas1 HX.out.2.2.2.1 HK.out.2.1
              first | exact hm | simpa [intOf] using hm
          · have e5 : (S1.toList == S2.toList) = false := by rw [beq_eq_false_iff_ne, HSS.out.1, HSS.out.2]; intro h; exact hsame (by simpa using h.symm)
            have HSM := Lib.hid hsame
            clear hsame
            go_wp2_with fail
            refine (errNew _ w5).mono ?_
            rintro e w6 ⟨rfl, hb6, hh6⟩
            have HB6 := Lib.hid (bthen HB5.out hb6)
            have HH6 := Lib.hid hh6
            clear hb6 hh6
            go_wp2_with fail
            go_ret
            obtain ⟨x1, x2, x3, x4, x5, x6⟩ := HX.out
            obtain ⟨y1, y2, y3, y4⟩ := HK.out
            have hRR : R = 9 := by rw [← x2]; exact chkA_name f left rem k i x4 y1 (by rw [← y4, H0.out]) (by rw [HSP.out.2]; exact HSM.out)
            exact ⟨⟨_, rfl, Or.inr ⟨hRR, w5.heap.size, HB5.out.size, rfl, _, HH6.out⟩⟩, HB6.out⟩
        · have H0 := Lib.hid h5
          clear h5
          go_wp2_with fail
          go_ret
          obtain ⟨x1, x2, x3, x4, x5, x6⟩ := HX.out
          obtain ⟨y1, y2, y3, y4⟩ := HK.out
          have hRR : R = 5 := by rw [← x2]; exact chkA_bad f left rem k i 5 (by decide) x4 y1 (by rw [← y4, H0.out])
          exact ⟨⟨_, rfl, Or.inl (Or.inl (Or.inr (Or.inl ⟨hRR, s, rfl⟩)))⟩, HB3.out⟩
        · have H0 := Lib.hid h1
          clear h1
          go_wp2_with fail
          go_ret
          obtain ⟨x1, x2, x3, x4, x5, x6⟩ := HX.out
          obtain ⟨y1, y2, y3, y4⟩ := HK.out
          have hRR : R = 1 := by rw [← x2]; exact chkA_bad f left rem k i 1 (by decide) x4 y1 (by rw [← y4, H0.out])
          exact ⟨⟨_, rfl, Or.inl (Or.inl (Or.inr (Or.inr ⟨hRR, _, _, _, _, _, _, rfl⟩)))⟩, HB3.out⟩
      · have HK := Lib.hid hk
        have HBB := Lib.hid (bthen HB2.out hb2)
        clear hk hb2 HR
        have e1 : wrap32 ((0 : Nat) : Int) = 0 := by decide +kernel
        have e2 : wrap32 (0 : Int) = 0 := by decide +kernel
        go_wp2_with fail
        refine (newInsuf (some ⟨b, off, none⟩) A3 p c n3 c3 w2).mono ?_
        rintro e w3 ⟨rfl, hb3⟩
        have HB3 := Lib.hid (bthen HBB.out hb3)
        clear hb3
        go_wp2_with fail
        go_ret
        obtain ⟨x1, x2, x3, x4, x5, x6⟩ := HX.out
        have hRR : R = 1 := by rw [← x2]; exact chkA_none f left rem i x4 HK.out
        exact ⟨⟨_, rfl, Or.inl (Or.inl (Or.inr (Or.inr ⟨hRR, _, _, _, _, _, _, rfl⟩)))⟩, HB3.out⟩
    · have d1 : decide (1 < left) = false := decide_eq_false hlt
      have hRR := chkA_end f left rem i hlt
      rw [hck] at hRR
      rcases rem with _ | ⟨x, r⟩
      · skip
        have hq0 : q = 0 := hqr
        subst hq0
        have HRR : Hid (R = 3) := Lib.hid (by rw [hRR]; rfl)
        clear hi5 hqr hs2 hRR hck hf hlt hle hq
        go_wp2_with fail
        go_ret
        exact ⟨⟨_, rfl, Or.inl (Or.inr (Or.inr (Or.inl ⟨HRR.out, rfl⟩)))⟩, HB2.out⟩
      · skip
        obtain ⟨b2, o2, rfl, hc2⟩ := hs2.cells (by simp)
        have hx := hc2 0 (by simp)
        have hx' : wr.cell? ⟨b2, o2, none⟩ = some (.int .u8 (x.toNat : Int)) := hx
        obtain ⟨mm, rfl⟩ : ∃ mm, q = mm + 1 := ⟨r.length, by simpa using hqr⟩
        have d2 : ((mm + 1 : Nat) : Int) = (mm : Int) + 1 := by omega
        by_cases h0 : x = 0
        · subst h0
          have hx2 : wr.cell? ⟨b2, o2, none⟩ = some (.int .u8 0) := hx'
          have HRR : Hid (R = 0) := Lib.hid (by rw [hRR]; rfl)
          clear hi5 hqr hs2 hRR hck hf hlt hc2 hx hx' hle hq
          go_wp2_with fail
          go_ret
          exact ⟨⟨_, rfl, Or.inl (Or.inl (Or.inl ⟨HRR.out, rfl⟩))⟩, HB2.out⟩
        · have HRR : Hid (R = 3) := Lib.hid (by rw [hRR]; simp [h0])
          obtain ⟨z, hz⟩ : ∃ z, z = (x.toNat : Int) := ⟨_, rfl⟩
          rw [← hz] at hx'
          have hz0 : (z != 0) = true := by rw [bne_iff_ne, hz]; intro h; exact h0 (UInt8.toNat_inj.1 (by simpa using h))
          clear hi5 hqr hs2 hRR hck hf hlt hc2 hx hz h0 hle hq
          go_wp2_with fail
          go_ret
          exact ⟨⟨_, rfl, Or.inl (Or.inr (Or.inr (Or.inl ⟨HRR.out, rfl⟩)))⟩, HB2.out⟩
theorem arrInsuf (A : Option Addr) (c : Nat) (l : List UInt8) (nn : Int) (w : World) (hs : SB w A c l) (hr : readLen l = (nn, false)) :
    Calls Tryz.prog 28 #[.slice A l.length c] w fun e w' => (∃ v, e = .returned v ∧ Code5 w w' 1 v) ∧ Below w.heap.size w w' := by
  obtain ⟨p, hp⟩ : ∃ p, p = l.length := ⟨_, rfl⟩
  have HL : Hid (Calls Tryz.prog 65 #[.slice A p c] w fun e w' => ∃ A1 n1 c1, e = .returned (.tuple #[.int .i32 nn, .slice A1 n1 c1, .bool false]) ∧ Below w.heap.size w w') := Lib.hid (by
    rw [hp]
    refine (readLength A c l w hs).mono ?_
    rintro e w' ⟨A1, n1, c1, rfl, -, -, hb⟩
    exact ⟨A1, n1, c1, by rw [hr], hb⟩)
  rw [← hp]
  clear hs hr hp
  go_enter Tryz.func28, Tryz.ntmps28
  go_wp2_with fail
  refine HL.out.mono ?_
  rintro e w1 ⟨A1, n1, c1, rfl, hb1⟩
  have HB1 := Lib.hid hb1
  clear hb1 HL
  go_wp2_with fail
  refine (newInsuf A A1 p c n1 c1 w1).mono ?_
  rintro e w2 ⟨rfl, hb2⟩
  have HB2 := Lib.hid (bthen HB1.out hb2)
  clear hb2
  go_wp2_with fail
  go_ret
  exact ⟨⟨_, rfl, Or.inl (Or.inl (Or.inr (Or.inr ⟨rfl, _, _, _, _, _, _, rfl⟩)))⟩, HB2.out⟩
theorem arrLow (A : Option Addr) (c : Nat) (l : List UInt8) (nn : Int) (w : World) (hs : SB w A c l) (hr : readLen l = (nn, true)) (h0 : 0 ≤ nn) (h5 : nn < 5) (hle : nn ≤ (l.length : Int)) :
    Calls Tryz.prog 28 #[.slice A l.length c] w fun e w' => (∃ v, e = .returned v ∧ Code5 w w' 2 v) ∧ Below w.heap.size w w' := by
  obtain ⟨p, hp⟩ : ∃ p, p = l.length := ⟨_, rfl⟩
  have HL : Hid (Calls Tryz.prog 65 #[.slice A p c] w fun e w' => ∃ A1 n1 c1, e = .returned (.tuple #[.int .i32 nn, .slice A1 n1 c1, .bool true]) ∧ Below w.heap.size w w') := Lib.hid (by
    rw [hp]
    refine (readLength A c l w hs).mono ?_
    rintro e w' ⟨A1, n1, c1, rfl, -, -, hb⟩
    exact ⟨A1, n1, c1, by rw [hr], hb⟩)
  rw [← hp] at hle ⊢
  have g0 : decide ((p : Int) < nn) = false := decide_eq_false (by omega)
  have g5 : decide (nn < 5) = true := decide_eq_true h5
  have HW : Hid (wrap64 nn = nn) := Lib.hid (w64m h0 (by omega))
  clear hs hr hp h0 h5 hle
  have i0 := HW.out
  go_enter Tryz.func28, Tryz.ntmps28
  go_wp2_with fail
  refine HL.out.mono ?_
  rintro e w1 ⟨A1, n1, c1, rfl, hb1⟩
  have HB1 := Lib.hid hb1
  clear hb1 HL
  go_wp2_with fail
  go_ret
  exact ⟨⟨_, rfl, Or.inl (Or.inr (Or.inl ⟨rfl, rfl⟩))⟩, HB1.out⟩
theorem arrLast (A : Option Addr) (c : Nat) (l : List UInt8) (nn : Int) (w : World) (hs : SB w A c l) (hr : readLen l = (nn, true)) (h5 : 5 ≤ nn) (hmx : l.length ≤ 20000) (hle : nn ≤ (l.length : Int)) (hz : ¬ l.getD (nn - 1).toNat 0 = 0) :
    Calls Tryz.prog 28 #[.slice A l.length c] w fun e w' => (∃ v, e = .returned v ∧ Code5 w w' 3 v) ∧ Below w.heap.size w w' := by
  obtain ⟨p, hp⟩ : ∃ p, p = l.length := ⟨_, rfl⟩
  have HL : Hid (Calls Tryz.prog 65 #[.slice A p c] w fun e w' => ∃ A1 n1 c1, e = .returned (.tuple #[.int .i32 nn, .slice A1 n1 c1, .bool true]) ∧ Below w.heap.size w w') := Lib.hid (by
    rw [hp]
    refine (readLength A c l w hs).mono ?_
    rintro e w' ⟨A1, n1, c1, rfl, -, -, hb⟩
    exact ⟨A1, n1, c1, by rw [hr], hb⟩)
  obtain ⟨b, off, rfl, hc⟩ := hs.cells (by omega)
  obtain ⟨z, hzz⟩ : ∃ z, z = ((l.getD (nn - 1).toNat 0).toNat : Int) := ⟨_, rfl⟩
  have hzc : w.cell? ⟨b, off + (nn - 1).toNat, none⟩ = some (.int .u8 z) := by
    have h := hc (nn - 1).toNat (by omega)
    rw [h, hzz]
    have hg : l.getD (nn - 1).toNat 0 = l[(nn - 1).toNat]'(by omega) := by rw [List.getD_eq_getElem?_getD, List.getElem?_eq_getElem (by omega)]; rfl
    rw [hg]
  have hz0 : (z != 0) = true := by rw [bne_iff_ne, hzz]; intro h; exact hz (UInt8.toNat_inj.1 (by simpa using h))
  obtain ⟨N4, g8⟩ : ∃ N4 : Nat, (nn - 1).toNat = N4 := ⟨_, rfl⟩
  rw [g8] at hzc
  have hbl := World.block_lt_of_cell? _ _ hzc
  rw [← hp] at hle hmx ⊢
  have g0 : decide ((p : Int) < nn) = false := decide_eq_false (by omega)
  have g5 : decide (nn < 5) = false := decide_eq_false (by omega)
  have g6 : (nn - 1 < (p : Int)) = True := eq_true (by omega)
  have g7 : (0 ≤ nn - 1) = True := eq_true (by omega)
  have g9 : (nn < 1) = False := eq_false (by omega)
  have g10 : (1 ≤ nn) = True := eq_true (by omega)
  have HW : Hid (wrap64 nn = nn ∧ wrap32 (nn - 1) = nn - 1) := Lib.hid ⟨w64m (by omega) (by omega), by unfold wrap32; omega⟩
  clear hs hr hp h5 hle hz hzz hc hmx
  have i0 := HW.out.1
  have i1 := HW.out.2
  go_enter Tryz.func28, Tryz.ntmps28
  go_wp2_with fail
  refine HL.out.mono ?_
  rintro e w1 ⟨A1, n1, c1, rfl, hb1⟩
  have hz1 : w1.cell? ⟨b, off + N4, none⟩ = some (.int .u8 z) := (hb1.cell hbl).trans hzc
  have HB1 := Lib.hid hb1
  clear hb1 HL hzc
  go_wp2_with fail
  go_ret
  exact ⟨⟨_, rfl, Or.inl (Or.inr (Or.inr (Or.inl ⟨rfl, rfl⟩)))⟩, HB1.out⟩
theorem arrCheck (A : Option Addr) (c : Nat) (l : List UInt8) (w : World) (hs : SB w A c l) (hl : l.length ≤ 20000) (htab : Lib.TabIs Tryz.prog w "internal/strconv.uint64pow10" .u64 Lib.pow10Tab) :
    Calls Tryz.prog 28 #[.slice A l.length c] w fun e w' => (∃ v, e = .returned v ∧ Code5 w w' (arrCode l) v) ∧ Below w.heap.size w w' := by
  obtain ⟨⟨nn, ok⟩, hr⟩ : ∃ x, readLen l = x := ⟨_, rfl⟩
  unfold arrCode
  rw [hr]
  cases ok with
  | false => exact arrInsuf A c l nn w hs hr
  | true =>
    have hn := readLen_neg (l := l) (by rw [hr])
    rw [hr] at hn
    simp only [if_true]
    by_cases h1 : (l.length : Int) < nn
    · rw [if_pos h1]
      refine (arrLenErr A c l.length l nn w rfl hs hr h1).mono ?_
      rintro e w' ⟨s, rfl, ho, hb⟩
      exact ⟨⟨_, rfl, Or.inl (Or.inr (Or.inr (Or.inr ⟨rfl, s, rfl, ho⟩)))⟩, hb⟩
    · rw [if_neg h1]
      by_cases h5 : nn < 5
      · rw [if_pos h5]
        exact arrLow A c l nn w hs hr hn.1 h5 (by omega)
      · rw [if_neg h5]
        by_cases hz : l.getD (nn - 1).toNat 0 = 0
        · rw [if_pos hz]
          exact arrLoop A c l nn _ w hs hl hr (by omega) (by omega) hz htab rfl
        · rw [if_neg hz]
          exact arrLast A c l nn w hs hr (by omega) hl (by omega) hz
end Ck
end Go.Proofs.YtjbeaofnnodlcaaGreatDoor.X
