/- Document.Validate for all bytes, with its codes. -/
import Derived.Test.YtbpopaegfhcdpaaGreatDoorLookup
import Derived.Test.YtbpopaegfhcdpaaGreatDoorReNo
import Derived.Test.YtbpopaegfhcdpaaGreatDoorSpanP
import Derived.Test.YtbpopaegfhcdpaaGreatDoorAw
import Derived.Outline
set_option linter.unusedVariables false
set_option linter.unusedSimpArgs false
set_option maxRecDepth 100000
namespace Go.Proofs.YtbpopaegfhcdpaaGreatDoor.X
open Go.RowKit Go.Proofs.YtbpopaegfhcdpaaGreatDoorW.PrintLast
namespace Ck
open Sp Al Av Aw

/-- How many bytes the element takes that begins some bytes. -/
def firstN : List UInt8 → Option Nat
  | [] => none
  | t :: r => if (nmOf r).2 = true then (if valIs (t.toNat : Int) (r.drop (nmOf r).1.toNat) = true then some (1 + (nmOf r).1.toNat + (valLen (t.toNat : Int) (r.drop (nmOf r).1.toNat)).1.toNat) else none) else none
/-- What the elements come to: 0, or the first reason. -/
def chk : Nat → Int → List UInt8 → Int
  | 0, _, _ => 1
  | f + 1, left, rem => if 1 < left then (match firstN rem with
      | none => 1
      | some k => if elemCode (rem.take k) = 0 then chk f (left - k) (rem.drop k) else elemCode (rem.take k))
    else (if rem.headD 1 = 0 then 0 else 3)
/-- The code of some bytes as a document. -/
def docCode (l : List UInt8) : Int :=
  if (readLen l).2 = true then (if (l.length : Int) < (readLen l).1 then 4 else if (readLen l).1 < 5 then 2 else if l.getD ((readLen l).1 - 1).toNat 0 = 0 then chk (l.length + 1) ((readLen l).1 - 4) (l.drop 4) else 3) else 1
theorem nm_split (r : List UInt8) (h : (nmOf r).2 = true) : ∃ nm bl, r = nm ++ 0 :: bl ∧ plainB nm = true ∧ (nmOf r).1.toNat = nm.length + 1 ∧ r.drop (nmOf r).1.toNat = bl := by
  rcases idx_split r with h2 | ⟨nm, bl, rfl, hp⟩
  · exfalso
    unfold nmOf at h
    rw [show Lib.indexByte r 0 = -1 from h2] at h
    simp at h
  · have hi : Lib.indexByte (nm ++ 0 :: bl) 0 = nm.length := index_plain nm bl hp
    refine ⟨nm, bl, rfl, hp, ?_, ?_⟩
    · unfold nmOf; rw [hi, if_neg (by omega)]; simp
    · unfold nmOf
      rw [hi, if_neg (by omega)]
      have : ((nm.length : Int) + 1).toNat = nm.length + 1 := by omega
      show (nm ++ 0 :: bl).drop ((nm.length : Int) + 1).toNat = bl
      rw [this, List.drop_append]
      simp
theorem plain_ne' {l : List UInt8} (h : plainB l = true) : ∀ x ∈ l, x ≠ 0 := by
  intro x hx e
  subst e
  unfold plainB at h
  rw [List.all_eq_true] at h
  have := h 0 hx
  simp at this
theorem idx_nonneg : ∀ (a b : List UInt8), 0 ≤ Lib.indexByte (a ++ 0 :: b) 0
  | [], b => by simp [Lib.indexByte]
  | x :: r, b => by
    have ih := idx_nonneg r b
    show 0 ≤ Lib.indexByte (x :: (r ++ 0 :: b)) 0
    simp only [Lib.indexByte]
    split
    · omega
    · split
      · rename_i h
        have : Lib.indexByte (r ++ 0 :: b) 0 = -1 := by simpa using h
        omega
      · omega
theorem nm_none (r : List UInt8) (h : (nmOf r).2 = false) : ∀ x ∈ r, x ≠ 0 := by
  rcases idx_split r with h2 | ⟨nm, bl, rfl, hp⟩
  · intro x hx e
    subst e
    obtain ⟨a, b, rfl⟩ := List.append_of_mem hx
    have := idx_nonneg a b
    have h3 : Lib.indexByte (a ++ 0 :: b) 0 = -1 := h2
    omega
  · exfalso
    unfold nmOf at h
    rw [show Lib.indexByte (nm ++ 0 :: bl) 0 = nm.length from index_plain nm bl hp, if_neg (by omega)] at h
    cases h
/-- ReadElement, for all bytes. -/
theorem readEl (A : Option Addr) (c : Nat) (l : List UInt8) (w : World) (hs : SB w A c l) (hmax : l.length ≤ 140737488355328) :
    Calls Tryz.prog 128 #[.slice A l.length c] w fun e w' => ((∃ k, firstN l = some k ∧ 2 ≤ k ∧ k ≤ l.length ∧ ∃ A2 c2 A3 c3, e = .returned (.tuple #[.slice A2 k c2, .slice A3 (l.length - k) c3, .bool true]) ∧ SB w' A2 c2 (l.take k) ∧ SB w' A3 c3 (l.drop k)) ∨
      (firstN l = none ∧ ∃ A3 n3 c3, e = .returned (.tuple #[.slice none 0 0, .slice A3 n3 c3, .bool false]))) ∧ Below w.heap.size w w' := by
  match l, hs, hmax with
  | [], hs, hmax =>
    refine (readElement_nil A c w).mono ?_
    rintro e w' ⟨rfl, hb⟩
    exact ⟨.inr ⟨rfl, _, _, _, rfl⟩, hb⟩
  | t :: r, hs, hmax =>
    cases hn : (nmOf r).2 with
    | false =>
      refine (readElement_noname A c t r w hs (nm_none r hn) hmax).mono ?_
      rintro e w' ⟨rfl, hb⟩
      exact ⟨.inr ⟨by simp [firstN, hn], _, _, _, rfl⟩, hb⟩
    | true =>
      obtain ⟨nm, bl, rfl, hp, e1, e2⟩ := nm_split r hn
      cases hv : valIs (t.toNat : Int) bl with
      | false =>
        refine (readElement_novalue A c t nm bl w hs (plain_ne' hp) hv hmax).mono ?_
        rintro e w' ⟨rfl, hb⟩
        exact ⟨.inr ⟨by simp only [firstN, hn, e2, hv]; simp, _, _, _, rfl⟩, hb⟩
      | true =>
        obtain ⟨n, h1, h2⟩ := valLen_of_is hv
        refine (readElement_ok A c t nm bl n w hs (plain_ne' hp) h1 h2 hmax).mono ?_
        rintro e w' ⟨A2, c2, A3, c3, rfl, hss, hb⟩
        obtain ⟨s2, s3⟩ := hss w' (hs.keep hb)
        have hk : firstN (t :: (nm ++ 0 :: bl)) = some (nm.length + 2 + n) := by
          have e3 : (nm ++ 0 :: bl).drop (nm.length + 1) = bl := by rw [← e1]; exact e2
          simp only [firstN, hn, e1, e3, hv, h1, if_true]
          show some (1 + (nm.length + 1) + ((n : Int)).toNat) = _
          congr 1
          omega
        have ht : (t :: (nm ++ 0 :: bl)).take (nm.length + 2 + n) = t :: (nm ++ 0 :: bl.take n) := by
          rw [show nm.length + 2 + n = nm.length + 1 + n + 1 from by omega, List.take_succ_cons]
          congr 1
          rw [List.take_append]
          rw [List.take_of_length_le (by omega), show nm.length + 1 + n - nm.length = n + 1 from by omega, List.take_succ_cons]
        have hd : (t :: (nm ++ 0 :: bl)).drop (nm.length + 2 + n) = bl.drop n := by
          rw [show nm.length + 2 + n = nm.length + 1 + n + 1 from by omega, List.drop_succ_cons, List.drop_append]
          rw [List.drop_of_length_le (by omega), show nm.length + 1 + n - nm.length = n + 1 from by omega, List.drop_succ_cons]
          rfl
        refine ⟨.inl ⟨nm.length + 2 + n, hk, by omega, by simp; omega, A2, c2, A3, c3, ?_, by rw [ht]; exact s2, by rw [hd]; exact s3⟩, hb⟩
        rw [show (t :: (nm ++ 0 :: bl)).length - (nm.length + 2 + n) = bl.length - n from by simp; omega]
/-- An error's value by its code, those of lengths too. -/
def Code4 (n : Int) (v : Value) : Prop := CodeIs n v ∨ (n = 2 ∧ v = .iface 190 (.string ⟨#[100, 111, 99, 117, 109, 101, 110, 116, 32, 111, 114, 32, 97, 114, 114, 97, 121, 32, 108, 101, 110, 103, 116, 104, 32, 105, 115, 32, 105, 110, 118, 97, 108, 105, 100]⟩)) ∨ (n = 3 ∧ v = .iface 190 (.string ⟨#[100, 111, 99, 117, 109, 101, 110, 116, 32, 111, 114, 32, 97, 114, 114, 97, 121, 32, 101, 110, 100, 32, 105, 115, 32, 109, 105, 115, 115, 105, 110, 103, 32, 110, 117, 108, 108, 32, 98, 121, 116, 101]⟩)) ∨ (n = 4 ∧ ∃ s, v = .iface 190 (.string s) ∧ OtherMsg s)
theorem rnd1 {left : Int} {k q : Nat} (h1 : 1 < left) (h2 : left ≤ 20000) (h3 : k ≤ q) (h4 : q ≤ 20000) : wrap32 (k : Int) = k ∧ wrap32 (left - k) = left - k := by
  constructor <;> (unfold wrap32; omega)
theorem meas1 {left : Int} {k : Nat} (h1 : 1 < left) (h2 : 2 ≤ k) : (left - k).toNat < left.toNat := by omega
theorem chk_step (f : Nat) (left : Int) (rem : List UInt8) (k : Nat) (h1 : 1 < left) (h2 : firstN rem = some k) (h3 : elemCode (rem.take k) = 0) : chk (f + 1) left rem = chk f (left - k) (rem.drop k) := by
  rw [chk, if_pos h1, h2]; simp [h3]
theorem chk_bad (f : Nat) (left : Int) (rem : List UInt8) (k : Nat) (n : Int) (hn : n ≠ 0) (h1 : 1 < left) (h2 : firstN rem = some k) (h3 : elemCode (rem.take k) = n) : chk (f + 1) left rem = n := by
  rw [chk, if_pos h1, h2]; simp [h3, hn]
theorem chk_none (f : Nat) (left : Int) (rem : List UInt8) (h1 : 1 < left) (h2 : firstN rem = none) : chk (f + 1) left rem = 1 := by
  rw [chk, if_pos h1, h2]
theorem chk_end (f : Nat) (left : Int) (rem : List UInt8) (h1 : ¬ 1 < left) : chk (f + 1) left rem = (if rem.headD 1 = 0 then 0 else 3) := by
  rw [chk, if_neg h1]
set_option maxHeartbeats 4000000 in
theorem docLoop (A : Option Addr) (c : Nat) (l : List UInt8) (nn R : Int) (w : World) (hs : SB w A c l) (hl : l.length ≤ 20000) (hr : readLen l = (nn, true)) (h5 : 5 ≤ nn) (hle : nn ≤ (l.length : Int)) (hz : l.getD (nn - 1).toNat 0 = 0) (hR : chk (l.length + 1) (nn - 4) (l.drop 4) = R) :
    Calls Tryz.prog 123 #[.slice A l.length c] w fun e w' => (∃ v, e = .returned v ∧ Code4 R v) ∧ Below w.heap.size w w' := by
  obtain ⟨p, hp⟩ : ∃ p, p = l.length := ⟨_, rfl⟩
  have HL : Hid (Calls Tryz.prog 114 #[.slice A p c] w fun e w' => ∃ A1 c1, e = .returned (.tuple #[.int .i32 nn, .slice A1 (p - 4) c1, .bool true]) ∧ SB w' A1 c1 (l.drop 4) ∧ Below w.heap.size w w') := Lib.hid (by
    rw [hp]
    refine (readLength A c l w hs).mono ?_
    rintro e w' ⟨A1, n1, c1, rfl, h4, -, hb⟩
    obtain ⟨rfl, rfl, h5⟩ := h4 (by omega)
    exact ⟨A1, _, by rw [hr], h5, hb⟩)
  obtain ⟨b, off, rfl, hc⟩ := hs.cells (by omega)
  have hzc : w.cell? ⟨b, off + (nn - 1).toNat, none⟩ = some (.int .u8 0) := by
    have h := hc (nn - 1).toNat (by omega)
    rw [h]
    have hg : l.getD (nn - 1).toNat 0 = l[(nn - 1).toNat]'(by omega) := by rw [List.getD_eq_getElem?_getD, List.getElem?_eq_getElem (by omega)]; rfl
    rw [hg] at hz
    rw [hz]
    rfl
  obtain ⟨N4, g8⟩ : ∃ N4 : Nat, (nn - 1).toNat = N4 := ⟨_, rfl⟩
  rw [g8] at hzc
  have hbl := World.block_lt_of_cell? _ _ hzc
  have HD : Hid ((l.drop 4).length = p - 4 ∧ p ≤ 20000 ∧ nn ≤ 20000 ∧ chk (p + 1) (nn - 4) (l.drop 4) = R) := Lib.hid ⟨by rw [List.length_drop, hp], by omega, by omega, by rw [hp]; exact hR⟩
  rw [← hp] at hle ⊢
  have i1 : wrap32 (nn - 1) = nn - 1 := by unfold wrap32; omega
  have i4 : wrap32 (nn - 4) = nn - 4 := by unfold wrap32; omega
  have i0 : wrap64 nn = nn := by unfold wrap64; omega
  have g0 : decide ((p : Int) < nn) = false := by simp; omega
  have g5 : decide (nn < 5) = false := by simp; omega
  have g6 : (nn - 1 < (p : Int)) = True := eq_true (by omega)
  have g7 : (0 ≤ nn - 1) = True := eq_true (by omega)
  have g9 : (nn < 1) = False := eq_false (by omega)
  have g10 : (1 ≤ nn) = True := eq_true (by omega)
  clear hs hl hr h5 hle hz hR hp hc
  go_enter Tryz.func123, Tryz.ntmps123
  go_wp2_with fail
  refine HL.out.mono ?_
  rintro e w1 ⟨A1, c1, rfl, hs1, hb1⟩
  have hz1 : w1.cell? ⟨b, off + N4, none⟩ = some (.int .u8 0) := (hb1.cell hbl).trans hzc
  have HB1 := Lib.hid hb1
  have HS1 := Lib.hid hs1
  clear hb1 hs1 HL hzc
  go_wp2_with fail
  go_loopw [3, 4] (fun a b wr => ∃ (left : Int) (q : Nat) (A2 : Option Addr) (c2 : Nat), a = .int .i32 left ∧ b = .slice A2 q c2 ∧ left ≤ 20000 ∧ q ≤ 20000 ∧ Hid (∃ rem f, q = rem.length ∧ SB wr A2 c2 rem ∧ chk (f + 1) left rem = R ∧ rem.length ≤ f) ∧ Hid (Below w.heap.size w wr)) (fun a _ _ => (intOf a).toNat)
  case atStart =>
    have hD := HD.out
    refine ⟨nn - 4, p - 4, A1, c1, by rw [i4], rfl, by omega, by omega, Lib.hid ⟨l.drop 4, p, hD.1.symm, HS1.out, hD.2.2.2, by omega⟩, HB1⟩
  case round =>
    obtain ⟨left, q, A2, c2, rfl, rfl, hle, hq, ⟨rem, f, hqr, hs2, hck, hf⟩, HB2⟩ := hrel
    clear i0 i1 i4 g0 g5 g6 g7 g8 g9 g10 hz1
    by_cases hlt : 1 < left
    · have HR := Lib.hid (readEl A2 c2 rem wr hs2 (by omega))
      rw [← hqr] at HR
      have d1 : decide (1 < left) = true := decide_eq_true hlt
      have HX : Hid (q = rem.length ∧ chk (f + 1) left rem = R ∧ rem.length ≤ f ∧ 1 < left ∧ left ≤ 20000 ∧ q ≤ 20000) := Lib.hid ⟨hqr, hck, hf, hlt, hle, hq⟩
      clear hqr hs2 hck hf hlt hle hq
      go_wp2_with fail
      refine HR.out.mono ?_
      rintro e w2 ⟨(⟨k, hk, hk2, hkq, A3, c3, A4, c4, rfl, hs3, hs4⟩ | ⟨hk, A3, n3, c3, rfl⟩), hb2⟩
      · obtain ⟨x1, x2, x3, x4, x5, x6⟩ := HX.out
        obtain ⟨e1, e2⟩ := rnd1 x4 x5 hkq x6
        have HV := Lib.hid (fun wx (h : Below w2.heap.size w2 wx) => Av.elemValidate A3 c3 (rem.take k) wx (hs3.keep h) (by rw [List.length_take]; omega))
        have hkl : (rem.take k).length = k := by rw [List.length_take]; omega
        rw [hkl] at HV
        obtain ⟨ec, hec⟩ : ∃ x, x = elemCode (rem.take k) := ⟨_, rfl⟩
        rw [← hec] at HV
        have HK : Hid (firstN rem = some k ∧ 2 ≤ k ∧ k ≤ q ∧ ec = elemCode (rem.take k)) := Lib.hid ⟨hk, hk2, hkq, hec⟩
        have HS4 := Lib.hid hs4
        have HBB := Lib.hid (bthen HB2.out hb2)
        clear x1 x2 x3 x4 x5 x6 hkl hec hk hk2 hkq hs3 hs4 hb2 HR
        go_wp2_with fail
        refine (HV.out _ (Below.refl _ _)).mono ?_
        rintro e w3 ⟨v, rfl, hcode, hb3⟩
        have HB3 := Lib.hid (bthen HBB.out hb3)
        have HS5 := Lib.hid (HS4.out.keep hb3)
        clear hb3 HV HS4 HBB
        rcases hcode with ⟨h0, rfl⟩ | ⟨h5, s, rfl⟩ | ⟨h1, B1, m1, d1', B2, m2, d2, rfl⟩
        · have H0 := Lib.hid h0
          clear h0
          go_wp2_with fail
          go_roundw
          case rel =>
            obtain ⟨x1, x2, x3, x4, x5, x6⟩ := HX.out
            obtain ⟨y1, y2, y3, y4⟩ := HK.out
            obtain ⟨f', rfl⟩ : ∃ f', f = f' + 1 := ⟨f - 1, by omega⟩
            refine ⟨left - k, q - k, A4, c4, by first | rfl | simp, rfl, by omega, by omega, Lib.hid ⟨rem.drop k, f', by rw [List.length_drop]; omega, HS5.out, ?_, by rw [List.length_drop]; omega⟩, HB3⟩
            rw [← chk_step (f' + 1) left rem k x4 y1 (by rw [← y4, H0.out])]
            exact x2
          case measure =>
            have hm := meas1 HX.out.2.2.2.1 HK.out.2.1
            first | exact hm | simpa [intOf] using hm
        · have H0 := Lib.hid h5
          clear h5
          go_wp2_with fail
          go_ret
          obtain ⟨x1, x2, x3, x4, x5, x6⟩ := HX.out
          obtain ⟨y1, y2, y3, y4⟩ := HK.out
          have hRR : R = 5 := by rw [← x2]; exact chk_bad f left rem k 5 (by decide) x4 y1 (by rw [← y4, H0.out])
          exact ⟨⟨_, rfl, Or.inl (Or.inr (Or.inl ⟨hRR, s, rfl⟩))⟩, HB3.out⟩
        · have H0 := Lib.hid h1
          clear h1
          go_wp2_with fail
          go_ret
          obtain ⟨x1, x2, x3, x4, x5, x6⟩ := HX.out
          obtain ⟨y1, y2, y3, y4⟩ := HK.out
          have hRR : R = 1 := by rw [← x2]; exact chk_bad f left rem k 1 (by decide) x4 y1 (by rw [← y4, H0.out])
          exact ⟨⟨_, rfl, Or.inl (Or.inr (Or.inr ⟨hRR, _, _, _, _, _, _, rfl⟩))⟩, HB3.out⟩
      · have HK := Lib.hid hk
        have HBB := Lib.hid (bthen HB2.out hb2)
        clear hk hb2 HR
        have e1 : wrap32 ((0 : Nat) : Int) = 0 := by decide +kernel
        have e2 : wrap32 (0 : Int) = 0 := by decide +kernel
        go_wp2_with fail
        refine (newInsuf (some ⟨b, off, none⟩) A3 p c n3 c3 w2).mono ?_
        rintro e w3 ⟨rfl, hb3⟩
        have HB3 := Lib.hid (bthen HBB.out hb3)
        clear hb3
        go_wp2_with fail
        go_ret
        obtain ⟨x1, x2, x3, x4, x5, x6⟩ := HX.out
        have hRR : R = 1 := by rw [← x2]; exact chk_none f left rem x4 HK.out
        exact ⟨⟨_, rfl, Or.inl (Or.inr (Or.inr ⟨hRR, _, _, _, _, _, _, rfl⟩))⟩, HB3.out⟩
    · have d1 : decide (1 < left) = false := decide_eq_false hlt
      have hRR := chk_end f left rem hlt
      rw [hck] at hRR
      rcases rem with _ | ⟨x, r⟩
      · skip
        have hq0 : q = 0 := hqr
        subst hq0
        have HRR : Hid (R = 3) := Lib.hid (by rw [hRR]; rfl)
        clear hqr hs2 hRR hck hf hlt hle hq
        go_wp2_with fail
        go_ret
        exact ⟨⟨_, rfl, Or.inr (Or.inr (Or.inl ⟨HRR.out, rfl⟩))⟩, HB2.out⟩
      · skip
        obtain ⟨b2, o2, rfl, hc2⟩ := hs2.cells (by simp)
        have hx := hc2 0 (by simp)
        have hx' : wr.cell? ⟨b2, o2, none⟩ = some (.int .u8 (x.toNat : Int)) := hx
        obtain ⟨mm, rfl⟩ : ∃ mm, q = mm + 1 := ⟨r.length, by simpa using hqr⟩
        have d2 : ((mm + 1 : Nat) : Int) = (mm : Int) + 1 := by omega
        by_cases h0 : x = 0
        · subst h0
          have hx2 : wr.cell? ⟨b2, o2, none⟩ = some (.int .u8 0) := hx'
          have HRR : Hid (R = 0) := Lib.hid (by rw [hRR]; rfl)
          clear hqr hs2 hRR hck hf hlt hc2 hx hx' hle hq
          go_wp2_with fail
          go_ret
          exact ⟨⟨_, rfl, Or.inl (Or.inl ⟨HRR.out, rfl⟩)⟩, HB2.out⟩
        · have HRR : Hid (R = 3) := Lib.hid (by rw [hRR]; simp [h0])
          obtain ⟨z, hz⟩ : ∃ z, z = (x.toNat : Int) := ⟨_, rfl⟩
          rw [← hz] at hx'
          have hz0 : (z != 0) = true := by rw [bne_iff_ne, hz]; intro h; exact h0 (UInt8.toNat_inj.1 (by simpa using h))
          clear hqr hs2 hRR hck hf hlt hc2 hx hz h0 hle hq
          go_wp2_with fail
          go_ret
          exact ⟨⟨_, rfl, Or.inr (Or.inr (Or.inl ⟨HRR.out, rfl⟩))⟩, HB2.out⟩
theorem docInsuf (A : Option Addr) (c : Nat) (l : List UInt8) (nn : Int) (w : World) (hs : SB w A c l) (hr : readLen l = (nn, false)) :
    Calls Tryz.prog 123 #[.slice A l.length c] w fun e w' => (∃ v, e = .returned v ∧ Code4 1 v) ∧ Below w.heap.size w w' := by
  obtain ⟨p, hp⟩ : ∃ p, p = l.length := ⟨_, rfl⟩
  have HL : Hid (Calls Tryz.prog 114 #[.slice A p c] w fun e w' => ∃ A1 n1 c1, e = .returned (.tuple #[.int .i32 nn, .slice A1 n1 c1, .bool false]) ∧ Below w.heap.size w w') := Lib.hid (by
    rw [hp]
    refine (readLength A c l w hs).mono ?_
    rintro e w' ⟨A1, n1, c1, rfl, -, -, hb⟩
    exact ⟨A1, n1, c1, by rw [hr], hb⟩)
  rw [← hp]
  clear hs hr hp
  go_enter Tryz.func123, Tryz.ntmps123
  go_wp2_with fail
  refine HL.out.mono ?_
  rintro e w1 ⟨A1, n1, c1, rfl, hb1⟩
  have HB1 := Lib.hid hb1
  clear hb1 HL
  go_wp2_with fail
  refine (newInsuf A A1 p c n1 c1 w1).mono ?_
  rintro e w2 ⟨rfl, hb2⟩
  have HB2 := Lib.hid (bthen HB1.out hb2)
  clear hb2
  go_wp2_with fail
  go_ret
  exact ⟨⟨_, rfl, Or.inl (Or.inr (Or.inr ⟨rfl, _, _, _, _, _, _, rfl⟩))⟩, HB2.out⟩
theorem docLow (A : Option Addr) (c : Nat) (l : List UInt8) (nn : Int) (w : World) (hs : SB w A c l) (hr : readLen l = (nn, true)) (h0 : 0 ≤ nn) (h5 : nn < 5) (hle : nn ≤ (l.length : Int)) :
    Calls Tryz.prog 123 #[.slice A l.length c] w fun e w' => (∃ v, e = .returned v ∧ Code4 2 v) ∧ Below w.heap.size w w' := by
  obtain ⟨p, hp⟩ : ∃ p, p = l.length := ⟨_, rfl⟩
  have HL : Hid (Calls Tryz.prog 114 #[.slice A p c] w fun e w' => ∃ A1 n1 c1, e = .returned (.tuple #[.int .i32 nn, .slice A1 n1 c1, .bool true]) ∧ Below w.heap.size w w') := Lib.hid (by
    rw [hp]
    refine (readLength A c l w hs).mono ?_
    rintro e w' ⟨A1, n1, c1, rfl, -, -, hb⟩
    exact ⟨A1, n1, c1, by rw [hr], hb⟩)
  rw [← hp] at hle ⊢
  have g0 : decide ((p : Int) < nn) = false := decide_eq_false (by omega)
  have g5 : decide (nn < 5) = true := decide_eq_true h5
  have HW : Hid (wrap64 nn = nn) := Lib.hid (w64m h0 (by omega))
  clear hs hr hp h0 h5 hle
  have i0 := HW.out
  go_enter Tryz.func123, Tryz.ntmps123
  go_wp2_with fail
  refine HL.out.mono ?_
  rintro e w1 ⟨A1, n1, c1, rfl, hb1⟩
  have HB1 := Lib.hid hb1
  clear hb1 HL
  go_wp2_with fail
  go_ret
  exact ⟨⟨_, rfl, Or.inr (Or.inl ⟨rfl, rfl⟩)⟩, HB1.out⟩
theorem docLast (A : Option Addr) (c : Nat) (l : List UInt8) (nn : Int) (w : World) (hs : SB w A c l) (hr : readLen l = (nn, true)) (h5 : 5 ≤ nn) (hmx : l.length ≤ 20000) (hle : nn ≤ (l.length : Int)) (hz : ¬ l.getD (nn - 1).toNat 0 = 0) :
    Calls Tryz.prog 123 #[.slice A l.length c] w fun e w' => (∃ v, e = .returned v ∧ Code4 3 v) ∧ Below w.heap.size w w' := by
  obtain ⟨p, hp⟩ : ∃ p, p = l.length := ⟨_, rfl⟩
  have HL : Hid (Calls Tryz.prog 114 #[.slice A p c] w fun e w' => ∃ A1 n1 c1, e = .returned (.tuple #[.int .i32 nn, .slice A1 n1 c1, .bool true]) ∧ Below w.heap.size w w') := Lib.hid (by
    rw [hp]
    refine (readLength A c l w hs).mono ?_
    rintro e w' ⟨A1, n1, c1, rfl, -, -, hb⟩
    exact ⟨A1, n1, c1, by rw [hr], hb⟩)
  obtain ⟨b, off, rfl, hc⟩ := hs.cells (by omega)
  obtain ⟨z, hzz⟩ : ∃ z, z = ((l.getD (nn - 1).toNat 0).toNat : Int) := ⟨_, rfl⟩
  have hzc : w.cell? ⟨b, off + (nn - 1).toNat, none⟩ = some (.int .u8 z) := by
    have h := hc (nn - 1).toNat (by omega)
    rw [h, hzz]
    have hg : l.getD (nn - 1).toNat 0 = l[(nn - 1).toNat]'(by omega) := by rw [List.getD_eq_getElem?_getD, List.getElem?_eq_getElem (by omega)]; rfl
    rw [hg]
  have hz0 : (z != 0) = true := by rw [bne_iff_ne, hzz]; intro h; exact hz (UInt8.toNat_inj.1 (by simpa using h))
  obtain ⟨N4, g8⟩ : ∃ N4 : Nat, (nn - 1).toNat = N4 := ⟨_, rfl⟩
  rw [g8] at hzc
  have hbl := World.block_lt_of_cell? _ _ hzc
  rw [← hp] at hle hmx ⊢
  have g0 : decide ((p : Int) < nn) = false := decide_eq_false (by omega)
  have g5 : decide (nn < 5) = false := decide_eq_false (by omega)
  have g6 : (nn - 1 < (p : Int)) = True := eq_true (by omega)
  have g7 : (0 ≤ nn - 1) = True := eq_true (by omega)
  have g9 : (nn < 1) = False := eq_false (by omega)
  have g10 : (1 ≤ nn) = True := eq_true (by omega)
  have HW : Hid (wrap64 nn = nn ∧ wrap32 (nn - 1) = nn - 1) := Lib.hid ⟨w64m (by omega) (by omega), by unfold wrap32; omega⟩
  clear hs hr hp h5 hle hz hzz hc hmx
  have i0 := HW.out.1
  have i1 := HW.out.2
  go_enter Tryz.func123, Tryz.ntmps123
  go_wp2_with fail
  refine HL.out.mono ?_
  rintro e w1 ⟨A1, n1, c1, rfl, hb1⟩
  have hz1 : w1.cell? ⟨b, off + N4, none⟩ = some (.int .u8 z) := (hb1.cell hbl).trans hzc
  have HB1 := Lib.hid hb1
  clear hb1 HL hzc
  go_wp2_with fail
  go_ret
  exact ⟨⟨_, rfl, Or.inr (Or.inr (Or.inl ⟨rfl, rfl⟩))⟩, HB1.out⟩
theorem docCheck (A : Option Addr) (c : Nat) (l : List UInt8) (w : World) (hs : SB w A c l) (hl : l.length ≤ 20000) :
    Calls Tryz.prog 123 #[.slice A l.length c] w fun e w' => (∃ v, e = .returned v ∧ Code4 (docCode l) v) ∧ Below w.heap.size w w' := by
  obtain ⟨⟨nn, ok⟩, hr⟩ : ∃ x, readLen l = x := ⟨_, rfl⟩
  unfold docCode
  rw [hr]
  cases ok with
  | false => exact docInsuf A c l nn w hs hr
  | true =>
    have hn := readLen_neg (l := l) (by rw [hr])
    rw [hr] at hn
    simp only [if_true]
    by_cases h1 : (l.length : Int) < nn
    · rw [if_pos h1]
      refine (docLenErr A c l.length l nn w rfl hs hr h1).mono ?_
      rintro e w' ⟨s, rfl, ho, hb⟩
      exact ⟨⟨_, rfl, Or.inr (Or.inr (Or.inr ⟨rfl, s, rfl, ho⟩))⟩, hb⟩
    · rw [if_neg h1]
      by_cases h5 : nn < 5
      · rw [if_pos h5]
        exact docLow A c l nn w hs hr hn.1 h5 (by omega)
      · rw [if_neg h5]
        by_cases hz : l.getD (nn - 1).toNat 0 = 0
        · rw [if_pos hz]
          exact docLoop A c l nn _ w hs hl hr (by omega) (by omega) hz rfl
        · rw [if_neg hz]
          exact docLast A c l nn w hs hr (by omega) hl (by omega) hz
theorem code_inv (w : World) : Calls Tryz.prog 71 #[.iface 190 (.string ⟨#[100, 111, 99, 117, 109, 101, 110, 116, 32, 111, 114, 32, 97, 114, 114, 97, 121, 32, 108, 101, 110, 103, 116, 104, 32, 105, 115, 32, 105, 110, 118, 97, 108, 105, 100]⟩)] w fun e w' => e = .returned (.int .i64 2) ∧ Below w.heap.size w w' := by
  obtain ⟨s, hs⟩ : ∃ s : ByteArray, s = ⟨#[100, 111, 99, 117, 109, 101, 110, 116, 32, 111, 114, 32, 97, 114, 114, 97, 121, 32, 108, 101, 110, 103, 116, 104, 32, 105, 115, 32, 105, 110, 118, 97, 108, 105, 100]⟩ := ⟨_, rfl⟩
  rw [← hs]
  have t1 : ∀ W : World, (Instr.typeAssert (.iface 190 (.string s)) 126 180 true).run Tryz.prog W = .ok (.tuple #[.agg #[.slice none 0 0, .slice none 0 0], .bool false]) W := fun W => by rfl
  have t2 : ∀ W : World, (Instr.typeAssert (.iface 190 (.string s)) 126 190 true).run Tryz.prog W = .ok (.tuple #[.string s, .bool true]) W := fun W => by rfl
  have h1 : (s.toList == ([100, 111, 99, 117, 109, 101, 110, 116, 32, 111, 114, 32, 97, 114, 114, 97, 121, 32, 108, 101, 110, 103, 116, 104, 32, 105, 115, 32, 105, 110, 118, 97, 108, 105, 100] : List UInt8)) = true := by rw [hs]; decide +kernel
  have h2 : (s.toList == ([100, 111, 99, 117, 109, 101, 110, 116, 32, 111, 114, 32, 97, 114, 114, 97, 121, 32, 101, 110, 100, 32, 105, 115, 32, 109, 105, 115, 115, 105, 110, 103, 32, 110, 117, 108, 108, 32, 98, 121, 116, 101] : List UInt8)) = false := by rw [hs]; decide +kernel
  clear hs
  go_enter Tryz.func71, Tryz.ntmps71
  go_wp2
  go_ret
  exact ⟨rfl, Below.refl _ _⟩
theorem code_null (w : World) : Calls Tryz.prog 71 #[.iface 190 (.string ⟨#[100, 111, 99, 117, 109, 101, 110, 116, 32, 111, 114, 32, 97, 114, 114, 97, 121, 32, 101, 110, 100, 32, 105, 115, 32, 109, 105, 115, 115, 105, 110, 103, 32, 110, 117, 108, 108, 32, 98, 121, 116, 101]⟩)] w fun e w' => e = .returned (.int .i64 3) ∧ Below w.heap.size w w' := by
  obtain ⟨s, hs⟩ : ∃ s : ByteArray, s = ⟨#[100, 111, 99, 117, 109, 101, 110, 116, 32, 111, 114, 32, 97, 114, 114, 97, 121, 32, 101, 110, 100, 32, 105, 115, 32, 109, 105, 115, 115, 105, 110, 103, 32, 110, 117, 108, 108, 32, 98, 121, 116, 101]⟩ := ⟨_, rfl⟩
  rw [← hs]
  have t1 : ∀ W : World, (Instr.typeAssert (.iface 190 (.string s)) 126 180 true).run Tryz.prog W = .ok (.tuple #[.agg #[.slice none 0 0, .slice none 0 0], .bool false]) W := fun W => by rfl
  have t2 : ∀ W : World, (Instr.typeAssert (.iface 190 (.string s)) 126 190 true).run Tryz.prog W = .ok (.tuple #[.string s, .bool true]) W := fun W => by rfl
  have h1 : (s.toList == ([100, 111, 99, 117, 109, 101, 110, 116, 32, 111, 114, 32, 97, 114, 114, 97, 121, 32, 108, 101, 110, 103, 116, 104, 32, 105, 115, 32, 105, 110, 118, 97, 108, 105, 100] : List UInt8)) = false := by rw [hs]; decide +kernel
  have h2 : (s.toList == ([100, 111, 99, 117, 109, 101, 110, 116, 32, 111, 114, 32, 97, 114, 114, 97, 121, 32, 101, 110, 100, 32, 105, 115, 32, 109, 105, 115, 115, 105, 110, 103, 32, 110, 117, 108, 108, 32, 98, 121, 116, 101] : List UInt8)) = true := by rw [hs]; decide +kernel
  clear hs
  go_enter Tryz.func71, Tryz.ntmps71
  go_wp2
  go_ret
  exact ⟨rfl, Below.refl _ _⟩
theorem code4 {n : Int} {v : Value} (h : Code4 n v) (w : World) : Calls Tryz.prog 71 #[v] w fun e w' => e = .returned (.int .i64 n) ∧ Below w.heap.size w w' := by
  rcases h with h | ⟨rfl, rfl⟩ | ⟨rfl, rfl⟩ | ⟨rfl, s, rfl, ho⟩
  · exact code_ex h w
  · exact code_inv w
  · exact code_null w
  · exact code_len s ho w
theorem implValidate (A : Option Addr) (c : Nat) (l : List UInt8) (w : World) (hs : SB w A c l) (hl : l.length ≤ 20000) :
    Calls Tryz.prog 66 #[.slice A l.length c] w fun e w' => e = .returned (.int .i64 (docCode l)) ∧ Below w.heap.size w w' := by
  have HV := Lib.hid (docCheck A c l w hs hl)
  obtain ⟨n, hn⟩ : ∃ n, n = docCode l := ⟨_, rfl⟩
  obtain ⟨p, hp⟩ : ∃ p, p = l.length := ⟨_, rfl⟩
  rw [← hn, ← hp] at HV ⊢
  clear hs hl hn hp
  go_enter Tryz.func66, Tryz.ntmps66
  go_wp2_with fail
  refine HV.out.mono ?_
  rintro e w1 ⟨⟨v, rfl, h4⟩, hb⟩
  have HC := Lib.hid (code4 h4 w1)
  have HB := Lib.hid hb
  clear h4 hb HV
  go_wp2_with fail
  refine HC.out.mono ?_
  rintro e w2 ⟨rfl, hb2⟩
  have HB2 := Lib.hid (bthen HB.out hb2)
  clear hb2 HC
  go_wp2_with fail
  go_ret
  exact ⟨rfl, HB2.out⟩
end Ck
end Go.Proofs.YtbpopaegfhcdpaaGreatDoor.X
