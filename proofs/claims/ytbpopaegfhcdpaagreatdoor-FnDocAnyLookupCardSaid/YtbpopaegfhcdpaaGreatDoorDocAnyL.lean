/- The law FnDocAnyLookup. -/
import Derived.Test.YtbpopaegfhcdpaaGreatDoorLks
import Derived.Test.YtbpopaegfhcdpaaGreatDoorAw
import Derived.Test.YtbpopaegfhcdpaaGreatDoorStart2
import Derived.Test.YtbpopaegfhcdpaaGreatDoorDoc2
set_option linter.unusedVariables false
set_option linter.unusedSimpArgs false
set_option maxRecDepth 100000
namespace Go.Proofs.YtbpopaegfhcdpaaGreatDoor.X
open Go.RowKit Go.Proofs.YtbpopaegfhcdpaaGreatDoorW.PrintLast
namespace Lk
open Sp Al Av Aw Ck

theorem docSameRaw_same (A B : Option Addr) (c d : Nat) (l : List UInt8) (k : Int) (w : World) (hs : SB w A c l) (ht : SB w B d l) :
    Calls Tryz.prog 26 #[.agg #[.int .i64 k, .slice A l.length c], .int .i64 k, .slice B l.length d] w fun e w' => e = .returned (.bool true) ∧ Below w.heap.size w w' := by
  have k1 := str_of (hs.alloc (.cells #[.int .i64 k, .slice A l.length c] 32))
  have k2 := str_of (ht.alloc (.cells #[.int .i64 k, .slice A l.length c] 32))
  go_enter Tryz.func26, Tryz.ntmps26
  go_wp2_with fail
  go_ret
  exact ⟨rfl, balloc (Below.refl _ _) (Nat.le_refl _) _⟩
theorem docModestL (A : Option Addr) (c p : Nat) (b : Bool) (hb : b = decide ((p : Int) ≤ 5000)) (w : World) :
    Calls Tryz.prog 14 #[.slice A p c] w fun e w' => e = .returned (.bool b) ∧ Below w.heap.size w w' := by
  have hb2 := hb.symm
  clear hb
  go_enter Tryz.func14, Tryz.ntmps14
  go_wp2
  go_ret
  exact ⟨rfl, Below.refl _ _⟩
theorem copyOfL (A : Option Addr) (c : Nat) (L : List UInt8) (w wx : World) (hs : SB w A c L) (hl : L.length ≤ 5000) (hb : Below w.heap.size w wx) :
    Calls Tryz.prog 13 #[.slice A L.length c] wx fun e w' => (∃ A1 c1, e = .returned (.slice A1 L.length c1) ∧ SB w' A1 c1 L) ∧ Below wx.heap.size wx w' :=
  (fresh_of (docCopy A c L wx (hs.keep hb) (by omega))).mono fun e w' ⟨A1, c1, a1, a2, a3, a4⟩ => ⟨⟨A1, c1, a1, a2⟩, a4⟩

theorem al_long (A : Option Addr) (c : Nat) (L : List UInt8) (K : Option Addr) (kc : Nat) (ks : List ByteArray) (w : World) (h : 2147483647 < L.length) (hk : GS w K kc (strv ks)) :
    Calls Tryz.prog 5 #[.slice A L.length c, .slice K ks.length kc] w fun e w' => e = .returned (.bool true) ∧ Below w.heap.size w w' := by
  have HF := Lib.hid (fits2 K kc ks w hk)
  obtain ⟨p, hp⟩ : ∃ p, p = L.length := ⟨_, rfl⟩
  obtain ⟨n0, hn0⟩ : ∃ p, p = ks.length := ⟨_, rfl⟩
  rw [← hp] at h
  rw [← hn0] at HF
  rw [← hp, ← hn0]
  have b1 : decide ((2147483647 : Int) < (p : Int)) = true := decide_eq_true (by omega)
  clear hp hk hn0 h
  go_enter Tryz.func5, Tryz.ntmps5
  go_wp2_with fail
  go_ret
  exact ⟨rfl, Below.refl _ _⟩
/-- What ends a law early. -/
theorem al_false (A : Option Addr) (c : Nat) (L : List UInt8) (K : Option Addr) (kc : Nat) (ks : List ByteArray) (w : World) (h0 : L.length ≤ 2147483647) (h1 : 5000 < L.length ∨ 20 < ks.length) (hk : GS w K kc (strv ks)) :
    Calls Tryz.prog 5 #[.slice A L.length c, .slice K ks.length kc] w fun e w' => e = .returned (.bool true) ∧ Below w.heap.size w w' := by
  have HF := Lib.hid (fits2 K kc ks w hk)
  obtain ⟨p, hp⟩ : ∃ p, p = L.length := ⟨_, rfl⟩
  obtain ⟨n0, hn0⟩ : ∃ p, p = ks.length := ⟨_, rfl⟩
  rw [← hp] at h0
  rw [← hp, ← hn0] at h1
  rw [← hn0] at HF
  rw [← hp, ← hn0]
  obtain ⟨md, hmd⟩ : ∃ b, b = decide ((p : Int) ≤ 5000) := ⟨_, rfl⟩
  obtain ⟨mn, hmn⟩ : ∃ b, decide ((20 : Int) < (n0 : Int)) = b := ⟨_, rfl⟩
  have hor : md = false ∨ mn = true := by
    rcases h1 with h | h
    · exact .inl (by rw [hmd]; exact decide_eq_false (by omega))
    · exact .inr (by rw [← hmn]; exact decide_eq_true (by omega))
  have HM := Lib.hid (fun wx => docModestL A c p md hmd wx)
  have b1 : decide ((2147483647 : Int) < (p : Int)) = false := decide_eq_false (by omega)
  have HOR := Lib.hid hor
  clear hp hk hn0 h0 h1 hor hmd
  go_enter Tryz.func5, Tryz.ntmps5
  go_wp2_with fail
  refine HF.out.mono ?_
  rintro e w1 ⟨b, rfl, hb1⟩
  have HB1 := Lib.hid hb1
  clear hb1 HF
  cases b with
  | false =>
    go_wp2_with fail
    go_ret
    exact ⟨rfl, HB1.out⟩
  | true =>
    go_wp2_with fail
    refine (HM.out _).mono ?_
    rintro e w2 ⟨rfl, hb2⟩
    have HB2 := Lib.hid (bthen HB1.out hb2)
    have hor := HOR.out
    clear hb2 HM
    rcases hor with rfl | rfl
    · go_wp2_with fail
      go_ret
      exact ⟨rfl, HB2.out⟩
    · cases md
      · go_wp2_with fail
        go_ret
        exact ⟨rfl, HB2.out⟩
      · go_wp2_with fail
        go_ret
        exact ⟨rfl, HB2.out⟩
set_option maxHeartbeats 4000000 in
theorem al_main (a1 a2 a3 : Addr) (A : Option Addr) (c : Nat) (L : List UInt8) (K : Option Addr) (kc : Nat) (ks : List ByteArray) (w : World) (hs : SB w A c L) (hk : GS w K kc (strv ks)) (hS : SentD w a1 a2 a3) (hl : L.length ≤ 5000) (hkl : ks.length ≤ 20) (hsz : ∀ s ∈ ks, s.size ≤ 140737488351232) :
    Calls Tryz.prog 5 #[.slice A L.length c, .slice K ks.length kc] w fun e w' => e = .returned (.bool true) ∧ Below w.heap.size w w' := by
  have HF := Lib.hid (fits2 K kc ks w hk)
  have HCp := Lib.hid (fun wx (hb : Below w.heap.size w wx) => copyOfL A c L w wx hs hl hb)
  have HNA := Lib.hid (fun wx (hb : Below w.heap.size w wx) => docNarrow ks L A c K kc wx (hs.keep hb) (hk.keep hb) hl hkl)
  have HSE := Lib.hid (fun wx (hb : Below w.heap.size w wx) => docSeek ks L A c K kc wx (hs.keep hb) (hk.keep hb) hl hkl)
  have HLK := Lib.hid (fun (hn : narrow ks L = false) A1 c1 wx (hb : Below w.heap.size w wx) (h : SB wx A1 c1 L) => implLookupA a1 a2 a3 ks L A1 c1 K kc wx h (hk.keep hb) (hS.keep hb) hl hkl hn)
  have HLP := Lib.hid (fun (hn : narrow ks L = false) A1 c1 wx (hb : Below w.heap.size w wx) (h : SB wx A1 c1 L) => implLookupPlain a1 a2 a3 ks L A1 c1 K kc wx h (hk.keep hb) (hS.keep hb) hl hkl hn)
  have HK0 := Lib.hid hk
  have HSZ := Lib.hid hsz
  obtain ⟨p, hp⟩ : ∃ p, p = L.length := ⟨_, rfl⟩
  obtain ⟨n0, hn0⟩ : ∃ p, p = ks.length := ⟨_, rfl⟩
  have HN0 := Lib.hid hn0
  obtain ⟨SK, hSK⟩ : ∃ x, x = seek ks L := ⟨_, rfl⟩
  obtain ⟨NB, hNB⟩ : ∃ x, x = narrow ks L := ⟨_, rfl⟩
  rw [← hSK] at HSE HLK HLP
  rw [← hNB] at HNA HLK HLP
  obtain ⟨T, hT⟩ : ∃ x, x = SK.1 := ⟨_, rfl⟩
  obtain ⟨V, hV⟩ : ∃ x, x = SK.2.1 := ⟨_, rfl⟩
  obtain ⟨CC, hCC⟩ : ∃ x, x = SK.2.2 := ⟨_, rfl⟩
  obtain ⟨M, hM⟩ : ∃ x, x = V.length := ⟨_, rfl⟩
  rw [← hp, ← hn0, ← hT, ← hV, ← hCC, ← hM] at HSE HLK
  rw [← hp, ← hn0, ← hT, ← hV, ← hM] at HLP
  rw [← hp, ← hn0] at HNA
  rw [← hp] at HCp hl
  rw [← hn0] at HF hkl
  rw [← hp, ← hn0]
  have HSR : Hid (∀ (A B : Option Addr) (c d : Nat) (wx : World), SB wx A c V → SB wx B d V → Calls Tryz.prog 26 #[.agg #[.int .i64 T, .slice A M c], .int .i64 T, .slice B M d] wx fun e w' => e = .returned (.bool true) ∧ Below wx.heap.size wx w') := Lib.hid fun A B c d wx h1 h2 => by
    have hx := docSameRaw_same A B c d V T wx h1 h2
    rw [← hM] at hx
    exact hx
  have HM := Lib.hid (fun wx => docModestL A c p true (decide_eq_true (by omega)).symm wx)
  have b1 : decide ((2147483647 : Int) < (p : Int)) = false := decide_eq_false (by omega)
  have b2 : decide ((20 : Int) < (n0 : Int)) = false := decide_eq_false (by omega)
  clear hs hk hS hl hsz hp hn0 hSK hNB hT hV hCC hM
  go_enter Tryz.func5, Tryz.ntmps5
  go_wp2_with fail
  refine HF.out.mono ?_
  rintro e w1 ⟨b, rfl, hb1⟩
  have HB1 := Lib.hid hb1
  clear hb1 HF
  cases b with
  | false =>
    go_wp2_with fail
    go_ret
    exact ⟨rfl, HB1.out⟩
  | true =>
    go_wp2_with fail
    refine (HM.out _).mono ?_
    rintro e w2 ⟨rfl, hb2⟩
    have HB2 := Lib.hid (bthen HB1.out hb2)
    clear hb2 HM
    go_wp2_with fail
    go_loopw [5] (fun a wr => ∃ i : Nat, i ≤ n0 ∧ a = .int .i64 i ∧ Hid (Below w.heap.size w wr)) (fun a _ => n0 - (intOf a).toNat)
    case atStart => exact ⟨0, Nat.zero_le _, rfl, HB2⟩
    case round =>
      obtain ⟨i, hi, rfl, HBr⟩ := hrel
      clear b1 b2 HB1 HB2
      by_cases hlt : i < n0
      · have hik : i < ks.length := by rw [← HN0.out]; exact hlt
        obtain ⟨kb, ko, rfl, hcs⟩ := (HK0.out.keep HBr.out).cells (by rw [strv_len]; omega)
        have hci : wr.cell? ⟨kb, ko + i, none⟩ = some (.string ks[i]) := by have h := hcs i (by rw [strv_len]; exact hik); simpa [strv] using h
        have hss := HSZ.out ks[i] (List.getElem_mem hik)
        obtain ⟨si, hsi⟩ : ∃ x, x = ks[i] := ⟨_, rfl⟩
        rw [← hsi] at hci hss
        have HPL := Lib.hid (fun wx => docPlain si wx (by omega))
        obtain ⟨pb, hpb⟩ : ∃ x, x = plainB si.data.toList := ⟨_, rfl⟩
        rw [← hpb] at HPL
        have HI : Hid (wrap64 ((i : Int) + 1) = (i : Int) + 1) := Lib.hid (w64i i (by omega))
        obtain ⟨lb, hlb⟩ : ∃ b, decide ((200 : Int) < (si.size : Int)) = b := ⟨_, rfl⟩
        clear hcs hsi hss hpb hik
        go_wp2_with fail
        refine (HPL.out _).mono ?_
        rintro e w4 ⟨rfl, rfl⟩
        clear HPL
        cases pb with
        | false =>
          go_wp2_with fail
          go_ret
          exact ⟨rfl, HBr.out⟩
        | true =>
          cases lb with
          | true =>
            go_wp2_with fail
            go_ret
            exact ⟨rfl, HBr.out⟩
          | false =>
            go_wp2_with fail
            go_roundw
            case rel => exact ⟨i + 1, by omega, by first | rfl | (rw [HI.out]; simp), HBr⟩
            case measure => first | (rw [HI.out]; simp [intOf]; omega) | (simp [intOf]; omega)
      · obtain rfl : i = n0 := by omega
        clear hlt hi
        go_wp2_with fail
        refine (HNA.out _ HBr.out).mono ?_
        rintro e w4 ⟨rfl, hb4⟩
        have HB4 := Lib.hid (bthen HBr.out hb4)
        clear hb4 HNA HBr
        cases NB with
        | true =>
          go_wp2_with fail
          go_ret
          exact ⟨rfl, HB4.out⟩
        | false =>
          have HLK2 := Lib.hid (HLK.out rfl)
          have HLP2 := Lib.hid (HLP.out rfl)
          clear HLK HLP
          go_wp2_with fail
          refine (HSE.out _ HB4.out).mono ?_
          rintro e w5 ⟨⟨A5, c5, rfl, hs5⟩, hb5⟩
          have HB5 := Lib.hid (bthen HB4.out hb5)
          have HS5 := Lib.hid hs5
          clear hb5 hs5 HSE HB4
          go_wp2_with fail
          refine (HCp.out _ (balloc HB5.out HB5.out.size _)).mono ?_
          rintro e w6 ⟨⟨A6, c6, rfl, hs6⟩, hb6⟩
          have hx6 : Below (w5.heap.size + 1) (w5.alloc (.cells #[.int .i64 T, .slice A5 M c5] 32)) w6 := by simpa using hb6
          have p0 := boxc hx6 0
          have p1 := boxc hx6 1
          simp only [List.getElem?_cons_succ, List.getElem?_cons_zero] at p0 p1
          have HB56 := boxb hx6
          have HB6 := Lib.hid (bthen HB5.out HB56)
          have HS56 := Lib.hid (HS5.out.keep HB56)
          have HS6 := Lib.hid hs6
          clear hb6 hs6 HS5 HB56 hx6
          go_wp2_with fail
          refine (HLK2.out A6 c6 _ HB6.out HS6.out).mono ?_
          rintro e w7 ⟨A7, c7, rfl, hs7, hb7⟩
          have p0' := (hb7.cell (World.block_lt_of_cell? _ _ p0)).trans p0
          have p1' := (hb7.cell (World.block_lt_of_cell? _ _ p1)).trans p1
          have HB7 := Lib.hid (bthen HB6.out hb7)
          have HS57 := Lib.hid (HS56.out.keep hb7)
          have HS7 := Lib.hid hs7
          clear hb7 hs7 HS6 HS56 HLK2 p0 p1
          go_wp2_with fail
          refine (HCp.out _ (balloc HB7.out HB7.out.size _)).mono ?_
          rintro e w8 ⟨⟨A8, c8, rfl, hs8⟩, hb8⟩
          have hx8 : Below (w7.heap.size + 1) (w7.alloc (.cells #[.int .i64 T, .slice A7 M c7] 32)) w8 := by simpa using hb8
          have q0 := boxc hx8 0
          have q1 := boxc hx8 1
          simp only [List.getElem?_cons_succ, List.getElem?_cons_zero] at q0 q1
          have HB78 := boxb hx8
          have p0 := (HB78.cell (World.block_lt_of_cell? _ _ p0')).trans p0'
          have p1 := (HB78.cell (World.block_lt_of_cell? _ _ p1')).trans p1'
          have HB8 := Lib.hid (bthen HB7.out HB78)
          have HS58 := Lib.hid (HS57.out.keep HB78)
          have HS78 := Lib.hid (HS7.out.keep HB78)
          have HS8 := Lib.hid hs8
          clear hb8 hs8 HS57 HS7 HB78 hx8 p0' p1'
          go_wp2_with fail
          refine (HLP2.out A8 c8 _ HB8.out HS8.out).mono ?_
          rintro e w9 ⟨A9, c9, rfl, hs9, hb9⟩
          have HB9 := Lib.hid (bthen HB8.out hb9)
          have p0' := (hb9.cell (World.block_lt_of_cell? _ _ p0)).trans p0
          have p1' := (hb9.cell (World.block_lt_of_cell? _ _ p1)).trans p1
          have q0' := (hb9.cell (World.block_lt_of_cell? _ _ q0)).trans q0
          have q1' := (hb9.cell (World.block_lt_of_cell? _ _ q1)).trans q1
          have HS59 := Lib.hid (HS58.out.keep hb9)
          have HS79 := Lib.hid (HS78.out.keep hb9)
          have HS9 := Lib.hid hs9
          clear hb9 hs9 HS58 HS78 HLP2 p0 p1 q0 q1
          go_wp2_with fail
          refine (docAwake _).mono ?_
          rintro e w10 ⟨rfl, hb10⟩
          have hx10 : Below (w9.heap.size + 1) (w9.alloc (.cells #[.int .i64 T, .slice A9 M c9] 32)) w10 := by simpa using hb10
          have r0 := boxc hx10 0
          have r1 := boxc hx10 1
          simp only [List.getElem?_cons_succ, List.getElem?_cons_zero] at r0 r1
          have HB910 := boxb hx10
          have HB10 := Lib.hid (bthen HB9.out HB910)
          have p0 := (HB910.cell (World.block_lt_of_cell? _ _ p0')).trans p0'
          have p1 := (HB910.cell (World.block_lt_of_cell? _ _ p1')).trans p1'
          have q0 := (HB910.cell (World.block_lt_of_cell? _ _ q0')).trans q0'
          have q1 := (HB910.cell (World.block_lt_of_cell? _ _ q1')).trans q1'
          have HS510 := Lib.hid (HS59.out.keep HB910)
          have HS710 := Lib.hid (HS79.out.keep HB910)
          have HS910 := Lib.hid (HS9.out.keep HB910)
          clear hb10 HB910 hx10 HS59 HS79 HS9 p0' p1' q0' q1'
          go_wp2_with fail
          refine (HSR.out A7 A5 c7 c5 _ HS710.out HS510.out).mono ?_
          rintro e w11 ⟨rfl, hb11⟩
          have HB11 := Lib.hid (bthen HB10.out hb11)
          have p0' := (hb11.cell (World.block_lt_of_cell? _ _ p0)).trans p0
          have p1' := (hb11.cell (World.block_lt_of_cell? _ _ p1)).trans p1
          have r0' := (hb11.cell (World.block_lt_of_cell? _ _ r0)).trans r0
          have r1' := (hb11.cell (World.block_lt_of_cell? _ _ r1)).trans r1
          have HS511 := Lib.hid (HS510.out.keep hb11)
          have HS911 := Lib.hid (HS910.out.keep hb11)
          clear hb11 p0 p1 q0 q1 r0 r1
          go_wp2_with fail
          refine (HSR.out A9 A5 c9 c5 _ HS911.out HS511.out).mono ?_
          rintro e w12 ⟨rfl, hb12⟩
          have HB12 := Lib.hid (bthen HB11.out hb12)
          clear hb12
          go_wp2_with fail
          go_ret
          exact ⟨by first | rfl | simp, HB12.out⟩
theorem fnDocAnyLookup_walk (a1 a2 a3 : Addr) (A : Option Addr) (c : Nat) (L : List UInt8) (K : Option Addr) (kc : Nat) (ks : List ByteArray) (w : World) (hs : SB w A c L) (hk : GS w K kc (strv ks)) (hS : SentD w a1 a2 a3) (hsz : ∀ s ∈ ks, s.size ≤ 140737488351232) :
    Calls Tryz.prog 5 #[.slice A L.length c, .slice K ks.length kc] w fun e w' => e = .returned (.bool true) ∧ Below w.heap.size w w' := by
  by_cases h1 : 2147483647 < L.length
  · exact al_long A c L K kc ks w h1 hk
  by_cases h2 : 5000 < L.length ∨ 20 < ks.length
  · exact al_false A c L K kc ks w (by omega) h2 hk
  exact al_main a1 a2 a3 A c L K kc ks w hs hk hS (by omega) (by omega) hsz
end Lk
end Go.Proofs.YtbpopaegfhcdpaaGreatDoor.X
