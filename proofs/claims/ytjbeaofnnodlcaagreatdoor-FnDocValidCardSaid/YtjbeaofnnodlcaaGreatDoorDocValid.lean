/- Walk of the law FnDocValid. -/
import Derived.Test.YtjbeaofnnodlcaaGreatDoorFlPl
import Derived.Test.YtjbeaofnnodlcaaGreatDoorDocArr
import Derived.Test.YtjbeaofnnodlcaaGreatDoorRawVal
import Derived.Test.YtjbeaofnnodlcaaGreatDoorAw
set_option linter.unusedVariables false
set_option linter.unusedSimpArgs false
set_option maxRecDepth 100000
namespace Go.Proofs.YtjbeaofnnodlcaaGreatDoor.X
open Go.RowKit Go.Proofs.YtjbeaofnnodlcaaGreatDoorW.PrintLast
theorem ElemsAt.keep {w w1 : World} {K' : Option Addr} {d : Nat} {ks : List (ByteArray × Val)} (h : ElemsAt w K' d ks) (hb : Below w.heap.size w w1) : ElemsAt w1 K' d ks :=
  ⟨h.1, h.2.1, h.2.2.1.imp id fun ⟨blk, off, e, h⟩ => ⟨blk, off, e, RKs.keep hb h⟩, h.2.2.2⟩
namespace Ck
open Sp Al Av Aw
theorem rv_kids {w : World} {K' : Option Addr} {d : Nat} {ks : List (ByteArray × Val)} (hk : ElemsAt w K' d ks) (k : Int) :
    RV w (.mk k ⟨#[]⟩ ⟨#[]⟩ 0 0 0 [] ks) [.int .i64 k, .string ⟨#[]⟩, .string ⟨#[]⟩, .int .i64 0, .int .u64 0, .int .u64 0, .slice none 0 0, .slice K' ks.length d] := by
  simp only [RV]
  exact ⟨none, 0, K', d, rfl, SB.nil w, hk.1, hk.2.1, hk.2.2.1⟩
theorem ok_kids {k : Int} {ks : List (ByteArray × Val)} (hk : okK ks) (hl : ks.length ≤ 140737488351232) (h0 : 0 ≤ k) (h1 : k ≤ 255) : okv (.mk k ⟨#[]⟩ ⟨#[]⟩ 0 0 0 [] ks) := by
  simp only [okv]
  exact ⟨by decide, by decide, by simp, hl, by omega, by omega, by omega, by omega, hk⟩
theorem docFineKids (K' : Option Addr) (d : Nat) (ks : List (ByteArray × Val)) (w : World) (hk : ElemsAt w K' d ks) :
    Calls Tryz.prog 12 #[.slice K' ks.length d] w fun e w' => e = .returned (.bool (fine (.mk 3 ⟨#[]⟩ ⟨#[]⟩ 0 0 0 [] ks) 300 5000)) ∧ Below w.heap.size w w' := by
  have HF := Lib.hid (docFine (.mk 3 ⟨#[]⟩ ⟨#[]⟩ 0 0 0 [] ks) _ w (ok_kids hk.2.2.2.1 hk.2.2.2.2 (by omega) (by omega)) (rv_kids hk 3))
  obtain ⟨z, hz⟩ : ∃ z, z = fine (.mk 3 ⟨#[]⟩ ⟨#[]⟩ 0 0 0 [] ks) 300 5000 := ⟨_, rfl⟩
  obtain ⟨n, hn⟩ : ∃ n, n = ks.length := ⟨_, rfl⟩
  rw [← hz, ← hn] at HF
  rw [← hz, ← hn]
  clear hz hn hk
  go_enter Tryz.func12, Tryz.ntmps12
  go_wp2_with fail
  refine HF.out.mono ?_
  rintro e w1 ⟨rfl, hb⟩
  have HB := Lib.hid hb
  clear hb HF
  go_wp2_with fail
  go_ret
  exact ⟨rfl, HB.out⟩
/-- The cells of one element. -/
structure E9 (w : World) (blk o : Nat) (nm : ByteArray) (c0 c1 c2 c3 c4 c5 c6 c7 : Value) : Prop where
  n : w.cell? ⟨blk, o, none⟩ = some (.string nm)
  e0 : w.cell? ⟨blk, o + 1, none⟩ = some c0
  e1 : w.cell? ⟨blk, o + 1 + 1, none⟩ = some c1
  e2 : w.cell? ⟨blk, o + 1 + 2, none⟩ = some c2
  e3 : w.cell? ⟨blk, o + 1 + 3, none⟩ = some c3
  e4 : w.cell? ⟨blk, o + 1 + 4, none⟩ = some c4
  e5 : w.cell? ⟨blk, o + 1 + 5, none⟩ = some c5
  e6 : w.cell? ⟨blk, o + 1 + 6, none⟩ = some c6
  e7 : w.cell? ⟨blk, o + 1 + 7, none⟩ = some c7
theorem E9.keep {w w1 : World} {blk o : Nat} {nm : ByteArray} {c0 c1 c2 c3 c4 c5 c6 c7 : Value} (h : E9 w blk o nm c0 c1 c2 c3 c4 c5 c6 c7) (hb : Below w.heap.size w w1) : E9 w1 blk o nm c0 c1 c2 c3 c4 c5 c6 c7 :=
  ⟨(hb.cell (World.block_lt_of_cell? _ _ h.n)).trans h.n, (hb.cell (World.block_lt_of_cell? _ _ h.e0)).trans h.e0, (hb.cell (World.block_lt_of_cell? _ _ h.e1)).trans h.e1, (hb.cell (World.block_lt_of_cell? _ _ h.e2)).trans h.e2, (hb.cell (World.block_lt_of_cell? _ _ h.e3)).trans h.e3, (hb.cell (World.block_lt_of_cell? _ _ h.e4)).trans h.e4, (hb.cell (World.block_lt_of_cell? _ _ h.e5)).trans h.e5, (hb.cell (World.block_lt_of_cell? _ _ h.e6)).trans h.e6, (hb.cell (World.block_lt_of_cell? _ _ h.e7)).trans h.e7⟩
/-- What the loop asks of one element. -/
structure OneOk (w : World) (n q : Nat) (K' : Option Addr) : Prop where
  ex : ∃ blk off nm c0 c1 c2 c3 c4 c5 c6 c7 k, K' = some ⟨blk, off, none⟩ ∧ E9 w blk (off + q * 9) nm c0 c1 c2 c3 c4 c5 c6 c7 ∧
    (∀ wx, Below w.heap.size w wx → Calls Tryz.prog 16 #[.agg #[.string nm, c0, c1, c2, c3, c4, c5, c6, c7]] wx fun e w' => ∃ A m c, e = .returned (.slice A m c) ∧ Below wx.heap.size wx w' ∧
      ∀ wy, Below w'.heap.size w' wy → Calls Tryz.prog 15 #[.slice A m c] wy fun e w' => e = .returned (.int .i64 0) ∧ Below wy.heap.size wy w') ∧
    (∀ wx, Below w.heap.size w wx → Calls Tryz.prog 18 #[.agg #[c0, c1, c2, c3, c4, c5, c6, c7]] wx fun e w' => ∃ A m c, e = .returned (.agg #[.int .i64 k, .slice A m c]) ∧ Below wx.heap.size wx w' ∧
      ∀ wy, Below w'.heap.size w' wy → Calls Tryz.prog 17 #[.agg #[.int .i64 k, .slice A m c]] wy fun e w' => e = .returned (.int .i64 0) ∧ Below wy.heap.size wy w')
theorem one_ok {w : World} {K' : Option Addr} {d : Nat} {ks : List (ByteArray × Val)} (hk : ElemsAt w K' d ks) (hr : rightK 3 ks 0 200 = true) (hl : (docElems ks).length ≤ 14600) (q : Nat) (hq : q < ks.length) : OneOk w ks.length q K' := by
  obtain ⟨blk, off, rfl, hks⟩ : ∃ blk off, K' = some ⟨blk, off, none⟩ ∧ RKs w blk off ks := by
    rcases hk.2.2.1 with h | h
    · rw [h] at hq; exact absurd hq (Nat.not_lt_zero _)
    · exact h
  obtain ⟨c0, c1, c2, c3, c4, c5, c6, c7, hv, hn, e0, e1, e2, e3, e4, e5, e6, e7⟩ := hks.cells_ q hq
  obtain ⟨v1, v2, v3, v4, v5⟩ := elem_valid hr hl q hq
  refine ⟨blk, off, _, c0, c1, c2, c3, c4, c5, c6, c7, (ks[q]).2.kind, rfl, ⟨hn, e0, e1, e2, e3, e4, e5, e6, e7⟩, fun wx hx => ?_, fun wx hx => ?_⟩
  · refine (docElem_calls _ (ks[q]).2 c0 c1 c2 c3 c4 c5 c6 c7 wx (by omega) (hv.keep hx)).mono ?_
    rintro e w' ⟨v, rfl, ho, hb⟩
    obtain ⟨A, c, rfl, hs, -⟩ := ho.sb
    refine ⟨A, _, c, rfl, hb, fun wy hy => ?_⟩
    have h := implValidateElement A c _ wy (hs.keep hy) (by omega)
    rw [v1] at h
    exact h
  · refine (docRaw (ks[q]).2 _ wx (by omega) (hv.keep hx)).mono ?_
    rintro e w' ⟨A, c, rfl, hs, hb⟩
    exact ⟨A, _, c, rfl, hb, fun wy hy => implValidateValue A c _ _ wy (hs.keep hy) v4.1 v4.2 v3⟩
theorem OneOk.keep {w w1 : World} {n q : Nat} {K' : Option Addr} (h : OneOk w n q K') (hb : Below w.heap.size w w1) : OneOk w1 n q K' := by
  obtain ⟨blk, off, nm, c0, c1, c2, c3, c4, c5, c6, c7, k, e, h9, h1, h2⟩ := h.ex
  exact ⟨blk, off, nm, c0, c1, c2, c3, c4, c5, c6, c7, k, e, h9.keep hb, fun wx hx => h1 wx (bthen hb hx), fun wx hx => h2 wx (bthen hb hx)⟩
set_option maxHeartbeats 3200000 in
theorem dv_main (K0 : Option Addr) (d0 : Nat) (ks : List (ByteArray × Val)) (K1 : Option Addr) (d1 : Nat) (vs : List Val) (w : World) (hk : ElemsAt w K0 d0 ks) (hv : ValsAt w K1 d1 vs) (hl0 : ks.length ≤ 2147483647) (hl1 : vs.length ≤ 2147483647) (htab : Lib.TabIs Tryz.prog w "internal/strconv.uint64pow10" .u64 Lib.pow10Tab) (hS : Sents w) :
    Calls Tryz.prog 4 #[.slice K0 ks.length d0, .slice K1 vs.length d1] w fun e w' => e = .returned (.bool true) ∧ Below w.heap.size w w' := by
  have HArr := Lib.hid (docArray vs K1 d1 w hv hl1)
  have HFK := Lib.hid (fun wx (hb : Below w.heap.size w wx) => docFineKids K0 d0 ks wx (hk.keep hb))
  have hok4 : okv (.mk 4 ⟨#[]⟩ ⟨#[]⟩ 0 0 0 [] (arrK vs)) := ok_kids (arrKF_ok vs 0 hv.2.2.2.1 (by omega)) (by show (arrKF 0 vs).length ≤ _; rw [arrKF_len]; omega) (by omega) (by omega)
  have HFA := Lib.hid (fun cs wx (h : RV wx (.mk 4 ⟨#[]⟩ ⟨#[]⟩ 0 0 0 [] (arrK vs)) cs) => docFine _ cs wx hok4 h)
  have HAw := Lib.hid (fun wx => docAwake wx)
  obtain ⟨f3, hf3⟩ : ∃ z, z = fine (.mk 3 ⟨#[]⟩ ⟨#[]⟩ 0 0 0 [] ks) 300 5000 := ⟨_, rfl⟩
  obtain ⟨f4, hf4⟩ : ∃ z, z = fine (.mk 4 ⟨#[]⟩ ⟨#[]⟩ 0 0 0 [] (arrK vs)) 300 5000 := ⟨_, rfl⟩
  have HKB : Hid (f3 = true → ∀ wx, Below w.heap.size w wx → Calls Tryz.prog 14 #[.slice K0 ks.length d0] wx fun e w' => ∃ A m c, e = .returned (.slice A m c) ∧ Below wx.heap.size wx w' ∧
      ∀ wy, Below w'.heap.size w' wy → Calls Tryz.prog 7 #[.slice A m c] wy fun e w' => e = .returned (.int .i64 0) ∧ Below wy.heap.size wy w') := Lib.hid fun h wx hx => by
    obtain ⟨g1, g2⟩ := fine_kids (.inl rfl) (hf3.symm.trans h)
    have hk' := hk.keep hx
    refine (docBytes_calls ks K0 d0 wx (by omega) hk'.1 hk'.2.1 hk'.2.2.1).mono ?_
    rintro e w' ⟨v, rfl, ho, hb⟩
    obtain ⟨A, c, rfl, hs, -⟩ := ho.sb
    obtain ⟨-, b2, -, -⟩ := bytes_read ks (by omega)
    refine ⟨A, _, c, rfl, hb, fun wy hy => ?_⟩
    have h := implValidate A c _ wy (hs.keep hy) (by omega)
    rw [docCode_right 3 ks 200 g1 (by omega)] at h
    exact h
  have HAB : Hid (f4 = true → ∀ wx K' d', Below w.heap.size w wx → (arrK vs).length ≤ d' → d' ≤ 9223372036854775807 → (arrK vs = [] ∨ ∃ blk off, K' = some ⟨blk, off, none⟩ ∧ RKs wx blk off (arrK vs)) → Calls Tryz.prog 14 #[.slice K' (arrK vs).length d'] wx fun e w' => ∃ A m c, e = .returned (.slice A m c) ∧ Below wx.heap.size wx w' ∧
      ∀ wy, Below w'.heap.size w' wy → Calls Tryz.prog 10 #[.slice A m c] wy fun e w' => e = .returned (.int .i64 0) ∧ Below wy.heap.size wy w') := Lib.hid fun h wx K' d' hx q1 q2 q3 => by
    obtain ⟨g1, g2⟩ := fine_kids (.inr rfl) (hf4.symm.trans h)
    refine (docBytes_calls (arrK vs) K' d' wx (by omega) q1 q2 q3).mono ?_
    rintro e w' ⟨v, rfl, ho, hb⟩
    obtain ⟨A, c, rfl, hs, -⟩ := ho.sb
    obtain ⟨-, b2, -, -⟩ := bytes_read (arrK vs) (by omega)
    refine ⟨A, _, c, rfl, hb, fun wy hy => ?_⟩
    have hxy := bthen (bthen hx hb) hy
    have h := implValidateArray A c _ wy (hs.keep hy) (by omega) (tab_keep htab hxy) (hS.keep hxy)
    rw [arrTold_right (arrK vs) 200 g1 (by omega)] at h
    exact h
  have HON : Hid (f3 = true → ∀ q, q < ks.length → OneOk w ks.length q K0) := Lib.hid fun h q hq => by
    obtain ⟨g1, g2⟩ := fine_kids (.inl rfl) (hf3.symm.trans h)
    exact one_ok hk g1 g2 q hq
  rw [← hf3] at HFK
  rw [← hf4] at HFA
  obtain ⟨n, hn⟩ : ∃ n, n = ks.length := ⟨_, rfl⟩
  obtain ⟨m, hm⟩ : ∃ n, n = vs.length := ⟨_, rfl⟩
  rw [← hn] at HFK HKB HON hl0 ⊢
  rw [← hm] at HArr hl1 ⊢
  have b1 : decide ((2147483647 : Int) < (n : Int)) = false := decide_eq_false (by omega)
  have b2 : decide ((2147483647 : Int) < (m : Int)) = false := decide_eq_false (by omega)
  have HL0 := Lib.hid hl0
  clear hk hv hl0 hl1 htab hS hok4 hf3 hf4 hn hm
  go_enter Tryz.func4, Tryz.ntmps4
  go_wp2_with fail
  refine HArr.out.mono ?_
  rintro e w1 ⟨cs, rfl, hrv, hb1⟩
  have HR0 := Lib.hid hrv
  simp only [RV] at hrv
  obtain ⟨A, c, K', d', rfl, hs, hd, hd2, hkk⟩ := hrv
  have HKK := Lib.hid (And.intro hd (And.intro hd2 hkk))
  obtain ⟨p, hp⟩ : ∃ p, p = (arrK vs).length := ⟨_, rfl⟩
  rw [← hp] at HAB HKK HR0 ⊢
  have HB1 := Lib.hid hb1
  clear hs hd hd2 hkk hb1 HArr b1 b2 hp
  have HB1a : Hid (Below w.heap.size w (w1.alloc (.cells #[.int .i64 4, .string ⟨#[]⟩, .string ⟨#[]⟩, .int .i64 0, .int .u64 0, .int .u64 0, .slice A 0 c, .slice K' p d'] 32))) := Lib.hid (balloc HB1.out HB1.out.size _)
  go_wp2_with fail
  refine (HFK.out _ HB1a.out).mono ?_
  rintro e w2 ⟨rfl, hb2⟩
  have hx2 : Below (w1.heap.size + 1) (w1.alloc (.cells #[.int .i64 4, .string ⟨#[]⟩, .string ⟨#[]⟩, .int .i64 0, .int .u64 0, .int .u64 0, .slice A 0 c, .slice K' p d'] 32)) w2 := hb2.mono (by simp)
  have HX2 := Lib.hid hx2
  have HB2 := Lib.hid (bthen HB1a.out hb2)
  cases f3 with
  | false =>
    clear hb2 hx2
    go_wp2_with fail
    go_ret
    exact ⟨rfl, HB2.out⟩
  | true =>
  have q0 := boxc hx2 0
  have q1 := boxc hx2 1
  have q2 := boxc hx2 2
  have q3 := boxc hx2 3
  have q4 := boxc hx2 4
  have q5 := boxc hx2 5
  have q6 := boxc hx2 6
  have q7 := boxc hx2 7
  simp only [List.getElem?_cons_succ, List.getElem?_cons_zero] at q0 q1 q2 q3 q4 q5 q6 q7
  have hz2 := boxs hx2
  clear hb2 hx2 HFK
  go_wp2_with fail
  refine (HFA.out _ _ (HR0.out.keep (boxb HX2.out))).mono ?_
  rintro e w3 ⟨rfl, hb3⟩
  have HB3 := Lib.hid (bthen HB2.out hb3)
  have HX3 := Lib.hid (HX2.out.trans (hb3.mono hz2))
  clear q0 q1 q2 q3 q4 q5 q6 q7 hz2 hb3 HX2 HFA
  cases f4 with
  | false =>
    go_wp2_with fail
    go_ret
    exact ⟨rfl, HB3.out⟩
  | true =>
  have HK1 := Lib.hid (HKB.out (by first | rfl | trivial))
  have HA1 := Lib.hid (HAB.out (by first | rfl | trivial))
  have HO1 := Lib.hid (HON.out (by first | rfl | trivial))
  clear HKB HAB HON
  go_wp2_with fail
  refine (HAw.out _).mono ?_
  rintro e w4 ⟨rfl, hb4⟩
  have HB4 := Lib.hid (bthen HB3.out hb4)
  have HX4 := Lib.hid (HX3.out.trans (hb4.mono (boxs HX3.out)))
  clear hb4 HX3
  go_wp2_with fail
  refine (HK1.out _ HB4.out).mono ?_
  rintro e w5 ⟨A5, m5, c5, rfl, hb5, hv5⟩
  have HV5 := Lib.hid hv5
  have HB5 := Lib.hid (bthen HB4.out hb5)
  have HX5 := Lib.hid (HX4.out.trans (hb5.mono (boxs HX4.out)))
  clear hb5 hv5 HX4
  go_wp2_with fail
  refine (HV5.out _ (Below.refl _ _)).mono ?_
  rintro e w6 ⟨rfl, hb6⟩
  have HB6 := Lib.hid (bthen HB5.out hb6)
  have HX6 := Lib.hid (HX5.out.trans (hb6.mono (boxs HX5.out)))
  clear hb6 HX5 HV5
  have q7 := boxc HX6.out 7
  simp only [List.getElem?_cons_succ, List.getElem?_cons_zero] at q7
  have hz6 := boxs HX6.out
  go_wp2_with fail
  refine (HA1.out _ K' d' HB6.out HKK.out.1 HKK.out.2.1 (HKK.out.2.2.imp id fun ⟨blk, off, e, h⟩ => ⟨blk, off, e, RKs.keep (boxb HX6.out) h⟩)).mono ?_
  rintro e w7 ⟨A7, m7, c7, rfl, hb7, hv7⟩
  have HV7 := Lib.hid hv7
  have HB7 := Lib.hid (bthen HB6.out hb7)
  clear hb7 hv7 hz6 q7 HX6
  go_wp2_with fail
  refine (HV7.out _ (Below.refl _ _)).mono ?_
  rintro e w8 ⟨rfl, hb8⟩
  have HB8 := Lib.hid (bthen HB7.out hb8)
  clear hb8 HV7
  go_wp2_with fail
  go_loopw [6] (fun i wr => ∃ q : Nat, q ≤ n ∧ i = .int .i64 q ∧ Hid (Below w.heap.size w wr)) (fun i _ => n - (intOf i).toNat)
  case atStart => exact ⟨0, Nat.zero_le _, rfl, HB8⟩
  case round =>
    obtain ⟨q, hq, rfl, HBr⟩ := hrel
    by_cases hlt : q < n
    · obtain ⟨blk, off, nm, c0, c1, c2, c3, c4, c5, c6, c7, k, rfl, h9, h1, h2⟩ := (HO1.out q hlt).ex
      have H9r := Lib.hid (h9.keep HBr.out)
      have H1 := Lib.hid h1
      have H2 := Lib.hid h2
      have hq0 : (0 : Int) ≤ (q : Int) := Int.natCast_nonneg _
      have hq1 : (q : Int) < (n : Int) := by omega
      obtain ⟨n0, e0, e1, e2, e3, e4, e5, e6, e7⟩ := H9r.out
      clear h9 h1 h2
      go_wp2_with fail
      refine (H1.out _ HBr.out).mono ?_
      rintro e w9 ⟨A9, m9, c9, rfl, hb9, hv9⟩
      have HV9 := Lib.hid hv9
      have HB9 := Lib.hid (bthen HBr.out hb9)
      have H99 := Lib.hid (H9r.out.keep hb9)
      clear hb9 hv9 n0 e0 e1 e2 e3 e4 e5 e6 e7 H9r H1
      go_wp2_with fail
      refine (HV9.out _ (Below.refl _ _)).mono ?_
      rintro e w10 ⟨rfl, hb10⟩
      have HB10 := Lib.hid (bthen HB9.out hb10)
      have H910 := Lib.hid (H99.out.keep hb10)
      clear hb10 HV9 H99
      obtain ⟨n0, e0, e1, e2, e3, e4, e5, e6, e7⟩ := H910.out
      go_wp2_with fail
      refine (H2.out _ HB10.out).mono ?_
      rintro e w11 ⟨A11, m11, c11, rfl, hb11, hv11⟩
      have HV11 := Lib.hid hv11
      have HB11 := Lib.hid (bthen HB10.out hb11)
      clear hb11 hv11 n0 e0 e1 e2 e3 e4 e5 e6 e7 H910 H2
      go_wp2_with fail
      refine (HV11.out _ (Below.refl _ _)).mono ?_
      rintro e w12 ⟨rfl, hb12⟩
      have HB12 := Lib.hid (bthen HB11.out hb12)
      clear hb12 HV11
      have hw64 : wrap64 ((q : Int) + 1) = (q : Int) + 1 := w64q hlt HL0.out
      go_wp2_with fail
      go_roundw
      case rel => exact ⟨q + 1, by omega, by go_num, HB12⟩
      case measure => first | exact measA hlt | (rw [hw64]; exact measA hlt)
    · have hqn : q = n := by omega
      subst hqn
      go_wp2_with fail
      go_ret
      exact ⟨rfl, HBr.out⟩
theorem dv_long (K0 K1 : Option Addr) (n m d0 d1 : Nat) (w : World) (h : 2147483647 < n ∨ n ≤ 2147483647 ∧ 2147483647 < m) :
    Calls Tryz.prog 4 #[.slice K0 n d0, .slice K1 m d1] w fun e w' => e = .returned (.bool true) ∧ Below w.heap.size w w' := by
  rcases h with h | ⟨h0, h⟩
  · have b1 : decide ((2147483647 : Int) < (n : Int)) = true := decide_eq_true (by omega)
    go_enter Tryz.func4, Tryz.ntmps4
    go_wp2_with fail
    go_ret
    exact ⟨rfl, Below.refl _ _⟩
  · have b1 : decide ((2147483647 : Int) < (n : Int)) = false := decide_eq_false (by omega)
    have b2 : decide ((2147483647 : Int) < (m : Int)) = true := decide_eq_true (by omega)
    go_enter Tryz.func4, Tryz.ntmps4
    go_wp2_with fail
    go_ret
    exact ⟨rfl, Below.refl _ _⟩
theorem fnDocValid_walk (K0 : Option Addr) (d0 : Nat) (ks : List (ByteArray × Val)) (K1 : Option Addr) (d1 : Nat) (vs : List Val) (w : World) (hk : ElemsAt w K0 d0 ks) (hv : ValsAt w K1 d1 vs) (htab : Lib.TabIs Tryz.prog w "internal/strconv.uint64pow10" .u64 Lib.pow10Tab) (hS : Sents w) :
    Calls Tryz.prog 4 #[.slice K0 ks.length d0, .slice K1 vs.length d1] w fun e w' => e = .returned (.bool true) ∧ Below w.heap.size w w' := by
  by_cases h : 2147483647 < ks.length ∨ ks.length ≤ 2147483647 ∧ 2147483647 < vs.length
  · exact dv_long _ _ _ _ _ _ w h
  · exact dv_main K0 d0 ks K1 d1 vs w hk hv (by omega) (by omega) htab hS
end Ck
end Go.Proofs.YtjbeaofnnodlcaaGreatDoor.X
