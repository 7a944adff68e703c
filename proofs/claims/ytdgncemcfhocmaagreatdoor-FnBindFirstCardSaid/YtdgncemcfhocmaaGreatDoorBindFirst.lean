/- The law FnBindFirst: its walk. (gen_vw.py) -/
import Derived.Test.YtdgncemcfhocmaaGreatDoorVwC
set_option linter.unusedVariables false
set_option linter.unusedSimpArgs false
set_option maxRecDepth 100000
namespace Go.Proofs.YtdgncemcfhocmaaGreatDoor.X
open Go.RowKit Go.Proofs.YtdgncemcfhocmaaGreatDoorW.PrintLast
namespace Vw
open Ap

theorem scAll (k n bits high : Int) (text more : ByteArray) (b : List UInt8) (kids : List (ByteArray × Val)) (A0 K' : Option Addr) (c0 xk dd xb : Nat) (w : World) (hxb : xb = b.length) (R : RF k n text more b kids 200) (h3 : k ≠ 3) (h4 : k ≠ 4) (h15 : k ≠ 15) (hs : SB w A0 c0 b) : ScErr w #[.int .i64 k, .string text, .string more, .int .i64 n, .int .u64 bits, .int .u64 high, .slice A0 xb c0, .slice K' xk dd] := by
  have hk := R.kn
  have hk2 : k = 1 ∨ k = 2 ∨ k = 5 ∨ k = 6 ∨ k = 7 ∨ k = 8 ∨ k = 9 ∨ k = 10 ∨ k = 11 ∨ k = 12 ∨ k = 13 ∨ k = 14 ∨ k = 16 ∨ k = 17 ∨ k = 18 ∨ k = 19 ∨ k = 127 ∨ k = 255 := by omega
  rcases hk2 with rfl | rfl | rfl | rfl | rfl | rfl | rfl | rfl | rfl | rfl | rfl | rfl | rfl | rfl | rfl | rfl | rfl | rfl
  · exact fun B S wx hb h => sc_1 B S text more n bits high A0 K' xb c0 xk dd wx h
  · exact fun B S wx hb h => sc_2 B S text more n bits high A0 K' xb c0 xk dd wx h
  · exact fun B S wx hb h => sc_5 B S text more n bits high A0 K' xb c0 xk dd wx h
  · exact fun B S wx hb h => sc_6 B S text more n bits high A0 K' xb c0 xk dd wx h
  · exact fun B S wx hb h => sc_7 B S text more n bits high A0 K' xb c0 xk dd wx h b (hs.keep hb) (R.r7 (by decide)) (hxb.trans (R.r7 (by decide)))
  · exact fun B S wx hb h => sc_8 B S text more n bits high A0 K' xb c0 xk dd wx h
  · exact fun B S wx hb h => sc_9 B S text more n bits high A0 K' xb c0 xk dd wx h
  · exact fun B S wx hb h => sc_10 B S text more n bits high A0 K' xb c0 xk dd wx h
  · exact fun B S wx hb h => sc_11 B S text more n bits high A0 K' xb c0 xk dd wx h
  · exact fun B S wx hb h => sc_12 B S text more n bits high A0 K' xb c0 xk dd wx h b (hs.keep hb) (R.r7 (by decide)) (hxb.trans (R.r7 (by decide)))
  · exact fun B S wx hb h => sc_13 B S text more n bits high A0 K' xb c0 xk dd wx h
  · exact fun B S wx hb h => sc_14 B S text more n bits high A0 K' xb c0 xk dd wx h
  · exact fun B S wx hb h => sc_16 B S text more n bits high A0 K' xb c0 xk dd wx h
  · exact fun B S wx hb h => sc_17 B S text more n bits high A0 K' xb c0 xk dd wx h
  · exact fun B S wx hb h => sc_18 B S text more n bits high A0 K' xb c0 xk dd wx h
  · exact fun B S wx hb h => sc_19 B S text more n bits high A0 K' xb c0 xk dd wx h
  · exact fun B S wx hb h => sc_127 B S text more n bits high A0 K' xb c0 xk dd wx h
  · exact fun B S wx hb h => sc_255 B S text more n bits high A0 K' xb c0 xk dd wx h
theorem fits_someV (v : Val) (cs : List Value) (wx : World) (hv : RV wx v cs) : ∃ q : Bool, Calls Tryz.prog 6 #[.agg cs.toArray] wx fun e w' => e = .returned (.bool q) ∧ Below wx.heap.size wx w' := by
  by_cases h : v.text.size ≤ 2147483647 ∧ v.more.size ≤ 2147483647 ∧ v.b.length ≤ 2147483647 ∧ v.kids.length ≤ 2147483647
  · exact ⟨true, zzFits1 v _ wx hv h⟩
  · exact ⟨false, zzFits1_not v _ wx hv h⟩
set_option maxHeartbeats 4000000 in
theorem fnBindFirst_walk (v : Val) (cs : List Value) (w : World) (hok : okv v) (hv : RV w v cs) (TE : TypeId) (tv : Value) (hg : w.cell? ⟨0, 0, none⟩ = some (.iface TE tv)) :
    Calls Tryz.prog 3 #[.agg cs.toArray] w fun e w' => e = .returned (.bool true) ∧ Below w.heap.size w w' := by
  have HFT := Lib.hid (fun wx (hx : Below w.heap.size w wx) => fits_someV v cs wx (hv.keep hx))
  have HBR := Lib.hid (fun wx (hx : Below w.heap.size w wx) => bindRight v cs wx hok (hv.keep hx))
  obtain ⟨f, hf⟩ : ∃ z, z = fine v 1000 65536 := ⟨_, rfl⟩
  rw [← hf] at HBR
  have hrt : f = true → right v 200 = true := fun h => by
    rw [h] at hf
    have h2 := hf.symm
    simp only [fine, Bool.and_eq_true] at h2
    exact h2.1.2
  obtain ⟨k, text, more, n, bits, high, b, kids⟩ := v
  simp only [RV] at hv
  obtain ⟨A0, c0, K', dd, rfl, hs0, hd, hd2, hk⟩ := hv
  have HRF : Hid (f = true → RF k n text more b kids 200) := Lib.hid fun h => right_facts (hrt h)
  obtain ⟨xb, hxb⟩ : ∃ x, x = b.length := ⟨_, rfl⟩
  obtain ⟨xk, hxk⟩ : ∃ x, x = kids.length := ⟨_, rfl⟩
  rw [← hxb, ← hxk] at HFT HBR
  rw [← hxb, ← hxk]
  have HS0 := Lib.hid hs0
  have HXB := Lib.hid hxb
  have hB0 : Below w.heap.size w (w.alloc (.cells #[.int .i64 k, .string text, .string more, .int .i64 n, .int .u64 bits, .int .u64 high, .slice A0 xb c0, .slice K' xk dd] 26)) := balloc (Below.refl _ _) (Nat.le_refl _) _
  obtain ⟨z, hz⟩ := HFT.out _ hB0
  have HZ := Lib.hid hz
  have HG := Lib.hid hg
  have hgl := World.block_lt_of_cell? _ _ hg
  clear hok hs0 hd hd2 hk hxb hxk hf hrt hz HFT hB0 hg
  go_enter Tryz.func3, Tryz.ntmps3
  go_wp2_with fail
  refine HZ.out.mono ?_
  rintro e w1 ⟨rfl, hb1⟩
  have hx1 : Below (w.heap.size + 1) (w.alloc (.cells #[.int .i64 k, .string text, .string more, .int .i64 n, .int .u64 bits, .int .u64 high, .slice A0 xb c0, .slice K' xk dd] 26)) w1 := by simpa using hb1
  have HX1 := Lib.hid hx1
  have hz1 := boxs hx1
  have q0 := boxc hx1 0
  have q1 := boxc hx1 1
  have q2 := boxc hx1 2
  have q3 := boxc hx1 3
  have q4 := boxc hx1 4
  have q5 := boxc hx1 5
  have q6 := boxc hx1 6
  have q7 := boxc hx1 7
  simp only [List.getElem?_cons_succ, List.getElem?_cons_zero] at q0 q1 q2 q3 q4 q5 q6 q7
  clear hb1 hx1 HZ
  cases z with
  | false =>
    go_wp2_with fail
    go_ret
    exact ⟨rfl, boxb HX1.out⟩
  | true =>
    go_wp2_with fail
    refine (HBR.out _ (boxb HX1.out)).mono ?_
    rintro e w2 ⟨rfl, hb2⟩
    have hx2 := HX1.out.trans (hb2.mono hz1)
    have HX2 := Lib.hid hx2
    have hz2 := boxs hx2
    clear q0 q1 q2 q3 q4 q5 q6 q7
    have q0 := boxc hx2 0
    have q1 := boxc hx2 1
    have q2 := boxc hx2 2
    have q3 := boxc hx2 3
    have q4 := boxc hx2 4
    have q5 := boxc hx2 5
    have q6 := boxc hx2 6
    have q7 := boxc hx2 7
    simp only [List.getElem?_cons_succ, List.getElem?_cons_zero] at q0 q1 q2 q3 q4 q5 q6 q7
    clear hb2 hx2 HBR HX1
    cases f with
    | false =>
      go_wp2_with fail
      go_ret
      exact ⟨rfl, boxb HX2.out⟩
    | true =>
      by_cases h3 : k = 3
      · subst h3
        go_wp2_with fail
        go_ret
        exact ⟨rfl, boxb HX2.out⟩
      · by_cases h4 : k = 4
        · subst h4
          go_wp2_with fail
          go_ret
          exact ⟨rfl, boxb HX2.out⟩
        · by_cases h15 : k = 15
          · subst h15
            go_wp2_with fail
            go_ret
            exact ⟨rfl, boxb HX2.out⟩
          · have y3 : (k == 3) = false := by rw [beq_eq_false_iff_ne]; exact h3
            have y4 : (k == 4) = false := by rw [beq_eq_false_iff_ne]; exact h4
            have y15 : (k == 15) = false := by rw [beq_eq_false_iff_ne]; exact h15
            have HSC := Lib.hid (scAll k n bits high text more b kids A0 K' c0 xk dd xb w HXB.out (HRF.out rfl) h3 h4 h15 HS0.out)
            clear h3 h4 h15
            go_wp2_with fail
            have hb2w := boxb HX2.out
            refine (steps_one w2.heap.size k n bits high text more A0 K' xb c0 xk dd w _ (balloc hb2w hb2w.size _) HSC.out (heap_alloc_new w2 _) TE tv ?_).mono ?_
            · rw [World.cell?_alloc_lt w2 _ ⟨0, 0, none⟩ (by have := hb2w.size; exact Nat.lt_of_lt_of_le hgl this)]; exact (hb2w.cell hgl).trans HG.out
            rintro e w3 ⟨⟨A1, c1, A2, c2, rfl, hs3⟩, hb3⟩
            have HB3 := Lib.hid ((balloc hb2w hb2w.size _).trans (hb3.mono (balloc hb2w hb2w.size _).size))
            obtain ⟨b3, o3, rfl, hc3⟩ := hs3.cells (by simp)
            have d0 : w3.cell? ⟨b3, o3, none⟩ = some (.bool false) := by have h := hc3 0 (by simp); simpa using h
            clear hb3 hs3 hc3 hb2w
            go_wp2_with fail
            go_ret
            exact ⟨by first | rfl | simp, HB3.out⟩
end Vw
end Go.Proofs.YtdgncemcfhocmaaGreatDoor.X
