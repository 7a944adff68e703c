/- Contract of zzObject: an object of extended JSON out of names and texts. -/
import Derived.Test.YtfpnhlfmnoikhabDoorPair2
import Derived.Deep.Heap
set_option linter.unusedVariables false
set_option linter.unusedSimpArgs false
set_option maxRecDepth 100000
namespace Go.Proofs.YtfpnhlfmnoikhabDoor.X
open Go.RowKit
theorem infoP : (Tryd.prog.info? 55).map (fun i => (i.zero, i.size, i.bytes)) = some (some (.pointer none), 1, 8) := by kernel_rfl
/-- A value of extended JSON that is a text, apart from the object and from the row. -/
def VIs (w : World) (O : Nat) (rb : Option Nat) (t : ByteArray) (v : Value) : Prop := ∃ g, v = .pointer (some ⟨g, 0, none⟩) ∧ g ≠ O ∧ rb ≠ some g ∧ w.cell? ⟨g, 0, none⟩ = some (.int .u8 2) ∧ w.cell? ⟨g, 1, none⟩ = some (.iface 9 (.string t))
def VsIs (w : World) (O : Nat) (rb : Option Nat) (ts : List ByteArray) (vs : List Value) : Prop := vs.length = ts.length ∧ ∀ (i : Nat) (t : ByteArray), ts[i]? = some t → ∃ v, vs[i]? = some v ∧ VIs w O rb t v
theorem VIs.step {W w5 : World} {O : Nat} {rb rb1 : Option Nat} {t : ByteArray} {v v5 : Value} (h : VIs W O rb t v) (hg : W.grownBy w5 rb) (hat : rb1 = rb ∨ ∃ b, rb1 = some b ∧ W.heap.size ≤ b) : VIs (w5.setCell ⟨O, 1, none⟩ v5) O rb1 t v := by
  obtain ⟨g, e, hO, hr, c0, c1⟩ := h
  have hlt : g < W.heap.size := World.block_lt_of_cell? W _ c0
  have hb : w5.heap[g]? = W.heap[g]? := hg.block g hlt (fun e => hr e.symm)
  have k : ∀ o, (w5.setCell ⟨O, 1, none⟩ v5).cell? ⟨g, o, none⟩ = W.cell? ⟨g, o, none⟩ := fun o => by
    rw [World.cell?_setCell_other _ _ _ _ (fun e2 => hO (by injection e2 with e3; exact e3.symm))]
    unfold World.cell?
    simp only [hb]
  refine ⟨g, e, hO, ?_, (k 0).trans c0, (k 1).trans c1⟩
  rcases hat with rfl | ⟨b, rfl, hb2⟩
  · exact hr
  · intro e2; injection e2 with e2; omega
theorem VIs.alloc {W : World} {O : Nat} {rb : Option Nat} {t : ByteArray} {v : Value} (h : VIs W O rb t v) (o : Obj) : VIs (W.alloc o) O rb t v := by
  obtain ⟨g, e, hO, hr, c0, c1⟩ := h
  have hlt : g < W.heap.size := World.block_lt_of_cell? W _ c0
  exact ⟨g, e, hO, hr, by rw [World.cell?_alloc_past _ _ _ hlt]; exact c0, by rw [World.cell?_alloc_past _ _ _ hlt]; exact c1⟩
def ORel (w : World) (O : Nat) (K : Value) (ts : List ByteArray) (i : Value) (wr : World) : Prop := ∃ (k : Nat) (v : Value) (vs : List Value), k ≤ ts.length ∧ i = .int .i64 k ∧ wr.cell? ⟨O, 0, none⟩ = some K ∧ wr.cell? ⟨O, 1, none⟩ = some v ∧ wr.frozen? ⟨O, 1, none⟩ = false ∧
  OG 55 wr O v vs ∧ v.ownBlock ≠ some O ∧ VsIs wr O v.ownBlock (ts.take k) vs ∧ Below O w wr ∧ O < wr.heap.size
theorem orel_step (w wr w5 : World) (O k : Nat) (K v v5 : Value) (ts : List ByteArray) (x : ByteArray) (vs : List Value) (o2 : Obj) (hkt : k < ts.length) (hx : x = ts[k]) (o0 : wr.cell? ⟨O, 0, none⟩ = some K) (o1 : wr.cell? ⟨O, 1, none⟩ = some v) (of1 : wr.frozen? ⟨O, 1, none⟩ = false)
    (hog : OG 55 wr O v vs) (hvo : v.ownBlock ≠ some O) (hvs : VsIs wr O v.ownBlock (ts.take k) vs) (hb : Below O w wr) (hO : O < wr.heap.size)
    (hap : AppG (E := 55) ((wr.alloc (.cells #[.int .u8 2, .iface 9 (.string x)] 65)).alloc o2) O v (vs ++ [.pointer (some ⟨wr.heap.size, 0, none⟩)]) v5 w5) :
    w5.cell? ⟨O, 0, none⟩ = some K ∧ w5.cell? ⟨O, 1, none⟩ = some v ∧ w5.frozen? ⟨O, 1, none⟩ = false ∧ O < w5.heap.size ∧ ∀ i, i = .int .i64 ((k : Int) + 1) → ORel w O K ts i (w5.setCell ⟨O, 1, none⟩ v5) := by
  have hsz := hap.grown.size
  simp only [World.size_alloc] at hsz
  have hblk : w5.heap[O]? = wr.heap[O]? := by
    have h := hap.grown.block O (by simp only [World.size_alloc]; omega) (fun e => hvo e.symm)
    rw [h]
    have e1 := (balloc (balloc (Below.refl wr.heap.size wr) (Nat.le_refl _) (.cells #[.int .u8 2, .iface 9 (.string x)] 65)) (by simp) o2).block O hO
    exact e1
  have kc : ∀ o, w5.cell? ⟨O, o, none⟩ = wr.cell? ⟨O, o, none⟩ := fun o => by unfold World.cell?; simp only [hblk]
  have kf : ∀ o, w5.frozen? ⟨O, o, none⟩ = wr.frozen? ⟨O, o, none⟩ := fun o => by unfold World.frozen?; simp only [hblk]
  have hlt5 : O < w5.heap.size := by omega
  refine ⟨(kc 0).trans o0, (kc 1).trans o1, (kf 1).trans of1, hlt5, ?_⟩
  rintro i rfl
  have hnew : v5.ownBlock ≠ some O := by
    rcases hap.at_ with e | ⟨b, e, hb2⟩
    · rw [e]; exact hvo
    · rw [e]; intro h; injection h with h; simp only [World.size_alloc] at hb2; omega
  have hown5 : OG 55 (w5.setCell ⟨O, 1, none⟩ v5) O v5 (vs ++ [.pointer (some ⟨wr.heap.size, 0, none⟩)]) := by
    refine ⟨hap.own.1.kept (row := some O) ⟨rfl, rfl, rfl, by simp, fun j _ hj => ?_⟩ (.inr hnew), hap.own.2⟩
    exact Go.Deep.blk_setCell_other _ _ _ _ (fun e => hj (by rw [e]))
  refine ⟨k + 1, v5, _, by omega, by simp, ?_, ?_, ?_, hown5, hnew, ?_, ?_, by simpa using hlt5⟩
  · rw [World.cell?_setCell_other _ _ _ _ (by intro e; injection e with e1 e2; cases e2)]
    exact (kc 0).trans o0
  · have h1 := (kc 1).trans o1
    simp [go_sem, h1, hlt5]
  · rw [World.frozen?_setCell]; exact (kf 1).trans of1
  · refine ⟨by have := hvs.1; simp only [List.length_append, List.length_take, List.length_cons, List.length_nil] at this ⊢; omega, fun i t ht => ?_⟩
    have hvl := hvs.1
    simp only [List.length_take] at hvl
    by_cases hi : i < k
    · have ht2 : (ts.take k)[i]? = some t := by
        rw [List.getElem?_take] at ht ⊢
        rw [if_pos (by omega)] at ht
        rw [if_pos hi]
        exact ht
      obtain ⟨v, hv, hV⟩ := hvs.2 i t ht2
      refine ⟨v, ?_, ((hV.alloc _).alloc _).step hap.grown (by simpa using hap.at_)⟩
      rw [List.getElem?_append_left (by omega)]
      exact hv
    · have hik : i = k := by
        have : i < (ts.take (k + 1)).length := by
          rcases Nat.lt_or_ge i (ts.take (k + 1)).length with h | h
          · exact h
          · rw [List.getElem?_eq_none h] at ht; cases ht
        simp only [List.length_take] at this
        omega
      subst hik
      have hlen : vs.length = i := by omega
      have htx : t = x := by
        rw [List.getElem?_take, if_pos (by omega), List.getElem?_eq_getElem hkt] at ht
        injection ht with ht
        rw [← ht, hx]
      subst htx
      refine ⟨.pointer (some ⟨wr.heap.size, 0, none⟩), ?_, ?_⟩
      · rw [List.getElem?_append_right (by omega)]
        simp [hlen]
      · have hV : VIs ((wr.alloc (.cells #[.int .u8 2, .iface 9 (.string t)] 65)).alloc o2) O v.ownBlock t (.pointer (some ⟨wr.heap.size, 0, none⟩)) := by
          refine VIs.alloc ⟨wr.heap.size, rfl, by omega, fun e => ?_, by simp [go_sem], by simp [go_sem]⟩ _
          have := (hog.lt _ e).2
          omega
        exact hV.step hap.grown (by simpa using hap.at_)
  · have h1 := (balloc (balloc hb (by omega) (.cells #[.int .u8 2, .iface 9 (.string x)] 65)) (by simp; omega) o2).trans (hap.kept ((hog.alloc _).alloc _) (by simp; omega))
    exact h1.setCell (Nat.le_refl _) _
theorem zzObject (A1 A2 : Option Addr) (c1 c2 : Nat) (ks ts : List ByteArray) (w : World) (h2 : GS w A2 c2 (strv ts)) (hl : ts.length ≤ 8796093022000) :
    Calls Tryd.prog 20 #[.slice A1 ks.length c1, .slice A2 ts.length c2] w fun e w' => ∃ J O V cv vs, e = .returned (.pointer (some ⟨J, 0, none⟩)) ∧ w'.cell? ⟨J, 0, none⟩ = some (.int .u8 3) ∧ w'.cell? ⟨J, 1, none⟩ = some (.iface 59 (.pointer (some ⟨O, 0, none⟩))) ∧
      w'.cell? ⟨O, 0, none⟩ = some (.slice A1 ks.length c1) ∧ w'.cell? ⟨O, 1, none⟩ = some (.slice V ts.length cv) ∧ GS w' V cv vs ∧ VsIs w' O none ts vs ∧ Below w.heap.size w w' := by
  obtain ⟨n, hn⟩ : ∃ n, n = ts.length := ⟨_, rfl⟩
  obtain ⟨m, hm⟩ : ∃ m, m = ks.length := ⟨_, rfl⟩
  rw [← hn] at hl ⊢
  rw [← hm]
  have HN := Lib.hid hn
  have H2 := Lib.hid h2
  clear hn hm h2
  go_enter Tryd.func20, Tryd.ntmps20
  go_wp2_with fail
  go_loopw [13] (fun i wr => ORel w w.heap.size (.slice A1 m c1) ts i wr) (fun i _ => n - (intOf i).toNat)
  case atStart => exact ⟨0, .slice none 0 0, [], Nat.zero_le _, rfl, by simp [go_sem], by simp [go_sem], by simp [go_sem], OG.nil _ _, by simp [Value.ownBlock], ⟨rfl, fun i t h => by simp at h⟩, balloc (Below.refl _ _) (Nat.le_refl _) _, by simp⟩
  case round =>
    obtain ⟨k, v, vs, hk, rfl, o0, o1, of1, hog, hvo, hvs, hb, hO⟩ := hrel
    have hn := HN.out
    by_cases hkn : k < n
    · have hkt : k < ts.length := by omega
      obtain ⟨b, off, rfl, hc⟩ := H2.out.cells (by rw [strv_len]; omega)
      have hcw := hc k (by rw [strv_len]; exact hkt)
      have hblt : b < w.heap.size := World.block_lt_of_cell? w _ hcw
      have hc1 : wr.cell? ⟨b, off + k, none⟩ = some (.string ts[k]) := by
        rw [hb.cell (p := ⟨b, off + k, none⟩) hblt, hcw]
        simp [strv]
      obtain ⟨x, hx⟩ : ∃ x, x = ts[k] := ⟨_, rfl⟩
      rw [← hx] at hc1
      have hz := hb.size
      have hvl := hvs.1
      simp only [List.length_take] at hvl
      obtain ⟨A6, c6, hv6, hg6, hn6⟩ := hog.sb
      have hvl2 : vs.length = k := by omega
      rw [hvl2] at hv6
      subst hv6
      have HX := Lib.hid hx
      have HOG := Lib.hid hog
      have HVO := Lib.hid hvo
      have HVS := Lib.hid hvs
      have HVL := Lib.hid hvl2
      have hO2 : w.heap.size < wr.heap.size + 1 := by omega
      have hb1 : b < wr.heap.size := by omega
      have HB := Lib.hid hb
      clear hn hx hcw hc hog hg6 hn6 hvo hvs hvl hvl2 hb
      go_wp2_with (first | (refine wp_appG (.tmp 21) (.tmp 26) 60 rfl rfl (.pointer none) 8 infoP rfl Tryd.underlying60 _ w.heap.size (.slice A6 k c6) vs (some ⟨wr.heap.size + 1, 0, none⟩) 1 [.pointer (some ⟨wr.heap.size, 0, none⟩)] rfl rfl ?a1 ?a2 ?a3 ?a4 ?a5 ?a6 ?_) | fail)
      case a1 => exact (HOG.out.alloc _).alloc _
      case a2 => simpa using GS.lit_ (wr.alloc _) [.pointer (some ⟨wr.heap.size, 0, none⟩)] _ rfl (by simp) _ rfl
      case a3 => simp; omega
      case a4 => simp [Value.oneCell']
      case a5 => rw [HVL.out]; simp; omega
      case a6 => rw [HVL.out]; simp; omega
      intro v5 w5 hap
      obtain ⟨p0, p1, pf1, hO5, hrl⟩ := orel_step w wr w5 w.heap.size k (.slice A1 m c1) _ v5 ts x vs _ hkt HX.out o0 o1 of1 HOG.out HVO.out HVS.out HB.out hO hap
      have hsz5 := hap.size
      obtain ⟨A7, c7, hv7, hg7, hn7⟩ := hap.own.sb
      have HRL := Lib.hid hrl
      clear hrl hap hg7 hn7
      subst hv7
      go_wp2_with fail
      go_roundw
      case rel => have h := HRL.out _ rfl; simpa using h
      case measure => simp [intOf]; omega
    · obtain rfl : k = n := by omega
      obtain ⟨A6, c6, hv6, hg6, hn6⟩ := hog.sb
      have hvl := hvs.1
      have et : ts.take k = ts := by rw [hn]; exact List.take_length
      rw [et] at hvl hvs
      rw [hvl, ← hn] at hv6
      subst hv6
      have HG := Lib.hid hg6
      have HVS := Lib.hid hvs
      have HB := Lib.hid hb
      clear hn hvl et hog hg6 hn6 hvs hb hvo H2
      go_wp2_with fail
      go_ret
      refine ⟨wr.heap.size, w.heap.size, A6, c6, vs, rfl, by simp [go_sem], by simp [go_sem], by simp [go_sem, hO, o0], by simp [go_sem, hO, o1], HG.out.alloc _, ⟨HVS.out.1, fun i t h => ?_⟩, balloc HB.out (by omega) _⟩
      obtain ⟨v, hv, g, e, h1, h2, h3, h4⟩ := HVS.out.2 i t h
      exact ⟨v, hv, VIs.alloc ⟨g, e, h1, by simp, h3, h4⟩ _⟩
end Go.Proofs.YtfpnhlfmnoikhabDoor.X
