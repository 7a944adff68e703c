/- Contract of nat.text at base 10. -/
import Derived.Test.YtjjfdamlicoeeaaDoorNat2
import Derived.Test.YtjjfdamlicoeeaaDoorDfc
import Derived.LoopN
import Derived.Lib.SlBytesConst
import Derived.Test.YtjjfdamlicoeeaaDoorWLast
import Derived.Test.YtjjfdamlicoeeaaDoorWTab
set_option linter.unusedVariables false
set_option linter.unusedSimpArgs false
set_option maxRecDepth 100000
namespace Go.Proofs.YtjjfdamlicoeeaaDoor.X
open Go.RowKit Go.Deep Go.Proofs.YtjjfdamlicoeeaaDoorW.PrintLast
def R78.T23 : Bool × List (List Nat × List Nat) := (true, [([], []), ([], []), ([], []), ([], []), ([], []), ([], []), ([4, 5], [4, 5]), ([6], [6]), ([], []), ([], []), ([8, 9], [8, 9]), ([10], [10]), ([0, 1, 0, 1, 4, 5, 6, 7, 11], [0, 1]), ([12, 7, 0, 1, 4, 5, 6, 7, 11], [7, 12]), ([2, 3, 0, 1, 2, 3, 4, 5, 6, 7, 8, 9, 10, 11, 12, 13], [2, 3]), ([14, 11, 13, 0, 1, 2, 3, 4, 5, 6, 7, 8, 9, 10, 11, 12, 13], [11, 14])])
def R78.B23 : List Nat := [0, 0, 0, 0, 0, 0, 48, 112, 0, 0, 768, 1792, 4083, 8179, 16383, 32767]
theorem R78.tab23 : rtab .any (opsOf Tryd.f78 23) = R78.T23 := by kernel_rfl
theorem R78.bits23 : waitsOk R78.T23.2 R78.B23 = true := by kernel_rfl
def DIGS : ByteArray := ⟨#[48, 49, 50, 51, 52, 53, 54, 55, 56, 57, 97, 98, 99, 100, 101, 102, 103, 104, 105, 106, 107, 108, 109, 110, 111, 112, 113, 114, 115, 116, 117, 118, 119, 120, 121, 122, 65, 66, 67, 68, 69, 70, 71, 72, 73, 74, 75, 76, 77, 78, 79, 80, 81, 82, 83, 84, 85, 86, 87, 88, 89, 90]⟩
theorem idx_dig (d : Int) (h0 : 0 ≤ d) (h1 : d < 10) (W : World) : (Instr.index 9 (.string DIGS) (.int .u32 d)).run Tryd.prog W = .ok (.int .u8 (48 + d)) W := by
  have : d = 0 ∨ d = 1 ∨ d = 2 ∨ d = 3 ∨ d = 4 ∨ d = 5 ∨ d = 6 ∨ d = 7 ∨ d = 8 ∨ d = 9 := by omega
  rcases this with rfl | rfl | rfl | rfl | rfl | rfl | rfl | rfl | rfl | rfl <;> rfl
def Apart (x v : Value) : Prop := ∀ g, v.ownBlock = some g → x.ownBlock ≠ some g
/-- The outer loop. -/
def TxRel (w0 : World) (N : Nat) (x v : Value) (wr : World) : Prop := ∃ (M : Nat) (A : Option Addr) (c : Nat) (out : List UInt8), x = .slice A (nat32 M).length c ∧ GS wr A c (u32v (nat32 M)) ∧ (nat32 M).length ≤ 4 ∧ OB 5 wr w0.heap.size v out ∧ (∀ a, A = some a → v.ownBlock ≠ some a.block) ∧ rdig N = out ++ rdig M ∧ Below w0.heap.size w0 wr
/-- The inner loop. -/
def TyRel (w0 : World) (N M : Nat) (A : Option Addr) (c : Nat) (v r i : Value) (wr : World) : Prop := ∃ (j k : Nat) (rr : Nat) (out : List UInt8), (∀ a, A = some a → a.block < wr.heap.size) ∧ j + k = 9 ∧ i = .int .i64 (j : Int) ∧ r = .int .u32 (rr : Int) ∧ rr < 10 ^ k ∧ GS wr A c (u32v (nat32 M)) ∧ OB 5 wr w0.heap.size v out ∧ (∀ a, A = some a → v.ownBlock ≠ some a.block) ∧ rdig N = out ++ rdig (M * 10 ^ k + rr) ∧ Below w0.heap.size w0 wr
theorem rdig_len (N : Nat) (h : N < 340282366920938463463374607431768211456) : (rdig N).length ≤ 50 := by
  rw [rdig, List.length_reverse]
  exact decl_le 50 N (Nat.lt_of_lt_of_le h (by decide))
theorem gs_grown {W w1 : World} {A : Option Addr} {c : Nat} {l : List Value} {row : Option Nat} (h : GS W A c l) (hg : W.grownBy w1 row) (hne : ∀ a, A = some a → row ≠ some a.block) : GS w1 A c l :=
  ⟨h.le, h.cap, fun hp => by
    obtain ⟨b, off, e, hc⟩ := h.cells hp
    refine ⟨b, off, e, fun j hj => ?_⟩
    have hb : b < W.heap.size := World.block_lt_of_cell? W _ (hc j hj)
    have := hg.block b hb (fun h => hne _ e h.symm)
    rw [← hc j hj]
    unfold World.cell?
    simp only [this]⟩
theorem own_lt {W : World} {base : Nat} {v : Value} {l : List UInt8} (h : OB 5 W base v l) : ∀ k, v.ownBlock = some k → k < W.heap.size := fun k hk => (h.lt k hk).2
theorem ob_blk {W : World} {base : Nat} {v : Value} {l : List UInt8} (h : OB 5 W base v l) (hp : 0 < l.length) : ∃ g cap cur, v = .slice (some ⟨g, 0, none⟩) l.length cap ∧ base ≤ g ∧ g < W.heap.size ∧ W.heap[g]? = some (.cells cur 5 (0, 0)) ∧ l.length ≤ cap ∧ cap ≤ 9223372036854775807 ∧ (∀ t, (h : t < l.length) → cur[t]? = some (.int .u8 (l[t].toNat : Int))) := by
  rcases h.1.2 with ⟨_, h0⟩ | ⟨g, cap, cur, hv, hb, hg, hn, hm, hs, ht⟩
  · omega
  · refine ⟨g, cap, cur, hv, hb, ?_, hg, hn, by simp only [maxLen] at hm; omega, fun t h => ?_⟩
    · rcases Nat.lt_or_ge g W.heap.size with h | h
      · exact h
      · rw [Array.getElem?_eq_none h] at hg; cases hg
    · have e : (cur.toList.take (l.length * 1))[t]? = (byv l)[t]? := by rw [ht]
      rw [List.getElem?_take, if_pos (by omega), Array.getElem?_toList, byv_get l t h] at e
      exact e
def RVs (L : List UInt8) (k t : Nat) : Nat := if t < k ∨ L.length - k ≤ t then (L.getD (L.length - 1 - t) 0).toNat else (L.getD t 0).toNat
def RvRel (w0 : World) (g : Nat) (L : List UInt8) (i j : Value) (wr : World) : Prop := ∃ (k m : Nat) (cur : Array Value), i = .int .i64 (k : Int) ∧ j = .int .i64 (m : Int) ∧ k + m + 1 = L.length ∧ k ≤ m + 1 ∧ wr.heap[g]? = some (.cells cur 5 (0, 0)) ∧ (∀ t, t < L.length → cur[t]? = some (.int .u8 (RVs L k t : Int))) ∧ g < wr.heap.size ∧ Below w0.heap.size w0 wr
theorem RVs_step (L : List UInt8) (k m t : Nat) (h : k + m + 1 = L.length) (hkm : k < m) (ht : t < L.length) : RVs L (k + 1) t = if t = m then RVs L k k else if t = k then RVs L k m else RVs L k t := by
  unfold RVs
  by_cases h1 : t = m
  · rw [if_pos h1, if_pos (by omega), if_neg (by omega)]
    congr 2
    omega
  · rw [if_neg h1]
    by_cases h2 : t = k
    · rw [if_pos h2, if_pos (by omega), if_neg (by omega)]
      congr 2
      omega
    · rw [if_neg h2]
      by_cases h3 : t < k ∨ L.length - k ≤ t
      · rw [if_pos h3, if_pos (by omega)]
      · rw [if_neg h3, if_neg (by omega)]
theorem RVs_end (L : List UInt8) (k m t : Nat) (h : k + m + 1 = L.length) (hkm : ¬ k < m) (hk : k ≤ m + 1) (ht : t < L.length) : RVs L k t = (L.reverse[t]'(by simpa using ht)).toNat := by
  unfold RVs
  have e : L.reverse[t]'(by simpa using ht) = L.getD (L.length - 1 - t) 0 := by
    rw [List.getElem_reverse, List.getD_eq_getElem?_getD, List.getElem?_eq_getElem (by omega)]
    rfl
  rw [e]
  by_cases h3 : t < k ∨ L.length - k ≤ t
  · rw [if_pos h3]
  · rw [if_neg h3]
    congr 2
    omega
theorem rv_sb {wr : World} {g cap : Nat} {L : List UInt8} {k m : Nat} {cur : Array Value} (h : k + m + 1 = L.length) (hkm : ¬ k < m) (hk : k ≤ m + 1) (hg : wr.heap[g]? = some (.cells cur 5 (0, 0))) (hc : ∀ t, t < L.length → cur[t]? = some (.int .u8 (RVs L k t : Int))) (hn : L.length ≤ cap) (hcap : cap ≤ 9223372036854775807) : SB wr (some ⟨g, 0, none⟩) cap L.reverse :=
  ⟨by simpa using hn, hcap, fun _ => ⟨g, 0, rfl, fun j hj => by
    have hj2 : j < L.length := by simpa using hj
    rw [Nat.zero_add]
    simp only [World.cell?, hg]
    rw [hc j hj2, RVs_end L k m j h hkm hk hj2]
    rfl⟩⟩
theorem rv_step {w0 wr W : World} {g k m : Nat} {L : List UInt8} {cu : Array Value} {x y : Int} (hkm : k + m + 1 = L.length) (hlt : k < m) (hg : wr.heap[g]? = some (.cells cu 5 (0, 0))) (hgl : g < wr.heap.size) (hc : ∀ t, t < L.length → cu[t]? = some (.int .u8 (RVs L k t : Int))) (hb : Below w0.heap.size w0 wr) (hx : x = (RVs L k k : Nat)) (hy : y = (RVs L k m : Nat))
    (hW : W.heap = ((wr.setCell ⟨g, k, none⟩ (.int .u8 y)).setCell ⟨g, m, none⟩ (.int .u8 x)).heap) (hWb : Below w0.heap.size wr W) : RvRel w0 g L (.int .i64 ((k : Int) + 1)) (.int .i64 ((m : Int) - 1)) W := by
  refine ⟨k + 1, m - 1, (cu.setIfInBounds k (.int .u8 y)).setIfInBounds m (.int .u8 x), by simp, by congr 1; omega, by omega, by omega, ?_, fun t ht => ?_, by rw [hW]; simpa [World.setCell] using hgl, hb.trans hWb⟩
  · rw [hW]
    exact heap_setCell_same _ _ _ _ _ _ (heap_setCell_same _ _ _ _ _ _ hg)
  · have hsz : t < cu.size := by
      rcases Nat.lt_or_ge t cu.size with h | h
      · exact h
      · have := hc t ht; rw [Array.getElem?_eq_none h] at this; cases this
    have e1 : ((cu.setIfInBounds k (.int .u8 y)).setIfInBounds m (.int .u8 x))[t]? = if t = m then some (.int .u8 x) else if t = k then some (.int .u8 y) else cu[t]? := by
      rw [Array.getElem?_setIfInBounds, Array.getElem?_setIfInBounds]
      by_cases h1 : t = m
      · subst h1; simp [hsz]
      · rw [if_neg (fun h => h1 h.symm), if_neg h1]
        by_cases h2 : t = k
        · subst h2; simp [hsz]
        · rw [if_neg (fun h => h2 h.symm), if_neg h2]
    rw [e1, RVs_step L k m t hkm hlt ht]
    by_cases h1 : t = m
    · rw [if_pos h1, if_pos h1, hx]
    · rw [if_neg h1, if_neg h1]
      by_cases h2 : t = k
      · rw [if_pos h2, if_pos h2, hy]
      · rw [if_neg h2, if_neg h2]
        exact hc t ht
theorem natText0 (neg : Bool) (A : Option Addr) (c : Nat) (w : World) :
    Calls Tryd.prog 78 #[.slice A 0 c, .bool neg, .int .i64 10] w fun e w' => ∃ A' c', e = .returned (.slice A' 1 c') ∧ SB w' A' c' [48] ∧ Below w.heap.size w w' := by
  have hcv := fun (w : World) (C : Array Value) (n c : Nat) => Lib.run_convert_bytes_const (P := Tryd.prog) w 38 5 C n c Tryd.underlying38 Tryd.underlying5
  have hsb : SB (w.alloc (.cells #[.int .u8 48] 5 (1, 1 + 1))) (some ⟨w.heap.size, 0, none⟩) 1 [48] := ⟨by simp, by simp, fun _ => ⟨w.heap.size, 0, rfl, fun j hj => by
    have : j = 0 := by simp at hj; omega
    subst this
    have hh : (w.alloc (.cells #[.int .u8 48] 5 (1, 1 + 1))).heap[w.heap.size]? = _ := heap_alloc_new w _
    simp only [World.cell?, hh]
    rfl⟩⟩
  go_enter Tryd.func78, Tryd.ntmps78
  have HSB := Lib.hid hsb
  clear hsb
  go_wp2_with fail
  go_ret
  exact ⟨_, _, rfl, HSB.out, balloc (Below.refl _ _) (Nat.le_refl _) _⟩
theorem rdig_shorter (M : Nat) (h : M ≠ 0) : (rdig (M / 1000000000)).length < (rdig M).length := by
  have e : ∀ X, (rdig X).length = (decl X).length := fun X => by rw [rdig, List.length_reverse]
  rw [e, e]
  have h1 : 0 < (decl M).length := by rw [decl_step M h]; simp
  obtain ⟨k, hk⟩ : ∃ k, (decl M).length = k + 1 := ⟨(decl M).length - 1, by omega⟩
  have h2 := decl_lt (k + 1) M (by omega)
  rw [hk]
  have := decl_le k (M / 1000000000) (by rw [Nat.pow_succ] at h2; omega)
  omega
theorem nat32_len2 (M : Nat) (h : (nat32 M).length ≤ 4) : (nat32 (M / 1000000000)).length ≤ 4 := by
  refine nat32_len 4 _ ?_
  have h1 := nv_lt (nat32 M) (nat32_low M)
  rw [nv_nat32] at h1
  have h2 : 4294967296 ^ (nat32 M).length ≤ 4294967296 ^ 4 := Nat.pow_le_pow_right (by decide) h
  exact Nat.lt_of_le_of_lt (Nat.div_le_self _ _) (Nat.lt_of_lt_of_le h1 h2)
set_option maxHeartbeats 1000000 in
theorem natText (neg : Bool) (A : Option Addr) (c : Nat) (N : Nat) (w : World) (hs : GS w A c (u32v (nat32 N))) (hN0 : N ≠ 0) (hN : N < 340282366920938463463374607431768211456) :
    Calls Tryd.prog 78 #[.slice A (nat32 N).length c, .bool neg, .int .i64 10] w fun e w' => ∃ A' c', e = .returned (.slice A' (intT neg N).length c') ∧ SB w' A' c' (intT neg N) ∧ Below w.heap.size w w' := by
  have hpos := nat32_pos N hN0
  have hlen4 : (nat32 N).length ≤ 4 := nat32_len 4 N (Nat.lt_of_lt_of_le hN (by decide))
  have hrl := rdig_len N hN
  have hst : Hid (∀ x, x = Value.slice A (nat32 N).length c → TxRel w N x (.slice none 0 0) w) := Lib.hid fun x hx => ⟨N, A, c, [], hx, hs, hlen4, OB.nil _ _, fun a ha => by simp [Value.ownBlock], rfl, Below.refl _ _⟩
  obtain ⟨q, hq⟩ : ∃ q, q = (nat32 N).length := ⟨_, rfl⟩
  rw [← hq] at hpos hlen4 hst ⊢
  have hq0 : ((q : Int) == 0) = false := by rw [beq_eq_false_iff_ne]; omega
  have HN := Lib.hid hN
  have HN0 := Lib.hid hN0
  have HRL := Lib.hid hrl
  clear hs hq hN hN0 hrl
  go_enter Tryd.func78, Tryd.ntmps78
  go_wp2_with fail
  refine wp_loop_rounds 9 ?_
  rw [rounds_succ]
  go_wp2_with fail
  rw [rounds_succ]
  go_wp2_with fail
  rw [rounds_succ]
  go_wp2_with fail
  rw [rounds_succ]
  go_wp2_with fail
  rw [rounds_succ]
  go_wp2_with fail
  rw [rounds_succ]
  go_wp2_with fail
  rw [rounds_succ]
  go_wp2_with fail
  rw [rounds_succ]
  go_wp2_with fail
  rw [rounds_succ]
  go_wp2_with fail
  go_loopw [0, 9] (fun x v wr => TxRel w N x v wr) (fun _ v _ => match v with | .slice _ n _ => 60 - n | _ => 0)
  case atStart => exact hst.out _ rfl
  case round =>
    obtain ⟨M, A1, c1, out, rfl, hgs, hl4, hob, hap, hrd, hb⟩ := hrel
    obtain ⟨A3, c3, hv3, -, -⟩ := hob.sb
    subst hv3
    by_cases hM : M = 0
    · subst hM
      rw [rdig_zero, List.append_nil] at hrd
      have hn0 : (nat32 0).length = 0 := by rw [nat32_zero]; rfl
      rw [hn0]
      have hout : out.length ≤ 50 := by rw [← hrd]; exact HRL.out
      have hone : 0 < out.length := by rw [← hrd, rdig_step N HN0.out]; simp
      have hsz := hb.size
      have HB := Lib.hid hb
      have HOB := Lib.hid hob
      have HRD := Lib.hid hrd
      clear hgs hob hap hrd hb hl4 hn0
      have HL1 : Hid (neg = false → out.reverse = intT neg N) := Lib.hid (fun hh => by
        unfold intT
        rw [if_neg HN0.out, ← HRD.out, rdig, hh]
        simp)
      have HL2 : Hid (neg = true → (out ++ [45]).reverse = intT neg N) := Lib.hid (fun hh => by
        unfold intT
        rw [if_neg HN0.out, ← HRD.out, rdig, hh]
        simp)
      cases neg
      · obtain ⟨g, cap, cur, hv, hbg, hgl, hgb, hle, hcap, hcur⟩ := ob_blk HOB.out hone
        obtain ⟨rfl, rfl⟩ : some ⟨g, 0, none⟩ = A3 ∧ cap = c3 := by injection hv with h1 h2 h3; exact ⟨h1.symm, h3.symm⟩
        have HLT := Lib.hid (HL1.out rfl)
        obtain ⟨L, hL, hlen⟩ : ∃ L, L = out ∧ L.length = out.length := ⟨_, rfl, rfl⟩
        rw [← hL] at HLT
        have hcur : ∀ t, (h : t < L.length) → cur[t]? = some (.int .u8 (L[t].toNat : Int)) := by rw [hL]; exact hcur
        clear hv HL1 HL2 hL
        go_wp2_with fail
        go_loopw [12, 13] (fun i j wx => RvRel w g L i j wx) (fun i j _ => (intOf j - intOf i + 1).toNat)
        case atStart => exact ⟨0, L.length - 1, cur, rfl, (by congr 1; omega), by omega, by omega, hgb, fun t ht => by rw [hcur t ht]; simp only [RVs]; rw [if_neg (by omega), List.getD_eq_getElem?_getD, List.getElem?_eq_getElem ht]; rfl, hgl, HB.out⟩
        case round =>
          obtain ⟨k, m, cu, rfl, rfl, hkm, hk1, hg9, hc9, hg9l, hb9⟩ := hrel
          by_cases hlt : k < m
          · obtain ⟨x, hx⟩ : ∃ x : Int, x = (RVs L k k : Nat) := ⟨_, rfl⟩
            obtain ⟨y, hy⟩ : ∃ x : Int, x = (RVs L k m : Nat) := ⟨_, rfl⟩
            have hck : wr.cell? ⟨g, k, none⟩ = some (.int .u8 x) := by
              simp only [World.cell?, hg9]
              rw [hc9 k (by omega), hx]
              rfl
            have hcm : wr.cell? ⟨g, m, none⟩ = some (.int .u8 y) := by
              simp only [World.cell?, hg9]
              rw [hc9 m (by omega), hy]
              rfl
            have hfk : ∀ o, wr.frozen? ⟨g, o, none⟩ = false := fun o => by simp [World.frozen?, hg9]
            have HREL_ := Lib.hid (fun W hW hWb => rv_step (w0 := w) (W := W) hkm hlt hg9 hg9l hc9 hb9 hx hy hW hWb)
            have hne1 : k ≠ m := by omega
            have hne2 : m ≠ k := by omega
            have hkL : k < L.length := by omega
            have hmL : m < L.length := by omega
            have hml1 : 1 ≤ m := by omega
            have X1 : (k < out.length) = True := by simp; omega
            have X2 : (m < out.length) = True := by simp; omega
            have hLb : L.length ≤ 51 := by omega
            have hbW : w.heap.size ≤ g := hbg
            clear hx hy hc9 hg9 hb9 hkm hk1 hcur hgb hle hcap
            go_wp2_with fail
            refine start_ (n := 16) (S := fun w' => w'.cell? ⟨g, k, none⟩ = some (.int .u8 x) ∧ w'.cell? ⟨g, m, none⟩ = some (.int .u8 y)) (ds := [13, 15]) #[false, false, false, false, false, false, false, false, false, false, false, false, false, false, false, false] (by kernel_rfl) rfl rfl ⟨(by go_simp), (by go_simp)⟩ (fun hHeld => ?_)
            refine with_tabW R78.tab23 R78.bits23 (fun HT_ HW_ => ?_)
            refine pure_ (i := 0) (N := some 89) (v := ?_) (a' := ?_) #[true, false, false, false, false, false, false, false, false, false, false, false, false, false, false, false] rfl rfl (any_of HT_.out (by kernel_rfl)) (fun _ _ _ h => h) (Or.inl ⟨by rfl, ?_⟩) ?_ ?_
            rotate_left
            · intro w'
              go_simp
              with_reducible rfl
            rotate_left
            · simp only [Act.put, List.setIfInBounds_toArray, List.set_cons_zero, List.set_cons_succ, i64_w, i32_w]
              rfl
            refine pure_ (i := 1) (N := some 90) (v := ?_) (a' := ?_) #[true, true, false, false, false, false, false, false, false, false, false, false, false, false, false, false] rfl rfl (any_of HT_.out (by kernel_rfl)) (fun _ _ _ h => h) (Or.inl ⟨by rfl, ?_⟩) ?_ ?_
            rotate_left
            · intro w'
              go_simp
              with_reducible rfl
            rotate_left
            · simp only [Act.put, List.setIfInBounds_toArray, List.set_cons_zero, List.set_cons_succ, i64_w, i32_w]
              rfl
            refine pure_ (i := 2) (N := some 91) (v := ?_) (a' := ?_) #[true, true, true, false, false, false, false, false, false, false, false, false, false, false, false, false] rfl rfl (any_of HT_.out (by kernel_rfl)) (fun _ _ _ h => h) (Or.inl ⟨by rfl, ?_⟩) ?_ ?_
            rotate_left
            · intro w'
              go_simp
              with_reducible rfl
            rotate_left
            · simp only [Act.put, List.setIfInBounds_toArray, List.set_cons_zero, List.set_cons_succ, i64_w, i32_w]
              rfl
            refine pure_ (i := 3) (N := some 92) (v := ?_) (a' := ?_) #[true, true, true, true, false, false, false, false, false, false, false, false, false, false, false, false] rfl rfl (any_of HT_.out (by kernel_rfl)) (fun _ _ _ h => h) (Or.inl ⟨by rfl, ?_⟩) ?_ ?_
            rotate_left
            · intro w'
              go_simp
              with_reducible rfl
            rotate_left
            · simp only [Act.put, List.setIfInBounds_toArray, List.set_cons_zero, List.set_cons_succ, i64_w, i32_w]
              rfl
            refine pure_ (i := 4) (N := some 93) (v := ?_) (a' := ?_) #[true, true, true, true, true, false, false, false, false, false, false, false, false, false, false, false] rfl rfl (any_of HT_.out (by kernel_rfl)) (fun _ _ _ h => h) (Or.inl ⟨by rfl, ?_⟩) ?_ ?_
            rotate_left
            · intro w'
              go_simp
              with_reducible rfl
            rotate_left
            · simp only [Act.put, List.setIfInBounds_toArray, List.set_cons_zero, List.set_cons_succ, i64_w, i32_w]
              rfl
            refine pure_ (i := 5) (N := some 94) (v := ?_) (a' := ?_) #[true, true, true, true, true, true, false, false, false, false, false, false, false, false, false, false] rfl rfl (any_of HT_.out (by kernel_rfl)) (fun _ _ _ h => h) (Or.inl ⟨by rfl, ?_⟩) ?_ ?_
            rotate_left
            · intro w'
              go_simp
              with_reducible rfl
            rotate_left
            · simp only [Act.put, List.setIfInBounds_toArray, List.set_cons_zero, List.set_cons_succ, i64_w, i32_w]
              rfl
            refine pure_ (i := 6) (N := some 95) (v := ?_) (a' := ?_) #[true, true, true, true, true, true, true, false, false, false, false, false, false, false, false, false] rfl rfl (any_of HT_.out (by kernel_rfl)) (fun _ _ _ h => h) (Or.inl ⟨by rfl, ?_⟩) ?_ ?_
            rotate_left
            · intro w'
              go_simp
              with_reducible rfl
            rotate_left
            · simp only [Act.put, List.setIfInBounds_toArray, List.set_cons_zero, List.set_cons_succ, i64_w, i32_w]
              rfl
            refine pure_ (i := 8) (N := some 97) (v := ?_) (a' := ?_) #[true, true, true, true, true, true, true, false, true, false, false, false, false, false, false, false] rfl rfl (any_of HT_.out (by kernel_rfl)) (fun _ _ _ h => h) (Or.inl ⟨by rfl, ?_⟩) ?_ ?_
            rotate_left
            · intro w'
              go_simp
              with_reducible rfl
            rotate_left
            · simp only [Act.put, List.setIfInBounds_toArray, List.set_cons_zero, List.set_cons_succ, i64_w, i32_w]
              rfl
            refine pure_ (i := 9) (N := some 98) (v := ?_) (a' := ?_) #[true, true, true, true, true, true, true, false, true, true, false, false, false, false, false, false] rfl rfl (any_of HT_.out (by kernel_rfl)) (fun _ _ _ h => h) (Or.inl ⟨by rfl, ?_⟩) ?_ ?_
            rotate_left
            · intro w'
              go_simp
              with_reducible rfl
            rotate_left
            · simp only [Act.put, List.setIfInBounds_toArray, List.set_cons_zero, List.set_cons_succ, i64_w, i32_w]
              rfl
            refine pure_ (i := 10) (N := some 99) (v := ?_) (a' := ?_) #[true, true, true, true, true, true, true, false, true, true, true, false, false, false, false, false] rfl rfl (any_of HT_.out (by kernel_rfl)) (fun _ _ _ h => h) (Or.inl ⟨by rfl, ?_⟩) ?_ ?_
            rotate_left
            · intro w'
              go_simp
              with_reducible rfl
            rotate_left
            · simp only [Act.put, List.setIfInBounds_toArray, List.set_cons_zero, List.set_cons_succ, i64_w, i32_w]
              rfl
            refine take_ (i := 7) (N := some 96) (v := ?_) (a' := ?_) #[true, true, true, true, true, true, true, true, true, true, true, false, false, false, false, false] rfl rfl (take_ofW HT_.out HW_.out (by kernel_rfl)) (fun _ _ _ h => h) (Or.inl ⟨by rfl, ?_⟩) hHeld ?_ ?_
            rotate_left
            · rintro w' ⟨s0, s1⟩
              go_simp
              with_reducible rfl
            rotate_left
            · simp only [Act.put, List.setIfInBounds_toArray, List.set_cons_zero, List.set_cons_succ, i64_w, i32_w]
              rfl
            refine take_ (i := 11) (N := some 100) (v := ?_) (a' := ?_) #[true, true, true, true, true, true, true, true, true, true, true, true, false, false, false, false] rfl rfl (take_ofW HT_.out HW_.out (by kernel_rfl)) (fun _ _ _ h => h) (Or.inl ⟨by rfl, ?_⟩) hHeld ?_ ?_
            rotate_left
            · rintro w' ⟨s0, s1⟩
              go_simp
              with_reducible rfl
            rotate_left
            · simp only [Act.put, List.setIfInBounds_toArray, List.set_cons_zero, List.set_cons_succ, i64_w, i32_w]
              rfl
            refine pure_ (i := 12) (N := some 101) (v := ?_) (a' := ?_) #[true, true, true, true, true, true, true, true, true, true, true, true, true, false, false, false] rfl rfl (any_of HT_.out (by kernel_rfl)) (fun _ _ _ h => h) (Or.inl ⟨by rfl, ?_⟩) ?_ ?_
            rotate_left
            · intro w'
              go_simp
              with_reducible rfl
            rotate_left
            · simp only [Act.put, List.setIfInBounds_toArray, List.set_cons_zero, List.set_cons_succ, i64_w, i32_w]
              rfl
            refine last_ (i := 13) (N := none) #[true, true, true, true, true, true, true, true, true, true, true, true, true, true, false, false] rfl rfl (one_of HT_.out (by kernel_rfl)) (by decide) (fun K hK => ?_)
            refine skip_ (w1 := ?_) (by rfl) rfl ?_ ?_
            rotate_left
            · go_simp
              rfl
            refine hK.out _ _ ?_
            clear hK K
            refine pure_ (i := 14) (N := some 102) (v := ?_) (a' := ?_) #[true, true, true, true, true, true, true, true, true, true, true, true, true, true, true, false] rfl rfl (any_of HT_.out (by kernel_rfl)) (fun _ _ _ h => h) (Or.inl ⟨by rfl, ?_⟩) ?_ ?_
            rotate_left
            · intro w'
              go_simp
              with_reducible rfl
            rotate_left
            · simp only [Act.put, List.setIfInBounds_toArray, List.set_cons_zero, List.set_cons_succ, i64_w, i32_w]
              rfl
            refine last_ (i := 15) (N := none) #[true, true, true, true, true, true, true, true, true, true, true, true, true, true, true, true] rfl rfl (one_of HT_.out (by kernel_rfl)) (by decide) (fun K hK => ?_)
            refine skip_ (w1 := ?_) (by rfl) rfl ?_ ?_
            rotate_left
            · go_simp
              rfl
            refine hK.out _ _ ?_
            clear hK K
            refine done_ (done_of HT_.out (by kernel_rfl)) ?_
            go_wp2_with fail
            go_roundw
            case rel => exact HREL_.out _ (by first | rfl | simp [World.setCell, World.drew]) (by first | exact bdrew (((Below.refl _ _).setCell hbW _).setCell hbW _) | exact ((bdrew (Below.refl _ _)).setCell hbW _).setCell hbW _)
            case measure => simp [intOf]; omega
          · have hsb := rv_sb hkm hlt hk1 hg9 hc9 (by omega) hcap
            rw [HLT.out] at hsb
            have hil : (intT false N).length = L.length := by rw [← HLT.out, List.length_reverse]
            have HSB := Lib.hid hsb
            have HIL := Lib.hid hil
            have HB9 := Lib.hid hb9
            have HLN := Lib.hid hlen
            clear hsb hil hb9 hc9 hg9 hcur hgb hlen
            go_wp2_with fail
            go_ret
            exact ⟨_, _, by rw [HIL.out, HLN.out]; rfl, HSB.out, HB9.out⟩
      · go_wp2_with (first | (refine wp_app (.tmp 76) (.tmp 77) 38 rfl rfl infoU8 Tryd.underlying38 _ w.heap.size (.slice A3 out.length c3) out (some ⟨wr.heap.size, 0, none⟩) 1 [45] rfl rfl ?a1 ?a2 ?a3 ?a4 ?_) | fail)
        case a1 => exact HOB.out.alloc _
        case a2 => exact SB.lit_ _ [45] _ rfl (by simp) _ rfl
        case a3 => first | omega | (simp; omega)
        case a4 => first | omega | (simp; omega)
        intro v5 w5 hap
        obtain ⟨g, cap, cur, hv, hbg, hgl, hgb, hle, hcap, hcur⟩ := ob_blk hap.own (by simp)
        have HB5 := Lib.hid ((balloc HB.out hsz _).trans (hap.kept (HOB.out.alloc _) (by simp; omega)))
        have HLT := Lib.hid (HL2.out (by trivial))
        obtain ⟨L, hL, hlen⟩ : ∃ L, L = out ++ [45] ∧ L.length = out.length + 1 := ⟨_, rfl, by simp⟩
        rw [← hL] at HLT
        have hcur : ∀ t, (h : t < L.length) → cur[t]? = some (.int .u8 (L[t].toNat : Int)) := by rw [hL]; exact hcur
        have hle : out.length + 1 ≤ cap := by simpa using hle
        clear hap HL1 HL2 hL HOB
        subst hv
        go_wp2_with fail
        go_loopw [12, 13] (fun i j wx => RvRel w g L i j wx) (fun i j _ => (intOf j - intOf i + 1).toNat)
        case atStart => exact ⟨0, L.length - 1, cur, rfl, (by congr 1; omega), by omega, by omega, hgb, fun t ht => by rw [hcur t ht]; simp only [RVs]; rw [if_neg (by omega), List.getD_eq_getElem?_getD, List.getElem?_eq_getElem ht]; rfl, hgl, HB5.out⟩
        case round =>
          obtain ⟨k, m, cu, rfl, rfl, hkm, hk1, hg9, hc9, hg9l, hb9⟩ := hrel
          by_cases hlt : k < m
          · obtain ⟨x, hx⟩ : ∃ x : Int, x = (RVs L k k : Nat) := ⟨_, rfl⟩
            obtain ⟨y, hy⟩ : ∃ x : Int, x = (RVs L k m : Nat) := ⟨_, rfl⟩
            have hck : wr.cell? ⟨g, k, none⟩ = some (.int .u8 x) := by
              simp only [World.cell?, hg9]
              rw [hc9 k (by omega), hx]
              rfl
            have hcm : wr.cell? ⟨g, m, none⟩ = some (.int .u8 y) := by
              simp only [World.cell?, hg9]
              rw [hc9 m (by omega), hy]
              rfl
            have hfk : ∀ o, wr.frozen? ⟨g, o, none⟩ = false := fun o => by simp [World.frozen?, hg9]
            have HREL_ := Lib.hid (fun W hW hWb => rv_step (w0 := w) (W := W) hkm hlt hg9 hg9l hc9 hb9 hx hy hW hWb)
            have hne1 : k ≠ m := by omega
            have hne2 : m ≠ k := by omega
            have hkL : k < L.length := by omega
            have hmL : m < L.length := by omega
            have hml1 : 1 ≤ m := by omega
            have X1 : ((k : Int) < (out.length : Int) + 1) = True := by simp; omega
            have X2 : ((m : Int) < (out.length : Int) + 1) = True := by simp; omega
            have hLb : L.length ≤ 51 := by omega
            have hbW : w.heap.size ≤ g := hbg
            clear hx hy hc9 hg9 hb9 hkm hk1 hcur hgb hle hcap
            go_wp2_with fail
            refine start_ (n := 16) (S := fun w' => w'.cell? ⟨g, k, none⟩ = some (.int .u8 x) ∧ w'.cell? ⟨g, m, none⟩ = some (.int .u8 y)) (ds := [13, 15]) #[false, false, false, false, false, false, false, false, false, false, false, false, false, false, false, false] (by kernel_rfl) rfl rfl ⟨(by go_simp), (by go_simp)⟩ (fun hHeld => ?_)
            refine with_tabW R78.tab23 R78.bits23 (fun HT_ HW_ => ?_)
            refine pure_ (i := 0) (N := some 89) (v := ?_) (a' := ?_) #[true, false, false, false, false, false, false, false, false, false, false, false, false, false, false, false] rfl rfl (any_of HT_.out (by kernel_rfl)) (fun _ _ _ h => h) (Or.inl ⟨by rfl, ?_⟩) ?_ ?_
            rotate_left
            · intro w'
              go_simp
              with_reducible rfl
            rotate_left
            · simp only [Act.put, List.setIfInBounds_toArray, List.set_cons_zero, List.set_cons_succ, i64_w, i32_w]
              rfl
            refine pure_ (i := 1) (N := some 90) (v := ?_) (a' := ?_) #[true, true, false, false, false, false, false, false, false, false, false, false, false, false, false, false] rfl rfl (any_of HT_.out (by kernel_rfl)) (fun _ _ _ h => h) (Or.inl ⟨by rfl, ?_⟩) ?_ ?_
            rotate_left
            · intro w'
              go_simp
              with_reducible rfl
            rotate_left
            · simp only [Act.put, List.setIfInBounds_toArray, List.set_cons_zero, List.set_cons_succ, i64_w, i32_w]
              rfl
            refine pure_ (i := 2) (N := some 91) (v := ?_) (a' := ?_) #[true, true, true, false, false, false, false, false, false, false, false, false, false, false, false, false] rfl rfl (any_of HT_.out (by kernel_rfl)) (fun _ _ _ h => h) (Or.inl ⟨by rfl, ?_⟩) ?_ ?_
            rotate_left
            · intro w'
              go_simp
              with_reducible rfl
            rotate_left
            · simp only [Act.put, List.setIfInBounds_toArray, List.set_cons_zero, List.set_cons_succ, i64_w, i32_w]
              rfl
            refine pure_ (i := 3) (N := some 92) (v := ?_) (a' := ?_) #[true, true, true, true, false, false, false, false, false, false, false, false, false, false, false, false] rfl rfl (any_of HT_.out (by kernel_rfl)) (fun _ _ _ h => h) (Or.inl ⟨by rfl, ?_⟩) ?_ ?_
            rotate_left
            · intro w'
              go_simp
              with_reducible rfl
            rotate_left
            · simp only [Act.put, List.setIfInBounds_toArray, List.set_cons_zero, List.set_cons_succ, i64_w, i32_w]
              rfl
            refine pure_ (i := 4) (N := some 93) (v := ?_) (a' := ?_) #[true, true, true, true, true, false, false, false, false, false, false, false, false, false, false, false] rfl rfl (any_of HT_.out (by kernel_rfl)) (fun _ _ _ h => h) (Or.inl ⟨by rfl, ?_⟩) ?_ ?_
            rotate_left
            · intro w'
              go_simp
              with_reducible rfl
            rotate_left
            · simp only [Act.put, List.setIfInBounds_toArray, List.set_cons_zero, List.set_cons_succ, i64_w, i32_w]
              rfl
            refine pure_ (i := 5) (N := some 94) (v := ?_) (a' := ?_) #[true, true, true, true, true, true, false, false, false, false, false, false, false, false, false, false] rfl rfl (any_of HT_.out (by kernel_rfl)) (fun _ _ _ h => h) (Or.inl ⟨by rfl, ?_⟩) ?_ ?_
            rotate_left
            · intro w'
              go_simp
              with_reducible rfl
            rotate_left
            · simp only [Act.put, List.setIfInBounds_toArray, List.set_cons_zero, List.set_cons_succ, i64_w, i32_w]
              rfl
            refine pure_ (i := 6) (N := some 95) (v := ?_) (a' := ?_) #[true, true, true, true, true, true, true, false, false, false, false, false, false, false, false, false] rfl rfl (any_of HT_.out (by kernel_rfl)) (fun _ _ _ h => h) (Or.inl ⟨by rfl, ?_⟩) ?_ ?_
            rotate_left
            · intro w'
              go_simp
              with_reducible rfl
            rotate_left
            · simp only [Act.put, List.setIfInBounds_toArray, List.set_cons_zero, List.set_cons_succ, i64_w, i32_w]
              rfl
            refine pure_ (i := 8) (N := some 97) (v := ?_) (a' := ?_) #[true, true, true, true, true, true, true, false, true, false, false, false, false, false, false, false] rfl rfl (any_of HT_.out (by kernel_rfl)) (fun _ _ _ h => h) (Or.inl ⟨by rfl, ?_⟩) ?_ ?_
            rotate_left
            · intro w'
              go_simp
              with_reducible rfl
            rotate_left
            · simp only [Act.put, List.setIfInBounds_toArray, List.set_cons_zero, List.set_cons_succ, i64_w, i32_w]
              rfl
            refine pure_ (i := 9) (N := some 98) (v := ?_) (a' := ?_) #[true, true, true, true, true, true, true, false, true, true, false, false, false, false, false, false] rfl rfl (any_of HT_.out (by kernel_rfl)) (fun _ _ _ h => h) (Or.inl ⟨by rfl, ?_⟩) ?_ ?_
            rotate_left
            · intro w'
              go_simp
              with_reducible rfl
            rotate_left
            · simp only [Act.put, List.setIfInBounds_toArray, List.set_cons_zero, List.set_cons_succ, i64_w, i32_w]
              rfl
            refine pure_ (i := 10) (N := some 99) (v := ?_) (a' := ?_) #[true, true, true, true, true, true, true, false, true, true, true, false, false, false, false, false] rfl rfl (any_of HT_.out (by kernel_rfl)) (fun _ _ _ h => h) (Or.inl ⟨by rfl, ?_⟩) ?_ ?_
            rotate_left
            · intro w'
              go_simp
              with_reducible rfl
            rotate_left
            · simp only [Act.put, List.setIfInBounds_toArray, List.set_cons_zero, List.set_cons_succ, i64_w, i32_w]
              rfl
            refine take_ (i := 7) (N := some 96) (v := ?_) (a' := ?_) #[true, true, true, true, true, true, true, true, true, true, true, false, false, false, false, false] rfl rfl (take_ofW HT_.out HW_.out (by kernel_rfl)) (fun _ _ _ h => h) (Or.inl ⟨by rfl, ?_⟩) hHeld ?_ ?_
            rotate_left
            · rintro w' ⟨s0, s1⟩
              go_simp
              with_reducible rfl
            rotate_left
            · simp only [Act.put, List.setIfInBounds_toArray, List.set_cons_zero, List.set_cons_succ, i64_w, i32_w]
              rfl
            refine take_ (i := 11) (N := some 100) (v := ?_) (a' := ?_) #[true, true, true, true, true, true, true, true, true, true, true, true, false, false, false, false] rfl rfl (take_ofW HT_.out HW_.out (by kernel_rfl)) (fun _ _ _ h => h) (Or.inl ⟨by rfl, ?_⟩) hHeld ?_ ?_
            rotate_left
            · rintro w' ⟨s0, s1⟩
              go_simp
              with_reducible rfl
            rotate_left
            · simp only [Act.put, List.setIfInBounds_toArray, List.set_cons_zero, List.set_cons_succ, i64_w, i32_w]
              rfl
            refine pure_ (i := 12) (N := some 101) (v := ?_) (a' := ?_) #[true, true, true, true, true, true, true, true, true, true, true, true, true, false, false, false] rfl rfl (any_of HT_.out (by kernel_rfl)) (fun _ _ _ h => h) (Or.inl ⟨by rfl, ?_⟩) ?_ ?_
            rotate_left
            · intro w'
              go_simp
              with_reducible rfl
            rotate_left
            · simp only [Act.put, List.setIfInBounds_toArray, List.set_cons_zero, List.set_cons_succ, i64_w, i32_w]
              rfl
            refine last_ (i := 13) (N := none) #[true, true, true, true, true, true, true, true, true, true, true, true, true, true, false, false] rfl rfl (one_of HT_.out (by kernel_rfl)) (by decide) (fun K hK => ?_)
            refine skip_ (w1 := ?_) (by rfl) rfl ?_ ?_
            rotate_left
            · go_simp
              rfl
            refine hK.out _ _ ?_
            clear hK K
            refine pure_ (i := 14) (N := some 102) (v := ?_) (a' := ?_) #[true, true, true, true, true, true, true, true, true, true, true, true, true, true, true, false] rfl rfl (any_of HT_.out (by kernel_rfl)) (fun _ _ _ h => h) (Or.inl ⟨by rfl, ?_⟩) ?_ ?_
            rotate_left
            · intro w'
              go_simp
              with_reducible rfl
            rotate_left
            · simp only [Act.put, List.setIfInBounds_toArray, List.set_cons_zero, List.set_cons_succ, i64_w, i32_w]
              rfl
            refine last_ (i := 15) (N := none) #[true, true, true, true, true, true, true, true, true, true, true, true, true, true, true, true] rfl rfl (one_of HT_.out (by kernel_rfl)) (by decide) (fun K hK => ?_)
            refine skip_ (w1 := ?_) (by rfl) rfl ?_ ?_
            rotate_left
            · go_simp
              rfl
            refine hK.out _ _ ?_
            clear hK K
            refine done_ (done_of HT_.out (by kernel_rfl)) ?_
            go_wp2_with fail
            go_roundw
            case rel => exact HREL_.out _ (by first | rfl | simp [World.setCell, World.drew]) (by first | exact bdrew (((Below.refl _ _).setCell hbW _).setCell hbW _) | exact ((bdrew (Below.refl _ _)).setCell hbW _).setCell hbW _)
            case measure => simp [intOf]; omega
          · have hsb := rv_sb hkm hlt hk1 hg9 hc9 (by omega) hcap
            rw [HLT.out] at hsb
            have hil : (intT true N).length = L.length := by rw [← HLT.out, List.length_reverse]
            have HSB := Lib.hid hsb
            have HIL := Lib.hid hil
            have HB9 := Lib.hid hb9
            have HLN := Lib.hid hlen
            clear hsb hil hb9 hc9 hg9 hcur hgb hlen
            go_wp2_with fail
            go_ret
            exact ⟨_, _, by rw [HIL.out, HLN.out, show out.length + 1 = (out ++ [45]).length from by simp]; rfl, HSB.out, HB9.out⟩
    · have hmp := nat32_pos M hM
      have HD := Lib.hid (divW A1 c1 M wr hgs (by omega))
      have hl42 := nat32_len2 M hl4
      obtain ⟨n1, hn1⟩ : ∃ n, n = (nat32 M).length := ⟨_, rfl⟩
      rw [← hn1] at hmp hl4 HD ⊢
      obtain ⟨n2, hn2⟩ : ∃ n, n = (nat32 (M / 1000000000)).length := ⟨_, rfl⟩
      rw [← hn2] at HD hl42
      have HOB := Lib.hid hob
      have HRD := Lib.hid hrd
      have HB := Lib.hid hb
      have HN1 := Lib.hid hn1
      have HN2 := Lib.hid hn2
      have HM : Hid (M ≠ 0) := Lib.hid hM
      have hsz := hb.size
      clear hn1 hn2 hob hrd hb hgs hap hM
      go_wp2_with fail
      refine HD.out.mono ?_
      rintro e w4 ⟨A4, c4, rfl, hg4, hf4, hlt4, hb4⟩
      have hst2 : Hid (TyRel w N (M / 1000000000) A4 c4 (.slice A3 out.length c3) (.int .u32 ((M : Int) % 1000000000)) (.int .i64 0) w4) := Lib.hid ⟨0, 9, M % 1000000000, out, hlt4, rfl, rfl, by simp, by omega, hg4, HOB.out.keep hb4, fun a ha he => by have h1 := hf4 a ha; have h2 := own_lt HOB.out _ he; omega, by rw [HRD.out]; congr 2; omega, HB.out.trans (hb4.mono hsz)⟩
      clear hb4 hf4 hg4 HB HOB HD
      go_wp2_with fail
      go_loopw [9, 10, 11] (fun v r i wx => TyRel w N (M / 1000000000) A4 c4 v r i wx) (fun _ _ i _ => 9 - (intOf i).toNat)
      case atStart => exact hst2.out
      case round =>
        obtain ⟨j, k, rr, out2, hA4, hjk, rfl, rfl, hrr, hgs, hob, hap, hrd, hb⟩ := hrel
        by_cases hgo : 0 < k ∧ (0 < n2 ∨ 0 < rr)
        · obtain ⟨p, rfl⟩ : ∃ p, k = p + 1 := ⟨k - 1, by omega⟩
          obtain ⟨A6, c6, rfl, hg6, hn6⟩ := hob.sb
          have hcur : 0 < M / 1000000000 * (10 * 10 ^ p) + rr := by
            rcases hgo.2 with h | h
            · have h2 : M / 1000000000 ≠ 0 := fun e => by
                have := HN2.out
                rw [e, nat32_zero] at this
                simp at this
                omega
              have h3 : 0 < M / 1000000000 * (10 * 10 ^ p) := Nat.mul_pos (Nat.pos_of_ne_zero h2) (Nat.mul_pos (by decide) (Nat.pow_pos (by decide)))
              omega
            · omega
          have hstep := rdig_round (M / 1000000000) rr (10 ^ p) hcur (Nat.pow_pos (by decide))
          rw [Nat.pow_succ, Nat.mul_comm (10 ^ p) 10] at hrd
          rw [hstep] at hrd
          have hol : out2.length ≤ 50 := by
            have := congrArg List.length hrd
            simp at this
            have := HRL.out
            omega
          have hrr2 : rr / 10 < 10 ^ p := by rw [Nat.pow_succ] at hrr; omega
          have hrb : rr < 1000000000 := Nat.lt_of_lt_of_le hrr (Nat.le_trans (Nat.pow_le_pow_right (by decide) (by omega : p + 1 ≤ 9)) (by decide))
          obtain ⟨d, hd⟩ : ∃ d : Int, d = ((rr % 10 : Nat) : Int) := ⟨_, rfl⟩
          have hd0 : (rr : Int) % 10 = d := by omega
          have hdr : 0 ≤ d ∧ d < 10 := by omega
          have hidx := fun W => idx_dig d hdr.1 hdr.2 W
          rw [← hd] at hrd
          have hsz := hb.size
          have HOB := Lib.hid hob
          have HRD := Lib.hid hrd
          have HB := Lib.hid hb
          have HG := Lib.hid hgs
          have HAP := Lib.hid hap
          have HRR := Lib.hid hrr2
          obtain ⟨n6, hn6e⟩ : ∃ n, n = out2.length := ⟨_, rfl⟩
          rw [← hn6e] at HOB HAP ⊢
          have hn6b : n6 ≤ 50 := by omega
          have hj8 : j ≤ 8 := by omega
          have HN6 := Lib.hid hn6e
          have g1 : decide ((j : Int) < 9) = true := by simp; omega
          have g2 : (decide (0 < n2) = true) ∨ (n2 = 0 ∧ decide (0 < rr) = true) := by
            rcases Nat.eq_zero_or_pos n2 with h | h
            · exact .inr ⟨h, by simp; omega⟩
            · exact .inl (by simpa using h)
          unfold DIGS at hidx
          have HNEXT : Hid (∀ (v5 : Value) (w5 : World), App (E := 5) (wr.alloc (.cells #[.int .u8 (48 + d)] 5)) w.heap.size (.slice A6 n6 c6) (out2 ++ [ub (48 + d)]) v5 w5 → TyRel w N (M / 1000000000) A4 c4 v5 (.int .u32 ((rr / 10 : Nat) : Int)) (.int .i64 ((j + 1 : Nat) : Int)) w5) := Lib.hid fun v5 w5 hap => by
            refine ⟨j + 1, p, rr / 10, out2 ++ [ub (48 + d)], fun a ha => by have h1 := hA4 a ha; have h2 := hap.grown.size; simp only [World.size_alloc] at h2; omega, by omega, rfl, rfl, HRR.out, ?_, hap.own, ?_, ?_, ?_⟩
            · exact gs_grown (HG.out.alloc _) hap.grown (fun a ha => HAP.out a ha)
            · intro a ha
              rcases hap.at_ with h | ⟨b, h, hb⟩
              · rw [h]; exact HAP.out a ha
              · rw [h]
                intro he
                injection he with he
                have hlt := hA4 a ha
                simp only [World.size_alloc] at hb
                omega
            · rw [HRD.out, List.append_assoc]; rfl
            · exact (balloc HB.out hsz _).trans (hap.kept (HOB.out.alloc _) (by simp; omega))
          clear hob hrd hb hgs hap hrr2 hrr hcur hstep hg6 hn6 hd hn6e hjk hgo
          rcases g2 with g2 | ⟨rfl, g2⟩
          all_goals
            go_wp2_with (first | (refine wp_app (.tmp 63) (.tmp 69) 38 rfl rfl infoU8 Tryd.underlying38 _ w.heap.size (.slice A6 n6 c6) out2 (some ⟨wr.heap.size, 0, none⟩) 1 [ub (48 + d)] rfl rfl ?a1 ?a2 ?a3 ?a4 ?_) | fail)
            case a1 => exact HOB.out.alloc _
            case a2 => exact SB.lit_ _ [ub (48 + d)] _ (by simp [byv, ub_toNat]; omega) (by simp) _ rfl
            case a3 => first | omega | (simp; omega)
            case a4 => have := HN6.out; first | omega | (simp; omega)
            intro v5 w5 hap
            have HF := Lib.hid (HNEXT.out v5 w5 hap)
            clear hap
            go_wp2_with fail
            go_roundw
            case rel => have h := HF.out; simpa using h
            case measure => simp [intOf]; omega
        · obtain ⟨A6, c6, hv6, hg6, hn6⟩ := hob.sb
          subst hv6
          have hfin : M / 1000000000 * 10 ^ k + rr = M / 1000000000 := by
            by_cases hk0 : k = 0
            · subst hk0; simp at hrr; omega
            · have h1 : n2 = 0 := by omega
              have h2 : rr = 0 := by omega
              have h3 := nat32_nil _ (HN2.out.symm.trans h1)
              rw [h2, h3]; simp
          rw [hfin] at hrd
          have hlong : out.length < out2.length := by
            have e1 := congrArg List.length (HRD.out.symm.trans hrd)
            have e2 := rdig_shorter M HM.out
            simp only [List.length_append] at e1
            omega
          have hol : out2.length ≤ 50 := by
            have := congrArg List.length hrd
            simp only [List.length_append] at this
            have := HRL.out
            omega
          have HF : Hid (TxRel w N (.slice A4 n2 c4) (.slice A6 out2.length c6) wr) := Lib.hid ⟨M / 1000000000, A4, c4, out2, by rw [← HN2.out], hgs, by rw [← HN2.out]; exact hl42, hob, hap, hrd, hb⟩
          obtain ⟨n6, hn6e⟩ : ∃ n, n = out2.length := ⟨_, rfl⟩
          rw [← hn6e] at HF ⊢
          have hms : 60 - n6 < 60 - out.length := by omega
          have hcs : (decide ((j : Int) < 9) = false) ∨ (decide ((j : Int) < 9) = true ∧ n2 = 0 ∧ rr = 0) := by
            by_cases hk0 : k = 0
            · exact .inl (by simp; omega)
            · exact .inr ⟨by simp; omega, by omega, by omega⟩
          clear hgo hob hap hrd hb hfin hlong hol hn6e hrr hgs hjk hg6 hn6
          rcases hcs with g1 | ⟨g1, rfl, rfl⟩
          all_goals
            go_wp2_with fail
            go_roundw
            case rel => exact HF.out
            case measure => exact hms
end Go.Proofs.YtjjfdamlicoeeaaDoor.X
