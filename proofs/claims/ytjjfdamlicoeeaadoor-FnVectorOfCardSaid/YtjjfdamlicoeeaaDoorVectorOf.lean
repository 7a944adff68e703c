/- The law FnVectorOf. -/
import Derived.Test.YtjjfdamlicoeeaaDoorVecV
set_option linter.unusedVariables false
set_option linter.unusedSimpArgs false
set_option maxRecDepth 100000
namespace Go.Proofs.YtjjfdamlicoeeaaDoor.X
open Go.RowKit Go.Deep
theorem quads_le : ∀ (r : List UInt8), ∀ x ∈ quads r, x ≤ 4294967295
  | a :: b :: c :: d :: r => by
    intro x hx
    simp only [quads, List.mem_cons] at hx
    rcases hx with rfl | hx
    · have := a.toNat_lt
      have := b.toNat_lt
      have := c.toNat_lt
      have := d.toNat_lt
      simp only [Lib.leNat]
      omega
    · exact quads_le r x hx
  | [] => by simp [quads]
  | [_] => by simp [quads]
  | [_, _] => by simp [quads]
  | [_, _, _] => by simp [quads]
theorem law_ok (A : Option Addr) (n c : Nat) (k : Int) (w : World) (hk : 0 ≤ k ∧ k ≤ 255) (hn : n ≤ 500) (fl : List Nat) (S : World → Value → Prop)
    (hSpec : ∀ wx, Below w.heap.size w wx → Calls Tryd.prog 19 #[.int .i64 k, .slice A n c] wx fun e w' => ∃ K AI nI cI AF cF AB nB cB P, e = .returned (.tuple #[.agg #[.int .i64 K, .slice AI nI cI, .slice AF fl.length cF, .slice AB nB cB, .int .i64 P], .bool true]) ∧ GS w' AF cF (u32v fl) ∧ S w' (.agg #[.int .i64 K, .slice AI nI cI, .slice AF fl.length cF, .slice AB nB cB, .int .i64 P]) ∧ Below wx.heap.size wx w')
    (hImpl : ∀ wx, Below w.heap.size w wx → Calls Tryd.prog 20 #[.int .i64 k, .slice A n c] wx fun e w' => ∃ K AI nI cI AF nF cF AB nB cB P, e = .returned (.tuple #[.agg #[.int .i64 K, .slice AI nI cI, .slice AF nF cF, .slice AB nB cB, .int .i64 P], .bool true]) ∧ S w' (.agg #[.int .i64 K, .slice AI nI cI, .slice AF nF cF, .slice AB nB cB, .int .i64 P]) ∧ Below wx.heap.size wx w')
    (hKeep : ∀ w1 w2 v, S w1 v → Below w1.heap.size w1 w2 → S w2 v)
    (hSame : ∀ wx v1 v2, S wx v1 → S wx v2 → Calls Tryd.prog 21 #[v1, v2] wx fun e w' => e = .returned (.bool true) ∧ Below wx.heap.size wx w') :
    Calls Tryd.prog 7 #[.int .u8 k, .slice A n c] w fun e w' => e = .returned (.bool true) ∧ Below w.heap.size w w' := by
  have HSpec := Lib.hid hSpec
  have HImpl := Lib.hid hImpl
  have HKeep := Lib.hid hKeep
  have HSame := Lib.hid hSame
  have d1 : decide ((500 : Int) < (n : Int)) = false := by simp; omega
  have d2 : decide ((2147483647 : Int) < (n : Int)) = false := by simp; omega
  obtain ⟨q, hq⟩ : ∃ q, q = fl.length := ⟨_, rfl⟩
  rw [← hq] at HSpec
  have HQ := Lib.hid hq
  have hwk : wrap64 k = k := by unfold wrap64; omega
  clear hSpec hImpl hKeep hSame hq hn
  go_enter Tryd.func7, Tryd.ntmps7
  go_wp2_with fail
  refine (HSpec.out _ (Below.refl _ _)).mono ?_
  rintro e w1 ⟨K, AI, nI, cI, AF, cF, AB, nB, cB, P, rfl, hgs, hS, hb1⟩
  have HB1 := Lib.hid (balloc hb1 hb1.size (.cells #[.int .i64 K, .slice AI nI cI, .slice AF q cF, .slice AB nB cB, .int .i64 P] 42))
  have HGS := Lib.hid hgs
  have HS1 := Lib.hid (HKeep.out _ _ _ hS (balloc (Below.refl _ w1) (Nat.le_refl _) (.cells #[.int .i64 K, .slice AI nI cI, .slice AF q cF, .slice AB nB cB, .int .i64 P] 42)))
  have hqm : q ≤ 9223372036854775807 := by have := hgs.len; have h2 := HQ.out; simp only [u32v, List.length_map] at this; omega
  clear hb1 hgs hS
  go_wp2_with fail
  go_loop [29] (fun i => ∃ j : Nat, j ≤ q ∧ i = .int .i64 j) (fun i => q - (intOf i).toNat)
  case atStart => exact ⟨0, Nat.zero_le _, rfl⟩
  case round =>
    obtain ⟨j, hj, rfl⟩ := hrel
    by_cases hlt : j < q
    · have hq := HQ.out
      obtain ⟨b, off, rfl, hc⟩ := HGS.out.cells (by simp only [u32v, List.length_map]; omega)
      have hcj := hc j (by simp only [u32v, List.length_map]; omega)
      obtain ⟨x, hx⟩ : ∃ x : Int, Value.int .u32 x = (u32v fl)[j]'(by simp only [u32v, List.length_map]; omega) := ⟨((fl[j]'(by omega) : Nat) : Int), by simp [u32v]⟩
      rw [← hx] at hcj
      have hbl : b < w1.heap.size := World.block_lt_of_cell? _ _ hcj
      have hx0 : 0 ≤ x := by simp only [u32v, List.getElem_map, Value.int.injEq] at hx; omega
      clear hx hc hq
      have HR : Hid (∀ (i : Value), i = .int .i64 ((j : Int) + 1) → ∃ j : Nat, j ≤ q ∧ i = .int .i64 j) := Lib.hid fun i h => ⟨j + 1, by omega, by rw [h]; simp⟩
      go_wp2_with fail
      · go_ret
        exact ⟨rfl, HB1.out⟩
      all_goals
        go_round
        case rel => exact HR.out _ rfl
        case measure => simp [intOf]; omega
    · obtain rfl : j = q := by omega
      go_wp2_with fail
      refine (HImpl.out _ HB1.out).mono ?_
      rintro e w3 ⟨K3, AI3, nI3, cI3, AF3, nF3, cF3, AB3, nB3, cB3, P3, rfl, hS3, hb3⟩
      have hz3 := hb3.size
      simp only [World.size_alloc] at hz3
      obtain ⟨hc3, hf3⟩ := bcell hb3
      simp only [World.size_alloc] at hc3
      have v0 := hc3 w1.heap.size 0 (by omega)
      have v1 := hc3 w1.heap.size 1 (by omega)
      have v2 := hc3 w1.heap.size 2 (by omega)
      have v3 := hc3 w1.heap.size 3 (by omega)
      have v4 := hc3 w1.heap.size 4 (by omega)
      simp [go_sem] at v0 v1 v2 v3 v4
      have R3 : w1.heap.size < w3.heap.size := by omega
      have R3' : w1.heap.size < w3.heap.size + 1 := by omega
      have hw13 : w.heap.size ≤ w3.heap.size := by have := HB1.out.size; simp only [World.size_alloc] at this; omega
      have HB3 := Lib.hid (balloc (bstep HB1.out HB1.out.size hb3) hw13 (.cells #[.int .i64 K3, .slice AI3 nI3 cI3, .slice AF3 nF3 cF3, .slice AB3 nB3 cB3, .int .i64 P3] 42))
      have HS13 := Lib.hid (HKeep.out _ _ _ (HKeep.out _ _ _ HS1.out hb3) (balloc (Below.refl _ w3) (Nat.le_refl _) (.cells #[.int .i64 K3, .slice AI3 nI3 cI3, .slice AF3 nF3 cF3, .slice AB3 nB3 cB3, .int .i64 P3] 42)))
      have HS33 := Lib.hid (HKeep.out _ _ _ hS3 (balloc (Below.refl _ w3) (Nat.le_refl _) (.cells #[.int .i64 K3, .slice AI3 nI3 cI3, .slice AF3 nF3 cF3, .slice AB3 nB3 cB3, .int .i64 P3] 42)))
      clear hb3 hS3 hc3 hf3 hz3
      go_wp2_with fail
      refine (HSame.out _ _ _ HS33.out HS13.out).mono ?_
      rintro e w4 ⟨rfl, hb4⟩
      have HB4 := Lib.hid (bstep HB3.out HB3.out.size hb4)
      clear hb4
      go_wp2_with fail
      go_ret
      exact ⟨rfl, HB4.out⟩
theorem law_no (A : Option Addr) (n c : Nat) (k : Int) (w : World) (hk : 0 ≤ k ∧ k ≤ 255) (hn : n ≤ 500)
    (hSpec : ∀ wx, Below w.heap.size w wx → Calls Tryd.prog 19 #[.int .i64 k, .slice A n c] wx fun e w' => e = .returned (.tuple #[ivec0, .bool false]) ∧ Below wx.heap.size wx w')
    (hImpl : ∀ wx, Below w.heap.size w wx → Calls Tryd.prog 20 #[.int .i64 k, .slice A n c] wx fun e w' => e = .returned (.tuple #[ivec0, .bool false]) ∧ Below wx.heap.size wx w') :
    Calls Tryd.prog 7 #[.int .u8 k, .slice A n c] w fun e w' => e = .returned (.bool true) ∧ Below w.heap.size w w' := by
  have HSpec := Lib.hid hSpec
  have HImpl := Lib.hid hImpl
  have HK := Lib.hid (fun A1 c1 wx (h : SB wx A1 c1 [3, 0, 1]) => vectorOf3 A1 c1 [1] wx h (by simp))
  have d1 : decide ((500 : Int) < (n : Int)) = false := by simp; omega
  have d2 : decide ((2147483647 : Int) < (n : Int)) = false := by simp; omega
  have hwk : wrap64 k = k := by unfold wrap64; omega
  unfold ivec0 at HSpec HImpl
  unfold ivec3 at HK
  simp only [List.length_cons, List.length_nil, Nat.zero_add, Nat.reduceAdd] at HK
  clear hSpec hImpl hn
  go_enter Tryd.func7, Tryd.ntmps7
  go_wp2_with fail
  refine (HSpec.out _ (Below.refl _ _)).mono ?_
  rintro e w1 ⟨rfl, hb1⟩
  have HB1 := Lib.hid (balloc hb1 hb1.size (.cells #[.int .i64 0, .slice none 0 0, .slice none 0 0, .slice none 0 0, .int .i64 0] 42))
  clear hb1
  go_wp2_with fail
  go_loop [29] (fun i => i = .int .i64 0) (fun i => 0)
  case atStart => rfl
  case round =>
    obtain rfl := hrel
    go_wp2_with fail
    refine (HImpl.out _ HB1.out).mono ?_
    rintro e w3 ⟨rfl, hb3⟩
    have hw13 : w.heap.size ≤ w3.heap.size := by have := HB1.out.size; have := hb3.size; omega
    have HB3 := Lib.hid (balloc (balloc (bstep HB1.out HB1.out.size hb3) hw13 (.cells #[.int .i64 0, .slice none 0 0, .slice none 0 0, .slice none 0 0, .int .i64 0] 42)) (by simp; omega) (.cells #[.int .u8 3, .int .u8 0, .int .u8 1] 5))
    clear hb3
    go_wp2_with fail
    have hsb := SB.lit_ (E := 5) (w3.alloc (.cells #[.int .i64 0, .slice none 0 0, .slice none 0 0, .slice none 0 0, .int .i64 0] 42)) [3, 0, 1] [.int .u8 3, .int .u8 0, .int .u8 1] rfl (by simp) 3 rfl
    rw [World.size_alloc] at hsb
    have HX := Lib.hid (HK.out _ _ _ hsb)
    clear hsb
    refine HX.out.mono ?_
    rintro e w4 ⟨A4, c4, rfl, hg4, hb4⟩
    have HB4 := Lib.hid (balloc (bstep HB3.out HB3.out.size hb4) (by have := HB3.out.size; have := hb4.size; omega) (.cells #[.int .i64 3, .slice A4 1 c4, .slice none 0 0, .slice none 0 0, .int .i64 0] 42))
    clear hb4 hg4
    go_wp2_with fail
    go_ret
    exact ⟨rfl, HB4.out⟩
theorem fnVectorOf_walk (k : Int) (A : Option Addr) (c : Nat) (l : List UInt8) (w : World) (hk : 0 ≤ k ∧ k ≤ 255) (hs : SB w A c l) (hl : l.length ≤ 140737488351232) (hE : Errs w) :
    Calls Tryd.prog 7 #[.int .u8 k, .slice A l.length c] w fun e w' => e = .returned (.bool true) ∧ Below w.heap.size w w' := by
  by_cases h500 : 500 < l.length
  · obtain ⟨q, hq⟩ : ∃ q, q = l.length := ⟨_, rfl⟩
    rw [← hq] at h500 hl ⊢
    have d1 : decide ((500 : Int) < (q : Int)) = true := by simp; omega
    clear hq hs hE
    go_enter Tryd.func7, Tryd.ntmps7
    go_wp2_with fail
    all_goals go_ret
    all_goals exact ⟨rfl, Below.refl _ _⟩
  have hn : l.length ≤ 500 := by omega
  by_cases h9 : ¬ k = 9
  · exact law_no A l.length c k w hk hn (fun wx hb => specOf_sub A l.length c k wx h9) (fun wx hb => vectorOf_no A l.length c k wx hk fun wy _ => fromBin_sub A l.length c k wy h9)
  obtain rfl : k = 9 := Decidable.not_not.1 h9
  have no : ∀ (hsp : ∀ wx, Below w.heap.size w wx → Calls Tryd.prog 19 #[.int .i64 9, .slice A l.length c] wx fun e w' => e = .returned (.tuple #[ivec0, .bool false]) ∧ Below wx.heap.size wx w')
      (hfb : ∀ wx, Below w.heap.size w wx → Calls Tryd.prog 39 #[.agg #[.int .u8 9, .slice A l.length c]] wx fun e w' => ∃ T x, e = .returned (.tuple #[vec0, .iface T x]) ∧ Below wx.heap.size wx w'), _ := fun hsp hfb =>
    law_no A l.length c 9 w hk hn hsp (fun wx hb => vectorOf_no A l.length c 9 wx hk fun wy hy => hfb wy (hb.trans (hy.mono hb.size)))
  rcases l with _ | ⟨k0, _ | ⟨p, r⟩⟩
  · exact no (fun wx hb => specOf_short A _ c wx (by simp)) (fun wx hb => fromBin_short A _ c wx (hE.keep hb) (by simp))
  · exact no (fun wx hb => specOf_short A _ c wx (by simp)) (fun wx hb => fromBin_short A _ c wx (hE.keep hb) (by simp))
  have hr : r.length ≤ 1000000 := by simp at hn; omega
  by_cases h3 : k0 = 3
  · subst h3
    by_cases hp : 0 < p.toNat
    · exact no (fun wx hb => specOf3_no A c p r wx (hs.keep hb) hp hr) (fun wx hb => fromBin3_no A c p r wx (hs.keep hb) (hE.keep hb) hp hr)
    · obtain rfl : p = 0 := UInt8.toNat_inj.1 (by show p.toNat = 0; omega)
      refine law_ok A _ c 9 w hk hn [] (fun wy v => ∃ A' c', v = ivec3 A' r.length c' ∧ GS wy A' c' (i8v (b8i r))) (fun wx hb => ?_) (fun wx hb => ?_) ?_ ?_
      · refine (specOf3 A c r wx (hs.keep hb) hr).mono ?_
        rintro e w' ⟨A', c', rfl, hg, hb'⟩
        exact ⟨3, A', r.length, c', none, 0, none, 0, 0, 0, rfl, GS.nil _, ⟨A', c', rfl, hg⟩, hb'⟩
      · refine (vectorOf3 A c r wx (hs.keep hb) hr).mono ?_
        rintro e w' ⟨A', c', rfl, hg, hb'⟩
        exact ⟨3, A', r.length, c', none, 0, 0, none, 0, 0, 0, rfl, ⟨A', c', rfl, hg⟩, hb'⟩
      · rintro w1 w2 v ⟨A', c', rfl, hg⟩ hb
        exact ⟨A', c', rfl, hg.keep hb⟩
      · rintro wx v1 v2 ⟨A1, c1, rfl, g1⟩ ⟨A2, c2, rfl, g2⟩
        have h := vecSame3 A1 A2 c1 c2 (b8i r) wx g1 g2 (fun x hx => by simp only [b8i, List.mem_map] at hx; obtain ⟨b, _, rfl⟩ := hx; have := b.toNat_lt; simp only [i8of]; split <;> omega) (by simp [b8i]; omega)
        rwa [show (b8i r).length = r.length from by simp [b8i]] at h
  by_cases h16 : k0 = 16
  · subst h16
    by_cases hp : 7 < p.toNat ∨ (0 < p.toNat ∧ r.length = 0)
    · exact no (fun wx hb => specOf16_no A c p r wx (hs.keep hb) hp hr) (fun wx hb => fromBin16_no A c p r wx (hs.keep hb) (hE.keep hb) hp hr)
    · have hp1 : p.toNat ≤ 7 := by omega
      have hp2 : p.toNat = 0 ∨ 0 < r.length := by omega
      refine law_ok A _ c 9 w hk hn [] (fun wy v => ∃ A' c', v = ivec16 A' r.length c' p.toNat ∧ SB wy A' c' r) (fun wx hb => ?_) (fun wx hb => ?_) ?_ ?_
      · refine (specOf16 A c p r wx (hs.keep hb) hp1 hp2 hr).mono ?_
        rintro e w' ⟨A', c', rfl, hg, hb'⟩
        exact ⟨16, none, 0, 0, none, 0, A', r.length, c', p.toNat, rfl, GS.nil _, ⟨A', c', rfl, hg⟩, hb'⟩
      · refine (vectorOf16 A c p r wx (hs.keep hb) hp1 hp2 hr).mono ?_
        rintro e w' ⟨A', c', rfl, hg, hb'⟩
        exact ⟨16, none, 0, 0, none, 0, 0, A', r.length, c', p.toNat, rfl, ⟨A', c', rfl, hg⟩, hb'⟩
      · rintro w1 w2 v ⟨A', c', rfl, hg⟩ hb
        exact ⟨A', c', rfl, hg.keep hb⟩
      · rintro wx v1 v2 ⟨A1, c1, rfl, g1⟩ ⟨A2, c2, rfl, g2⟩
        exact vecSame16 A1 A2 c1 c2 r p wx g1 g2 hr
  by_cases h39 : k0 = 39
  · subst h39
    by_cases hp : 0 < p.toNat ∨ r.length % 4 ≠ 0
    · exact no (fun wx hb => specOf39_no A c p r wx (hs.keep hb) hp hr) (fun wx hb => fromBin39_no A c p r wx (hs.keep hb) (hE.keep hb) hp hr)
    · obtain rfl : p = 0 := UInt8.toNat_inj.1 (by show p.toNat = 0; omega)
      have hm : r.length = 4 * (r.length / 4) := by omega
      have hql := quads_len _ r hm
      refine law_ok A _ c 9 w hk hn (quads r) (fun wy v => ∃ A' c', v = ivec39 A' (quads r).length c' ∧ GS wy A' c' (u32v (quads r))) (fun wx hb => ?_) (fun wx hb => ?_) ?_ ?_
      · refine (specOf39 A c _ r wx (hs.keep hb) hm hr).mono ?_
        rintro e w' ⟨A', c', rfl, hg, hb'⟩
        rw [← hql]
        exact ⟨39, none, 0, 0, A', c', none, 0, 0, 0, rfl, hg, ⟨A', c', rfl, hg⟩, hb'⟩
      · refine (vectorOf39 A c _ r wx (hs.keep hb) hm hr).mono ?_
        rintro e w' ⟨A', c', rfl, hg, hb'⟩
        rw [← hql]
        exact ⟨39, none, 0, 0, A', _, c', none, 0, 0, 0, rfl, ⟨A', c', rfl, hg⟩, hb'⟩
      · rintro w1 w2 v ⟨A', c', rfl, hg⟩ hb
        exact ⟨A', c', rfl, hg.keep hb⟩
      · rintro wx v1 v2 ⟨A1, c1, rfl, g1⟩ ⟨A2, c2, rfl, g2⟩
        exact vecSame39 A1 A2 c1 c2 (quads r) wx g1 g2 (quads_le r) (by omega)
  exact no (fun wx hb => specOf_kind A c k0 p r wx (hs.keep hb) h3 h16 h39 hr) (fun wx hb => fromBin_kind A c k0 (p :: r) wx (hs.keep hb) (by simp) h3 h16 h39 (by simp only [List.length_cons] at hn ⊢; omega))
theorem wf_u8 {n : Int} (h : (Lit.int .u8 n).wf = true) : 0 ≤ n ∧ n ≤ 255 := by
  simp [Lit.wf, IntKind.bits, IntKind.signed, IntKind.min, IntKind.max] at h ⊢; omega
end Go.Proofs.YtjjfdamlicoeeaaDoor.X
