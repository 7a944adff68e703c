/- What the law FnDocRebuilt keeps in its loop; DocNumber; ElementValue with its bytes' newness. -/
import Derived.Test.YtohfgfbfohkkkaaGreatDoorBv1
import Derived.Test.YtohfgfbfohkkkaaGreatDoorLookup
import Derived.Test.YtohfgfbfohkkkaaGreatDoorPSpec
import Derived.Test.YtohfgfbfohkkkaaGreatDoorOwnN
set_option linter.unusedVariables false
set_option linter.unusedSimpArgs false
set_option maxRecDepth 100000
namespace Go.Proofs.YtohfgfbfohkkkaaGreatDoor.X
open Go.RowKit Go.Proofs.YtohfgfbfohkkkaaGreatDoorW.PrintLast Go.Proofs.YtohfgfbfohkkkaaGreatDoorW.PrintWords
open Go.Proofs.YtohfgfbfohkkkaaGreatDoor.PFnDocRebuilt
namespace Sp
def ints (l : List UInt8) : List Int := l.map fun b => (b.toNat : Int)
theorem ints_len (l : List UInt8) : (ints l).length = l.length := by simp [ints]
theorem ints_rd (l : List UInt8) (j : Nat) (hj : j < l.length) : rd (ints l) (j : Int) = (l[j].toNat : Int) := by
  unfold rd ints
  simp [List.getD_eq_getElem?_getD, hj]
theorem kd_bytes {w : World} {A : Option Addr} {c : Nat} {l : List UInt8} (h : SB w A c l) : Kd.C (Kd.int .u8) w A (ints l).length (ints l) := by
  have hlen := ints_len l
  refine ⟨rfl, by have h1 := h.le; have h2 := h.cap; omega, fun hp => ?_⟩
  obtain ⟨b, off, rfl, hc⟩ := h.cells (by omega)
  refine ⟨_, rfl, fun j p hj => ⟨[.int .u8 p], rfl, rfl, fun i u hi => ?_⟩⟩
  match i, hi with
  | 0, hi =>
    obtain rfl : Value.int .u8 p = u := by simpa using hi
    have hj2 : j < l.length := by
      have := (List.getElem?_eq_some_iff.1 hj).1
      omega
    have e : p = (l[j].toNat : Int) := by
      have : (ints l)[j]? = some (l[j].toNat : Int) := by simp [ints, hj2]
      rw [this] at hj
      exact (Option.some.inj hj).symm
    subst e
    have hadd : (⟨b, off, none⟩ : Addr).add j = ⟨b, off + j, none⟩ := by unfold Addr.add; split <;> simp_all
    have := hc j hj2
    simpa [Kd.int, Kd.scalar, hadd] using this
  | i + 1, hi => simp at hi
theorem u32_in (n : Int) (h0 : 0 ≤ n) (h1 : n < 4294967296) : IntKind.u32.wrap n = n := by
  unfold IntKind.wrap
  simp [IntKind.bits, IntKind.signed]
  omega
theorem or4_u32 (b0 b1 b2 b3 : Nat) (y0 y1 y2 y3 : Int) (h0 : b0 < 256) (h1 : b1 < 256) (h2 : b2 < 256) (h3 : b3 < 256)
    (e0 : y0 % 4294967296 = (b0 : Nat)) (e1 : y1 % 4294967296 = (b1 * 256 : Nat)) (e2 : y2 % 4294967296 = (b2 * 65536 : Nat)) (e3 : y3 % 4294967296 = (b3 * 16777216 : Nat)) :
    bits .or .u32 (bits .or .u32 (bits .or .u32 y0 y1) y2) y3 = ((b0 + b1 * 256 + b2 * 65536 + b3 * 16777216 : Nat) : Int) := by
  have s1 := or_mod .u32 y0 y1 b0 b1 8 (by omega) (by simp [IntKind.bits]; omega) (by simpa [IntKind.bits] using e0) (by simpa [IntKind.bits] using e1)
  have s2 := or_mod .u32 _ y2 _ b2 16 (by omega) (by simp [IntKind.bits]; omega) s1 (by simpa [IntKind.bits] using e2)
  have s3 := or_join .u32 _ y3 _ b3 24 (by omega) (by simp [IntKind.bits]; omega) s2 (by simpa [IntKind.bits] using e3)
  rw [s3]
  exact u32_in _ (by omega) (by omega)
theorem w64_32 (n : Int) : wrap64 (wrap32 n) = wrap32 n := by
  have := wrap32_bd n
  generalize wrap32 n = m at this ⊢
  unfold wrap64
  omega
theorem num_f (l : List UInt8) : spec_DocNumber.f (ints l) = some (numOf l) := by
  unfold spec_DocNumber.f
  rw [ints_len]
  by_cases h4 : l.length < 4
  · rw [if_pos (by omega), num_short l h4]
  · rw [if_neg (by omega), if_pos (by omega), if_pos (by omega), if_pos (by omega), if_pos (by omega)]
    match l, h4 with
    | b0 :: b1 :: b2 :: b3 :: r, _ =>
      have r0 : rd (ints (b0 :: b1 :: b2 :: b3 :: r)) 0 = (b0.toNat : Int) := rfl
      have r1 : rd (ints (b0 :: b1 :: b2 :: b3 :: r)) 1 = (b1.toNat : Int) := rfl
      have r2 : rd (ints (b0 :: b1 :: b2 :: b3 :: r)) 2 = (b2.toNat : Int) := rfl
      have r3 : rd (ints (b0 :: b1 :: b2 :: b3 :: r)) 3 = (b3.toNat : Int) := rfl
      rw [r0, r1, r2, r3]
      have h0 := b0.toNat_lt
      have h1 := b1.toNat_lt
      have h2 := b2.toNat_lt
      have h3 := b3.toNat_lt
      rw [or4_u32 b0.toNat b1.toNat b2.toNat b3.toNat _ _ _ _ h0 h1 h2 h3 (by omega) (by omega) (by omega) (by omega), w64_32]
      show some (_, true) = some (wrap32 (leI [b0, b1, b2, b3]), true)
      have e : ((b0.toNat + b1.toNat * 256 + b2.toNat * 65536 + b3.toNat * 16777216 : Nat) : Int) = leI [b0, b1, b2, b3] := by
        simp only [leI]
        omega
      rw [e]
    | [], h => exact absurd (by simp) h
    | [_], h => exact absurd (by simp) h
    | [_, _], h => exact absurd (by simp) h
    | [_, _, _], h => exact absurd (by simp) h

end Sp
namespace Ck
open Sp Al Av Aw A2

theorem docNumber (A : Option Addr) (c : Nat) (l : List UInt8) (w : World) (hs : SB w A c l) :
    Calls Tryz.prog 10 #[.slice A l.length c] w fun e w' => e = .returned (.tuple #[.int .i64 (numOf l).1, .bool (numOf l).2]) ∧ Below w.heap.size w w' := by
  have h := spec_DocNumber.calls A c (ints l) (numOf l).1 (numOf l).2 w (kd_bytes hs) (by rw [ints_len]; exact hs.le) (num_f l)
  rw [ints_len] at h
  refine h.mono ?_
  rintro e w' ⟨rfl, hd⟩
  exact ⟨rfl, hd.below⟩
theorem elValB {l lst : List UInt8} {kk n : Int} (h : VErr l kk lst n) (h0 : 0 ≤ kk) (h1 : kk ≤ 255) (hlst : lst.length ≤ 140737488355328) (A : Option Addr) (c : Nat) (w : World) (hs : SB w A c l) :
    Calls Tryz.prog 12 #[.slice A l.length c] w fun e w' => ∃ A1 c1, e = .returned (.tuple #[.agg #[.int .i64 kk, .slice A1 lst.length c1], .int .i64 n]) ∧ SB w' A1 c1 lst ∧ (∀ a, A1 = some a → w.heap.size ≤ a.block) ∧ Below w.heap.size w w' := by
  have HK := Lib.hid (fun wx (hb : Below w.heap.size w wx) => h A c wx (hs.keep hb))
  have HO : Hid (∀ A1 c1 wx, SB wx A1 c1 lst → Calls Tryz.prog 28 #[.agg #[.int .u8 kk, .slice A1 lst.length c1]] wx fun e w' => ∃ A3 c3, e = .returned (.agg #[.int .i64 kk, .slice A3 lst.length c3]) ∧ SB w' A3 c3 lst ∧ (∀ a, A3 = some a → wx.heap.size ≤ a.block) ∧ Below wx.heap.size wx w') := Lib.hid fun A1 c1 wx h => A2.implRaw A1 c1 lst kk wx h h0 h1 hlst
  have HS := Lib.hid hs
  obtain ⟨p, hp⟩ : ∃ p, p = l.length := ⟨_, rfl⟩
  obtain ⟨q, hq⟩ : ∃ q, q = lst.length := ⟨_, rfl⟩
  rw [← hp, ← hq] at HK ⊢
  rw [← hq] at HO
  clear hs h hp hq h0 h1 hlst
  go_enter Tryz.func12, Tryz.ntmps12
  go_wp2_with fail
  refine (HK.out _ (balloc (Below.refl _ _) (Nat.le_refl _) _)).mono ?_
  rintro e w1 ⟨A1, c1, v, rfl, hv, hs1, hb⟩
  have hb1 : Below (w.heap.size + 1) (w.alloc (.cells #[.int .i64 0, .slice none 0 0] 37)) w1 := by simpa using hb
  have HS1 := Lib.hid (hs1 w1 (HS.out.keep (boxb hb1)))
  have HV := Lib.hid hv
  have hz1 := boxs hb1
  clear hb HK hs1 hv
  go_wp2_with fail
  refine (HO.out A1 c1 _ (HS1.out.alloc _)).mono ?_
  rintro e w2 ⟨A3, c3, rfl, hs3, hn3, hb2⟩
  have hb2' : Below w1.heap.size w1 w2 := (balloc (Below.refl _ _) (Nat.le_refl _) _).trans (hb2.mono (by simp))
  have hX := hb1.trans (hb2'.mono hz1)
  have HN3 : Hid (∀ a, A3 = some a → a.block ≠ w.heap.size) := Lib.hid fun a ha => by have h := hn3 a ha; simp at h; omega
  have HN4 : Hid (∀ a, A3 = some a → w.heap.size ≤ a.block) := Lib.hid fun a ha => by have h := hn3 a ha; simp at h; omega
  have HS3 := Lib.hid hs3
  have HC := Lib.hid (code_ex HV.out w2)
  clear hb2 hb2' hb1 HS1 hs3 hn3 HO HV
  go_wp2_with fail
  refine HC.out.mono ?_
  rintro e w3 ⟨rfl, hb3⟩
  have hY := hX.trans (hb3.mono (boxs hX))
  have q0 := boxc hY 0
  have q1 := boxc hY 1
  simp only [List.getElem?_cons_succ, List.getElem?_cons_zero] at q0 q1
  have f0 := boxf hY 0
  have f1 := boxf hY 1
  have hz3 := boxs hY
  have hlt : w.heap.size < w3.heap.size := by omega
  have HB := Lib.hid (boxb hY)
  have HS33 := Lib.hid (HS3.out.keep hb3)
  clear hX hY hb3 HS3 HC
  go_wp2_with fail
  exact bodyPost_ret (v := .tuple #[.agg #[.int .i64 kk, .slice A3 q c3], .int .i64 n]) (by simp [results, Tryz.results12, go_sem, q0, q1]) rfl ⟨A3, c3, rfl, (HS33.out.far HN3.out _).far HN3.out _, HN4.out, (HB.out.setCell (Nat.le_refl _) _).setCell (Nat.le_refl _) _⟩

def SepV (v : Value) (A : Option Addr) (m : List UInt8) : Prop := 0 < m.length → ∀ a, A = some a → v.ownBlock ≠ some a.block
theorem sepNext {W : World} {v v1 : Value} {A : Option Addr} {c : Nat} {m : List UInt8} (hat : v1.ownBlock = v.ownBlock ∨ ∃ b, v1.ownBlock = some b ∧ W.heap.size ≤ b) (hs : SB W A c m) (h : SepV v A m) : SepV v1 A m := fun hp a ha => by
  obtain ⟨b, off, e, hc⟩ := hs.cells hp
  have hlt : b < W.heap.size := World.block_lt_of_cell? _ _ (hc 0 hp)
  rw [e] at ha
  have hab : a.block = b := by rw [← Option.some.inj ha]
  rcases hat with h1 | ⟨b2, h1, h2⟩
  · rw [h1]; exact h hp a (by rw [e]; exact ha)
  · rw [h1, hab]
    intro e2
    have := Option.some.inj e2
    omega
theorem sepNew {v : Value} {A : Option Addr} {m : List UInt8} {k0 : Nat} (hv : ∀ k, v.ownBlock = some k → k < k0) (h : ∀ a, A = some a → k0 ≤ a.block) : SepV v A m := fun _ a ha e => by
  have h1 := hv _ e
  have h2 := h a ha
  omega
/-- The values of elements, in cells: two for each; their bytes lie in no row. -/
def RwC (w : World) (vN vV : Value) : List Tr → List Value → Prop
  | [], xs => xs = []
  | x :: r, xs => ∃ D d ys, xs = .int .i64 (x.1.toNat : Int) :: .slice D x.2.2.length d :: ys ∧ SB w D d x.2.2 ∧ SepV vN D x.2.2 ∧ SepV vV D x.2.2 ∧ RwC w vN vV r ys
theorem RwC.keep {w w1 : World} {vN vV : Value} (hb : Below w.heap.size w w1) : ∀ {P : List Tr} {xs : List Value}, RwC w vN vV P xs → RwC w1 vN vV P xs
  | [], xs, h => h
  | x :: r, xs, h => by
    obtain ⟨D, d, ys, rfl, h1, h2, h3, h4⟩ := h
    exact ⟨D, d, ys, rfl, h1.keep hb, h2, h3, RwC.keep hb h4⟩
theorem RwC.stepN {W w1 : World} {vN vV v1 : Value} (hg : W.grownBy w1 vN.ownBlock) (hat : v1.ownBlock = vN.ownBlock ∨ ∃ b, v1.ownBlock = some b ∧ W.heap.size ≤ b) : ∀ {P : List Tr} {xs : List Value}, RwC W vN vV P xs → RwC w1 v1 vV P xs
  | [], xs, h => h
  | x :: r, xs, h => by
    obtain ⟨D, d, ys, rfl, h1, h2, h3, h4⟩ := h
    exact ⟨D, d, ys, rfl, sb_grownB h1 hg h2, sepNext hat h1 h2, h3, RwC.stepN hg hat h4⟩
theorem RwC.stepV {W w1 : World} {vN vV v1 : Value} (hg : W.grownBy w1 vV.ownBlock) (hat : v1.ownBlock = vV.ownBlock ∨ ∃ b, v1.ownBlock = some b ∧ W.heap.size ≤ b) : ∀ {P : List Tr} {xs : List Value}, RwC W vN vV P xs → RwC w1 vN v1 P xs
  | [], xs, h => h
  | x :: r, xs, h => by
    obtain ⟨D, d, ys, rfl, h1, h2, h3, h4⟩ := h
    exact ⟨D, d, ys, rfl, sb_grownB h1 hg h3, h2, sepNext hat h1 h3, RwC.stepV hg hat h4⟩
theorem RwC.snoc {w : World} {vN vV : Value} {x : Tr} {D : Option Addr} {d : Nat} (h1 : SB w D d x.2.2) (h2 : SepV vN D x.2.2) (h3 : SepV vV D x.2.2) : ∀ {P : List Tr} {xs : List Value}, RwC w vN vV P xs → RwC w vN vV (P ++ [x]) (xs ++ [.int .i64 (x.1.toNat : Int), .slice D x.2.2.length d])
  | [], xs, h => by
    have h' : xs = [] := h
    subst h'
    exact ⟨D, d, [], rfl, h1, h2, h3, rfl⟩
  | y :: r, xs, h => by
    obtain ⟨D1, d1, ys, rfl, g1, g2, g3, g4⟩ := h
    exact ⟨D1, d1, ys ++ [.int .i64 (x.1.toNat : Int), .slice D x.2.2.length d], by simp, g1, g2, g3, RwC.snoc h1 h2 h3 g4⟩
theorem RwC.at {w : World} {vN vV : Value} : ∀ {P : List Tr} {xs : List Value}, RwC w vN vV P xs → ∀ i (hi : i < P.length), ∃ D d, xs[i * 2]? = some (.int .i64 ((P[i]).1.toNat : Int)) ∧ xs[i * 2 + 1]? = some (.slice D (P[i]).2.2.length d) ∧ SB w D d (P[i]).2.2
  | x :: r, xs, h, 0, _ => by
    obtain ⟨D, d, ys, rfl, h1, h2, h3, h4⟩ := h
    exact ⟨D, d, rfl, rfl, h1⟩
  | x :: r, xs, h, i + 1, hi => by
    obtain ⟨D, d, ys, rfl, h1, h2, h3, h4⟩ := h
    obtain ⟨D2, d2, e1, e2, e3⟩ := RwC.at h4 i (by simpa using hi)
    refine ⟨D2, d2, ?_, ?_, by simpa using e3⟩
    · rw [show (i + 1) * 2 = i * 2 + 1 + 1 from by omega]; simpa using e1
    · rw [show (i + 1) * 2 + 1 = i * 2 + 1 + 1 + 1 from by omega]; simpa using e2
theorem apartGN {E E' : TypeId} {sz : Nat} {w : World} {b b' n : Nat} {v v' : Value} {l xs : List Value} (hE : E ≠ E') (h : OG E w b v l) (h' : ON E' sz w b' v' n xs) : (v.ownBlock = none ∨ v.ownBlock ≠ v'.ownBlock) ∧ (v'.ownBlock = none ∨ v'.ownBlock ≠ v.ownBlock) := by
  rcases h.1.2 with ⟨rfl, -⟩ | ⟨g, cap, cur, rfl, -, hg, -⟩
  · refine ⟨.inl rfl, ?_⟩
    cases hv : v'.ownBlock with
    | none => exact .inl rfl
    | some k => exact .inr (by simp [Value.ownBlock])
  · rcases h'.1.2 with ⟨rfl, -⟩ | ⟨g', cap', cur', rfl, -, hg', -⟩
    · exact ⟨.inr (by simp [Value.ownBlock]), .inl rfl⟩
    · have hne : g ≠ g' := by
        intro e
        subst e
        rw [hg] at hg'
        simp at hg'
        exact hE hg'.2
      refine ⟨.inr ?_, .inr ?_⟩ <;> simp [Value.ownBlock] <;> omega
theorem cell_grown {W w1 : World} {b o : Nat} {u : Value} {row : Option Nat} (h : W.cell? ⟨b, o, none⟩ = some u) (hg : W.grownBy w1 row) (hne : ∀ k, row = some k → k ≠ b) : w1.cell? ⟨b, o, none⟩ = some u := by
  have hlt : b < W.heap.size := World.block_lt_of_cell? _ _ h
  have hb := hg.block b hlt (fun e => hne b e.symm rfl)
  rw [← h]
  simp only [World.cell?, hb]
/-- What holds while a round puts a name and a value behind their rows. -/
structure St (wS W w1 : World) (b0 X Lb lo : Nat) (vN vV : Value) (nsL : List Value) (nV : Nat) (xsO xs : List Value) (P : List Tr) (D : Option Addr) (d : Nat) (m : List UInt8) (x0 x1 y : Value) : Prop where
  og : OG 9 W b0 vN nsL
  on : ON 37 2 W b0 vV nV xsO
  rw : RwC W vN vV P xs
  sd : SB W D d m
  sN : SepV vN D m
  sV : SepV vV D m
  nb : ∀ k, vN.ownBlock = some k → k ≠ X ∧ k ≠ Lb
  vb : ∀ k, vV.ownBlock = some k → k ≠ X ∧ k ≠ Lb
  c0 : W.cell? ⟨X, 0, none⟩ = some x0
  c1 : W.cell? ⟨X, 1, none⟩ = some x1
  c2 : W.cell? ⟨Lb, lo, none⟩ = some y
  ge : wS.heap.size ≤ W.heap.size
  hX : X < wS.heap.size
  hL : Lb < wS.heap.size
  hb : b0 ≤ wS.heap.size
  bel : Below b0 w1 W
section
variable {wS W w1 wA : World} {b0 X Lb lo : Nat} {vN vV vA : Value} {nsL nsL' : List Value} {nV : Nat} {xsO xsO' xs : List Value} {P : List Tr} {D : Option Addr} {d : Nat} {m : List UInt8} {x0 x1 y : Value}
theorem St.alloc (h : St wS W w1 b0 X Lb lo vN vV nsL nV xsO xs P D d m x0 x1 y) (o : Obj) : St wS (W.alloc o) w1 b0 X Lb lo vN vV nsL nV xsO xs P D d m x0 x1 y := by
  have hb : Below W.heap.size W (W.alloc o) := balloc (Below.refl _ _) (Nat.le_refl _) _
  exact ⟨h.og.keep hb, h.on.keep hb, h.rw.keep hb, h.sd.keep hb, h.sN, h.sV, h.nb, h.vb, (hb.cell (World.block_lt_of_cell? _ _ h.c0)).trans h.c0, (hb.cell (World.block_lt_of_cell? _ _ h.c1)).trans h.c1, (hb.cell (World.block_lt_of_cell? _ _ h.c2)).trans h.c2, Nat.le_trans h.ge hb.size, h.hX, h.hL, h.hb, balloc h.bel (Nat.le_trans h.hb h.ge) o⟩
theorem St.new (h : St wS W w1 b0 X Lb lo vN vV nsL nV xsO xs P D d m x0 x1 y) (o : Obj) (g : Nat) (hg : g = W.heap.size) : (W.alloc o).heap[g]? = some o ∧ wS.heap.size ≤ g := by
  subst hg
  exact ⟨heap_alloc_new W o, h.ge⟩
theorem St.drew (h : St wS W w1 b0 X Lb lo vN vV nsL nV xsO xs P D d m x0 x1 y) : St wS W.drew w1 b0 X Lb lo vN vV nsL nV xsO xs P D d m x0 x1 y := by
  have hb : Below W.heap.size W W.drew := bdrew (Below.refl _ _)
  exact ⟨h.og.keep hb, h.on.keep hb, h.rw.keep hb, h.sd.keep hb, h.sN, h.sV, h.nb, h.vb, (hb.cell (World.block_lt_of_cell? _ _ h.c0)).trans h.c0, (hb.cell (World.block_lt_of_cell? _ _ h.c1)).trans h.c1, (hb.cell (World.block_lt_of_cell? _ _ h.c2)).trans h.c2, Nat.le_trans h.ge hb.size, h.hX, h.hL, h.hb, bdrew h.bel⟩
theorem nb_next {v v1 : Value} (hn : ∀ k, v.ownBlock = some k → k ≠ X ∧ k ≠ Lb) (hat : v1.ownBlock = v.ownBlock ∨ ∃ b, v1.ownBlock = some b ∧ W.heap.size ≤ b) (hX : X < W.heap.size) (hL : Lb < W.heap.size) : ∀ k, v1.ownBlock = some k → k ≠ X ∧ k ≠ Lb := fun k hk => by
  rcases hat with h1 | ⟨b2, h1, h2⟩
  · exact hn k (h1 ▸ hk)
  · rw [h1] at hk
    have := Option.some.inj hk
    omega
theorem St.appN (h : St wS W w1 b0 X Lb lo vN vV nsL nV xsO xs P D d m x0 x1 y) (hA : AppG (E := 9) W b0 vN nsL' vA wA) : St wS wA w1 b0 X Lb lo vA vV nsL' nV xsO xs P D d m x0 x1 y := by
  have hap := apartGN (by decide) h.og h.on
  have hge := Nat.le_trans h.ge hA.size
  have hk := hA.kept h.og (Nat.le_trans h.hb h.ge)
  exact ⟨hA.own, h.on.other hA.grown hap.2, h.rw.stepN hA.grown hA.at_, sb_grownB h.sd hA.grown h.sN, sepNext hA.at_ h.sd h.sN, h.sV, nb_next h.nb hA.at_ (Nat.lt_of_lt_of_le h.hX h.ge) (Nat.lt_of_lt_of_le h.hL h.ge), h.vb, cell_grown h.c0 hA.grown fun k e => (h.nb k e).1, cell_grown h.c1 hA.grown fun k e => (h.nb k e).1, cell_grown h.c2 hA.grown fun k e => (h.nb k e).2, hge, h.hX, h.hL, h.hb, h.bel.trans hk⟩
theorem St.appV {nV' : Nat} (h : St wS W w1 b0 X Lb lo vN vV nsL nV xsO xs P D d m x0 x1 y) (hA : AppN (E := 37) (sz := 2) W b0 vV nV' xsO' vA wA) : St wS wA w1 b0 X Lb lo vN vA nsL nV' xsO' xs P D d m x0 x1 y := by
  have hap := apartGN (by decide) h.og h.on
  have hge := Nat.le_trans h.ge hA.size
  have hk := hA.kept h.on (Nat.le_trans h.hb h.ge)
  exact ⟨h.og.other hA.grown hap.1, hA.own, h.rw.stepV hA.grown hA.at_, sb_grownB h.sd hA.grown h.sV, h.sN, sepNext hA.at_ h.sd h.sV, h.nb, nb_next h.vb hA.at_ (Nat.lt_of_lt_of_le h.hX h.ge) (Nat.lt_of_lt_of_le h.hL h.ge), cell_grown h.c0 hA.grown fun k e => (h.vb k e).1, cell_grown h.c1 hA.grown fun k e => (h.vb k e).1, cell_grown h.c2 hA.grown fun k e => (h.vb k e).2, hge, h.hX, h.hL, h.hb, h.bel.trans hk⟩
end
theorem heap_kept {W w1 : World} {g k0 : Nat} {o : Obj} {row : Option Nat} (h : W.heap[g]? = some o) (hg : W.grownBy w1 row) (hk : ∀ k, row = some k → k < k0) (hgk : k0 ≤ g) : w1.heap[g]? = some o := by
  have hlt : g < W.heap.size := (Array.getElem?_eq_some_iff.1 h).1
  rw [hg.block g hlt (fun e => by have := hk g e.symm; omega)]
  exact h
theorem heap_allocd {W : World} {g : Nat} {o o' : Obj} (h : W.heap[g]? = some o) : (W.alloc o').heap[g]? = some o := (heap_alloc_old W o' (Array.getElem?_eq_some_iff.1 h).1).trans h
theorem cells_of {W : World} {g t : Nat} {ys : List Value} {fr : Nat × Nat} (h : W.heap[g]? = some (.cells ys.toArray t fr)) (j : Nat) (u : Value) (hj : ys[j]? = some u) : W.cell? ⟨g, j, none⟩ = some u := by
  simp only [World.cell?, h]
  simpa using hj
theorem infoS : (Tryz.prog.info? 9).map (fun i => (i.zero, i.size, i.bytes)) = some (some (.string ⟨#[]⟩), 1, 16) := by kernel_rfl
theorem infoRw : (Tryz.prog.info? 37).map (fun i => (i.zero, i.size, i.bytes)) = some (some (.agg #[.int .i64 0, .slice none 0 0]), 2, 32) := by kernel_rfl
theorem measR {q n : Nat} (h : q < n) : n - (intOf (.int .i64 ((q : Int) + 1))).toNat < n - (intOf (.int .i64 (q : Int))).toNat := by simp [intOf]; omega
theorem w64R {q n : Nat} (h : q < n) (hl : n ≤ 1000000) : wrap64 ((q : Int) + 1) = (q : Int) + 1 := by unfold wrap64; omega
theorem w64S {a b : Nat} (h : a ≤ 1000000) (hl : b ≤ 1000000) : wrap64 ((a : Int) + (b : Int)) = (a : Int) + (b : Int) := by unfold wrap64; omega
/-- The elements as kinds, names and values. -/
theorem tr_of : ∀ (L : List (List UInt8)), (∀ e ∈ L, ∃ t nm v, IsEl e t nm v) → ∃ T : List Tr, L = T.map trB ∧ (∀ x ∈ T, plainB x.2.1 = true) ∧ (∀ x ∈ T, valLen (x.1.toNat : Int) x.2.2 = ((x.2.2.length : Int), true))
  | [], h => ⟨[], rfl, by simp, by simp⟩
  | e :: r, h => by
    obtain ⟨T, h1, h2, h3⟩ := tr_of r (fun e he => h e (List.mem_cons_of_mem _ he))
    obtain ⟨t, nm, v, i1, i2, i3⟩ := h e List.mem_cons_self
    refine ⟨(t, nm, v) :: T, by rw [List.map_cons, ← h1, i1]; rfl, fun x hx => ?_, fun x hx => ?_⟩
    · rcases List.mem_cons.1 hx with rfl | hx
      · exact i2
      · exact h2 x hx
    · rcases List.mem_cons.1 hx with rfl | hx
      · exact i3
      · exact h3 x hx
/-- The name and the value of an element. -/
theorem key_of (x : Tr) (hp : plainB x.2.1 = true) (hmax : (trB x).length ≤ 140737488355328) : KErr (trB x) ⟨x.2.1.toArray⟩ 0 := fun A c w hs => by
  refine (keyErr A c x.1 x.2.1 x.2.2 w hs hp hmax).mono ?_
  rintro e w' ⟨rfl, rfl⟩
  exact ⟨_, rfl, Or.inl ⟨rfl, rfl⟩, rfl⟩
theorem val_of (x : Tr) (hp : plainB x.2.1 = true) (hv : valLen (x.1.toNat : Int) x.2.2 = ((x.2.2.length : Int), true)) (hmax : (trB x).length ≤ 140737488355328) : VErr (trB x) (x.1.toNat : Int) x.2.2 0 := fun A c w hs => by
  refine (valueErrN A c x.1 x.2.1 x.2.2 w hs hp x.2.2.length hv (Nat.le_refl _) hmax).mono ?_
  rintro e w' ⟨A1, c1, rfl, hss, hb⟩
  rw [List.take_length] at hss
  exact ⟨A1, c1, _, rfl, Or.inl ⟨rfl, rfl⟩, hss, hb⟩
end Ck
end Go.Proofs.YtohfgfbfohkkkaaGreatDoor.X
