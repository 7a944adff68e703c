/- The law FnExtPointers. -/
import Derived.Test.YtfpnhlfmnoikhabDoorExtP
set_option linter.unusedVariables false
set_option linter.unusedSimpArgs false
set_option maxRecDepth 100000
namespace Go.Proofs.YtfpnhlfmnoikhabDoor.X
open Go.RowKit
theorem ids_mk {w : World} {T : TypeId} {x ev : Value} (c0 : w.cell? ⟨0, 0, none⟩ = some (.int .u8 0)) (c1 : w.cell? ⟨0, 1, none⟩ = some (.int .u8 0)) (c2 : w.cell? ⟨0, 2, none⟩ = some (.int .u8 0)) (c3 : w.cell? ⟨0, 3, none⟩ = some (.int .u8 0)) (c4 : w.cell? ⟨0, 4, none⟩ = some (.int .u8 0)) (c5 : w.cell? ⟨0, 5, none⟩ = some (.int .u8 0)) (c6 : w.cell? ⟨0, 6, none⟩ = some (.int .u8 0)) (c7 : w.cell? ⟨0, 7, none⟩ = some (.int .u8 0)) (c8 : w.cell? ⟨0, 8, none⟩ = some (.int .u8 0)) (c9 : w.cell? ⟨0, 9, none⟩ = some (.int .u8 0)) (c10 : w.cell? ⟨0, 10, none⟩ = some (.int .u8 0)) (c11 : w.cell? ⟨0, 11, none⟩ = some (.int .u8 0)) (ce : w.cell? ⟨1, 0, none⟩ = some (.iface T x)) (hE : w.cell? ⟨2, 0, none⟩ = some ev) : Ids w :=
  ⟨fun j hj => match j, hj with
    | 0, _ => c0
    | 1, _ => c1
    | 2, _ => c2
    | 3, _ => c3
    | 4, _ => c4
    | 5, _ => c5
    | 6, _ => c6
    | 7, _ => c7
    | 8, _ => c8
    | 9, _ => c9
    | 10, _ => c10
    | 11, _ => c11, ⟨_, _, ce⟩, ⟨_, hE⟩⟩
theorem partYes (A1 A2 : Option Addr) (c1 c2 : Nat) (l : List UInt8) (s : ByteArray) (w : World) (h1 : SB w A1 c1 l) (h2 : SB w A2 c2 l) :
    Calls Tryd.prog 11 #[valP A1 l.length c1 s, .bool true, valP A2 l.length c2 s, .bool true] w fun e w' => e = .returned (.bool true) ∧ Below w.heap.size w w' := by
  have r1 := str_of ((h1.alloc (.cells #[.int .i64 12, .string s, .string ⟨#[]⟩, .int .i64 0, .int .u64 0, .int .u64 0, .slice A1 l.length c1, .slice none 0 0] 32)).alloc (.cells #[.int .i64 12, .string s, .string ⟨#[]⟩, .int .i64 0, .int .u64 0, .int .u64 0, .slice A2 l.length c2, .slice none 0 0] 32))
  have r2 := str_of ((h2.alloc (.cells #[.int .i64 12, .string s, .string ⟨#[]⟩, .int .i64 0, .int .u64 0, .int .u64 0, .slice A1 l.length c1, .slice none 0 0] 32)).alloc (.cells #[.int .i64 12, .string s, .string ⟨#[]⟩, .int .i64 0, .int .u64 0, .int .u64 0, .slice A2 l.length c2, .slice none 0 0] 32))
  obtain ⟨q, hq⟩ : ∃ q, q = l.length := ⟨_, rfl⟩
  obtain ⟨x, hx⟩ : ∃ x, x = (⟨l.toArray⟩ : ByteArray) := ⟨_, rfl⟩
  rw [← hq, ← hx] at r1 r2
  rw [← hq]
  clear hq h1 h2 hx
  unfold valP
  go_enter Tryd.func11, Tryd.ntmps11
  go_wp2
  go_ret
  exact ⟨rfl, balloc (balloc (Below.refl _ _) (Nat.le_refl _) _) (by simp) _⟩
theorem partNo (A2 : Option Addr) (n2 c2 : Nat) (s : ByteArray) (w : World) :
    Calls Tryd.prog 11 #[val0, .bool false, valP A2 n2 c2 s, .bool false] w fun e w' => e = .returned (.bool true) ∧ Below w.heap.size w w' := by
  unfold valP val0
  go_enter Tryd.func11, Tryd.ntmps11
  go_wp2
  go_ret
  exact ⟨rfl, balloc (balloc (Below.refl _ _) (Nat.le_refl _) _) (by simp) _⟩
def TXT : ByteArray := ⟨#[48, 49, 50, 51, 52, 53, 54, 55, 56, 57, 97, 98, 99, 100, 101, 102, 48, 49, 50, 51, 52, 53, 54, 55]⟩
def ONE : ByteArray := ⟨#[97]⟩
theorem one_some : ∃ q, pointerP [REF, IDN] [ONE, TXT] = some q := Option.isSome_iff_exists.1 (by decide +kernel)
theorem fnExtPointers_walk (A1 A2 : Option Addr) (c1 c2 : Nat) (ks ts : List ByteArray) (w : World) (hI : Ids w) (h1 : GS w A1 c1 (strv ks)) (h2 : GS w A2 c2 (strv ts)) (hl : ts.length ≤ 8796093022000) (hts : ∀ t ∈ ts, t.size ≤ 140737488351232) :
    Calls Tryd.prog 4 #[.slice A1 ks.length c1, .slice A2 ts.length c2] w fun e w' => e = .returned (.bool true) ∧ Below w.heap.size w w' := by
  have HF1 := Lib.hid (fun wx g => fits2 A1 c1 ks wx g)
  have HF2 := Lib.hid (fun wx g => fits2 A2 c2 ts wx g)
  have HP := Lib.hid (fun wx g1 g2 => plain2 A1 A2 c1 c2 ks ts wx g1 g2)
  have HQ := Lib.hid (fun wx g1 g2 => extPointerOf A1 A2 c1 c2 ks ts wx g1 g2)
  have HE := Lib.hid (fun hlen wx i g1 g2 => extPointer A1 A2 c1 c2 ks ts wx i hlen hl hts g1 g2)
  have HC := Lib.hid (fun B1 B2 wx i g1 g2 => extPointer B1 B2 2 2 [REF, IDN] [ONE, TXT] wx i rfl (by simp) (by intro t ht; simp at ht; rcases ht with rfl | rfl <;> decide) g1 g2)
  simp only [List.length_cons, List.length_nil, Nat.zero_add, Nat.reduceAdd] at HC
  have HI := Lib.hid hI
  have H1 := Lib.hid h1
  have H2 := Lib.hid h2
  obtain ⟨n, hn⟩ : ∃ n, n = ks.length := ⟨_, rfl⟩
  obtain ⟨m, hm⟩ : ∃ m, m = ts.length := ⟨_, rfl⟩
  have HNM : Hid ((ks.length = ts.length) = (n = m)) := Lib.hid (by rw [hn, hm])
  rw [← hn, ← hm] at HP HQ HE
  rw [← hn] at HF1
  rw [← hm] at HF2
  rw [← hn, ← hm]
  clear hn hm hI h1 h2 hl hts
  go_enter Tryd.func4, Tryd.ntmps4
  go_wp2_with fail
  refine (HF1.out _ H1.out).mono ?_
  rintro e w1 ⟨b1, rfl, hb1⟩
  have HB1 := Lib.hid hb1
  have hz1 := hb1.size
  clear hb1
  cases b1
  · go_wp2_with fail
    go_ret
    exact ⟨rfl, HB1.out⟩
  go_wp2_with fail
  refine (HF2.out _ (H2.out.keep HB1.out)).mono ?_
  rintro e w2 ⟨b2, rfl, hb2⟩
  have HB2 := Lib.hid (bthen HB1.out hb2)
  have hz2 := hb2.size
  clear hb2 HB1
  cases b2
  · go_wp2_with fail
    go_ret
    exact ⟨rfl, HB2.out⟩
  go_wp2_with fail
  refine (HP.out _ (H1.out.keep HB2.out) (H2.out.keep HB2.out)).mono ?_
  rintro e w3 ⟨b3, rfl, hb3⟩
  have HB3 := Lib.hid (bthen HB2.out hb3)
  have hz3 := hb3.size
  clear hb3 HB2
  cases b3
  · go_wp2_with fail
    go_ret
    exact ⟨rfl, HB3.out⟩
  by_cases hnm : n = m
  · have HNE := Lib.hid (HNM.out.mpr hnm)
    subst hnm
    go_wp2_with fail
    refine (HQ.out _ (H1.out.keep HB3.out) (H2.out.keep HB3.out)).mono ?_
    rintro e w4 ⟨A, N, c, s, b, rfl, hm4, hb4⟩
    clear HF1 HF2 HP HQ
    unfold valP
    cases hp : pointerP ks ts with
    | none =>
      rw [hp] at hm4
      subst hm4
      have HPP := Lib.hid hp
      clear hp
      have HB4 := Lib.hid (balloc (bthen HB3.out hb4) (by have := hb4.size; omega) (.cells #[.int .i64 12, .string s, .string ⟨#[]⟩, .int .i64 0, .int .u64 0, .int .u64 0, .slice A N c, .slice none 0 0] 32))
      have hz4 := hb4.size
      clear hb4 HB3
      go_wp2_with fail
      refine (HE.out trivial _ (HI.out.keep HB4.out) (H1.out.keep HB4.out) (H2.out.keep HB4.out)).mono ?_
      rintro e w5 ⟨hm5, hb5⟩
      rw [HPP.out] at hm5
      subst hm5
      obtain ⟨hc5, hf5⟩ := bcell hb5
      have hz5 := hb5.size
      simp only [World.size_alloc] at hz5 hc5 hf5
      have T5 : w4.heap.size < w5.heap.size := by omega
      have k0 := hc5 w4.heap.size 0 (by omega)
      have k1 := hc5 w4.heap.size 1 (by omega)
      have k2 := hc5 w4.heap.size 2 (by omega)
      have k3 := hc5 w4.heap.size 3 (by omega)
      have k4 := hc5 w4.heap.size 4 (by omega)
      have k5 := hc5 w4.heap.size 5 (by omega)
      have k6 := hc5 w4.heap.size 6 (by omega)
      have k7 := hc5 w4.heap.size 7 (by omega)
      simp [go_sem] at k0 k1 k2 k3 k4 k5 k6 k7
      have HB5 := Lib.hid (balloc (bthen HB4.out hb5) (by have := HB4.out.size; simp at this; omega) (.cells #[.int .i64 0, .string ⟨#[]⟩, .string ⟨#[]⟩, .int .i64 0, .int .u64 0, .int .u64 0, .slice none 0 0, .slice none 0 0] 32))
      clear hb5 HB4
      unfold val0
      have HGK := Lib.hid (GS.lit_ (E := 9) (w5.alloc (.cells #[.int .i64 0, .string ⟨#[]⟩, .string ⟨#[]⟩, .int .i64 0, .int .u64 0, .int .u64 0, .slice none 0 0, .slice none 0 0] 32)) [.string REF, .string IDN] _ rfl (by simp) 2 rfl)
      have HGT := Lib.hid (GS.lit_ (E := 9) ((w5.alloc (.cells #[.int .i64 0, .string ⟨#[]⟩, .string ⟨#[]⟩, .int .i64 0, .int .u64 0, .int .u64 0, .slice none 0 0, .slice none 0 0] 32)).alloc (.cells #[.string REF, .string IDN] 9)) [.string ONE, .string TXT] _ rfl (by simp) 2 rfl)
      have HB5b := Lib.hid (balloc (balloc HB5.out (by have := HB5.out.size; simp at this; simp; omega) (.cells #[.string REF, .string IDN] 9)) (by have := HB5.out.size; simp at this; simp; omega) (.cells #[.string ONE, .string TXT] 9))
      have HCC := Lib.hid (HC.out _ _ _ (HI.out.keep HB5b.out) (HGK.out.alloc _) HGT.out)
      simp only [World.size_alloc] at HCC
      unfold REF IDN ONE TXT at HCC
      unfold REF IDN ONE TXT at HB5b
      clear HGK HGT HB5
      go_wp2_with fail
      refine HCC.out.mono ?_
      rintro e w6 ⟨hm6, hb6⟩
      have hm6 : ∃ (A : Option Addr) (c : Nat) (x : ByteArray) (N6 : Nat), e = .returned (.tuple #[valP A N6 c x, .bool true]) := by
        obtain ⟨⟨x, l6⟩, hq⟩ := one_some
        unfold REF IDN ONE TXT at hq
        rw [hq] at hm6
        obtain ⟨A6, c6, h6, -⟩ := hm6
        exact ⟨A6, c6, x, _, h6⟩
      obtain ⟨A6, c6, x6, N6, rfl⟩ := hm6
      obtain ⟨hc6, hf6⟩ := bcell hb6
      have hz6 := hb6.size
      simp only [World.size_alloc] at hz6 hc6 hf6
      have T6 : w4.heap.size < w6.heap.size := by omega
      have U6 : w5.heap.size < w6.heap.size := by omega
      have X1 : w4.heap.size < w5.heap.size + 1 := by omega
      have X2 : w4.heap.size < w5.heap.size + 1 + 1 := by omega
      have g0 := hc6 w4.heap.size 0 (by omega)
      have g1 := hc6 w4.heap.size 1 (by omega)
      have g2 := hc6 w4.heap.size 2 (by omega)
      have g3 := hc6 w4.heap.size 3 (by omega)
      have g4 := hc6 w4.heap.size 4 (by omega)
      have g5 := hc6 w4.heap.size 5 (by omega)
      have g6 := hc6 w4.heap.size 6 (by omega)
      have g7 := hc6 w4.heap.size 7 (by omega)
      have u0 := hc6 w5.heap.size 0 (by omega)
      have u1 := hc6 w5.heap.size 1 (by omega)
      have u2 := hc6 w5.heap.size 2 (by omega)
      have u3 := hc6 w5.heap.size 3 (by omega)
      have u4 := hc6 w5.heap.size 4 (by omega)
      have u5 := hc6 w5.heap.size 5 (by omega)
      have u6 := hc6 w5.heap.size 6 (by omega)
      have u7 := hc6 w5.heap.size 7 (by omega)
      simp [go_sem, T5, X1, X2, k0, k1, k2, k3, k4, k5, k6, k7] at g0 g1 g2 g3 g4 g5 g6 g7 u0 u1 u2 u3 u4 u5 u6 u7
      have HB6 := Lib.hid (balloc (bthen HB5b.out hb6) (by have := HB5b.out.size; simp at this; omega) (.cells #[.int .i64 12, .string x6, .string ⟨#[]⟩, .int .i64 0, .int .u64 0, .int .u64 0, .slice A6 N6 c6, .slice none 0 0] 32))
      have HPA := Lib.hid (partNo A N c s (w6.alloc (.cells #[.int .i64 12, .string x6, .string ⟨#[]⟩, .int .i64 0, .int .u64 0, .int .u64 0, .slice A6 N6 c6, .slice none 0 0] 32)))
      unfold valP val0 at HPA
      unfold valP
      clear hb6 HCC HB5b k0 k1 k2 k3 k4 k5 k6 k7 hc5 hf5 hc6 hf6
      go_wp2_with fail
      refine HPA.out.mono ?_
      rintro e w7 ⟨rfl, hb7⟩
      have HB7 := Lib.hid (bthen HB6.out hb7)
      clear hb7 HB6
      go_wp2_with fail
      go_ret
      exact ⟨rfl, HB7.out⟩
    | some pq =>
      obtain ⟨x, l⟩ := pq
      rw [hp] at hm4
      obtain ⟨rfl, rfl, hs4, rfl⟩ := hm4
      have HPP := Lib.hid hp
      clear hp
      obtain ⟨q, hq⟩ : ∃ q, q = l.length := ⟨_, rfl⟩
      rw [← hq]
      have HQQ := Lib.hid hq.symm
      clear hq
      have HB4 := Lib.hid (balloc (bthen HB3.out hb4) (by have := hb4.size; omega) (.cells #[.int .i64 12, .string s, .string ⟨#[]⟩, .int .i64 0, .int .u64 0, .int .u64 0, .slice A q c, .slice none 0 0] 32))
      have hz4 := hb4.size
      have HS4 := Lib.hid (hs4.alloc (.cells #[.int .i64 12, .string s, .string ⟨#[]⟩, .int .i64 0, .int .u64 0, .int .u64 0, .slice A q c, .slice none 0 0] 32))
      clear hb4 HB3 hs4
      go_wp2_with fail
      refine (HE.out trivial _ (HI.out.keep HB4.out) (H1.out.keep HB4.out) (H2.out.keep HB4.out)).mono ?_
      rintro e w5 ⟨hm5, hb5⟩
      rw [HPP.out] at hm5
      obtain ⟨A5, c5, rfl, hs5⟩ := hm5
      rw [HQQ.out]
      obtain ⟨hc5, hf5⟩ := bcell hb5
      have hz5 := hb5.size
      simp only [World.size_alloc] at hz5 hc5 hf5
      have T5 : w4.heap.size < w5.heap.size := by omega
      have k0 := hc5 w4.heap.size 0 (by omega)
      have k1 := hc5 w4.heap.size 1 (by omega)
      have k2 := hc5 w4.heap.size 2 (by omega)
      have k3 := hc5 w4.heap.size 3 (by omega)
      have k4 := hc5 w4.heap.size 4 (by omega)
      have k5 := hc5 w4.heap.size 5 (by omega)
      have k6 := hc5 w4.heap.size 6 (by omega)
      have k7 := hc5 w4.heap.size 7 (by omega)
      simp [go_sem] at k0 k1 k2 k3 k4 k5 k6 k7
      have HB5 := Lib.hid (balloc (bthen HB4.out hb5) (by have := HB4.out.size; simp at this; omega) (.cells #[.int .i64 12, .string s, .string ⟨#[]⟩, .int .i64 0, .int .u64 0, .int .u64 0, .slice A5 q c5, .slice none 0 0] 32))
      have HS45 := Lib.hid ((HS4.out.keep hb5).alloc (.cells #[.int .i64 12, .string s, .string ⟨#[]⟩, .int .i64 0, .int .u64 0, .int .u64 0, .slice A5 q c5, .slice none 0 0] 32))
      have HS5 := Lib.hid (hs5.alloc (.cells #[.int .i64 12, .string s, .string ⟨#[]⟩, .int .i64 0, .int .u64 0, .int .u64 0, .slice A5 q c5, .slice none 0 0] 32))
      clear hb5 HB4 hs5 HS4
      unfold valP
      have HGK := Lib.hid (GS.lit_ (E := 9) (w5.alloc (.cells #[.int .i64 12, .string s, .string ⟨#[]⟩, .int .i64 0, .int .u64 0, .int .u64 0, .slice A5 q c5, .slice none 0 0] 32)) [.string REF, .string IDN] _ rfl (by simp) 2 rfl)
      have HGT := Lib.hid (GS.lit_ (E := 9) ((w5.alloc (.cells #[.int .i64 12, .string s, .string ⟨#[]⟩, .int .i64 0, .int .u64 0, .int .u64 0, .slice A5 q c5, .slice none 0 0] 32)).alloc (.cells #[.string REF, .string IDN] 9)) [.string ONE, .string TXT] _ rfl (by simp) 2 rfl)
      have HB5b := Lib.hid (balloc (balloc HB5.out (by have := HB5.out.size; simp at this; simp; omega) (.cells #[.string REF, .string IDN] 9)) (by have := HB5.out.size; simp at this; simp; omega) (.cells #[.string ONE, .string TXT] 9))
      have HCC := Lib.hid (HC.out _ _ _ (HI.out.keep HB5b.out) (HGK.out.alloc _) HGT.out)
      simp only [World.size_alloc] at HCC
      unfold REF IDN ONE TXT at HCC
      have HS45b := Lib.hid ((HS45.out.alloc (.cells #[.string REF, .string IDN] 9)).alloc (.cells #[.string ONE, .string TXT] 9))
      have HS5b := Lib.hid ((HS5.out.alloc (.cells #[.string REF, .string IDN] 9)).alloc (.cells #[.string ONE, .string TXT] 9))
      unfold REF IDN ONE TXT at HB5b HS45b HS5b
      clear HGK HGT HB5 HS45 HS5
      go_wp2_with fail
      refine HCC.out.mono ?_
      rintro e w6 ⟨hm6, hb6⟩
      have hm6 : ∃ (A : Option Addr) (c : Nat) (x : ByteArray) (N6 : Nat), e = .returned (.tuple #[valP A N6 c x, .bool true]) := by
        obtain ⟨⟨x, l6⟩, hq⟩ := one_some
        unfold REF IDN ONE TXT at hq
        rw [hq] at hm6
        obtain ⟨A6, c6, h6, -⟩ := hm6
        exact ⟨A6, c6, x, _, h6⟩
      obtain ⟨A6, c6, x6, N6, rfl⟩ := hm6
      obtain ⟨hc6, hf6⟩ := bcell hb6
      have hz6 := hb6.size
      simp only [World.size_alloc] at hz6 hc6 hf6
      have T6 : w4.heap.size < w6.heap.size := by omega
      have U6 : w5.heap.size < w6.heap.size := by omega
      have X1 : w4.heap.size < w5.heap.size + 1 := by omega
      have X2 : w4.heap.size < w5.heap.size + 1 + 1 := by omega
      have g0 := hc6 w4.heap.size 0 (by omega)
      have g1 := hc6 w4.heap.size 1 (by omega)
      have g2 := hc6 w4.heap.size 2 (by omega)
      have g3 := hc6 w4.heap.size 3 (by omega)
      have g4 := hc6 w4.heap.size 4 (by omega)
      have g5 := hc6 w4.heap.size 5 (by omega)
      have g6 := hc6 w4.heap.size 6 (by omega)
      have g7 := hc6 w4.heap.size 7 (by omega)
      have u0 := hc6 w5.heap.size 0 (by omega)
      have u1 := hc6 w5.heap.size 1 (by omega)
      have u2 := hc6 w5.heap.size 2 (by omega)
      have u3 := hc6 w5.heap.size 3 (by omega)
      have u4 := hc6 w5.heap.size 4 (by omega)
      have u5 := hc6 w5.heap.size 5 (by omega)
      have u6 := hc6 w5.heap.size 6 (by omega)
      have u7 := hc6 w5.heap.size 7 (by omega)
      simp [go_sem, T5, X1, X2, k0, k1, k2, k3, k4, k5, k6, k7] at g0 g1 g2 g3 g4 g5 g6 g7 u0 u1 u2 u3 u4 u5 u6 u7
      have HB6 := Lib.hid (balloc (bthen HB5b.out hb6) (by have := HB5b.out.size; simp at this; omega) (.cells #[.int .i64 12, .string x6, .string ⟨#[]⟩, .int .i64 0, .int .u64 0, .int .u64 0, .slice A6 N6 c6, .slice none 0 0] 32))
      have HS46 := Lib.hid ((HS45b.out.keep hb6).alloc (.cells #[.int .i64 12, .string x6, .string ⟨#[]⟩, .int .i64 0, .int .u64 0, .int .u64 0, .slice A6 N6 c6, .slice none 0 0] 32))
      have HS56 := Lib.hid ((HS5b.out.keep hb6).alloc (.cells #[.int .i64 12, .string x6, .string ⟨#[]⟩, .int .i64 0, .int .u64 0, .int .u64 0, .slice A6 N6 c6, .slice none 0 0] 32))
      have HPA := Lib.hid (partYes A5 A c5 c l s _ HS56.out HS46.out)
      rw [HQQ.out] at HPA
      unfold valP at HPA
      unfold valP
      clear hb6 HCC HB5b HS45b HS5b HS46 HS56 k0 k1 k2 k3 k4 k5 k6 k7 hc5 hf5 hc6 hf6
      go_wp2_with fail
      refine HPA.out.mono ?_
      rintro e w7 ⟨rfl, hb7⟩
      have HB7 := Lib.hid (bthen HB6.out hb7)
      clear hb7 HB6
      go_wp2_with fail
      go_ret
      exact ⟨rfl, HB7.out⟩
  · have e1 : ((n : Int) != (m : Int)) = true := by rw [bne_iff_ne]; omega
    go_wp2_with fail
    go_ret
    exact ⟨rfl, HB3.out⟩
end Go.Proofs.YtfpnhlfmnoikhabDoor.X
