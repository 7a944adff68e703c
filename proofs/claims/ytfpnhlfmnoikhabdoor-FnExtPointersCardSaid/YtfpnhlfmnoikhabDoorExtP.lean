/- Contracts of ZzPointer and impl.ExtPointer. -/
import Derived.Test.YtfpnhlfmnoikhabDoorDbp
set_option linter.unusedVariables false
set_option linter.unusedSimpArgs false
set_option maxRecDepth 100000
namespace Go.Proofs.YtfpnhlfmnoikhabDoor.X
open Go.RowKit
theorem zzPointer (A1 A2 : Option Addr) (c1 c2 : Nat) (ks ts : List ByteArray) (w : World) (hI : Ids w) (hlen : ks.length = ts.length) (hl : ts.length ≤ 8796093022000) (hts : ∀ t ∈ ts, t.size ≤ 140737488351232) (h1 : GS w A1 c1 (strv ks)) (h2 : GS w A2 c2 (strv ts)) :
    Calls Tryd.prog 17 #[.slice A1 ks.length c1, .slice A2 ts.length c2] w (DbpOut w (pointerP ks ts)) := by
  have HZ := Lib.hid (fun wx (h : GS wx A2 c2 (strv ts)) => zzObject A1 A2 c1 c2 ks ts wx h hl)
  have HD := Lib.hid (fun J O V cv vs wx hI j0 j1 o0 o1 h1 hV hvs => parseDbp J O A1 V c1 cv ks ts vs wx hI hlen hts j0 j1 o0 o1 h1 hV hvs)
  rw [parse_two ks ts hlen] at HD
  have H1 := Lib.hid h1
  have H2 := Lib.hid h2
  have HI := Lib.hid hI
  obtain ⟨n, hn⟩ : ∃ n, n = ts.length := ⟨_, rfl⟩
  obtain ⟨m, hm⟩ : ∃ m, m = ks.length := ⟨_, rfl⟩
  rw [← hn, ← hm] at HZ HD
  rw [← hn, ← hm]
  clear hlen hl hts h1 h2 hI hn hm
  go_enter Tryd.func17, Tryd.ntmps17
  go_wp2_with fail
  refine (HZ.out _ (H2.out.alloc _)).mono ?_
  rintro e w1 ⟨J, O, V, cv, vs, rfl, j0, j1, o0, o1, hV, hvs, hb1⟩
  have hz1 := hb1.size
  simp only [World.size_alloc] at hz1
  have R1 : w.heap.size < w1.heap.size := by omega
  have HI1 := Lib.hid ((HI.out.keep (balloc (Below.refl _ w) (Nat.le_refl _) _)).keep hb1)
  have HG1 := Lib.hid ((H1.out.alloc _).keep hb1)
  have HB1 := Lib.hid ((balloc (Below.refl _ w) (Nat.le_refl _) _).trans (hb1.mono (by simp)))
  have HD1 := Lib.hid (HD.out J O V cv vs w1 HI1.out j0 j1 o0 o1 HG1.out hV hvs)
  have hq : ∀ j, j < 12 → w1.cell? ⟨w.heap.size, j, none⟩ = some (.int .u8 0) := fun j hj => by
    rw [hb1.cell (p := ⟨w.heap.size, j, none⟩) (by simp)]
    match j, hj with
    | 0, _ | 1, _ | 2, _ | 3, _ | 4, _ | 5, _ | 6, _ | 7, _ | 8, _ | 9, _ | 10, _ | 11, _ => simp [go_sem]
  have hqf : ∀ o, w1.frozen? ⟨w.heap.size, o, none⟩ = false := fun o => by
    rw [hb1.frozen (p := ⟨w.heap.size, o, none⟩) (by simp)]
    simp [go_sem]
  have HQ := Lib.hid hq
  have HF := Lib.hid hqf
  clear hb1 j0 j1 o0 o1 hV hvs HD HZ hq hqf H1 H2 HI
  go_wp2_with fail
  refine HD1.out.mono ?_
  rintro e w2 ⟨s, f, v, rfl, hm, hb2⟩
  have hz2 := hb2.size
  have R2 : w.heap.size < w2.heap.size := by omega
  have HC2 : Hid (∀ j, j < 12 → w2.cell? ⟨w.heap.size, j, none⟩ = some (.int .u8 0)) := Lib.hid fun j hj => (hb2.cell (p := ⟨w.heap.size, j, none⟩) R1).trans (HQ.out j hj)
  have HF2 : Hid (∀ o, w2.frozen? ⟨w.heap.size, o, none⟩ = false) := Lib.hid fun o => (hb2.frozen (p := ⟨w.heap.size, o, none⟩) R1).trans (HF.out o)
  have HB2 := Lib.hid (bstep HB1.out (by omega) hb2)
  have HM := Lib.hid hm
  clear hb2 hm HQ HF HB1
  have rc0 := HC2.out 0 (by omega)
  have rf0 := HF2.out 0
  have rc1 := HC2.out 1 (by omega)
  have rf1 := HF2.out 1
  have rc2 := HC2.out 2 (by omega)
  have rf2 := HF2.out 2
  have rc3 := HC2.out 3 (by omega)
  have rf3 := HF2.out 3
  have rc4 := HC2.out 4 (by omega)
  have rf4 := HF2.out 4
  have rc5 := HC2.out 5 (by omega)
  have rf5 := HF2.out 5
  have rc6 := HC2.out 6 (by omega)
  have rf6 := HF2.out 6
  have rc7 := HC2.out 7 (by omega)
  have rf7 := HF2.out 7
  have rc8 := HC2.out 8 (by omega)
  have rf8 := HF2.out 8
  have rc9 := HC2.out 9 (by omega)
  have rf9 := HF2.out 9
  have rc10 := HC2.out 10 (by omega)
  have rf10 := HF2.out 10
  have rc11 := HC2.out 11 (by omega)
  have rf11 := HF2.out 11
  unfold idA
  go_wp2_with fail
  exact bodyPost_ret (v := .tuple #[.string s, idA f, v]) (by simp [results, Tryd.results17, go_sem, idA, rc0, rc1, rc2, rc3, rc4, rc5, rc6, rc7, rc8, rc9, rc10, rc11, R2]) rfl ⟨s, f, v, rfl, HM.out, set12 HB2.out _ _ _ _ _ _ _ _ _ _ _ _⟩
theorem HB8 {B : Nat} {w w3 : World} {v0 v1 v2 v3 v4 v5 v6 v7 : Value} (h : Below B w w3) : Below B w ((((((((w3.setCell ⟨B, 0, none⟩ v0).setCell ⟨B, 1, none⟩ v1).setCell ⟨B, 2, none⟩ v2).setCell ⟨B, 3, none⟩ v3).setCell ⟨B, 4, none⟩ v4).setCell ⟨B, 5, none⟩ v5).setCell ⟨B, 6, none⟩ v6).setCell ⟨B, 7, none⟩ v7) :=
  ((((((((h.setCell (Nat.le_refl _) _).setCell (Nat.le_refl _) _).setCell (Nat.le_refl _) _).setCell (Nat.le_refl _) _).setCell (Nat.le_refl _) _).setCell (Nat.le_refl _) _).setCell (Nat.le_refl _) _).setCell (Nat.le_refl _) _)
theorem SB8 {B : Nat} {w3 : World} {A : Option Addr} {c : Nat} {l : List UInt8} {v0 v1 v2 v3 v4 v5 v6 v7 : Value} (h : SB w3 A c l) (hne : ∀ a, A = some a → a.block ≠ B) : SB ((((((((w3.setCell ⟨B, 0, none⟩ v0).setCell ⟨B, 1, none⟩ v1).setCell ⟨B, 2, none⟩ v2).setCell ⟨B, 3, none⟩ v3).setCell ⟨B, 4, none⟩ v4).setCell ⟨B, 5, none⟩ v5).setCell ⟨B, 6, none⟩ v6).setCell ⟨B, 7, none⟩ v7) A c l :=
  ((((((((h.far hne _).far hne _).far hne _).far hne _).far hne _).far hne _).far hne _).far hne _)
theorem byv_f (b : List UInt8) (hb : b.length = 12) (f : Nat → Int) (h : ∀ j, f j = ((b.getD j 0).toNat : Int)) : [Value.int .u8 (f 0), Value.int .u8 (f 1), Value.int .u8 (f 2), Value.int .u8 (f 3), Value.int .u8 (f 4), Value.int .u8 (f 5), Value.int .u8 (f 6), Value.int .u8 (f 7), Value.int .u8 (f 8), Value.int .u8 (f 9), Value.int .u8 (f 10), Value.int .u8 (f 11)] = byv b := by
  match b, hb with
  | [b0, b1, b2, b3, b4, b5, b6, b7, b8, b9, b10, b11], _ => simp [byv, h]
/-- The value that is given where nothing can be read. -/
def val0 : Value := .agg #[.int .i64 0, .string ⟨#[]⟩, .string ⟨#[]⟩, .int .i64 0, .int .u64 0, .int .u64 0, .slice none 0 0, .slice none 0 0]
def ExtOut (w : World) (ks ts : List ByteArray) (e : Ending) (w' : World) : Prop := (match pointerP ks ts with | some (x, l) => ∃ A c, e = .returned (.tuple #[valP A l.length c x, .bool true]) ∧ SB w' A c l | none => e = .returned (.tuple #[val0, .bool false])) ∧ Below w.heap.size w w'
theorem extPointer (A1 A2 : Option Addr) (c1 c2 : Nat) (ks ts : List ByteArray) (w : World) (hI : Ids w) (hlen : ks.length = ts.length) (hl : ts.length ≤ 8796093022000) (hts : ∀ t ∈ ts, t.size ≤ 140737488351232) (h1 : GS w A1 c1 (strv ks)) (h2 : GS w A2 c2 (strv ts)) :
    Calls Tryd.prog 10 #[.slice A1 ks.length c1, .slice A2 ts.length c2] w (ExtOut w ks ts) := by
  have HZ := Lib.hid (fun wx i g1 g2 => zzPointer A1 A2 c1 c2 ks ts wx i hlen hl hts g1 g2)
  have HO := Lib.hid (fun A' c' l wx (h : SB wx A' c' l) (hl : l.length ≤ 140737488355328) => fresh_of (implOwn A' c' l wx h hl))
  have H1 := Lib.hid h1
  have H2 := Lib.hid h2
  have HI := Lib.hid hI
  obtain ⟨n, hn⟩ : ∃ n, n = ts.length := ⟨_, rfl⟩
  rw [hlen, ← hn] at HZ
  rw [hlen, ← hn]
  clear hlen hl hts h1 h2 hI hn
  go_enter Tryd.func10, Tryd.ntmps10
  go_wp2_with fail
  refine (HZ.out _ (HI.out.keep (balloc (Below.refl _ w) (Nat.le_refl _) _)) (H1.out.alloc _) (H2.out.alloc _)).mono ?_
  rintro e w1 ⟨s, f, v, rfl, hm, hb1⟩
  have hz1 := hb1.size
  simp only [World.size_alloc] at hz1
  have R1 : w.heap.size < w1.heap.size := by omega
  have R2 : w.heap.size < w1.heap.size + 1 := by omega
  have hb1' : Below (w.heap.size + 1) (w.alloc (.cells #[.int .i64 0, .string ⟨#[]⟩, .string ⟨#[]⟩, .int .i64 0, .int .u64 0, .int .u64 0, .slice none 0 0, .slice none 0 0] 32)) w1 := by simpa using hb1
  have k0 := boxc (cs := [.int .i64 0, .string ⟨#[]⟩, .string ⟨#[]⟩, .int .i64 0, .int .u64 0, .int .u64 0, .slice none 0 0, .slice none 0 0]) hb1' 0
  have k1 := boxc (cs := [.int .i64 0, .string ⟨#[]⟩, .string ⟨#[]⟩, .int .i64 0, .int .u64 0, .int .u64 0, .slice none 0 0, .slice none 0 0]) hb1' 1
  have k2 := boxc (cs := [.int .i64 0, .string ⟨#[]⟩, .string ⟨#[]⟩, .int .i64 0, .int .u64 0, .int .u64 0, .slice none 0 0, .slice none 0 0]) hb1' 2
  have k3 := boxc (cs := [.int .i64 0, .string ⟨#[]⟩, .string ⟨#[]⟩, .int .i64 0, .int .u64 0, .int .u64 0, .slice none 0 0, .slice none 0 0]) hb1' 3
  have k4 := boxc (cs := [.int .i64 0, .string ⟨#[]⟩, .string ⟨#[]⟩, .int .i64 0, .int .u64 0, .int .u64 0, .slice none 0 0, .slice none 0 0]) hb1' 4
  have k5 := boxc (cs := [.int .i64 0, .string ⟨#[]⟩, .string ⟨#[]⟩, .int .i64 0, .int .u64 0, .int .u64 0, .slice none 0 0, .slice none 0 0]) hb1' 5
  have k6 := boxc (cs := [.int .i64 0, .string ⟨#[]⟩, .string ⟨#[]⟩, .int .i64 0, .int .u64 0, .int .u64 0, .slice none 0 0, .slice none 0 0]) hb1' 6
  have k7 := boxc (cs := [.int .i64 0, .string ⟨#[]⟩, .string ⟨#[]⟩, .int .i64 0, .int .u64 0, .int .u64 0, .slice none 0 0, .slice none 0 0]) hb1' 7
  simp at k0 k1 k2 k3 k4 k5 k6 k7
  have hfr : ∀ j, w1.frozen? ⟨w.heap.size, j, none⟩ = false := fun j => boxf (cs := [.int .i64 0, .string ⟨#[]⟩, .string ⟨#[]⟩, .int .i64 0, .int .u64 0, .int .u64 0, .slice none 0 0, .slice none 0 0]) hb1' j
  have HB1 := Lib.hid (boxb hb1')
  have HM := Lib.hid hm
  clear hb1 hb1' hm HZ HI H1 H2
  unfold idA
  cases hp : pointerP ks ts with
  | none =>
    have hm := HM.out
    rw [hp] at hm
    obtain ⟨T, p, rfl⟩ := hm
    have HP := Lib.hid hp
    clear hp HM
    go_wp2_with fail
    exact bodyPost_ret (v := .tuple #[val0, .bool false]) (by simp [results, Tryd.results10, go_sem, val0, k0, k1, k2, k3, k4, k5, k6, k7, R1, R2]) rfl ⟨by rw [HP.out], balloc (HB8 HB1.out) (by simp; omega) _⟩
  | some q =>
    obtain ⟨x, b⟩ := q
    have hm := HM.out
    rw [hp] at hm
    obtain ⟨rfl, rfl, hlb, hfb⟩ := hm
    have HP := Lib.hid hp
    have hsb : SB (w1.alloc (.cells #[.int .u8 (f 0), .int .u8 (f 1), .int .u8 (f 2), .int .u8 (f 3), .int .u8 (f 4), .int .u8 (f 5), .int .u8 (f 6), .int .u8 (f 7), .int .u8 (f 8), .int .u8 (f 9), .int .u8 (f 10), .int .u8 (f 11)] 38)) (some ⟨w1.heap.size, 0, none⟩) 12 b := by
      have h := SB.lit_ (E := 38) w1 b _ (byv_f b hlb f hfb) (by omega) 12 hlb.symm
      exact h
    have HS := Lib.hid (HO.out _ _ _ _ hsb (by omega))
    rw [hlb] at HS
    have HLB := Lib.hid hlb
    clear hp HM hlb hfb hsb HO
    go_wp2_with fail
    refine HS.out.mono ?_
    rintro e w3 ⟨A3, c3, rfl, hs3, ho3, hb3⟩
    have hz3 := hb3.size
    simp only [World.size_alloc] at hz3
    have R3 : w.heap.size < w3.heap.size := by omega
    have hc3 : ∀ o, w3.cell? ⟨w.heap.size, o, none⟩ = w1.cell? ⟨w.heap.size, o, none⟩ := fun o => by
      rw [hb3.cell (p := ⟨w.heap.size, o, none⟩) (by simpa using R2), World.cell?_alloc_past _ _ _ R1]
    have hf3 : ∀ o, w3.frozen? ⟨w.heap.size, o, none⟩ = false := fun o => by
      rw [hb3.frozen (p := ⟨w.heap.size, o, none⟩) (by simpa using R2)]
      have := hfr o
      simpa [go_sem, R1] using this
    have d0 := (hc3 0).trans k0
    have d1 := (hc3 1).trans k1
    have d2 := (hc3 2).trans k2
    have d3 := (hc3 3).trans k3
    have d4 := (hc3 4).trans k4
    have d5 := (hc3 5).trans k5
    have d6 := (hc3 6).trans k6
    have d7 := (hc3 7).trans k7
    have HS3 := Lib.hid hs3
    have HN : Hid (∀ a, A3 = some a → a.block ≠ w.heap.size) := Lib.hid fun a ha => by have := ho3.newer a ha; simp at this; omega
    have HB3 := Lib.hid (bstep (balloc HB1.out (by omega) _) (by simp; omega) hb3)
    clear hb3 hs3 ho3 HS HB1 hc3
    go_wp2_with fail
    exact bodyPost_ret (v := .tuple #[valP A3 12 c3 s, .bool true]) (by simp [results, Tryd.results10, go_sem, valP, d0, d1, d2, d3, d4, d5, d6, d7, R3]) rfl ⟨by rw [HP.out]; exact ⟨A3, c3, by rw [HLB.out], SB8 HS3.out HN.out⟩, HB8 HB3.out⟩
end Go.Proofs.YtfpnhlfmnoikhabDoor.X
