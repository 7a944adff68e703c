/- Contracts of readers of vectors: those of 8 bits. -/
import Derived.Test.YtjjfdamlicoeeaaDoorVecB
set_option linter.unusedVariables false
set_option linter.unusedSimpArgs false
set_option maxRecDepth 100000
namespace Go.Proofs.YtjjfdamlicoeeaaDoor.X
open Go.RowKit Go.Deep Go.Proofs.YtjjfdamlicoeeaaDoorW.PrintLast
/-- 'make([]T, 0, c)'. -/
theorem run_make0 {P : Program} (t e : TypeId) (z : Value) (bytes : Nat) (ht : P.underlying t = some (.slice e)) (hinfo : (P.info? e).map (fun i => (i.zero, i.size, i.bytes)) = some (some z, 1, bytes)) (hz1 : z.cells = #[z])
    (kl kc : IntKind) (n : Nat) (hbytes : bytes * n ≤ 281474976710656) (h63 : n ≤ 9223372036854775807) (w : World) :
    (Instr.makeSlice t (.int kl 0) (.int kc (n : Int))).run P w = .ok (.slice (some ⟨w.heap.size, 0, none⟩) 0 n) (w.alloc (.cells (madeCells #[z] n) e)) := by
  obtain ⟨i, hi, hzz⟩ := Option.map_eq_some_iff.1 hinfo
  simp only [Prod.mk.injEq] at hzz
  obtain ⟨hz, hs, hb⟩ := hzz
  have hb' : (i.bytes : Int) * (n : Int) ≤ 281474976710656 := by
    have h : ((i.bytes * n : Nat) : Int) ≤ 281474976710656 := by rw [hb]; omega
    rwa [Int.natCast_mul] at h
  have hr := run_make (P := P) w t e i z ht hi hz kl kc 0 n (by omega) (by omega) hb' (by omega)
  simp only [Int.toNat_natCast, hs, Nat.mul_one, hz1] at hr
  exact hr
/-- A byte as a number with a sign. -/
def i8of (b : UInt8) : Int := if b.toNat < 128 then b.toNat else (b.toNat : Int) - 256
def b8i (r : List UInt8) : List Int := r.map i8of
theorem i8of_bd (b : UInt8) : -128 ≤ i8of b ∧ i8of b ≤ 127 := by
  have := b.toNat_lt
  unfold i8of
  split <;> omega
theorem new_start (w : World) (o1 o2 : Obj) (z : Value) (q : Nat) (hq : q ≤ 9223372036854775807) : OG 71 (((w.alloc o1).alloc o2).alloc (.cells (madeCells #[z] q) 71)) (w.heap.size + 1 + 1) (.slice (some ⟨w.heap.size + 1 + 1, 0, none⟩) 0 q) (i8v (b8i [])) := by
  have h := OG.made (E := 71) ((w.alloc o1).alloc o2) (w.heap.size + 1 + 1) (by simp) z q hq
  simpa [i8v, b8i] using h
theorem i8_wrap (b : UInt8) : IntKind.i8.wrap (b.toNat : Int) = i8of b := by
  have := b.toNat_lt
  simp only [IntKind.wrap, IntKind.bits, IntKind.signed, i8of]
  simp
  split <;> split <;> omega
theorem i8v_push (r : List UInt8) (k : Nat) (h : k < r.length) : i8v (b8i (r.take (k + 1))) = i8v (b8i (r.take k)) ++ [.int .i8 (i8of r[k])] := by
  rw [List.take_succ_eq_append_getElem h]
  simp only [i8v, b8i, List.map_append, List.map_cons, List.map_nil]
def NewRel (w : World) (B : Nat) (r : List UInt8) (s i : Value) (wr : World) : Prop := ∃ k : Nat, k ≤ r.length ∧ i = .int .i64 ((k : Int) + 1) ∧ OG 71 wr B s (i8v (b8i (r.take k))) ∧ Below B w wr
theorem newInt8 (A : Option Addr) (c : Nat) (r : List UInt8) (w : World) (hs : SB w A c (0 :: r)) (hl : r.length ≤ 1000000) :
    Calls Tryd.prog 67 #[.slice A (r.length + 1) c] w fun e w' => ∃ A', e = .returned (.tuple #[vecI8 A' r.length r.length, .nilIface]) ∧ GS w' A' r.length (i8v (b8i r)) ∧ (∀ a, A' = some a → w.heap.size + 1 ≤ a.block) ∧ Below w.heap.size w w' := by
  obtain ⟨b, off, rfl, hc⟩ := hs.cells (by simp)
  have hc0 := hc 0 (by simp)
  simp at hc0
  obtain ⟨q, hq⟩ : ∃ q, q = r.length := ⟨_, rfl⟩
  rw [← hq] at hl ⊢
  have hmk := run_make0 (P := Tryd.prog) 39 71 (.int .i8 0) 1 Tryd.underlying39 infoI8 rfl .i64 .i64 q (by omega) (by omega)
  have HQ := Lib.hid hq
  have HC := Lib.hid hc
  have hblt : b < w.heap.size := World.block_lt_of_cell? w _ hc0
  have hne0 : ((q : Int) + 1 == 0) = false := by rw [beq_eq_false_iff_ne]; omega
  clear hq hc hs
  go_enter Tryd.func67, Tryd.ntmps67
  go_wp2_with fail
  go_loopw [6, 7] (fun s i wr => NewRel ((w.alloc (.cells #[.int .u8 0, .slice none 0 0, .slice none 0 0, .slice none 0 0, .int .u8 0] 74)).alloc (.cells #[.int .u8 0, .slice none 0 0, .slice none 0 0, .slice none 0 0, .int .u8 0] 74)) (w.heap.size + 1 + 1) r s i wr) (fun _ i _ => q + 1 - (intOf i).toNat)
  case atStart => exact ⟨0, Nat.zero_le _, by simp, new_start w _ _ _ q (by omega), balloc (Below.refl _ _) (by simp) _⟩
  case round =>
    obtain ⟨k, hk, rfl, hog, hb⟩ := hrel
    have hq := HQ.out
    by_cases hkq : k < q
    · have hkr : k < r.length := by omega
      have hcw := HC.out (k + 1) (by simp; omega)
      have hc1 : wr.cell? ⟨b, off + (k + 1), none⟩ = some (.int .u8 (r[k].toNat : Int)) := by
        rw [hb.cell (p := ⟨b, off + (k + 1), none⟩) (by show b < w.heap.size + 1 + 1; omega), World.cell?_alloc_past _ _ _ (show b < (World.alloc w _).heap.size by simp; omega), World.cell?_alloc_past _ _ _ hblt, hcw]
        simp
      have hx := r[k].toNat_lt
      obtain ⟨x, hxx⟩ : ∃ x, x = r[k] := ⟨_, rfl⟩
      rw [← hxx] at hc1 hx
      have HX := Lib.hid hxx
      obtain ⟨A6, c6, rfl, hg6, hn6⟩ := hog.sb
      have hl6 : (i8v (b8i (r.take k))).length = k := by simp [i8v, b8i]; omega
      have HOG := Lib.hid hog
      have HG6 := Lib.hid hg6
      rw [hl6] at HOG ⊢
      have hw8 := i8_wrap x
      obtain ⟨y, hy⟩ : ∃ y, y = i8of x := ⟨_, rfl⟩
      rw [← hy] at hw8
      obtain ⟨L, hL⟩ : ∃ L, L = i8v (b8i (r.take k)) := ⟨_, rfl⟩
      rw [← hL] at HOG hl6
      have HL := Lib.hid hL
      have HLL := Lib.hid hl6
      have HY := Lib.hid hy
      have hz := hb.size
      simp only [World.size_alloc] at hz
      clear hq hxx hcw hog hg6 hl6 hL hy HG6
      go_wp2_with (first | (refine wp_appG (.tmp 30) (.tmp 36) 39 rfl rfl (.int .i8 0) 1 infoI8 rfl Tryd.underlying39 _ (w.heap.size + 1 + 1) (.slice A6 k c6) L (some ⟨wr.heap.size, 0, none⟩) 1 [.int .i8 y] rfl rfl ?a1 ?a2 ?a3 ?a4 ?a5 ?a6 ?_) | fail)
      case a1 => exact HOG.out.alloc _
      case a2 => exact GS.lit_ _ [.int .i8 y] _ rfl (by simp) _ rfl
      case a3 => simp; omega
      case a4 => simp [Value.oneCell']
      case a5 => rw [HLL.out]; simp; omega
      case a6 => rw [HLL.out]; simp; omega
      intro v5 w5 hap
      have HAP := Lib.hid hap
      clear hap
      go_wp2_with fail
      go_roundw
      case rel =>
        have hq := HQ.out
        refine ⟨k + 1, by omega, by simp, ?_, ?_⟩
        · rw [i8v_push r k hkr, ← HL.out, ← HX.out, ← HY.out]
          exact HAP.out.own
        · exact (balloc hb (by omega) _).trans (HAP.out.kept (HOG.out.alloc _) (by simp; omega))
      case measure => simp [intOf]; omega
    · obtain rfl : k = q := by omega
      obtain ⟨A6, c6, rfl, hg6, hn6⟩ := hog.sb
      have hl6 : (i8v (b8i (r.take k))).length = k := by simp [i8v, b8i]; omega
      have et : r.take k = r := by rw [hq]; exact List.take_length
      have HV := Lib.hid (newVecI8 A6 c6 _ wr hg6 (i8v_one _) (by rw [hl6]; omega))
      rw [hl6] at HV ⊢
      rw [et] at HV
      have h0 := hb.size
      simp only [World.size_alloc] at h0
      have hend := (balloc (balloc (Below.refl _ w) (Nat.le_refl _) _) (by simp) _).trans (hb.mono (by omega))
      have r0 := hb.cell (p := ⟨w.heap.size, 0, none⟩) (by show w.heap.size < _; omega)
      have r1 := hb.cell (p := ⟨w.heap.size, 1, none⟩) (by show w.heap.size < _; omega)
      have r2 := hb.cell (p := ⟨w.heap.size, 2, none⟩) (by show w.heap.size < _; omega)
      have r3 := hb.cell (p := ⟨w.heap.size, 3, none⟩) (by show w.heap.size < _; omega)
      have r4 := hb.cell (p := ⟨w.heap.size, 4, none⟩) (by show w.heap.size < _; omega)
      have s0 : ∀ o, wr.frozen? ⟨w.heap.size, o, none⟩ = _ := fun o => hb.frozen (p := ⟨w.heap.size, o, none⟩) (by show w.heap.size < _; omega)
      simp [go_sem] at r0 r1 r2 r3 r4
      clear hb hog hg6 hn6 et hl6 hq HC hne0
      go_wp2_with fail
      refine HV.out.mono ?_
      rintro e w4 ⟨A', rfl, hs4, hn4, hb4⟩
      obtain ⟨hc4, hf4⟩ := bcell hb4
      have hz4 := hb4.size
      have hl4 : w.heap.size < wr.heap.size := by omega
      have hl5 : w.heap.size < w4.heap.size := by omega
      have hend4 := bstep hend (by omega) hb4
      have d0 := (hc4 _ 0 hl4).trans r0
      have d1 := (hc4 _ 1 hl4).trans r1
      have d2 := (hc4 _ 2 hl4).trans r2
      have d3 := (hc4 _ 3 hl4).trans r3
      have d4 := (hc4 _ 4 hl4).trans r4
      have HS4 := Lib.hid hs4
      have hne : ∀ a, A' = some a → a.block ≠ w.heap.size := fun a ha => by have := hn4 a ha; omega
      have HN := Lib.hid hne
      have HM : Hid (∀ a, A' = some a → w.heap.size + 1 ≤ a.block) := Lib.hid fun a ha => by have := hn4 a ha; omega
      clear hs4 hb4 HV hn4 hne
      unfold vecI8
      go_wp2_with fail
      have hbb : w.heap.size ≤ w.heap.size := Nat.le_refl _
      exact bodyPost_ret (v := .tuple #[vecI8 A' k k, .nilIface]) (by simp [results, Tryd.results67, go_sem, vecI8, d0, d1, d2, d3, d4, hl5]) rfl ⟨A', rfl, ((((HS4.out.far HN.out _).far HN.out _).far HN.out _).far HN.out _).far HN.out _, HM.out, ((((hend4.setCell hbb _).setCell hbb _).setCell hbb _).setCell hbb _).setCell hbb _⟩
theorem fromBin3 (A : Option Addr) (c : Nat) (r : List UInt8) (w : World) (hs : SB w A c (3 :: 0 :: r)) (hl : r.length ≤ 1000000) :
    Calls Tryd.prog 39 #[.agg #[.int .u8 9, .slice A (r.length + 2) c]] w fun e w' => ∃ A', e = .returned (.tuple #[vecI8 A' r.length r.length, .nilIface]) ∧ GS w' A' r.length (i8v (b8i r)) ∧ Below w.heap.size w w' := by
  obtain ⟨b, off, rfl, hc⟩ := hs.cells (by simp)
  have hc0 := hc 0 (by simp)
  simp at hc0
  have hblt : b < w.heap.size := World.block_lt_of_cell? w _ hc0
  have hle := hs.le
  have hcap := hs.cap
  obtain ⟨A1, e1, s1⟩ := SB.from_ (P := Tryd.prog) Tryd.underlying38 rfl rfl .i64 (some ⟨b, off, none⟩) c (3 :: 0 :: r) 1 (by simp) hle
  have HN := Lib.hid (fun wx (h : SB wx A1 (c - 1) (0 :: r)) => newInt8 A1 (c - 1) r wx h hl)
  have HS : Hid (∀ wx, SB wx (some ⟨b, off, none⟩) c (3 :: 0 :: r) → SB wx A1 (c - 1) (0 :: r)) := Lib.hid s1
  simp only [List.length_cons, show r.length + 1 + 1 - 1 = r.length + 1 from by omega, Int.cast_ofNat_Int] at e1
  obtain ⟨q, hq⟩ : ∃ q, q = r.length := ⟨_, rfl⟩
  simp only [List.length_cons] at hle
  rw [← hq] at hl e1 HN hle ⊢
  have hlt2 : decide ((q : Int) + 2 < 2) = false := by simp; omega
  have hb1 : b < w.heap.size + 1 := by omega
  have hb2 : b < w.heap.size + 1 + 1 := by omega
  have hs1 := Lib.hid hs
  clear hq hc hs s1
  go_enter Tryd.func39, Tryd.ntmps39
  have HB := ((hs1.out.alloc (.cells #[.int .u8 9, .slice (some ⟨b, off, none⟩) (q + 2) c] 78)).alloc (.cells #[.int .u8 0, .slice none 0 0, .slice none 0 0, .slice none 0 0, .int .u8 0] 74)).alloc (.cells #[.int .u8 0, .slice none 0 0, .slice none 0 0, .slice none 0 0, .int .u8 0] 74)
  have HB2 := Lib.hid (HS.out _ HB)
  clear HB
  go_wp2_with fail
  refine (HN.out _ HB2.out).mono ?_
  rintro e w4 ⟨A', rfl, hs4, hn4, hb4⟩
  obtain ⟨hc4, hf4⟩ := bcell hb4
  have hz4 := hb4.size
  simp only [World.size_alloc] at hz4 hc4 hf4 hn4
  have hl4 : w.heap.size + 1 < w4.heap.size := by omega
  have d0 := hc4 (w.heap.size + 1) 0 (by omega)
  have d1 := hc4 (w.heap.size + 1) 1 (by omega)
  have d2 := hc4 (w.heap.size + 1) 2 (by omega)
  have d3 := hc4 (w.heap.size + 1) 3 (by omega)
  have d4 := hc4 (w.heap.size + 1) 4 (by omega)
  simp [go_sem] at d0 d1 d2 d3 d4
  have hend := (balloc (balloc (balloc (Below.refl _ w) (Nat.le_refl _) _) (by simp) _) (by first | (simp; done) | (simp; omega)) _).trans (hb4.mono (by first | (simp; done) | (simp; omega)))
  have HS4 := Lib.hid hs4
  have HN4 : Hid (∀ a, A' = some a → a.block ≠ w.heap.size + 1) := Lib.hid fun a ha => by have := hn4 a ha; omega
  clear hs4 hb4 hn4 HB2 HN HS
  unfold vecI8
  go_wp2_with fail
  have hbb : w.heap.size ≤ w.heap.size + 1 := Nat.le_succ _
  exact bodyPost_ret (v := .tuple #[vecI8 A' q q, .nilIface]) (by simp [results, Tryd.results39, go_sem, vecI8, d0, d1, d2, d3, d4, hl4]) rfl ⟨A', rfl, ((((HS4.out.far HN4.out _).far HN4.out _).far HN4.out _).far HN4.out _).far HN4.out _, ((((hend.setCell hbb _).setCell hbb _).setCell hbb _).setCell hbb _).setCell hbb _⟩
end Go.Proofs.YtjjfdamlicoeeaaDoor.X
