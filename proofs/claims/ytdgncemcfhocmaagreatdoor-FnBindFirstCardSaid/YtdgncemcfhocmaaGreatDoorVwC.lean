/- The law FnBindFirst. (gen_vw.py) -/
import Derived.Test.YtdgncemcfhocmaaGreatDoorVwB
import Derived.Test.YtdgncemcfhocmaaGreatDoorDoc5
import Derived.Test.YtdgncemcfhocmaaGreatDoorOwn
set_option linter.unusedVariables false
set_option linter.unusedSimpArgs false
set_option maxRecDepth 100000
namespace Go.Proofs.YtdgncemcfhocmaaGreatDoor.X
open Go.RowKit Go.Proofs.YtdgncemcfhocmaaGreatDoorW.PrintLast
namespace Vw
open Ap

/-- What right values are, by kind. -/
structure RF (k n : Int) (text more : ByteArray) (b : List UInt8) (kids : List (ByteArray × Val)) (deep : Int) : Prop where
  r5 : k = 5 → 0 ≤ n ∧ n ≤ 255
  r7 : k = 7 ∨ k = 12 → b.length = 12
  r8 : k = 8 → n = 0 ∨ n = 1
  r16 : k = 16 → -2147483648 ≤ n ∧ n < 2147483648
  r11 : k = 11 → plainB text.data.toList = true ∧ plainB more.data.toList = true
  rk : k = 3 ∨ k = 4 ∨ k = 15 → rightK k kids 0 deep = true
  kn : 1 ≤ k ∧ k ≤ 19 ∨ k = 255 ∨ k = 127
theorem right_facts {k n bits high : Int} {text more : ByteArray} {b : List UInt8} {kids : List (ByteArray × Val)} {deep : Int} (h : right (.mk k text more n bits high b kids) deep = true) : RF k n text more b kids deep := by
  simp only [right, Bool.and_eq_true] at h
  obtain ⟨⟨⟨h1, h2⟩, h3⟩, h4⟩ := h
  simp only [known, decide_eq_true_eq] at h1
  refine ⟨fun e => ?_, fun e => ?_, fun e => ?_, fun e => ?_, fun e => ?_, fun e => ?_, h1⟩
  · subst e; simpa using h4
  · rcases e with rfl | rfl <;> simpa using h4
  · subst e; simpa using h4
  · subst e; simpa using h4
  · subst e; simpa using h4
  · rcases e with rfl | rfl | rfl <;> simpa using h4
theorem infoBool : (Tryz.prog.info? 4).map (fun i => (i.zero, i.size, i.bytes)) = some (some (.bool false), 1, 1) := by kernel_rfl
theorem zzVw (E : TypeId) (x : Value) (w : World) : Calls Tryz.prog 18 #[.iface E x] w fun e w' => (∃ B S, e = .returned (.pointer (some ⟨B, 0, none⟩)) ∧ Vw0 w' B S) ∧ Below w.heap.size w w' := by
  have HN := Lib.hid (newVw E x w)
  go_enter Tryz.func18, Tryz.ntmps18
  go_wp2_with fail
  refine HN.out.mono ?_
  rintro e w1 ⟨⟨B, S, rfl, hv⟩, hb1⟩
  have HV := Lib.hid hv
  have HB1 := Lib.hid hb1
  clear hv hb1 HN
  go_wp2_with fail
  go_ret
  exact ⟨⟨B, S, rfl, HV.out⟩, HB1.out⟩
theorem bufBytes (G : Nat) (w : World) (h0 : w.cell? ⟨G, 0, none⟩ = some (.slice none 0 0)) (h1 : w.cell? ⟨G, 1, none⟩ = some (.int .i64 0)) : Calls Tryz.prog 28 #[.pointer (some ⟨G, 0, none⟩)] w fun e w' => e = .returned (.slice none 0 0) ∧ Below w.heap.size w w' := by
  have e0 : ∀ W : World, (Instr.slice 23 (.slice none 0 0) (some (.int .i64 0)) none none).run Tryz.prog W = .ok (.slice none 0 0) W := fun W => by kernel_rfl
  go_enter Tryz.func28, Tryz.ntmps28
  go_wp2_with fail
  go_region
  go_wp2_with fail
  go_ret
  exact ⟨rfl, bdrew (Below.refl _ _)⟩
/-- What writeScalar says on a new writer. -/
def ScErr (w : World) (cs : Array Value) : Prop := ∀ B S wx, Below w.heap.size w wx → Vw0 wx B S → Calls Tryz.prog 25 #[.pointer (some ⟨B, 0, none⟩), .agg cs] wx fun e w' => Err e ∧ Below wx.heap.size wx w'
set_option maxHeartbeats 4000000 in
theorem steps_one (q : Nat) (k n bits high : Int) (text more : ByteArray) (A0 K' : Option Addr) (xb c0 xk dd : Nat) (w0 w : World) (hb0 : Below w0.heap.size w0 w) (hc : ScErr w0 #[.int .i64 k, .string text, .string more, .int .i64 n, .int .u64 bits, .int .u64 high, .slice A0 xb c0, .slice K' xk dd])
    (hq : w.heap[q]? = some (.cells #[.int .i64 6, .string ⟨#[]⟩, .int .i64 k, .string text, .string more, .int .i64 n, .int .u64 bits, .int .u64 high, .slice A0 xb c0, .slice K' xk dd, .int .i64 0, .int .i64 0, .slice none 0 0] 33 (0, 0))) (TE : TypeId) (tv : Value) (hg : w.cell? ⟨0, 0, none⟩ = some (.iface TE tv)) :
    Calls Tryz.prog 8 #[.slice (some ⟨q, 0, none⟩) 1 1] w fun e w' => (∃ A1 c1 A2 c2, e = .returned (.tuple #[.slice A1 1 c1, .slice A2 0 c2]) ∧ GS w' A1 c1 [.bool false]) ∧ Below w.heap.size w w' := by
  have s0 : w.cell? ⟨q, 0, none⟩ = some (.int .i64 6) := by simp only [World.cell?, hq]; rfl
  have s1 : w.cell? ⟨q, 1, none⟩ = some (.string ⟨#[]⟩) := by simp only [World.cell?, hq]; rfl
  have s2 : w.cell? ⟨q, 2, none⟩ = some (.int .i64 k) := by simp only [World.cell?, hq]; rfl
  have s3 : w.cell? ⟨q, 3, none⟩ = some (.string text) := by simp only [World.cell?, hq]; rfl
  have s4 : w.cell? ⟨q, 4, none⟩ = some (.string more) := by simp only [World.cell?, hq]; rfl
  have s5 : w.cell? ⟨q, 5, none⟩ = some (.int .i64 n) := by simp only [World.cell?, hq]; rfl
  have s6 : w.cell? ⟨q, 6, none⟩ = some (.int .u64 bits) := by simp only [World.cell?, hq]; rfl
  have s7 : w.cell? ⟨q, 7, none⟩ = some (.int .u64 high) := by simp only [World.cell?, hq]; rfl
  have s8 : w.cell? ⟨q, 8, none⟩ = some (.slice A0 xb c0) := by simp only [World.cell?, hq]; rfl
  have s9 : w.cell? ⟨q, 9, none⟩ = some (.slice K' xk dd) := by simp only [World.cell?, hq]; rfl
  have s10 : w.cell? ⟨q, 10, none⟩ = some (.int .i64 0) := by simp only [World.cell?, hq]; rfl
  have s11 : w.cell? ⟨q, 11, none⟩ = some (.int .i64 0) := by simp only [World.cell?, hq]; rfl
  have s12 : w.cell? ⟨q, 12, none⟩ = some (.slice none 0 0) := by simp only [World.cell?, hq]; rfl
  have HQ := Lib.hid hq
  have HSC := Lib.hid hc
  have HB0 := Lib.hid hb0
  have hql : q < w.heap.size := (Array.getElem?_eq_some_iff.1 hq).1
  have hgl := World.block_lt_of_cell? _ _ hg
  have hgl' : 0 < w.heap.size := hgl
  clear hq hc hb0
  go_enter Tryz.func8, Tryz.ntmps8
  go_wp2_with fail
  refine (zzVw _ _ _).mono ?_
  rintro e w1 ⟨⟨B, S, rfl, hv1⟩, hb⟩
  have hb1 : Below (w.heap.size + 1) (w.alloc (.cells #[.slice none 0 0, .int .i64 0, .int .i8 0] 47)) w1 := by simpa using hb
  have HV1 := Lib.hid hv1
  have HB1 := Lib.hid hb1
  have HB1b := Lib.hid (boxb hb1)
  have hz1 := boxs hb1
  have u0 := boxc hb1 0
  have u1 := boxc hb1 1
  simp only [List.getElem?_cons_succ, List.getElem?_cons_zero] at u0 u1
  have hg1 : w1.cell? ⟨0, 0, none⟩ = some (.iface TE tv) := ((boxb hb1).cell hgl).trans hg
  have hgl1 : 0 < w1.heap.size := World.block_lt_of_cell? _ _ hg1
  have r0 : w1.cell? ⟨q, 0, none⟩ = some (.int .i64 6) := (HB1b.out.cell (World.block_lt_of_cell? _ _ s0)).trans s0
  have r1 : w1.cell? ⟨q, 1, none⟩ = some (.string ⟨#[]⟩) := (HB1b.out.cell (World.block_lt_of_cell? _ _ s1)).trans s1
  have r2 : w1.cell? ⟨q, 2, none⟩ = some (.int .i64 k) := (HB1b.out.cell (World.block_lt_of_cell? _ _ s2)).trans s2
  have r3 : w1.cell? ⟨q, 3, none⟩ = some (.string text) := (HB1b.out.cell (World.block_lt_of_cell? _ _ s3)).trans s3
  have r4 : w1.cell? ⟨q, 4, none⟩ = some (.string more) := (HB1b.out.cell (World.block_lt_of_cell? _ _ s4)).trans s4
  have r5 : w1.cell? ⟨q, 5, none⟩ = some (.int .i64 n) := (HB1b.out.cell (World.block_lt_of_cell? _ _ s5)).trans s5
  have r6 : w1.cell? ⟨q, 6, none⟩ = some (.int .u64 bits) := (HB1b.out.cell (World.block_lt_of_cell? _ _ s6)).trans s6
  have r7 : w1.cell? ⟨q, 7, none⟩ = some (.int .u64 high) := (HB1b.out.cell (World.block_lt_of_cell? _ _ s7)).trans s7
  have r8 : w1.cell? ⟨q, 8, none⟩ = some (.slice A0 xb c0) := (HB1b.out.cell (World.block_lt_of_cell? _ _ s8)).trans s8
  have r9 : w1.cell? ⟨q, 9, none⟩ = some (.slice K' xk dd) := (HB1b.out.cell (World.block_lt_of_cell? _ _ s9)).trans s9
  have r10 : w1.cell? ⟨q, 10, none⟩ = some (.int .i64 0) := (HB1b.out.cell (World.block_lt_of_cell? _ _ s10)).trans s10
  have r11 : w1.cell? ⟨q, 11, none⟩ = some (.int .i64 0) := (HB1b.out.cell (World.block_lt_of_cell? _ _ s11)).trans s11
  have r12 : w1.cell? ⟨q, 12, none⟩ = some (.slice none 0 0) := (HB1b.out.cell (World.block_lt_of_cell? _ _ s12)).trans s12
  have hql1 : q < w1.heap.size := World.block_lt_of_cell? _ _ r0
  clear hb hv1 hb1 hg s0 s1 s2 s3 s4 s5 s6 s7 s8 s9 s10 s11 s12
  go_wp2_with fail
  go_loopw [6, 14] (fun a b wr => (a = .slice none 0 0 ∧ b = .int .i64 0 ∧ wr = w1 ∨ b = .int .i64 1 ∧ ∃ Av cv, a = .slice Av 1 cv ∧ Hid (OG 4 wr w1.heap.size (.slice Av 1 cv) [.bool false])) ∧ Hid (Below w1.heap.size w1 wr)) (fun _ b _ => 1 - (intOf b).toNat)
  case atStart => exact ⟨.inl ⟨rfl, rfl, rfl⟩, Lib.hid (Below.refl _ _)⟩
  case round =>
    obtain ⟨⟨rfl, rfl, rfl⟩ | ⟨rfl, Av, cv, rfl, HO⟩, HBr⟩ := hrel
    · go_wp2_with fail
      refine (HSC.out B S _ ?_ ?_).mono ?_
      · exact balloc (HB0.out.trans (HB1b.out.mono HB0.out.size)) (Nat.le_trans HB0.out.size HB1b.out.size) _
      · exact HV1.out.keep (balloc (Below.refl _ _) (Nat.le_refl _) _)
      rintro e w3 ⟨⟨E, x, rfl⟩, hb3⟩
      have HB3 : Hid (Below wr.heap.size wr w3) := Lib.hid (bthenV (balloc (Below.refl _ _) (Nat.le_refl _) _) hb3)
      have hz3 : wr.heap.size + 1 ≤ w3.heap.size := by have := hb3.size; simpa using this
      have hbx : Below (wr.heap.size + 1) (wr.alloc (.cells #[.int .i64 6, .string ⟨#[]⟩, .int .i64 k, .string text, .string more, .int .i64 n, .int .u64 bits, .int .u64 high, .slice A0 xb c0, .slice K' xk dd, .int .i64 0, .int .i64 0, .slice none 0 0] 33)) w3 := by simpa using hb3
      have t0 := boxc hbx 0
      simp only [List.getElem?_cons_succ, List.getElem?_cons_zero] at t0
      clear hb3 hbx
      go_wp2_with (first | (refine wp_appG (E := 4) (.tmp 88) (.tmp 91) 28 rfl rfl (.bool false) 1 infoBool rfl Tryz.underlying28 _ wr.heap.size (.slice none 0 0) [] (some ⟨w3.heap.size, 0, none⟩) 1 [.bool false] rfl rfl ?a1 ?a2 ?a3 ?a4 ?a5 ?a6 ?_) | fail)
      case a1 => exact OG.nil _ _
      case a2 => exact GS.lit_ (E := 4) w3 [.bool false] [.bool false] rfl (by simp) 1 rfl
      case a3 => simp; omega
      case a4 => simp [Value.oneCell']
      case a5 => simp
      case a6 => simp
      intro v4 w4 h4
      have hkept := h4.kept (OG.nil _ _) (by simp; omega)
      have ho4 := h4.own
      obtain ⟨Aw, cw, rfl, -, -⟩ := ho4.sb
      have HO4 := Lib.hid ho4
      have HB4 : Hid (Below wr.heap.size wr w4) := Lib.hid ((balloc HB3.out HB3.out.size _).trans hkept)
      clear h4 hkept ho4
      go_wp2_with fail
      go_roundw
      case rel => exact ⟨.inr ⟨by first | rfl | simp, Aw, cw, by first | rfl | simp, by first | exact HO4 | simpa using HO4⟩, HB4⟩
      case measure => first | decide | simp [intOf]
    · have v0 := (HBr.out.cell (World.block_lt_of_cell? _ _ u0)).trans u0
      have v1 := (HBr.out.cell (World.block_lt_of_cell? _ _ u1)).trans u1
      clear u0 u1
      go_wp2_with fail
      refine (bufBytes w.heap.size wr v0 v1).mono ?_
      rintro e w5 ⟨rfl, hb5⟩
      have HB5 := Lib.hid hb5
      clear hb5
      go_wp2_with fail
      refine (implOwn none 0 [] w5 (SB.nil w5) (by simp)).mono ?_
      rintro e w6 ⟨v6, rfl, ho6, hb6⟩
      obtain ⟨A6, c6, rfl, -, -⟩ := ho6.sb
      have HB6 := Lib.hid hb6
      clear hb6 ho6
      go_wp2_with fail
      go_ret2
      obtain ⟨A7, c7, hv7, hs7, -⟩ := HO.out.sb
      cases hv7
      exact ⟨⟨_, _, _, _, rfl, (hs7.keep HB5.out).keep HB6.out⟩, bthenV (bthenV (HB1b.out.trans (HBr.out.mono HB1b.out.size)) HB5.out (HB1b.out.trans (HBr.out.mono HB1b.out.size)).size) HB6.out (bthenV (HB1b.out.trans (HBr.out.mono HB1b.out.size)) HB5.out (HB1b.out.trans (HBr.out.mono HB1b.out.size)).size).size⟩
end Vw
end Go.Proofs.YtdgncemcfhocmaaGreatDoor.X
