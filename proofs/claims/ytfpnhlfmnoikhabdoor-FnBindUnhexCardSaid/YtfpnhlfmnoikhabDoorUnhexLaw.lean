/- Walk of the law FnBindUnhex. -/
import Derived.Test.YtfpnhlfmnoikhabDoorUnhex
import Derived.Test.YtfpnhlfmnoikhabDoorIdHex
set_option linter.unusedVariables false
set_option linter.unusedSimpArgs false
namespace Go.Proofs.YtfpnhlfmnoikhabDoor.X
open Go.RowKit
theorem idHex_all (s : ByteArray) (w : World) (hs : s.size ≤ 140737488351232) (T : TypeId) (x ev : Value) (c0 : w.cell? ⟨0, 0, none⟩ = some (.int .u8 0)) (c1 : w.cell? ⟨0, 1, none⟩ = some (.int .u8 0)) (c2 : w.cell? ⟨0, 2, none⟩ = some (.int .u8 0)) (c3 : w.cell? ⟨0, 3, none⟩ = some (.int .u8 0)) (c4 : w.cell? ⟨0, 4, none⟩ = some (.int .u8 0)) (c5 : w.cell? ⟨0, 5, none⟩ = some (.int .u8 0)) (c6 : w.cell? ⟨0, 6, none⟩ = some (.int .u8 0)) (c7 : w.cell? ⟨0, 7, none⟩ = some (.int .u8 0)) (c8 : w.cell? ⟨0, 8, none⟩ = some (.int .u8 0)) (c9 : w.cell? ⟨0, 9, none⟩ = some (.int .u8 0)) (c10 : w.cell? ⟨0, 10, none⟩ = some (.int .u8 0)) (c11 : w.cell? ⟨0, 11, none⟩ = some (.int .u8 0)) (ce : w.cell? ⟨1, 0, none⟩ = some (.iface T x)) (hE : w.cell? ⟨2, 0, none⟩ = some ev) :
    Calls Tryd.prog 5 #[.string s] w fun e w' => ∃ A n c l, e = .returned (.tuple #[.slice A n c, .bool (unhex s).isSome]) ∧ n = l.length ∧ SB w' A c l ∧ (∀ l', unhex s = some l' → l = l') ∧ Below w.heap.size w w' := by
  have go : ∀ (b0 b1 b2 b3 b4 b5 b6 b7 b8 b9 b10 b11 : UInt8) (errv : Value) (q : Bool), q = (unhex s).isSome → (∀ l', unhex s = some l' → [b0, b1, b2, b3, b4, b5, b6, b7, b8, b9, b10, b11] = l') → Calls Tryd.prog 5 #[.string s] w (fun e w' => ∃ A c, e = .returned (.tuple #[.slice A 12 c, .bool q]) ∧ SB w' A c [b0, b1, b2, b3, b4, b5, b6, b7, b8, b9, b10, b11] ∧ Below w.heap.size w w') →
      Calls Tryd.prog 5 #[.string s] w fun e w' => ∃ A n c l, e = .returned (.tuple #[.slice A n c, .bool (unhex s).isSome]) ∧ n = l.length ∧ SB w' A c l ∧ (∀ l', unhex s = some l' → l = l') ∧ Below w.heap.size w w' := by
    intro b0 b1 b2 b3 b4 b5 b6 b7 b8 b9 b10 b11 errv q hq hl h
    subst hq
    refine h.mono ?_
    rintro e w' ⟨A, c, rfl, h1, h2⟩
    exact ⟨A, 12, c, _, rfl, rfl, h1, hl, h2⟩
  by_cases h24 : s.size = 24
  · have hlen : s.data.toList.length = 24 := by rw [Array.length_toList]; exact h24
    obtain ⟨⟨b, out⟩, hD⟩ : ∃ D, Go.Lib.Hx.decode s.data.toList = D := ⟨_, rfl⟩
    cases out with
    | ok =>
      have hb := decode_len 12 _ (by omega) b hD
      have hu : unhex s = some b := by unfold unhex; rw [if_pos h24, hD]
      match b, hb with
      | [b0, b1, b2, b3, b4, b5, b6, b7, b8, b9, b10, b11], _ =>
        exact go b0 b1 b2 b3 b4 b5 b6 b7 b8 b9 b10 b11 .nilIface true (by rw [hu]; rfl) (fun l' h => by rw [hu] at h; exact Option.some.inj h) (idFromHexOk s w b0 b1 b2 b3 b4 b5 b6 b7 b8 b9 b10 b11 (oid_ok s w h24 ev hE b0 b1 b2 b3 b4 b5 b6 b7 b8 b9 b10 b11 hD))
    | bad ch =>
      have hu : unhex s = none := by unfold unhex; rw [if_pos h24, hD]
      exact go 0 0 0 0 0 0 0 0 0 0 0 0 .nilIface false (by rw [hu]; rfl) (fun l' h => by rw [hu] at h; cases h) (idFromHexBad s w 0 0 0 0 0 0 0 0 0 0 0 0 _ _ (oid_bad s w h24 ev hE b ch hD c0 c1 c2 c3 c4 c5 c6 c7 c8 c9 c10 c11))
    | odd => exact absurd hD (decode_even 12 _ (by omega) b)
  · have hu : unhex s = none := by unfold unhex; rw [if_neg h24]
    exact go 0 0 0 0 0 0 0 0 0 0 0 0 .nilIface false (by rw [hu]; rfl) (fun l' h => by rw [hu] at h; cases h) (idFromHexBad s w 0 0 0 0 0 0 0 0 0 0 0 0 _ _ (oid_short s w hs h24 T x c0 c1 c2 c3 c4 c5 c6 c7 c8 c9 c10 c11 ce))
set_option maxRecDepth 100000 in
set_option maxHeartbeats 4000000 in
theorem fnBindUnhex_walk (s : ByteArray) (w : World) (hs : s.size ≤ 140737488351232) (T : TypeId) (x ev : Value) (c0 : w.cell? ⟨0, 0, none⟩ = some (.int .u8 0)) (c1 : w.cell? ⟨0, 1, none⟩ = some (.int .u8 0)) (c2 : w.cell? ⟨0, 2, none⟩ = some (.int .u8 0)) (c3 : w.cell? ⟨0, 3, none⟩ = some (.int .u8 0)) (c4 : w.cell? ⟨0, 4, none⟩ = some (.int .u8 0)) (c5 : w.cell? ⟨0, 5, none⟩ = some (.int .u8 0)) (c6 : w.cell? ⟨0, 6, none⟩ = some (.int .u8 0)) (c7 : w.cell? ⟨0, 7, none⟩ = some (.int .u8 0)) (c8 : w.cell? ⟨0, 8, none⟩ = some (.int .u8 0)) (c9 : w.cell? ⟨0, 9, none⟩ = some (.int .u8 0)) (c10 : w.cell? ⟨0, 10, none⟩ = some (.int .u8 0)) (c11 : w.cell? ⟨0, 11, none⟩ = some (.int .u8 0)) (ce : w.cell? ⟨1, 0, none⟩ = some (.iface T x)) (hE : w.cell? ⟨2, 0, none⟩ = some ev) :
    Calls Tryd.prog 3 #[.string s] w fun e w' => e = .returned (.bool true) ∧ Below w.heap.size w w' := by
  have HC := Lib.hid (idHex_all s w hs T x ev c0 c1 c2 c3 c4 c5 c6 c7 c8 c9 c10 c11 ce hE)
  have HB := Lib.hid (fun wx => bindUnhex s wx)
  clear c0 c1 c2 c3 c4 c5 c6 c7 c8 c9 c10 c11 ce hE
  obtain ⟨u, hu⟩ : ∃ u, unhex s = u := ⟨_, rfl⟩
  rw [hu] at HC HB
  clear hu
  by_cases a1 : (s.size : Int) > 2147483647
  · go_enter Tryd.func3, Tryd.ntmps3
    go_wp2_with fail
    go_ret
    exact ⟨rfl, Below.refl _ _⟩
  cases u with
  | none =>
    go_enter Tryd.func3, Tryd.ntmps3
    go_wp2_with fail
    refine HC.out.mono ?_
    rintro e w1 ⟨A1, n1, c1, l1, rfl, hn1, hs1, hl1, hb1⟩
    clear hl1 hn1
    go_wp2_with fail
    refine (HB.out w1).mono ?_
    rintro e w2 ⟨A2, c2, rfl, hs2, hb2⟩
    have hend := bthen hb1 hb2
    clear hs1 hs2 hb1 hb2 HC HB
    go_wp2_with fail
    go_ret
    exact ⟨rfl, hend⟩
  | some l =>
    go_enter Tryd.func3, Tryd.ntmps3
    go_wp2_with fail
    refine HC.out.mono ?_
    rintro e w1 ⟨A1, n1, c1, l1, rfl, hn1, hs1, hl1, hb1⟩
    have hl2 := hl1 l rfl
    subst hl2 hn1
    clear hl1
    go_wp2_with fail
    refine (HB.out w1).mono ?_
    rintro e w2 ⟨A2, c2, rfl, hs2, hb2⟩
    have hend := bthen hb1 hb2
    have k1 := str_of (hs1.keep hb2)
    have k2 := str_of hs2
    simp only [Option.getD_some] at k2 ⊢
    clear hs1 hs2 hb1 hb2 HC HB
    go_wp2_with fail
    go_ret
    exact ⟨rfl, hend⟩
end Go.Proofs.YtfpnhlfmnoikhabDoor.X
