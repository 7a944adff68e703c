/- impl.FromReader and impl.ArrayFromReader, for all bytes: the calls. -/
import Derived.Test.YtfhbnlbdmfjhlaaGreatDoorRdD
import Derived.Test.YtfhbnlbdmfjhlaaGreatDoorOwn
set_option linter.unusedVariables false
set_option linter.unusedSimpArgs false
set_option maxRecDepth 100000
namespace Go.Proofs.YtfhbnlbdmfjhlaaGreatDoor.X
open Go.RowKit
namespace Rd
open Sp
/-- What a reader's document is. -/
def FromP (L : List UInt8) (e : Ending) (w' : World) : Prop := (RdOk L = true ∧ ∃ A c, e = .returned (.tuple #[.slice A (numOf L).1.toNat c, .nilIface]) ∧ SB w' A c (L.take (numOf L).1.toNat)) ∨ (RdOk L = false ∧ ∃ t v, e = .returned (.tuple #[.slice none 0 0, .iface t v]))
theorem newReader (A : Option Addr) (c : Nat) (L : List UInt8) (w : World) (hs : SB w A c L) :
    Calls Tryz.prog 25 #[.slice A L.length c] w fun e w' => e = .returned (.pointer (some ⟨w.heap.size, 0, none⟩)) ∧ Rdr w w' w.heap.size L 0 ∧ Below w.heap.size w w' := by
  have HR : Hid (Rdr w (w.alloc (.cells #[.slice A L.length c, .int .i64 0, .int .i64 (-1)] 121)) w.heap.size L 0) := Lib.hid ⟨A, c, -1, hs, heap_alloc_new w _⟩
  obtain ⟨n, hn⟩ : ∃ n, n = L.length := ⟨_, rfl⟩
  rw [← hn] at HR ⊢
  clear hs hn
  go_enter Tryz.func25, Tryz.ntmps25
  go_wp2_with fail
  go_ret
  exact ⟨rfl, HR.out, balloc (Below.refl _ _) (Nat.le_refl _) _⟩
theorem fromD (w0 W : World) (B : Nat) (L : List UInt8) (hE : IoErrs w0) (hB : w0.heap.size ≤ B) (hb : Below w0.heap.size w0 W) (hR : Rdr w0 W B L 0) (hmax : (numOf L).1 ≤ 20000) :
    Calls Tryz.prog 24 #[.iface 63 (.pointer (some ⟨B, 0, none⟩))] W fun e w' => FromP L e w' ∧ Below w0.heap.size w0 w' := by
  have H := Lib.hid (newBuf w0 W B L hE hB hb hR hmax)
  clear hE hb hR hmax
  go_enter Tryz.func24, Tryz.ntmps24
  go_wp2_with fail
  refine H.out.mono ?_
  rintro e w1 ⟨h, hb⟩
  have HB := Lib.hid hb
  clear hb H
  rcases h with ⟨h1, A, c, rfl, hs⟩ | ⟨h1, t, v, rfl⟩
  · have HS := Lib.hid hs
    have H1 := Lib.hid h1
    obtain ⟨n, hn⟩ : ∃ n, n = (numOf L).1.toNat := ⟨_, rfl⟩
    have HN := Lib.hid hn
    rw [← hn]
    clear hs h1 hn
    go_wp2_with fail
    go_ret2
    have hn := HN.out
    subst hn
    exact ⟨.inl ⟨H1.out, A, c, rfl, HS.out⟩, HB.out⟩
  · have H1 := Lib.hid h1
    clear h1
    go_wp2_with fail
    go_ret2
    exact ⟨.inr ⟨H1.out, t, v, rfl⟩, HB.out⟩
theorem implFromD (A : Option Addr) (c : Nat) (L : List UInt8) (w : World) (hs : SB w A c L) (hE : IoErrs w) (hmax : (numOf L).1 ≤ 20000) :
    Calls Tryz.prog 13 #[.slice A L.length c] w fun e w' => (∃ A1 n1 c1, e = .returned (.tuple #[.slice A1 n1 c1, .bool (RdOk L)]) ∧ (RdOk L = true → n1 = (numOf L).1.toNat ∧ SB w' A1 c1 (L.take (numOf L).1.toNat))) ∧ Below w.heap.size w w' := by
  have HN := Lib.hid (newReader A c L w hs)
  have HF := Lib.hid (fun W (h1 : Rdr w W w.heap.size L 0) (h2 : Below w.heap.size w W) => fromD w W w.heap.size L hE (Nat.le_refl _) h2 h1 hmax)
  obtain ⟨n, hn⟩ : ∃ n, n = L.length := ⟨_, rfl⟩
  rw [← hn] at HN ⊢
  clear hs hE hmax hn
  go_enter Tryz.func13, Tryz.ntmps13
  go_wp2_with fail
  refine HN.out.mono ?_
  rintro e w1 ⟨rfl, h1, hb1⟩
  have HX := Lib.hid (HF.out w1 h1 hb1)
  clear h1 hb1 HF HN
  go_wp2_with fail
  refine HX.out.mono ?_
  rintro e w2 ⟨h, hb2⟩
  have HB := Lib.hid hb2
  clear hb2 HX
  rcases h with ⟨h1, A1, c1, rfl, hs⟩ | ⟨h1, t, v, rfl⟩
  · have HS := Lib.hid hs
    have H1 := Lib.hid h1
    obtain ⟨k, hk⟩ : ∃ n, n = (numOf L).1.toNat := ⟨_, rfl⟩
    have HK := Lib.hid hk
    rw [← hk]
    clear hs h1 hk
    go_wp2_with fail
    go_quiet (fail)
    go_wp2_with fail
    go_ret2
    rw [H1.out]
    exact ⟨⟨A1, k, c1, rfl, fun _ => ⟨HK.out, HS.out.drewN _⟩⟩, bdrewN HB.out _⟩
  · have H1 := Lib.hid h1
    clear h1
    go_wp2_with fail
    go_quiet (fail)
    go_wp2_with fail
    go_ret2
    rw [H1.out]
    exact ⟨⟨none, 0, 0, rfl, fun h => by cases h⟩, bdrewN HB.out _⟩
theorem fromA (w0 W : World) (B : Nat) (L : List UInt8) (hE : IoErrs w0) (hB : w0.heap.size ≤ B) (hb : Below w0.heap.size w0 W) (hR : Rdr w0 W B L 0) (hmax : (numOf L).1 ≤ 20000) :
    Calls Tryz.prog 26 #[.iface 63 (.pointer (some ⟨B, 0, none⟩))] W fun e w' => FromP L e w' ∧ Below w0.heap.size w0 w' := by
  have H := Lib.hid (newBuf w0 W B L hE hB hb hR hmax)
  clear hE hb hR hmax
  go_enter Tryz.func26, Tryz.ntmps26
  go_wp2_with fail
  refine H.out.mono ?_
  rintro e w1 ⟨h, hb⟩
  have HB := Lib.hid hb
  clear hb H
  rcases h with ⟨h1, A, c, rfl, hs⟩ | ⟨h1, t, v, rfl⟩
  · have HS := Lib.hid hs
    have H1 := Lib.hid h1
    obtain ⟨n, hn⟩ : ∃ n, n = (numOf L).1.toNat := ⟨_, rfl⟩
    have HN := Lib.hid hn
    rw [← hn]
    clear hs h1 hn
    go_wp2_with fail
    go_ret2
    have hn := HN.out
    subst hn
    exact ⟨.inl ⟨H1.out, A, c, rfl, HS.out⟩, HB.out⟩
  · have H1 := Lib.hid h1
    clear h1
    go_wp2_with fail
    go_ret2
    exact ⟨.inr ⟨H1.out, t, v, rfl⟩, HB.out⟩
theorem implFromA (A : Option Addr) (c : Nat) (L : List UInt8) (w : World) (hs : SB w A c L) (hE : IoErrs w) (hmax : (numOf L).1 ≤ 20000) :
    Calls Tryz.prog 15 #[.slice A L.length c] w fun e w' => (∃ A1 n1 c1, e = .returned (.tuple #[.slice A1 n1 c1, .bool (RdOk L)]) ∧ (RdOk L = true → n1 = (numOf L).1.toNat ∧ SB w' A1 c1 (L.take (numOf L).1.toNat))) ∧ Below w.heap.size w w' := by
  have HN := Lib.hid (newReader A c L w hs)
  have HF := Lib.hid (fun W (h1 : Rdr w W w.heap.size L 0) (h2 : Below w.heap.size w W) => fromA w W w.heap.size L hE (Nat.le_refl _) h2 h1 hmax)
  obtain ⟨n, hn⟩ : ∃ n, n = L.length := ⟨_, rfl⟩
  rw [← hn] at HN ⊢
  clear hs hE hmax hn
  go_enter Tryz.func15, Tryz.ntmps15
  go_wp2_with fail
  refine HN.out.mono ?_
  rintro e w1 ⟨rfl, h1, hb1⟩
  have HX := Lib.hid (HF.out w1 h1 hb1)
  clear h1 hb1 HF HN
  go_wp2_with fail
  refine HX.out.mono ?_
  rintro e w2 ⟨h, hb2⟩
  have HB := Lib.hid hb2
  clear hb2 HX
  rcases h with ⟨h1, A1, c1, rfl, hs⟩ | ⟨h1, t, v, rfl⟩
  · have HS := Lib.hid hs
    have H1 := Lib.hid h1
    obtain ⟨k, hk⟩ : ∃ n, n = (numOf L).1.toNat := ⟨_, rfl⟩
    have HK := Lib.hid hk
    rw [← hk]
    clear hs h1 hk
    go_wp2_with fail
    go_quiet (fail)
    go_wp2_with fail
    go_ret2
    rw [H1.out]
    exact ⟨⟨A1, k, c1, rfl, fun _ => ⟨HK.out, HS.out.drewN _⟩⟩, bdrewN HB.out _⟩
  · have H1 := Lib.hid h1
    clear h1
    go_wp2_with fail
    go_quiet (fail)
    go_wp2_with fail
    go_ret2
    rw [H1.out]
    exact ⟨⟨none, 0, 0, rfl, fun h => by cases h⟩, bdrewN HB.out _⟩
end Rd
end Go.Proofs.YtfhbnlbdmfjhlaaGreatDoor.X
