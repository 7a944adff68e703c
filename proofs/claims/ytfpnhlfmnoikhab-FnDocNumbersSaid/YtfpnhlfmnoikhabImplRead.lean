/- Contracts of impl's readers of numbers. -/
import Derived.Test.YtfpnhlfmnoikhabRead
import Derived.Test.YtfpnhlfmnoikhabReadI32
import Derived.Test.YtfpnhlfmnoikhabReadI64
import Derived.Test.YtfpnhlfmnoikhabFresh
set_option linter.unusedVariables false
set_option linter.unusedSimpArgs false
namespace Go.Proofs.Ytfpnhlfmnoikhab.X
open Go.RowKit
theorem implReadU32 (A : Option Addr) (c : Nat) (b0 b1 b2 b3 : UInt8) (r : List UInt8) (w : World) (hs : SB w A c (b0 :: b1 :: b2 :: b3 :: r)) (hl : r.length ≤ 100000000000000) :
    Calls Try.prog 18 #[.slice A (b0 :: b1 :: b2 :: b3 :: r).length c] w fun e w' => ∃ A1 c1, e = .returned (.tuple #[.int .u32 (Lib.leNat [b0, b1, b2, b3]), .slice A1 r.length c1, .bool true]) ∧ SB w' A1 c1 r ∧ Below w.heap.size w w' := by
  have h := readU32 A c b0 b1 b2 b3 r w hs
  obtain ⟨nv, hnv⟩ : ∃ x, x = (Lib.leNat [b0, b1, b2, b3]) := ⟨_, rfl⟩
  rw [← hnv] at h ⊢
  obtain ⟨q, hq⟩ : ∃ x, x = (b0 :: b1 :: b2 :: b3 :: r).length := ⟨_, rfl⟩
  rw [← hq] at h ⊢
  clear hq hnv hs
  go_enter Try.func18, Try.ntmps18
  go_wp2_with fail
  refine h.mono ?_
  rintro e w1 ⟨A1, rfl, hs1, hb1⟩
  have hz := hb1.size
  go_wp2_with fail
  refine (fresh_of (implOwn A1 (c - 4) r w1 hs1 (by omega))).mono ?_
  rintro e w2 ⟨A2, c2, rfl, hs2, ho, hb2⟩
  go_wp2_with fail
  exact bodyPost_ret (v := .tuple #[.int .u32 nv, .slice A2 r.length c2, .bool true]) (by simp [results, Try.results18, go_sem]) rfl ⟨A2, c2, rfl, hs2, bstep hb1 hz hb2⟩
theorem implReadU64 (A : Option Addr) (c : Nat) (b0 b1 b2 b3 b4 b5 b6 b7 : UInt8) (r : List UInt8) (w : World) (hs : SB w A c (b0 :: b1 :: b2 :: b3 :: b4 :: b5 :: b6 :: b7 :: r)) (hl : r.length ≤ 100000000000000) :
    Calls Try.prog 20 #[.slice A (b0 :: b1 :: b2 :: b3 :: b4 :: b5 :: b6 :: b7 :: r).length c] w fun e w' => ∃ A1 c1, e = .returned (.tuple #[.int .u64 (Lib.leNat [b0, b1, b2, b3, b4, b5, b6, b7]), .slice A1 r.length c1, .bool true]) ∧ SB w' A1 c1 r ∧ Below w.heap.size w w' := by
  have h := readU64 A c b0 b1 b2 b3 b4 b5 b6 b7 r w hs
  obtain ⟨nv, hnv⟩ : ∃ x, x = (Lib.leNat [b0, b1, b2, b3, b4, b5, b6, b7]) := ⟨_, rfl⟩
  rw [← hnv] at h ⊢
  obtain ⟨q, hq⟩ : ∃ x, x = (b0 :: b1 :: b2 :: b3 :: b4 :: b5 :: b6 :: b7 :: r).length := ⟨_, rfl⟩
  rw [← hq] at h ⊢
  clear hq hnv hs
  go_enter Try.func20, Try.ntmps20
  go_wp2_with fail
  refine h.mono ?_
  rintro e w1 ⟨A1, rfl, hs1, hb1⟩
  have hz := hb1.size
  go_wp2_with fail
  refine (fresh_of (implOwn A1 (c - 8) r w1 hs1 (by omega))).mono ?_
  rintro e w2 ⟨A2, c2, rfl, hs2, ho, hb2⟩
  go_wp2_with fail
  exact bodyPost_ret (v := .tuple #[.int .u64 nv, .slice A2 r.length c2, .bool true]) (by simp [results, Try.results20, go_sem]) rfl ⟨A2, c2, rfl, hs2, bstep hb1 hz hb2⟩
theorem implReadI32 (A : Option Addr) (c : Nat) (b0 b1 b2 b3 : UInt8) (r : List UInt8) (w : World) (hs : SB w A c (b0 :: b1 :: b2 :: b3 :: r)) (hl : r.length ≤ 100000000000000) :
    Calls Try.prog 17 #[.slice A (b0 :: b1 :: b2 :: b3 :: r).length c] w fun e w' => ∃ A1 c1, e = .returned (.tuple #[.int .i32 (wrap32 (leI [b0, b1, b2, b3])), .slice A1 r.length c1, .bool true]) ∧ SB w' A1 c1 r ∧ Below w.heap.size w w' := by
  have h := readI32 A c b0 b1 b2 b3 r w hs
  obtain ⟨nv, hnv⟩ : ∃ x, x = (wrap32 (leI [b0, b1, b2, b3])) := ⟨_, rfl⟩
  rw [← hnv] at h ⊢
  obtain ⟨q, hq⟩ : ∃ x, x = (b0 :: b1 :: b2 :: b3 :: r).length := ⟨_, rfl⟩
  rw [← hq] at h ⊢
  clear hq hnv hs
  go_enter Try.func17, Try.ntmps17
  go_wp2_with fail
  refine h.mono ?_
  rintro e w1 ⟨A1, rfl, hs1, hb1⟩
  have hz := hb1.size
  go_wp2_with fail
  refine (fresh_of (implOwn A1 (c - 4) r w1 hs1 (by omega))).mono ?_
  rintro e w2 ⟨A2, c2, rfl, hs2, ho, hb2⟩
  go_wp2_with fail
  exact bodyPost_ret (v := .tuple #[.int .i32 nv, .slice A2 r.length c2, .bool true]) (by simp [results, Try.results17, go_sem]) rfl ⟨A2, c2, rfl, hs2, bstep hb1 hz hb2⟩
theorem implReadI64 (A : Option Addr) (c : Nat) (b0 b1 b2 b3 b4 b5 b6 b7 : UInt8) (r : List UInt8) (w : World) (hs : SB w A c (b0 :: b1 :: b2 :: b3 :: b4 :: b5 :: b6 :: b7 :: r)) (hl : r.length ≤ 100000000000000) :
    Calls Try.prog 19 #[.slice A (b0 :: b1 :: b2 :: b3 :: b4 :: b5 :: b6 :: b7 :: r).length c] w fun e w' => ∃ A1 c1, e = .returned (.tuple #[.int .i64 (wrap64 (leI [b0, b1, b2, b3, b4, b5, b6, b7])), .slice A1 r.length c1, .bool true]) ∧ SB w' A1 c1 r ∧ Below w.heap.size w w' := by
  have h := readI64 A c b0 b1 b2 b3 b4 b5 b6 b7 r w hs
  obtain ⟨nv, hnv⟩ : ∃ x, x = (wrap64 (leI [b0, b1, b2, b3, b4, b5, b6, b7])) := ⟨_, rfl⟩
  rw [← hnv] at h ⊢
  obtain ⟨q, hq⟩ : ∃ x, x = (b0 :: b1 :: b2 :: b3 :: b4 :: b5 :: b6 :: b7 :: r).length := ⟨_, rfl⟩
  rw [← hq] at h ⊢
  clear hq hnv hs
  go_enter Try.func19, Try.ntmps19
  go_wp2_with fail
  refine h.mono ?_
  rintro e w1 ⟨A1, rfl, hs1, hb1⟩
  have hz := hb1.size
  go_wp2_with fail
  refine (fresh_of (implOwn A1 (c - 8) r w1 hs1 (by omega))).mono ?_
  rintro e w2 ⟨A2, c2, rfl, hs2, ho, hb2⟩
  go_wp2_with fail
  exact bodyPost_ret (v := .tuple #[.int .i64 nv, .slice A2 r.length c2, .bool true]) (by simp [results, Try.results19, go_sem]) rfl ⟨A2, c2, rfl, hs2, bstep hb1 hz hb2⟩
end Go.Proofs.Ytfpnhlfmnoikhab.X
