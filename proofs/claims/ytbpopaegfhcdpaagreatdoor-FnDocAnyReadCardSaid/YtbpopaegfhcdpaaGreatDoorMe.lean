/- Put together, without what nothing reaches: RdrB, RdrC, RdiA. -/
import Derived.Test.YtbpopaegfhcdpaaGreatDoorMd
import Derived.Laws.CopyOwn
import Derived.Test.YtbpopaegfhcdpaaGreatDoorMa
/- bsoncore's Read functions by kind, for all bytes: names, identifiers, pointers, code, binaries. -/
set_option linter.unusedVariables false
set_option linter.unusedSimpArgs false
set_option maxRecDepth 100000
namespace Go.Proofs.YtbpopaegfhcdpaaGreatDoor.X
open Go.RowKit Go.Proofs.YtbpopaegfhcdpaaGreatDoorW.PrintLast
namespace Rr
open Sp Al Av Aw Ck Lk
def R51.T5 : Bool × List (List Nat × List Nat) := (true, [([], []), ([], []), ([], []), ([1, 2], [1, 2]), ([0, 3], [0, 3])])
def R51.B5 : List Nat := [0, 0, 0, 6, 15]
theorem R51.tab5 : rtab .any (opsOf Tryz.f51 5) = R51.T5 := by kernel_rfl
theorem R51.bits5 : waitsOk R51.T5.2 R51.B5 = true := by kernel_rfl
theorem sizeU8r : (Tryz.prog.info? 5).map (·.size) = some 1 := by kernel_rfl
/-- Twelve bytes as an array. -/
def arrV (m : List UInt8) : Value := .agg (byv m).toArray
theorem split12 {m : List UInt8} (hm : m.length = 12) : ∃ b0 b1 b2 b3 b4 b5 b6 b7 b8 b9 b10 b11 : UInt8, m = [b0, b1, b2, b3, b4, b5, b6, b7, b8, b9, b10, b11] := by
  match m, hm with
  | [b0, b1, b2, b3, b4, b5, b6, b7, b8, b9, b10, b11], _ => exact ⟨b0, b1, b2, b3, b4, b5, b6, b7, b8, b9, b10, b11, rfl⟩
set_option maxHeartbeats 1600000 in
theorem csb_ok (A : Option Addr) (c : Nat) (nm bl : List UInt8) (w : World) (hs : SB w A c (nm ++ 0 :: bl)) (hn : plainB nm = true) (hl : (nm ++ 0 :: bl).length ≤ 5000) :
    Calls Tryz.prog 167 #[.slice A (nm ++ 0 :: bl).length c] w fun e w' => ∃ A1 c1 A2 c2, e = .returned (.tuple #[.slice A1 nm.length c1, .slice A2 bl.length c2, .bool true]) ∧ Sm A c (nm ++ 0 :: bl) A1 c1 nm ∧ Sm A c (nm ++ 0 :: bl) A2 c2 bl ∧ Below w.heap.size w w' := by
  have hi : Lib.indexByte (nm ++ 0 :: bl) ((0 : Int).toNat.toUInt8) = nm.length := index_plain nm bl hn
  have HI := Lib.hid (bytesIndexByte A c (nm ++ 0 :: bl) 0 w hs)
  rw [hi] at HI
  have hlen : (nm ++ 0 :: bl).length = nm.length + 1 + bl.length := by simp; omega
  obtain ⟨A5, x5, s5⟩ := SB.to_ (P := Tryz.prog) Tryz.underlying22 rfl rfl .i64 A c (nm ++ 0 :: bl) nm.length (by omega) hs.le
  obtain ⟨A6, x6, s6⟩ := SB.from_ (P := Tryz.prog) Tryz.underlying22 rfl rfl .i64 A c (nm ++ 0 :: bl) (nm.length + 1) (by omega) hs.le
  have HS5 : Hid (Sm A c (nm ++ 0 :: bl) A5 c nm) := Lib.hid fun wx h => by have := s5 wx h; simpa using this
  have HS6 : Hid (Sm A c (nm ++ 0 :: bl) A6 (c - (nm.length + 1)) bl) := Lib.hid fun wx h => by
    have h2 := s6 wx h
    rw [List.drop_append, List.drop_of_length_le (by omega), show nm.length + 1 - nm.length = 1 from by omega] at h2
    exact h2
  rw [show (nm ++ 0 :: bl).length - (nm.length + 1) = bl.length from by omega] at x6
  obtain ⟨p, hp⟩ : ∃ p, p = (nm ++ 0 :: bl).length := ⟨_, rfl⟩
  obtain ⟨n, hn'⟩ : ∃ p, p = nm.length := ⟨_, rfl⟩
  obtain ⟨q, hq⟩ : ∃ p, p = bl.length := ⟨_, rfl⟩
  rw [← hp, ← hn'] at HI x5
  rw [← hn'] at HS6
  rw [← hp, ← hn', ← hq] at x6
  rw [← hp, ← hn', ← hq]
  have d1 : decide ((n : Int) < 0) = false := decide_eq_false (by omega)
  have i1 : wrap64 ((n : Int) + 1) = (n : Int) + 1 := by unfold wrap64; omega
  have x6' : ∀ W : World, (Instr.slice 22 (.slice A p c) (some (.int .i64 ((n : Int) + 1))) none none).run Tryz.prog W = .ok (.slice A6 q (c - (n + 1))) W := x6
  clear hs hn hl hi hlen hp hn' hq s5 s6 x6
  go_enter Tryz.func167, Tryz.ntmps167
  go_wp2_with fail
  refine HI.out.mono ?_
  rintro e w1 ⟨rfl, rfl⟩
  clear HI
  go_wp2_with fail
  go_region
  go_wp2_with fail
  go_ret3
  exact ⟨_, _, _, _, rfl, HS5.out, HS6.out, bdrew (Below.refl _ _)⟩
theorem csb_no (A : Option Addr) (c : Nat) (l : List UInt8) (w : World) (hs : SB w A c l) (hi : Lib.indexByte l ((0 : Int).toNat.toUInt8) = -1) :
    Calls Tryz.prog 167 #[.slice A l.length c] w fun e w' => e = .returned (.tuple #[.slice none 0 0, .slice A l.length c, .bool false]) ∧ Below w.heap.size w w' := by
  have HI := Lib.hid (bytesIndexByte A c l 0 w hs)
  rw [hi] at HI
  obtain ⟨p, hp⟩ : ∃ p, p = l.length := ⟨_, rfl⟩
  rw [← hp] at HI ⊢
  clear hs hi hp
  go_enter Tryz.func167, Tryz.ntmps167
  go_wp2_with fail
  refine HI.out.mono ?_
  rintro e w1 ⟨rfl, rfl⟩
  clear HI
  go_wp2_with fail
  go_ret3
  exact ⟨rfl, Below.refl _ _⟩
theorem cs_ok (A : Option Addr) (c : Nat) (nm bl : List UInt8) (w : World) (hs : SB w A c (nm ++ 0 :: bl)) (hn : plainB nm = true) (hl : (nm ++ 0 :: bl).length ≤ 5000) :
    Calls Tryz.prog 116 #[.slice A (nm ++ 0 :: bl).length c] w fun e w' => ∃ A2 c2, e = .returned (.tuple #[.string ⟨nm.toArray⟩, .slice A2 bl.length c2, .bool true]) ∧ Sm A c (nm ++ 0 :: bl) A2 c2 bl ∧ Below w.heap.size w w' := by
  have HC := Lib.hid (csb_ok A c nm bl w hs hn hl)
  have HS := Lib.hid hs
  obtain ⟨p, hp⟩ : ∃ p, p = (nm ++ 0 :: bl).length := ⟨_, rfl⟩
  obtain ⟨n, hn'⟩ : ∃ p, p = nm.length := ⟨_, rfl⟩
  obtain ⟨q, hq⟩ : ∃ p, p = bl.length := ⟨_, rfl⟩
  obtain ⟨Z, hZ⟩ : ∃ z : ByteArray, z = ⟨nm.toArray⟩ := ⟨_, rfl⟩
  have HCV : Hid (∀ A1 c1 W, SB W A1 c1 nm → (convert 22 9 (.slice A1 n c1)).run Tryz.prog W = .ok (.string Z) W) := Lib.hid fun A1 c1 W h => by rw [hZ, hn']; exact str_of h
  rw [← hp, ← hn', ← hq] at HC
  rw [← hp, ← hq, ← hZ]
  clear hs hn hl hp hn' hq hZ
  go_enter Tryz.func116, Tryz.ntmps116
  go_wp2_with fail
  refine HC.out.mono ?_
  rintro e w1 ⟨A1, c1, A2, c2, rfl, h1, h2, hb1⟩
  have hcv := HCV.out A1 c1 w1 (h1 _ (HS.out.keep hb1))
  have HB1 := Lib.hid hb1
  have HS2 := Lib.hid h2
  clear hb1 h1 h2 HC HCV
  go_wp2_with fail
  go_ret3
  exact ⟨_, _, rfl, HS2.out, HB1.out⟩
theorem cs_no (A : Option Addr) (c : Nat) (l : List UInt8) (w : World) (hs : SB w A c l) (hi : Lib.indexByte l ((0 : Int).toNat.toUInt8) = -1) :
    Calls Tryz.prog 116 #[.slice A l.length c] w fun e w' => e = .returned (.tuple #[.string ⟨#[]⟩, .slice A l.length c, .bool false]) ∧ Below w.heap.size w w' := by
  have HC := Lib.hid (csb_no A c l w hs hi)
  obtain ⟨p, hp⟩ : ∃ p, p = l.length := ⟨_, rfl⟩
  rw [← hp] at HC ⊢
  clear hs hi hp
  go_enter Tryz.func116, Tryz.ntmps116
  go_wp2_with fail
  refine HC.out.mono ?_
  rintro e w1 ⟨rfl, hb1⟩
  have HB1 := Lib.hid hb1
  clear hb1 HC
  go_wp2_with fail
  go_ret3
  exact ⟨rfl, HB1.out⟩
theorem re_ok (A : Option Addr) (c : Nat) (p1 p2 bl : List UInt8) (w : World) (hs : SB w A c (p1 ++ 0 :: (p2 ++ 0 :: bl))) (h1 : plainB p1 = true) (h2 : plainB p2 = true) (hl : (p1 ++ 0 :: (p2 ++ 0 :: bl)).length ≤ 5000) :
    Calls Tryz.prog 55 #[.slice A (p1 ++ 0 :: (p2 ++ 0 :: bl)).length c] w fun e w' => ∃ A2 c2, e = .returned (.tuple #[.string ⟨p1.toArray⟩, .string ⟨p2.toArray⟩, .slice A2 bl.length c2, .bool true]) ∧ Sm A c (p1 ++ 0 :: (p2 ++ 0 :: bl)) A2 c2 bl ∧ Below w.heap.size w w' := by
  have HC := Lib.hid (cs_ok A c p1 _ w hs h1 hl)
  have HD := Lib.hid (fun A1 c1 wx (h : SB wx A1 c1 (p2 ++ 0 :: bl)) => cs_ok A1 c1 p2 bl wx h h2 (by simp at hl ⊢; omega))
  have HS := Lib.hid hs
  obtain ⟨p, hp⟩ : ∃ p, p = (p1 ++ 0 :: (p2 ++ 0 :: bl)).length := ⟨_, rfl⟩
  obtain ⟨q, hq⟩ : ∃ p, p = (p2 ++ 0 :: bl).length := ⟨_, rfl⟩
  obtain ⟨z1, hz1⟩ : ∃ z : ByteArray, z = ⟨p1.toArray⟩ := ⟨_, rfl⟩
  obtain ⟨z2, hz2⟩ : ∃ z : ByteArray, z = ⟨p2.toArray⟩ := ⟨_, rfl⟩
  rw [← hp, ← hq, ← hz1] at HC
  rw [← hq, ← hz2] at HD
  rw [← hp, ← hz1, ← hz2]
  clear hs h1 h2 hl hp hq hz1 hz2
  go_enter Tryz.func55, Tryz.ntmps55
  go_wp2_with fail
  refine HC.out.mono ?_
  rintro e w1 ⟨A1, c1, rfl, hsm, hb1⟩
  have HB1 := Lib.hid hb1
  have HSM := Lib.hid hsm
  clear hb1 hsm HC
  go_wp2_with fail
  refine (HD.out A1 c1 w1 (HSM.out _ (HS.out.keep HB1.out))).mono ?_
  rintro e w2 ⟨A2, c2, rfl, hsm, hb2⟩
  have HB2 := Lib.hid (bthen HB1.out hb2)
  have HSM2 : Hid (Sm A c (p1 ++ 0 :: (p2 ++ 0 :: bl)) A2 c2 bl) := Lib.hid fun wx h => hsm wx (HSM.out wx h)
  clear hb2 hsm HD
  go_wp2_with fail
  exact bodyPost_ret (v := .tuple #[.string z1, .string z2, .slice A2 bl.length c2, .bool true]) (by simp [results, Tryz.results55, go_sem]) rfl ⟨A2, c2, rfl, HSM2.out, HB2.out⟩
theorem re_no (A : Option Addr) (c : Nat) (l : List UInt8) (w : World) (hs : SB w A c l) (hl : l.length ≤ 5000) (h : Lib.indexByte l ((0 : Int).toNat.toUInt8) = -1 ∨ ∃ p1 r, l = p1 ++ 0 :: r ∧ plainB p1 = true ∧ Lib.indexByte r ((0 : Int).toNat.toUInt8) = -1) :
    Calls Tryz.prog 55 #[.slice A l.length c] w fun e w' => e = .returned (.tuple #[.string ⟨#[]⟩, .string ⟨#[]⟩, .slice A l.length c, .bool false]) ∧ Below w.heap.size w w' := by
  rcases h with hi | ⟨p1, r, rfl, h1, hi⟩
  · have HC := Lib.hid (cs_no A c l w hs hi)
    obtain ⟨p, hp⟩ : ∃ p, p = l.length := ⟨_, rfl⟩
    rw [← hp] at HC ⊢
    clear hs hi hp hl
    go_enter Tryz.func55, Tryz.ntmps55
    go_wp2_with fail
    refine HC.out.mono ?_
    rintro e w1 ⟨rfl, hb1⟩
    have HB1 := Lib.hid hb1
    clear hb1 HC
    go_wp2_with fail
    exact bodyPost_ret (v := .tuple #[.string ⟨#[]⟩, .string ⟨#[]⟩, .slice A p c, .bool false]) (by simp [results, Tryz.results55, go_sem]) rfl ⟨rfl, HB1.out⟩
  · have HC := Lib.hid (cs_ok A c p1 _ w hs h1 hl)
    have HD := Lib.hid (fun A1 c1 wx (h : SB wx A1 c1 r) => cs_no A1 c1 r wx h hi)
    have HS := Lib.hid hs
    obtain ⟨p, hp⟩ : ∃ p, p = (p1 ++ 0 :: r).length := ⟨_, rfl⟩
    obtain ⟨q, hq⟩ : ∃ p, p = r.length := ⟨_, rfl⟩
    obtain ⟨z1, hz1⟩ : ∃ z : ByteArray, z = ⟨p1.toArray⟩ := ⟨_, rfl⟩
    rw [← hp, ← hq, ← hz1] at HC
    rw [← hq] at HD
    rw [← hp]
    clear hs h1 hi hl hp hq hz1
    go_enter Tryz.func55, Tryz.ntmps55
    go_wp2_with fail
    refine HC.out.mono ?_
    rintro e w1 ⟨A1, c1, rfl, hsm, hb1⟩
    have HB1 := Lib.hid hb1
    have HSM := Lib.hid hsm
    clear hb1 hsm HC
    go_wp2_with fail
    refine (HD.out A1 c1 w1 (HSM.out _ (HS.out.keep HB1.out))).mono ?_
    rintro e w2 ⟨rfl, hb2⟩
    have HB2 := Lib.hid (bthen HB1.out hb2)
    clear hb2 HD
    go_wp2_with fail
    exact bodyPost_ret (v := .tuple #[.string ⟨#[]⟩, .string ⟨#[]⟩, .slice A p c, .bool false]) (by simp [results, Tryz.results55, go_sem]) rfl ⟨rfl, HB2.out⟩
set_option maxHeartbeats 4000000 in
theorem oid_ok (A : Option Addr) (c : Nat) (m r : List UInt8) (w : World) (hs : SB w A c (m ++ r)) (hm : m.length = 12) :
    Calls Tryz.prog 51 #[.slice A (m ++ r).length c] w fun e w' => ∃ A2 c2, e = .returned (.tuple #[arrV m, .slice A2 r.length c2, .bool true]) ∧ Sm A c (m ++ r) A2 c2 r ∧ Below w.heap.size w w' := by
  have hlen : (m ++ r).length = 12 + r.length := by simp [hm]
  obtain ⟨A5, x5, s5⟩ := SB.cut (P := Tryz.prog) Tryz.underlying22 rfl rfl .i64 .i64 A c (m ++ r) 0 12 (by omega) (by omega) hs.le
  obtain ⟨A6, x6, s6⟩ := SB.from_ (P := Tryz.prog) Tryz.underlying22 rfl rfl .i64 A c (m ++ r) 12 (by omega) hs.le
  have HS6 : Hid (Sm A c (m ++ r) A6 (c - 12) r) := Lib.hid fun wx h => by
    have h2 := s6 wx h
    rw [List.drop_append, List.drop_of_length_le (by omega), show 12 - m.length = 0 from by omega] at h2
    simpa using h2
  have hs5 : SB w A5 c m := by
    have h2 := s5 w hs
    rw [List.drop_zero, List.take_append, List.take_of_length_le (by omega), show 12 - m.length = 0 from by omega, List.take_zero, List.append_nil] at h2
    simpa using h2
  rw [show (m ++ r).length - 12 = r.length from by omega] at x6
  obtain ⟨b, off, rfl, hc⟩ := hs5.cells (by omega)
  have HSRC : Hid (∀ j v, (byv m)[j]? = some v → ((w.alloc (.cells #[.int .u8 0, .int .u8 0, .int .u8 0, .int .u8 0, .int .u8 0, .int .u8 0, .int .u8 0, .int .u8 0, .int .u8 0, .int .u8 0, .int .u8 0, .int .u8 0] 94)).alloc (.cells #[.int .u8 0, .int .u8 0, .int .u8 0, .int .u8 0, .int .u8 0, .int .u8 0, .int .u8 0, .int .u8 0, .int .u8 0, .int .u8 0, .int .u8 0, .int .u8 0] 94)).cell? ((⟨b, off, none⟩ : Addr).add j) = some v) := Lib.hid fun j v hj => by
    have hj2 : j < m.length := by
      have := (List.getElem?_eq_some_iff.1 hj).1
      simpa [byv] using this
    have e : (⟨b, off, none⟩ : Addr).add j = ⟨b, off + j, none⟩ := by unfold Addr.add; split <;> simp_all
    rw [e]
    have h1 := hc j hj2
    have h2 := ((balloc (balloc (Below.refl w.heap.size w) (Nat.le_refl _) (.cells #[.int .u8 0, .int .u8 0, .int .u8 0, .int .u8 0, .int .u8 0, .int .u8 0, .int .u8 0, .int .u8 0, .int .u8 0, .int .u8 0, .int .u8 0, .int .u8 0] 94)) (by simp) (.cells #[.int .u8 0, .int .u8 0, .int .u8 0, .int .u8 0, .int .u8 0, .int .u8 0, .int .u8 0, .int .u8 0, .int .u8 0, .int .u8 0, .int .u8 0, .int .u8 0] 94)).cell (World.block_lt_of_cell? _ _ h1)).trans h1
    rw [h2]
    have h3 : (byv m)[j]? = some (.int .u8 ((m[j]).toNat : Int)) := by simp [byv, hj2]
    exact h3.symm.trans hj
  have HLEN : Hid ((byv m).length = 12) := Lib.hid (by simp [byv, hm])
  have HONE : Hid (∀ v ∈ byv m, v.oneCell' = true) := Lib.hid (byv_one _)
  have HNEW : Hid (((w.alloc (.cells #[.int .u8 0, .int .u8 0, .int .u8 0, .int .u8 0, .int .u8 0, .int .u8 0, .int .u8 0, .int .u8 0, .int .u8 0, .int .u8 0, .int .u8 0, .int .u8 0] 94)).alloc (.cells #[.int .u8 0, .int .u8 0, .int .u8 0, .int .u8 0, .int .u8 0, .int .u8 0, .int .u8 0, .int .u8 0, .int .u8 0, .int .u8 0, .int .u8 0, .int .u8 0] 94)).heap[w.heap.size + 1]? = some (.cells ([.int .u8 0, .int .u8 0, .int .u8 0, .int .u8 0, .int .u8 0, .int .u8 0, .int .u8 0, .int .u8 0, .int .u8 0, .int .u8 0, .int .u8 0, .int .u8 0] : List Value).toArray 94 (0, 0))) := Lib.hid (by have := heap_alloc_new (w.alloc (.cells #[.int .u8 0, .int .u8 0, .int .u8 0, .int .u8 0, .int .u8 0, .int .u8 0, .int .u8 0, .int .u8 0, .int .u8 0, .int .u8 0, .int .u8 0, .int .u8 0] 94)) (.cells #[.int .u8 0, .int .u8 0, .int .u8 0, .int .u8 0, .int .u8 0, .int .u8 0, .int .u8 0, .int .u8 0, .int .u8 0, .int .u8 0, .int .u8 0, .int .u8 0] 94); simpa using this)
  have HOLD : Hid (((w.alloc (.cells #[.int .u8 0, .int .u8 0, .int .u8 0, .int .u8 0, .int .u8 0, .int .u8 0, .int .u8 0, .int .u8 0, .int .u8 0, .int .u8 0, .int .u8 0, .int .u8 0] 94)).alloc (.cells #[.int .u8 0, .int .u8 0, .int .u8 0, .int .u8 0, .int .u8 0, .int .u8 0, .int .u8 0, .int .u8 0, .int .u8 0, .int .u8 0, .int .u8 0, .int .u8 0] 94)).heap[w.heap.size]? = some (.cells ([.int .u8 0, .int .u8 0, .int .u8 0, .int .u8 0, .int .u8 0, .int .u8 0, .int .u8 0, .int .u8 0, .int .u8 0, .int .u8 0, .int .u8 0, .int .u8 0] : List Value).toArray 94 (0, 0))) := Lib.hid (by rw [(balloc (Below.refl (w.alloc (.cells #[.int .u8 0, .int .u8 0, .int .u8 0, .int .u8 0, .int .u8 0, .int .u8 0, .int .u8 0, .int .u8 0, .int .u8 0, .int .u8 0, .int .u8 0, .int .u8 0] 94)).heap.size (w.alloc (.cells #[.int .u8 0, .int .u8 0, .int .u8 0, .int .u8 0, .int .u8 0, .int .u8 0, .int .u8 0, .int .u8 0, .int .u8 0, .int .u8 0, .int .u8 0, .int .u8 0] 94))) (Nat.le_refl _) (.cells #[.int .u8 0, .int .u8 0, .int .u8 0, .int .u8 0, .int .u8 0, .int .u8 0, .int .u8 0, .int .u8 0, .int .u8 0, .int .u8 0, .int .u8 0, .int .u8 0] 94)).block w.heap.size (by simp)]; exact heap_alloc_new w _)
  obtain ⟨b0, b1, b2, b3, b4, b5, b6, b7, b8, b9, b10, b11, hmb⟩ := split12 hm
  have e1 : arrV m = .agg #[.int .u8 b0.toNat, .int .u8 b1.toNat, .int .u8 b2.toNat, .int .u8 b3.toNat, .int .u8 b4.toNat, .int .u8 b5.toNat, .int .u8 b6.toNat, .int .u8 b7.toNat, .int .u8 b8.toNat, .int .u8 b9.toNat, .int .u8 b10.toNat, .int .u8 b11.toNat] := by rw [hmb]; rfl
  have HBV : Hid (byv m = [.int .u8 b0.toNat, .int .u8 b1.toNat, .int .u8 b2.toNat, .int .u8 b3.toNat, .int .u8 b4.toNat, .int .u8 b5.toNat, .int .u8 b6.toNat, .int .u8 b7.toNat, .int .u8 b8.toNat, .int .u8 b9.toNat, .int .u8 b10.toNat, .int .u8 b11.toNat]) := Lib.hid (by rw [hmb]; rfl)
  rw [e1]
  obtain ⟨p, hp⟩ : ∃ p, p = (m ++ r).length := ⟨_, rfl⟩
  obtain ⟨q, hq⟩ : ∃ p, p = r.length := ⟨_, rfl⟩
  have x5' : ∀ W : World, (Instr.slice 22 (.slice A p c) (some (.int .i64 0)) (some (.int .i64 12)) none).run Tryz.prog W = .ok (.slice (some ⟨b, off, none⟩) 12 c) W := by rw [hp]; exact x5
  rw [← hp, ← hq] at x6
  have x6' : ∀ W : World, (Instr.slice 22 (.slice A p c) (some (.int .i64 12)) none none).run Tryz.prog W = .ok (.slice A6 q (c - 12)) W := x6
  have d1 : decide ((p : Int) < 12) = false := decide_eq_false (by omega)
  rw [← hp, ← hq]
  clear hc hs hm hmb e1 hs5 hlen hp hq s5 s6 x5 x6
  go_enter Tryz.func51, Tryz.ntmps51
  go_wp2_with fail
  refine start_ (n := 5) (S := fun w' => True) (ds := []) #[false, false, false, false, false] (by kernel_rfl) rfl rfl trivial (fun hHeld => ?_)
  refine with_tabW R51.tab5 R51.bits5 (fun HT_ HW_ => ?_)
  refine pure_ (i := 0) (N := some 13) (v := ?_) (a' := ?_) #[true, false, false, false, false] rfl rfl (any_of HT_.out (by kernel_rfl)) (fun _ _ _ h => h) (Or.inl ⟨by rfl, ?_⟩) ?_ ?_
  rotate_left
  · intro w'
    go_simp
    with_reducible rfl
  rotate_left
  · simp only [Act.put, List.setIfInBounds_toArray, List.set_cons_zero, List.set_cons_succ, i64_w, i32_w]
    rfl
  refine pure_ (i := 1) (N := some 14) (v := ?_) (a' := ?_) #[true, true, false, false, false] rfl rfl (any_of HT_.out (by kernel_rfl)) (fun _ _ _ h => h) (Or.inl ⟨by rfl, ?_⟩) ?_ ?_
  rotate_left
  · intro w'
    go_simp
    with_reducible rfl
  rotate_left
  · simp only [Act.put, List.setIfInBounds_toArray, List.set_cons_zero, List.set_cons_succ, i64_w, i32_w]
    rfl
  refine pure_ (i := 2) (N := some 15) (v := ?_) (a' := ?_) #[true, true, true, false, false] rfl rfl (any_of HT_.out (by kernel_rfl)) (fun _ _ _ h => h) (Or.inl ⟨by rfl, ?_⟩) ?_ ?_
  rotate_left
  · intro w'
    go_simp
    with_reducible rfl
  rotate_left
  · simp only [Act.put, List.setIfInBounds_toArray, List.set_cons_zero, List.set_cons_succ, i64_w, i32_w]
    rfl
  refine pure_ (i := 3) (N := some 16) (v := ?_) (a' := ?_) #[true, true, true, true, false] rfl rfl (any_of HT_.out (by kernel_rfl)) (fun _ _ _ h => h) (Or.inl ⟨by rfl, ?_⟩) ?_ ?_
  rotate_left
  · intro w'
    go_simp
    with_reducible rfl
  rotate_left
  · simp only [Act.put, List.setIfInBounds_toArray, List.set_cons_zero, List.set_cons_succ, i64_w, i32_w]
    rfl
  refine one_ (i := 4) (N := some 17) #[true, true, true, true, true] rfl rfl (one_of HT_.out (by kernel_rfl)) (by decide) (fun K hK => ?_)
  refine step_copy_splice rfl (.tmp 13) (.tmp 16) 22 22 rfl 5 Tryz.underlying22 sizeU8r (some ⟨w.heap.size + 1, 0, none⟩) (some ⟨b, off, none⟩) 12 12 12 c (by rfl) (by rfl) (w.heap.size + 1) 0 [.int .u8 0, .int .u8 0, .int .u8 0, .int .u8 0, .int .u8 0, .int .u8 0, .int .u8 0, .int .u8 0, .int .u8 0, .int .u8 0, .int .u8 0, .int .u8 0] 94 (by exact HNEW.out) (byv m) (by rw [HLEN.out]; rfl) (fun _ => ⟨rfl, _, rfl, by exact HSRC.out⟩) (by rw [HLEN.out]; decide) HONE.out (w.heap.size + 1) ((w.alloc (.cells #[.int .u8 0, .int .u8 0, .int .u8 0, .int .u8 0, .int .u8 0, .int .u8 0, .int .u8 0, .int .u8 0, .int .u8 0, .int .u8 0, .int .u8 0, .int .u8 0] 94)).alloc (.cells #[.int .u8 0, .int .u8 0, .int .u8 0, .int .u8 0, .int .u8 0, .int .u8 0, .int .u8 0, .int .u8 0, .int .u8 0, .int .u8 0, .int .u8 0, .int .u8 0] 94)) (by exact bdrew (Below.refl _ _)) (Nat.le_refl _) ?_
  intro w2 hg2 hb2
  refine hK.out _ _ trivial (fun hHeld => ?_)
  clear hK K
  refine norm_ (a' := ?_) ?_ ?_
  rotate_left
  · show Act.put _ (some 17) _ = _
    simp only [Act.put, List.setIfInBounds_toArray, List.set_cons_zero, List.set_cons_succ, i64_w, i32_w]
    rfl
  refine done_ (done_of HT_.out (by kernel_rfl)) ?_
  have hx2 : w2.heap[w.heap.size + 1]? = some (.cells #[.int .u8 b0.toNat, .int .u8 b1.toNat, .int .u8 b2.toNat, .int .u8 b3.toNat, .int .u8 b4.toNat, .int .u8 b5.toNat, .int .u8 b6.toNat, .int .u8 b7.toNat, .int .u8 b8.toNat, .int .u8 b9.toNat, .int .u8 b10.toNat, .int .u8 b11.toNat] 94 (0, 0)) := by
    have h := hg2.out
    rw [HBV.out] at h
    simpa [splice] using h
  have hx1 : w2.heap[w.heap.size]? = some (.cells #[.int .u8 0, .int .u8 0, .int .u8 0, .int .u8 0, .int .u8 0, .int .u8 0, .int .u8 0, .int .u8 0, .int .u8 0, .int .u8 0, .int .u8 0, .int .u8 0] 94 (0, 0)) := (hb2.block w.heap.size (by omega)).trans HOLD.out
  have hlt2 : w.heap.size + 1 < w2.heap.size := (Array.getElem?_eq_some_iff.1 hx2).1
  have hlt1 : w.heap.size < w2.heap.size := by omega
  have HB2 : Hid (Below w.heap.size w w2) := Lib.hid ((balloc (balloc (Below.refl _ _) (Nat.le_refl _) (.cells #[.int .u8 0, .int .u8 0, .int .u8 0, .int .u8 0, .int .u8 0, .int .u8 0, .int .u8 0, .int .u8 0, .int .u8 0, .int .u8 0, .int .u8 0, .int .u8 0] 94)) (by simp) (.cells #[.int .u8 0, .int .u8 0, .int .u8 0, .int .u8 0, .int .u8 0, .int .u8 0, .int .u8 0, .int .u8 0, .int .u8 0, .int .u8 0, .int .u8 0, .int .u8 0] 94)).trans (hb2.mono (by omega)))
  have p0 : w2.cell? ⟨w.heap.size + 1, 0, none⟩ = some (.int .u8 b0.toNat) := by simp only [World.cell?, hx2]; rfl
  have o0 : w2.cell? ⟨w.heap.size, 0, none⟩ = some (.int .u8 0) := by simp only [World.cell?, hx1]; rfl
  have z0 : w2.frozen? ⟨w.heap.size, 0, none⟩ = false := by simp only [World.frozen?, hx1]; rfl
  have p1 : w2.cell? ⟨w.heap.size + 1, 1, none⟩ = some (.int .u8 b1.toNat) := by simp only [World.cell?, hx2]; rfl
  have o1 : w2.cell? ⟨w.heap.size, 1, none⟩ = some (.int .u8 0) := by simp only [World.cell?, hx1]; rfl
  have z1 : w2.frozen? ⟨w.heap.size, 1, none⟩ = false := by simp only [World.frozen?, hx1]; rfl
  have p2 : w2.cell? ⟨w.heap.size + 1, 2, none⟩ = some (.int .u8 b2.toNat) := by simp only [World.cell?, hx2]; rfl
  have o2 : w2.cell? ⟨w.heap.size, 2, none⟩ = some (.int .u8 0) := by simp only [World.cell?, hx1]; rfl
  have z2 : w2.frozen? ⟨w.heap.size, 2, none⟩ = false := by simp only [World.frozen?, hx1]; rfl
  have p3 : w2.cell? ⟨w.heap.size + 1, 3, none⟩ = some (.int .u8 b3.toNat) := by simp only [World.cell?, hx2]; rfl
  have o3 : w2.cell? ⟨w.heap.size, 3, none⟩ = some (.int .u8 0) := by simp only [World.cell?, hx1]; rfl
  have z3 : w2.frozen? ⟨w.heap.size, 3, none⟩ = false := by simp only [World.frozen?, hx1]; rfl
  have p4 : w2.cell? ⟨w.heap.size + 1, 4, none⟩ = some (.int .u8 b4.toNat) := by simp only [World.cell?, hx2]; rfl
  have o4 : w2.cell? ⟨w.heap.size, 4, none⟩ = some (.int .u8 0) := by simp only [World.cell?, hx1]; rfl
  have z4 : w2.frozen? ⟨w.heap.size, 4, none⟩ = false := by simp only [World.frozen?, hx1]; rfl
  have p5 : w2.cell? ⟨w.heap.size + 1, 5, none⟩ = some (.int .u8 b5.toNat) := by simp only [World.cell?, hx2]; rfl
  have o5 : w2.cell? ⟨w.heap.size, 5, none⟩ = some (.int .u8 0) := by simp only [World.cell?, hx1]; rfl
  have z5 : w2.frozen? ⟨w.heap.size, 5, none⟩ = false := by simp only [World.frozen?, hx1]; rfl
  have p6 : w2.cell? ⟨w.heap.size + 1, 6, none⟩ = some (.int .u8 b6.toNat) := by simp only [World.cell?, hx2]; rfl
  have o6 : w2.cell? ⟨w.heap.size, 6, none⟩ = some (.int .u8 0) := by simp only [World.cell?, hx1]; rfl
  have z6 : w2.frozen? ⟨w.heap.size, 6, none⟩ = false := by simp only [World.frozen?, hx1]; rfl
  have p7 : w2.cell? ⟨w.heap.size + 1, 7, none⟩ = some (.int .u8 b7.toNat) := by simp only [World.cell?, hx2]; rfl
  have o7 : w2.cell? ⟨w.heap.size, 7, none⟩ = some (.int .u8 0) := by simp only [World.cell?, hx1]; rfl
  have z7 : w2.frozen? ⟨w.heap.size, 7, none⟩ = false := by simp only [World.frozen?, hx1]; rfl
  have p8 : w2.cell? ⟨w.heap.size + 1, 8, none⟩ = some (.int .u8 b8.toNat) := by simp only [World.cell?, hx2]; rfl
  have o8 : w2.cell? ⟨w.heap.size, 8, none⟩ = some (.int .u8 0) := by simp only [World.cell?, hx1]; rfl
  have z8 : w2.frozen? ⟨w.heap.size, 8, none⟩ = false := by simp only [World.frozen?, hx1]; rfl
  have p9 : w2.cell? ⟨w.heap.size + 1, 9, none⟩ = some (.int .u8 b9.toNat) := by simp only [World.cell?, hx2]; rfl
  have o9 : w2.cell? ⟨w.heap.size, 9, none⟩ = some (.int .u8 0) := by simp only [World.cell?, hx1]; rfl
  have z9 : w2.frozen? ⟨w.heap.size, 9, none⟩ = false := by simp only [World.frozen?, hx1]; rfl
  have p10 : w2.cell? ⟨w.heap.size + 1, 10, none⟩ = some (.int .u8 b10.toNat) := by simp only [World.cell?, hx2]; rfl
  have o10 : w2.cell? ⟨w.heap.size, 10, none⟩ = some (.int .u8 0) := by simp only [World.cell?, hx1]; rfl
  have z10 : w2.frozen? ⟨w.heap.size, 10, none⟩ = false := by simp only [World.frozen?, hx1]; rfl
  have p11 : w2.cell? ⟨w.heap.size + 1, 11, none⟩ = some (.int .u8 b11.toNat) := by simp only [World.cell?, hx2]; rfl
  have o11 : w2.cell? ⟨w.heap.size, 11, none⟩ = some (.int .u8 0) := by simp only [World.cell?, hx1]; rfl
  have z11 : w2.frozen? ⟨w.heap.size, 11, none⟩ = false := by simp only [World.frozen?, hx1]; rfl
  have HX2 := Lib.hid hx2
  have HX1 := Lib.hid hx1
  clear hg2 hx2 hx1 hb2 HSRC HLEN HONE HNEW HBV HOLD
  go_wp2_with fail
  go_region
  go_wp2_with fail
  exact bodyPost_ret (v := .tuple #[.agg #[.int .u8 b0.toNat, .int .u8 b1.toNat, .int .u8 b2.toNat, .int .u8 b3.toNat, .int .u8 b4.toNat, .int .u8 b5.toNat, .int .u8 b6.toNat, .int .u8 b7.toNat, .int .u8 b8.toNat, .int .u8 b9.toNat, .int .u8 b10.toNat, .int .u8 b11.toNat], .slice A6 q (c - 12), .bool true]) (by simp [results, Tryz.results51, go_sem, o0, o1, o2, o3, o4, o5, o6, o7, o8, o9, o10, o11, hlt1]) rfl ⟨A6, _, rfl, HS6.out, by first | exact bdrew ((((((((((((HB2.out.setCell (Nat.le_refl _) _).setCell (Nat.le_refl _) _).setCell (Nat.le_refl _) _).setCell (Nat.le_refl _) _).setCell (Nat.le_refl _) _).setCell (Nat.le_refl _) _).setCell (Nat.le_refl _) _).setCell (Nat.le_refl _) _).setCell (Nat.le_refl _) _).setCell (Nat.le_refl _) _).setCell (Nat.le_refl _) _).setCell (Nat.le_refl _) _) | (have h2 := HB2.out; repeat (first | exact bdrew h2 | exact h2 | refine bdrew ?_ | refine Below.setCell ?_ (Nat.le_refl _) _))⟩
theorem oid_no (A : Option Addr) (c p : Nat) (w : World) (h : p < 12) : Calls Tryz.prog 51 #[.slice A p c] w fun e w' => e = .returned (.tuple #[.agg #[.int .u8 0, .int .u8 0, .int .u8 0, .int .u8 0, .int .u8 0, .int .u8 0, .int .u8 0, .int .u8 0, .int .u8 0, .int .u8 0, .int .u8 0, .int .u8 0], .slice A p c, .bool false]) ∧ Below w.heap.size w w' := by
  have d1 : decide ((p : Int) < 12) = true := decide_eq_true (by omega)
  clear h
  go_enter Tryz.func51, Tryz.ntmps51
  go_wp2_with fail
  exact bodyPost_ret (v := .tuple #[.agg #[.int .u8 0, .int .u8 0, .int .u8 0, .int .u8 0, .int .u8 0, .int .u8 0, .int .u8 0, .int .u8 0, .int .u8 0, .int .u8 0, .int .u8 0, .int .u8 0], .slice A p c, .bool false]) (by simp [results, Tryz.results51, go_sem]) rfl ⟨rfl, by first | exact balloc (balloc (Below.refl _ _) (Nat.le_refl _) _) (by simp) _ | exact balloc (Below.refl _ _) (Nat.le_refl _) _⟩
end Rr
end Go.Proofs.YtbpopaegfhcdpaaGreatDoor.X


/- bsoncore's Read functions by kind, for all bytes: pointers, code with a scope, binaries. -/
set_option linter.unusedVariables false
set_option linter.unusedSimpArgs false
set_option maxRecDepth 100000
namespace Go.Proofs.YtbpopaegfhcdpaaGreatDoor.X
open Go.RowKit Go.Proofs.YtbpopaegfhcdpaaGreatDoorW.PrintLast
namespace Rr
open Sp Al Av Aw Ck Lk
def R50.T6 : Bool × List (List Nat × List Nat) := (true, [([], []), ([0], [0]), ([1], [1]), ([], []), ([3], [3]), ([2, 0, 1, 2], [2]), ([4, 5, 0, 1, 2, 3, 4, 5], [0, 3, 4])])
def R50.B6 : List Nat := [0, 1, 3, 0, 8, 7, 63]
theorem R50.tab6 : rtab .any (opsOf Tryz.f50 6) = R50.T6 := by kernel_rfl
theorem R50.bits6 : waitsOk R50.T6.2 R50.B6 = true := by kernel_rfl
theorem bsR {B o : Nat} {w w1 : World} (v : Value) (h : Below B w w1) : Below B w (w1.setCell ⟨B, o, none⟩ v) := h.setCell (Nat.le_refl _) v
theorem sets12 (w : World) (B t : Nat) (o0 o1 o2 o3 o4 o5 o6 o7 o8 o9 o10 o11 c0 c1 c2 c3 c4 c5 c6 c7 c8 c9 c10 c11 : Value) (h : w.heap[B]? = some (.cells #[o0, o1, o2, o3, o4, o5, o6, o7, o8, o9, o10, o11] t (0, 0))) : (((((((((((((w.setCell ⟨B, 0, none⟩ c0).setCell ⟨B, 1, none⟩ c1).setCell ⟨B, 2, none⟩ c2).setCell ⟨B, 3, none⟩ c3).setCell ⟨B, 4, none⟩ c4).setCell ⟨B, 5, none⟩ c5).setCell ⟨B, 6, none⟩ c6).setCell ⟨B, 7, none⟩ c7).setCell ⟨B, 8, none⟩ c8).setCell ⟨B, 9, none⟩ c9).setCell ⟨B, 10, none⟩ c10).setCell ⟨B, 11, none⟩ c11)).heap[B]? = some (.cells #[c0, c1, c2, c3, c4, c5, c6, c7, c8, c9, c10, c11] t (0, 0)) := by
  have h0 := heap_setCell_same _ B 0 _ _ c0 h
  have h1 := heap_setCell_same _ B 1 _ _ c1 h0
  have h2 := heap_setCell_same _ B 2 _ _ c2 h1
  have h3 := heap_setCell_same _ B 3 _ _ c3 h2
  have h4 := heap_setCell_same _ B 4 _ _ c4 h3
  have h5 := heap_setCell_same _ B 5 _ _ c5 h4
  have h6 := heap_setCell_same _ B 6 _ _ c6 h5
  have h7 := heap_setCell_same _ B 7 _ _ c7 h6
  have h8 := heap_setCell_same _ B 8 _ _ c8 h7
  have h9 := heap_setCell_same _ B 9 _ _ c9 h8
  have h10 := heap_setCell_same _ B 10 _ _ c10 h9
  have h11 := heap_setCell_same _ B 11 _ _ c11 h10
  simpa using h11
set_option maxHeartbeats 16000000 in
theorem ptr_ok (A : Option Addr) (c : Nat) (l : List UInt8) (n : Nat) (w : World) (hs : SB w A c l) (hl : l.length ≤ 5000) (hr : readLen l = ((n : Int) + 1, true)) (hle : n + 17 ≤ l.length) :
    Calls Tryz.prog 56 #[.slice A l.length c] w fun e w' => ∃ A1 c1, e = .returned (.tuple #[.string ⟨((l.drop 4).take n).toArray⟩, arrV ((l.drop (n + 5)).take 12), .slice A1 (l.length - (n + 17)) c1, .bool true]) ∧ Sm A c l A1 c1 (l.drop (n + 17)) ∧ Below w.heap.size w w' := by
  have HC := Lib.hid (fun wx (hb : Below w.heap.size w wx) => str_ok A c l n wx (hs.keep hb) hl hr (by omega))
  obtain ⟨m, hm⟩ : ∃ x, x = (l.drop (n + 5)).take 12 := ⟨_, rfl⟩
  have hm12 : m.length = 12 := by rw [hm, List.length_take, List.length_drop]; omega
  have hmr : l.drop (n + 5) = m ++ l.drop (n + 17) := by
    rw [hm, show l.drop (n + 17) = (l.drop (n + 5)).drop 12 from by rw [List.drop_drop]]
    exact (List.take_append_drop 12 _).symm
  have HO := Lib.hid (fun A1 c1 wx (h : SB wx A1 c1 (m ++ l.drop (n + 17))) => oid_ok A1 c1 m (l.drop (n + 17)) wx h hm12)
  have hlen2 : (m ++ l.drop (n + 17)).length = l.length - (n + 5) := by rw [← hmr, List.length_drop]
  have hlen3 : (l.drop (n + 17)).length = l.length - (n + 17) := by rw [List.length_drop]
  rw [hlen2, hlen3] at HO
  rw [hmr] at HC
  have HS := Lib.hid hs
  obtain ⟨p, hp⟩ : ∃ p, p = l.length := ⟨_, rfl⟩
  obtain ⟨Z, hZ⟩ : ∃ z : ByteArray, z = ⟨((l.drop 4).take n).toArray⟩ := ⟨_, rfl⟩
  obtain ⟨r, hr2⟩ : ∃ x, x = l.drop (n + 17) := ⟨_, rfl⟩
  rw [← hp, ← hZ, ← hr2] at HC
  rw [← hp, ← hr2] at HO
  rw [← hp, ← hZ, ← hr2, ← hm]
  obtain ⟨b0, b1, b2, b3, b4, b5, b6, b7, b8, b9, b10, b11, hmb⟩ := split12 hm12
  have e1 : arrV m = .agg #[.int .u8 b0.toNat, .int .u8 b1.toNat, .int .u8 b2.toNat, .int .u8 b3.toNat, .int .u8 b4.toNat, .int .u8 b5.toNat, .int .u8 b6.toNat, .int .u8 b7.toNat, .int .u8 b8.toNat, .int .u8 b9.toNat, .int .u8 b10.toNat, .int .u8 b11.toNat] := by rw [hmb]; rfl
  rw [e1] at HO ⊢
  clear hs hl hr hle hm hm12 hmr hlen2 hlen3 hp hZ hr2 hmb e1
  go_enter Tryz.func56, Tryz.ntmps56
  go_wp2_with fail
  refine (HC.out _ (balloc (Below.refl _ _) (Nat.le_refl _) _)).mono ?_
  rintro e w1 ⟨A1, c1, rfl, hsm, hb⟩
  have hb1 : Below (w.heap.size + 1) (w.alloc (.cells #[.int .u8 0, .int .u8 0, .int .u8 0, .int .u8 0, .int .u8 0, .int .u8 0, .int .u8 0, .int .u8 0, .int .u8 0, .int .u8 0, .int .u8 0, .int .u8 0] 94)) w1 := by simpa using hb
  have HB1 := Lib.hid hb1
  have HSM := Lib.hid hsm
  have hz1 := boxs hb1
  clear hb hb1 hsm HC
  go_wp2_with fail
  refine (HO.out A1 c1 w1 (HSM.out _ (HS.out.keep (boxb HB1.out)))).mono ?_
  rintro e w2 ⟨A2, c2, rfl, hsm, hb2⟩
  have HB := HB1.out.trans (hb2.mono hz1)
  have HSM2 : Hid (Sm A c l A2 c2 r) := Lib.hid fun wx h => hsm wx (HSM.out wx h)
  have q0 := boxc HB 0
  have q1 := boxc HB 1
  have q2 := boxc HB 2
  have q3 := boxc HB 3
  have q4 := boxc HB 4
  have q5 := boxc HB 5
  have q6 := boxc HB 6
  have q7 := boxc HB 7
  have q8 := boxc HB 8
  have q9 := boxc HB 9
  have q10 := boxc HB 10
  have q11 := boxc HB 11
  simp only [List.getElem?_cons_succ, List.getElem?_cons_zero] at q0 q1 q2 q3 q4 q5 q6 q7 q8 q9 q10 q11
  have f0 := boxf HB 0
  have f1 := boxf HB 1
  have f2 := boxf HB 2
  have f3 := boxf HB 3
  have f4 := boxf HB 4
  have f5 := boxf HB 5
  have f6 := boxf HB 6
  have f7 := boxf HB 7
  have f8 := boxf HB 8
  have f9 := boxf HB 9
  have f10 := boxf HB 10
  have f11 := boxf HB 11
  have hz2 := boxs HB
  have hlt : w.heap.size < w2.heap.size := by omega
  have HBB := Lib.hid (boxb HB)
  have hx9 := sets12 w2 w.heap.size 94 (.int .u8 0) (.int .u8 0) (.int .u8 0) (.int .u8 0) (.int .u8 0) (.int .u8 0) (.int .u8 0) (.int .u8 0) (.int .u8 0) (.int .u8 0) (.int .u8 0) (.int .u8 0) (.int .u8 b0.toNat) (.int .u8 b1.toNat) (.int .u8 b2.toNat) (.int .u8 b3.toNat) (.int .u8 b4.toNat) (.int .u8 b5.toNat) (.int .u8 b6.toNat) (.int .u8 b7.toNat) (.int .u8 b8.toNat) (.int .u8 b9.toNat) (.int .u8 b10.toNat) (.int .u8 b11.toNat) (by rw [HB.block w.heap.size (by omega)]; exact heap_alloc_new w _)
  have hb9 : Below w.heap.size w ((((((((((((w2.setCell ⟨w.heap.size, 0, none⟩ (.int .u8 b0.toNat)).setCell ⟨w.heap.size, 1, none⟩ (.int .u8 b1.toNat)).setCell ⟨w.heap.size, 2, none⟩ (.int .u8 b2.toNat)).setCell ⟨w.heap.size, 3, none⟩ (.int .u8 b3.toNat)).setCell ⟨w.heap.size, 4, none⟩ (.int .u8 b4.toNat)).setCell ⟨w.heap.size, 5, none⟩ (.int .u8 b5.toNat)).setCell ⟨w.heap.size, 6, none⟩ (.int .u8 b6.toNat)).setCell ⟨w.heap.size, 7, none⟩ (.int .u8 b7.toNat)).setCell ⟨w.heap.size, 8, none⟩ (.int .u8 b8.toNat)).setCell ⟨w.heap.size, 9, none⟩ (.int .u8 b9.toNat)).setCell ⟨w.heap.size, 10, none⟩ (.int .u8 b10.toNat)).setCell ⟨w.heap.size, 11, none⟩ (.int .u8 b11.toNat)) := ((((((((((((HBB.out.setCell (Nat.le_refl _) _).setCell (Nat.le_refl _) _).setCell (Nat.le_refl _) _).setCell (Nat.le_refl _) _).setCell (Nat.le_refl _) _).setCell (Nat.le_refl _) _).setCell (Nat.le_refl _) _).setCell (Nat.le_refl _) _).setCell (Nat.le_refl _) _).setCell (Nat.le_refl _) _).setCell (Nat.le_refl _) _).setCell (Nat.le_refl _) _)
  clear hb2 hsm HB HB1 HO
  go_wp2_with fail
  generalize hw9 : ((((((((((((w2.setCell ⟨w.heap.size, 0, none⟩ (.int .u8 b0.toNat)).setCell ⟨w.heap.size, 1, none⟩ (.int .u8 b1.toNat)).setCell ⟨w.heap.size, 2, none⟩ (.int .u8 b2.toNat)).setCell ⟨w.heap.size, 3, none⟩ (.int .u8 b3.toNat)).setCell ⟨w.heap.size, 4, none⟩ (.int .u8 b4.toNat)).setCell ⟨w.heap.size, 5, none⟩ (.int .u8 b5.toNat)).setCell ⟨w.heap.size, 6, none⟩ (.int .u8 b6.toNat)).setCell ⟨w.heap.size, 7, none⟩ (.int .u8 b7.toNat)).setCell ⟨w.heap.size, 8, none⟩ (.int .u8 b8.toNat)).setCell ⟨w.heap.size, 9, none⟩ (.int .u8 b9.toNat)).setCell ⟨w.heap.size, 10, none⟩ (.int .u8 b10.toNat)).setCell ⟨w.heap.size, 11, none⟩ (.int .u8 b11.toNat)) = w9 at hx9 hb9 ⊢
  clear hw9 q0 f0 q1 f1 q2 f2 q3 f3 q4 f4 q5 f5 q6 f6 q7 f7 q8 f8 q9 f9 q10 f10 q11 f11
  have t0 : w9.cell? ⟨w.heap.size, 0, none⟩ = some (.int .u8 b0.toNat) := by simp only [World.cell?, hx9]; rfl
  have z0 : w9.frozen? ⟨w.heap.size, 0, none⟩ = false := by simp only [World.frozen?, hx9]; rfl
  have t1 : w9.cell? ⟨w.heap.size, 1, none⟩ = some (.int .u8 b1.toNat) := by simp only [World.cell?, hx9]; rfl
  have z1 : w9.frozen? ⟨w.heap.size, 1, none⟩ = false := by simp only [World.frozen?, hx9]; rfl
  have t2 : w9.cell? ⟨w.heap.size, 2, none⟩ = some (.int .u8 b2.toNat) := by simp only [World.cell?, hx9]; rfl
  have z2 : w9.frozen? ⟨w.heap.size, 2, none⟩ = false := by simp only [World.frozen?, hx9]; rfl
  have t3 : w9.cell? ⟨w.heap.size, 3, none⟩ = some (.int .u8 b3.toNat) := by simp only [World.cell?, hx9]; rfl
  have z3 : w9.frozen? ⟨w.heap.size, 3, none⟩ = false := by simp only [World.frozen?, hx9]; rfl
  have t4 : w9.cell? ⟨w.heap.size, 4, none⟩ = some (.int .u8 b4.toNat) := by simp only [World.cell?, hx9]; rfl
  have z4 : w9.frozen? ⟨w.heap.size, 4, none⟩ = false := by simp only [World.frozen?, hx9]; rfl
  have t5 : w9.cell? ⟨w.heap.size, 5, none⟩ = some (.int .u8 b5.toNat) := by simp only [World.cell?, hx9]; rfl
  have z5 : w9.frozen? ⟨w.heap.size, 5, none⟩ = false := by simp only [World.frozen?, hx9]; rfl
  have t6 : w9.cell? ⟨w.heap.size, 6, none⟩ = some (.int .u8 b6.toNat) := by simp only [World.cell?, hx9]; rfl
  have z6 : w9.frozen? ⟨w.heap.size, 6, none⟩ = false := by simp only [World.frozen?, hx9]; rfl
  have t7 : w9.cell? ⟨w.heap.size, 7, none⟩ = some (.int .u8 b7.toNat) := by simp only [World.cell?, hx9]; rfl
  have z7 : w9.frozen? ⟨w.heap.size, 7, none⟩ = false := by simp only [World.frozen?, hx9]; rfl
  have t8 : w9.cell? ⟨w.heap.size, 8, none⟩ = some (.int .u8 b8.toNat) := by simp only [World.cell?, hx9]; rfl
  have z8 : w9.frozen? ⟨w.heap.size, 8, none⟩ = false := by simp only [World.frozen?, hx9]; rfl
  have t9 : w9.cell? ⟨w.heap.size, 9, none⟩ = some (.int .u8 b9.toNat) := by simp only [World.cell?, hx9]; rfl
  have z9 : w9.frozen? ⟨w.heap.size, 9, none⟩ = false := by simp only [World.frozen?, hx9]; rfl
  have t10 : w9.cell? ⟨w.heap.size, 10, none⟩ = some (.int .u8 b10.toNat) := by simp only [World.cell?, hx9]; rfl
  have z10 : w9.frozen? ⟨w.heap.size, 10, none⟩ = false := by simp only [World.frozen?, hx9]; rfl
  have t11 : w9.cell? ⟨w.heap.size, 11, none⟩ = some (.int .u8 b11.toNat) := by simp only [World.cell?, hx9]; rfl
  have z11 : w9.frozen? ⟨w.heap.size, 11, none⟩ = false := by simp only [World.frozen?, hx9]; rfl
  have hlt9 : w.heap.size < w9.heap.size := (Array.getElem?_eq_some_iff.1 hx9).1
  have HB9 := Lib.hid hb9
  clear hx9 hb9 HBB
  go_region
  go_wp2_with fail
  exact bodyPost_ret (v := .tuple #[.string Z, .agg #[.int .u8 b0.toNat, .int .u8 b1.toNat, .int .u8 b2.toNat, .int .u8 b3.toNat, .int .u8 b4.toNat, .int .u8 b5.toNat, .int .u8 b6.toNat, .int .u8 b7.toNat, .int .u8 b8.toNat, .int .u8 b9.toNat, .int .u8 b10.toNat, .int .u8 b11.toNat], .slice A2 (p - (n + 17)) c2, .bool true]) (by simp [results, Tryz.results56, go_sem, t0, t1, t2, t3, t4, t5, t6, t7, t8, t9, t10, t11, hlt9]) rfl ⟨A2, c2, rfl, HSM2.out, by refine bdrew ?_; (iterate 12 (refine bsR _ ?_)); exact HB9.out⟩
set_option maxHeartbeats 16000000 in
theorem ptr_no (A : Option Addr) (c : Nat) (l : List UInt8) (w : World) (hs : SB w A c l) (hl : l.length ≤ 5000) (h : ((readLen l).2 = false ∨ (l.length : Int) < (readLen l).1 + 4 ∨ (readLen l).1 = 0) ∨ ∃ n : Nat, readLen l = ((n : Int) + 1, true) ∧ n + 5 ≤ l.length ∧ l.length < n + 17) :
    Calls Tryz.prog 56 #[.slice A l.length c] w fun e w' => e = .returned (.tuple #[.string ⟨#[]⟩, .agg #[.int .u8 0, .int .u8 0, .int .u8 0, .int .u8 0, .int .u8 0, .int .u8 0, .int .u8 0, .int .u8 0, .int .u8 0, .int .u8 0, .int .u8 0, .int .u8 0], .slice A l.length c, .bool false]) ∧ Below w.heap.size w w' := by
  rcases h with h | ⟨n, hr, h5, h17⟩
  · have HC := Lib.hid (fun wx (hb : Below w.heap.size w wx) => str_no A c l wx (hs.keep hb) hl h)
    obtain ⟨p, hp⟩ : ∃ p, p = l.length := ⟨_, rfl⟩
    rw [← hp] at HC ⊢
    clear hs hl h hp
    go_enter Tryz.func56, Tryz.ntmps56
    go_wp2_with fail
    refine (HC.out _ (balloc (Below.refl _ _) (Nat.le_refl _) _)).mono ?_
    rintro e w1 ⟨rfl, hb⟩
    have HB : Below (w.heap.size + 1) (w.alloc (.cells #[.int .u8 0, .int .u8 0, .int .u8 0, .int .u8 0, .int .u8 0, .int .u8 0, .int .u8 0, .int .u8 0, .int .u8 0, .int .u8 0, .int .u8 0, .int .u8 0] 94)) w1 := by simpa using hb
    have q0 := boxc HB 0
    have q1 := boxc HB 1
    have q2 := boxc HB 2
    have q3 := boxc HB 3
    have q4 := boxc HB 4
    have q5 := boxc HB 5
    have q6 := boxc HB 6
    have q7 := boxc HB 7
    have q8 := boxc HB 8
    have q9 := boxc HB 9
    have q10 := boxc HB 10
    have q11 := boxc HB 11
    simp only [List.getElem?_cons_succ, List.getElem?_cons_zero] at q0 q1 q2 q3 q4 q5 q6 q7 q8 q9 q10 q11
    have f0 := boxf HB 0
    have f1 := boxf HB 1
    have f2 := boxf HB 2
    have f3 := boxf HB 3
    have f4 := boxf HB 4
    have f5 := boxf HB 5
    have f6 := boxf HB 6
    have f7 := boxf HB 7
    have f8 := boxf HB 8
    have f9 := boxf HB 9
    have f10 := boxf HB 10
    have f11 := boxf HB 11
    have hz1 := boxs HB
    have hlt : w.heap.size < w1.heap.size := by omega
    have HBB := Lib.hid (boxb HB)
    clear hb HB HC
    go_wp2_with fail
    exact bodyPost_ret (v := .tuple #[.string ⟨#[]⟩, .agg #[.int .u8 0, .int .u8 0, .int .u8 0, .int .u8 0, .int .u8 0, .int .u8 0, .int .u8 0, .int .u8 0, .int .u8 0, .int .u8 0, .int .u8 0, .int .u8 0], .slice A p c, .bool false]) (by simp [results, Tryz.results56, go_sem, q0, q1, q2, q3, q4, q5, q6, q7, q8, q9, q10, q11, hlt]) rfl ⟨rfl, by (iterate 12 (refine bsR _ ?_)); exact HBB.out⟩
  · have HC := Lib.hid (fun wx (hb : Below w.heap.size w wx) => str_ok A c l n wx (hs.keep hb) hl hr h5)
    have HO := Lib.hid (fun A1 c1 wx => oid_no A1 c1 (l.length - (n + 5)) wx (by omega))
    obtain ⟨p, hp⟩ : ∃ p, p = l.length := ⟨_, rfl⟩
    obtain ⟨Z, hZ⟩ : ∃ z : ByteArray, z = ⟨((l.drop 4).take n).toArray⟩ := ⟨_, rfl⟩
    rw [← hp, ← hZ] at HC
    rw [← hp] at HO
    rw [← hp]
    clear hs hl hr h5 h17 hp hZ
    go_enter Tryz.func56, Tryz.ntmps56
    go_wp2_with fail
    refine (HC.out _ (balloc (Below.refl _ _) (Nat.le_refl _) _)).mono ?_
    rintro e w1 ⟨A1, c1, rfl, -, hb⟩
    have hb1 : Below (w.heap.size + 1) (w.alloc (.cells #[.int .u8 0, .int .u8 0, .int .u8 0, .int .u8 0, .int .u8 0, .int .u8 0, .int .u8 0, .int .u8 0, .int .u8 0, .int .u8 0, .int .u8 0, .int .u8 0] 94)) w1 := by simpa using hb
    have HB1 := Lib.hid hb1
    have hz1 := boxs hb1
    clear hb hb1 HC
    go_wp2_with fail
    refine (HO.out A1 c1 w1).mono ?_
    rintro e w2 ⟨rfl, hb2⟩
    have HB := HB1.out.trans (hb2.mono hz1)
    have q0 := boxc HB 0
    have q1 := boxc HB 1
    have q2 := boxc HB 2
    have q3 := boxc HB 3
    have q4 := boxc HB 4
    have q5 := boxc HB 5
    have q6 := boxc HB 6
    have q7 := boxc HB 7
    have q8 := boxc HB 8
    have q9 := boxc HB 9
    have q10 := boxc HB 10
    have q11 := boxc HB 11
    simp only [List.getElem?_cons_succ, List.getElem?_cons_zero] at q0 q1 q2 q3 q4 q5 q6 q7 q8 q9 q10 q11
    have f0 := boxf HB 0
    have f1 := boxf HB 1
    have f2 := boxf HB 2
    have f3 := boxf HB 3
    have f4 := boxf HB 4
    have f5 := boxf HB 5
    have f6 := boxf HB 6
    have f7 := boxf HB 7
    have f8 := boxf HB 8
    have f9 := boxf HB 9
    have f10 := boxf HB 10
    have f11 := boxf HB 11
    have hz2 := boxs HB
    have hlt : w.heap.size < w2.heap.size := by omega
    have HBB := Lib.hid (boxb HB)
    have hx9 := sets12 w2 w.heap.size 94 (.int .u8 0) (.int .u8 0) (.int .u8 0) (.int .u8 0) (.int .u8 0) (.int .u8 0) (.int .u8 0) (.int .u8 0) (.int .u8 0) (.int .u8 0) (.int .u8 0) (.int .u8 0) (.int .u8 0) (.int .u8 0) (.int .u8 0) (.int .u8 0) (.int .u8 0) (.int .u8 0) (.int .u8 0) (.int .u8 0) (.int .u8 0) (.int .u8 0) (.int .u8 0) (.int .u8 0) (by rw [HB.block w.heap.size (by omega)]; exact heap_alloc_new w _)
    have hb9 : Below w.heap.size w ((((((((((((w2.setCell ⟨w.heap.size, 0, none⟩ (.int .u8 0)).setCell ⟨w.heap.size, 1, none⟩ (.int .u8 0)).setCell ⟨w.heap.size, 2, none⟩ (.int .u8 0)).setCell ⟨w.heap.size, 3, none⟩ (.int .u8 0)).setCell ⟨w.heap.size, 4, none⟩ (.int .u8 0)).setCell ⟨w.heap.size, 5, none⟩ (.int .u8 0)).setCell ⟨w.heap.size, 6, none⟩ (.int .u8 0)).setCell ⟨w.heap.size, 7, none⟩ (.int .u8 0)).setCell ⟨w.heap.size, 8, none⟩ (.int .u8 0)).setCell ⟨w.heap.size, 9, none⟩ (.int .u8 0)).setCell ⟨w.heap.size, 10, none⟩ (.int .u8 0)).setCell ⟨w.heap.size, 11, none⟩ (.int .u8 0)) := ((((((((((((HBB.out.setCell (Nat.le_refl _) _).setCell (Nat.le_refl _) _).setCell (Nat.le_refl _) _).setCell (Nat.le_refl _) _).setCell (Nat.le_refl _) _).setCell (Nat.le_refl _) _).setCell (Nat.le_refl _) _).setCell (Nat.le_refl _) _).setCell (Nat.le_refl _) _).setCell (Nat.le_refl _) _).setCell (Nat.le_refl _) _).setCell (Nat.le_refl _) _)
    clear hb2 HB HB1 HO
    go_wp2_with fail
    generalize hw9 : ((((((((((((w2.setCell ⟨w.heap.size, 0, none⟩ (.int .u8 0)).setCell ⟨w.heap.size, 1, none⟩ (.int .u8 0)).setCell ⟨w.heap.size, 2, none⟩ (.int .u8 0)).setCell ⟨w.heap.size, 3, none⟩ (.int .u8 0)).setCell ⟨w.heap.size, 4, none⟩ (.int .u8 0)).setCell ⟨w.heap.size, 5, none⟩ (.int .u8 0)).setCell ⟨w.heap.size, 6, none⟩ (.int .u8 0)).setCell ⟨w.heap.size, 7, none⟩ (.int .u8 0)).setCell ⟨w.heap.size, 8, none⟩ (.int .u8 0)).setCell ⟨w.heap.size, 9, none⟩ (.int .u8 0)).setCell ⟨w.heap.size, 10, none⟩ (.int .u8 0)).setCell ⟨w.heap.size, 11, none⟩ (.int .u8 0)) = w9 at hx9 hb9 ⊢
    clear hw9 q0 f0 q1 f1 q2 f2 q3 f3 q4 f4 q5 f5 q6 f6 q7 f7 q8 f8 q9 f9 q10 f10 q11 f11
    have t0 : w9.cell? ⟨w.heap.size, 0, none⟩ = some (.int .u8 0) := by simp only [World.cell?, hx9]; rfl
    have z0 : w9.frozen? ⟨w.heap.size, 0, none⟩ = false := by simp only [World.frozen?, hx9]; rfl
    have t1 : w9.cell? ⟨w.heap.size, 1, none⟩ = some (.int .u8 0) := by simp only [World.cell?, hx9]; rfl
    have z1 : w9.frozen? ⟨w.heap.size, 1, none⟩ = false := by simp only [World.frozen?, hx9]; rfl
    have t2 : w9.cell? ⟨w.heap.size, 2, none⟩ = some (.int .u8 0) := by simp only [World.cell?, hx9]; rfl
    have z2 : w9.frozen? ⟨w.heap.size, 2, none⟩ = false := by simp only [World.frozen?, hx9]; rfl
    have t3 : w9.cell? ⟨w.heap.size, 3, none⟩ = some (.int .u8 0) := by simp only [World.cell?, hx9]; rfl
    have z3 : w9.frozen? ⟨w.heap.size, 3, none⟩ = false := by simp only [World.frozen?, hx9]; rfl
    have t4 : w9.cell? ⟨w.heap.size, 4, none⟩ = some (.int .u8 0) := by simp only [World.cell?, hx9]; rfl
    have z4 : w9.frozen? ⟨w.heap.size, 4, none⟩ = false := by simp only [World.frozen?, hx9]; rfl
    have t5 : w9.cell? ⟨w.heap.size, 5, none⟩ = some (.int .u8 0) := by simp only [World.cell?, hx9]; rfl
    have z5 : w9.frozen? ⟨w.heap.size, 5, none⟩ = false := by simp only [World.frozen?, hx9]; rfl
    have t6 : w9.cell? ⟨w.heap.size, 6, none⟩ = some (.int .u8 0) := by simp only [World.cell?, hx9]; rfl
    have z6 : w9.frozen? ⟨w.heap.size, 6, none⟩ = false := by simp only [World.frozen?, hx9]; rfl
    have t7 : w9.cell? ⟨w.heap.size, 7, none⟩ = some (.int .u8 0) := by simp only [World.cell?, hx9]; rfl
    have z7 : w9.frozen? ⟨w.heap.size, 7, none⟩ = false := by simp only [World.frozen?, hx9]; rfl
    have t8 : w9.cell? ⟨w.heap.size, 8, none⟩ = some (.int .u8 0) := by simp only [World.cell?, hx9]; rfl
    have z8 : w9.frozen? ⟨w.heap.size, 8, none⟩ = false := by simp only [World.frozen?, hx9]; rfl
    have t9 : w9.cell? ⟨w.heap.size, 9, none⟩ = some (.int .u8 0) := by simp only [World.cell?, hx9]; rfl
    have z9 : w9.frozen? ⟨w.heap.size, 9, none⟩ = false := by simp only [World.frozen?, hx9]; rfl
    have t10 : w9.cell? ⟨w.heap.size, 10, none⟩ = some (.int .u8 0) := by simp only [World.cell?, hx9]; rfl
    have z10 : w9.frozen? ⟨w.heap.size, 10, none⟩ = false := by simp only [World.frozen?, hx9]; rfl
    have t11 : w9.cell? ⟨w.heap.size, 11, none⟩ = some (.int .u8 0) := by simp only [World.cell?, hx9]; rfl
    have z11 : w9.frozen? ⟨w.heap.size, 11, none⟩ = false := by simp only [World.frozen?, hx9]; rfl
    have hlt9 : w.heap.size < w9.heap.size := (Array.getElem?_eq_some_iff.1 hx9).1
    have HB9 := Lib.hid hb9
    clear hx9 hb9 HBB
    exact bodyPost_ret (v := .tuple #[.string ⟨#[]⟩, .agg #[.int .u8 0, .int .u8 0, .int .u8 0, .int .u8 0, .int .u8 0, .int .u8 0, .int .u8 0, .int .u8 0, .int .u8 0, .int .u8 0, .int .u8 0, .int .u8 0], .slice A p c, .bool false]) (by simp [results, Tryz.results56, go_sem, t0, t1, t2, t3, t4, t5, t6, t7, t8, t9, t10, t11, hlt9]) rfl ⟨rfl, by (iterate 12 (refine bsR _ ?_)); exact HB9.out⟩
set_option maxHeartbeats 1600000 in
theorem cws_ok (A : Option Addr) (c : Nat) (l l1 l2 : List UInt8) (N n m : Nat) (w : World) (hs : SB w A c l) (hl : l.length ≤ 5000) (hr : readLen l = ((N : Int), true)) (hN : N ≤ l.length) (e1 : l1 = l.drop 4) (hr1 : readLen l1 = ((n : Int) + 1, true)) (h1 : n + 5 ≤ l1.length)
    (e2 : l2 = l1.drop (n + 5)) (hr2 : readLen l2 = ((m : Int), true)) (h4 : 4 ≤ m) (h2 : m ≤ l2.length) :
    Calls Tryz.prog 59 #[.slice A l.length c] w fun e w' => ∃ A1 c1 A2 c2, e = .returned (.tuple #[.string ⟨((l1.drop 4).take n).toArray⟩, .slice A1 m c1, .slice A2 (l2.length - m) c2, .bool true]) ∧ Sm A c l A1 c1 (l2.take m) ∧ Sm A c l A2 c2 (l2.drop m) ∧ Below w.heap.size w w' := by
  have HL := Lib.hid (lenS A c l _ w hs hr)
  have hl1 : l1.length = l.length - 4 := by rw [e1, List.length_drop]
  have hl2 : l2.length = l1.length - (n + 5) := by rw [e2, List.length_drop]
  rw [← e1, ← hl1] at HL
  have HC := Lib.hid (fun A1 c1 wx (h : SB wx A1 c1 l1) => str_ok A1 c1 l1 n wx h (by omega) hr1 h1)
  rw [← e2, ← hl2] at HC
  have HD : Hid (∀ A1 c1 wx, SB wx A1 c1 l2 → Calls Tryz.prog 48 #[.slice A1 l2.length c1] wx fun e w' => ∃ x y z, e = .returned (.tuple #[x, y, z]) ∧ (∃ A2 c2 A3 c3, x = .slice A2 m c2 ∧ y = .slice A3 (l2.length - m) c3 ∧ z = .bool true ∧ Sm A1 c1 l2 A2 c2 (l2.take m) ∧ Sm A1 c1 l2 A3 c3 (l2.drop m) ∧ Below wx.heap.size wx w')) := Lib.hid fun A1 c1 wx h => by
    refine wrapReadDocument ((rlb_ok A1 c1 l2 m wx h (by omega) hr2 h4 h2).mono ?_)
    rintro e w' ⟨A2, c2, A3, c3, rfl, h1, h2, hb⟩
    exact ⟨_, _, _, rfl, A2, c2, A3, c3, rfl, rfl, rfl, h1, h2, hb⟩
  have HS := Lib.hid hs
  obtain ⟨p, hp⟩ : ∃ p, p = l.length := ⟨_, rfl⟩
  obtain ⟨p1, hp1⟩ : ∃ p, p = l1.length := ⟨_, rfl⟩
  obtain ⟨p2, hp2⟩ : ∃ p, p = l2.length := ⟨_, rfl⟩
  obtain ⟨Z, hZ⟩ : ∃ z : ByteArray, z = ⟨((l1.drop 4).take n).toArray⟩ := ⟨_, rfl⟩
  rw [← hp, ← hp1] at HL
  rw [← hp1, ← hp2, ← hZ] at HC
  rw [← hp2] at HD
  rw [← hp, ← hp2, ← hZ]
  have d2 : decide (p < N) = false := decide_eq_false (by omega)
  have HW : Hid (wrap64 (N : Int) = N) := Lib.hid (by unfold wrap64; omega)
  clear hs hl hr hN e1 hr1 h1 e2 hr2 h4 h2 hl1 hl2 hp hp1 hp2 hZ
  have i5 := HW.out
  go_enter Tryz.func59, Tryz.ntmps59
  go_wp2_with fail
  refine HL.out.mono ?_
  rintro e w1 ⟨A1, rfl, hsm, hb1⟩
  have HB1 := Lib.hid hb1
  have HSM1 := Lib.hid hsm
  clear hb1 hsm HL
  go_wp2_with fail
  refine (HC.out A1 (c - 4) w1 (HSM1.out _ (HS.out.keep HB1.out))).mono ?_
  rintro e w2 ⟨A2, c2, rfl, hsm, hb2⟩
  have HB2 := Lib.hid (bthen HB1.out hb2)
  have HSM2 : Hid (Sm A c l A2 c2 l2) := Lib.hid fun wx h => hsm wx (HSM1.out wx h)
  clear hb2 hsm HC HB1
  go_wp2_with fail
  refine (HD.out A2 c2 w2 (HSM2.out _ (HS.out.keep HB2.out))).mono ?_
  rintro e w3 ⟨x, y, z, rfl, A3, c3, A4, c4, rfl, rfl, rfl, h1, h2, hb3⟩
  have HB3 := Lib.hid (bthen HB2.out hb3)
  have HSM3 : Hid (Sm A c l A3 c3 (l2.take m)) := Lib.hid fun wx h => h1 wx (HSM2.out wx h)
  have HSM4 : Hid (Sm A c l A4 c4 (l2.drop m)) := Lib.hid fun wx h => h2 wx (HSM2.out wx h)
  clear hb3 h1 h2 HD HB2
  go_wp2_with fail
  exact bodyPost_ret (v := .tuple #[.string Z, .slice A3 m c3, .slice A4 (p2 - m) c4, .bool true]) (by simp [results, Tryz.results59, go_sem]) rfl ⟨A3, c3, A4, c4, rfl, HSM3.out, HSM4.out, HB3.out⟩
theorem bin_no1 (A : Option Addr) (c : Nat) (l : List UInt8) (w : World) (hs : SB w A c l) (h : (readLen l).2 = false) :
    Calls Tryz.prog 50 #[.slice A l.length c] w fun e w' => e = .returned (.tuple #[.int .u8 0, .slice none 0 0, .slice A l.length c, .bool false]) ∧ Below w.heap.size w w' := by
  obtain ⟨⟨nn, ok⟩, hr⟩ : ∃ x, readLen l = x := ⟨_, rfl⟩
  rw [hr] at h
  have h' : ok = false := h
  subst h'
  have HL := Lib.hid (lenNo A c l nn w hs hr)
  obtain ⟨p, hp⟩ : ∃ p, p = l.length := ⟨_, rfl⟩
  rw [← hp] at HL ⊢
  clear hs h hr hp
  go_enter Tryz.func50, Tryz.ntmps50
  go_wp2_with fail
  refine HL.out.mono ?_
  rintro e w1 ⟨A1, n1, c1, rfl, hb1⟩
  have HB1 := Lib.hid hb1
  clear hb1 HL
  go_wp2_with fail
  exact bodyPost_ret (v := .tuple #[.int .u8 0, .slice none 0 0, .slice A p c, .bool false]) (by simp [results, Tryz.results50, go_sem]) rfl ⟨rfl, HB1.out⟩
theorem bin_no2 (A : Option Addr) (c : Nat) (l : List UInt8) (nn : Int) (w : World) (hs : SB w A c l) (hr : readLen l = (nn, true)) (h4 : l.length = 4) :
    Calls Tryz.prog 50 #[.slice A l.length c] w fun e w' => e = .returned (.tuple #[.int .u8 0, .slice none 0 0, .slice A l.length c, .bool false]) ∧ Below w.heap.size w w' := by
  have HL := Lib.hid (lenS A c l nn w hs hr)
  rw [h4] at HL ⊢
  clear hs hr h4
  go_enter Tryz.func50, Tryz.ntmps50
  go_wp2_with fail
  refine HL.out.mono ?_
  rintro e w1 ⟨A1, rfl, -, hb1⟩
  have HB1 := Lib.hid hb1
  clear hb1 HL
  go_wp2_with fail
  exact bodyPost_ret (v := .tuple #[.int .u8 0, .slice none 0 0, .slice A 4 c, .bool false]) (by simp [results, Tryz.results50, go_sem]) rfl ⟨rfl, HB1.out⟩
/-- What a binary's bytes are behind its length. -/
theorem bin_tail (A1 : Option Addr) (c1 p : Nat) (t : UInt8) (r : List UInt8) (hp : p = r.length + 1) (hc : r.length + 1 ≤ c1) : ∃ A6, (∀ W : World, (Instr.slice 22 (.slice A1 p c1) (some (.int .i64 1)) none none).run Tryz.prog W = .ok (.slice A6 (p - 1) (c1 - 1)) W) ∧ Sm A1 c1 (t :: r) A6 (c1 - 1) r := by
  obtain ⟨A6, x6, s6⟩ := SB.from_ (P := Tryz.prog) Tryz.underlying22 rfl rfl .i64 A1 c1 (t :: r) 1 (by simp) (by simpa using hc)
  refine ⟨A6, fun W => ?_, fun wx h => by have := s6 wx h; simpa using this⟩
  have h := x6 W
  rw [show (t :: r).length = p from by rw [hp]; simp] at h
  exact h
theorem bin_cut (A1 : Option Addr) (c1 n : Nat) (r : List UInt8) (hn : n ≤ r.length) (hc : r.length ≤ c1) : ∃ A5 A6, (∀ W : World, (Instr.slice 22 (.slice A1 r.length c1) none (some (.int .i32 (n : Int))) none).run Tryz.prog W = .ok (.slice A5 n c1) W) ∧ (∀ W : World, (Instr.slice 22 (.slice A1 r.length c1) (some (.int .i32 (n : Int))) none none).run Tryz.prog W = .ok (.slice A6 (r.length - n) (c1 - n)) W) ∧ Sm A1 c1 r A5 c1 (r.take n) ∧ Sm A1 c1 r A6 (c1 - n) (r.drop n) := by
  obtain ⟨A5, x5, s5⟩ := SB.to_ (P := Tryz.prog) Tryz.underlying22 rfl rfl .i32 A1 c1 r n hn hc
  obtain ⟨A6, x6, s6⟩ := SB.from_ (P := Tryz.prog) Tryz.underlying22 rfl rfl .i32 A1 c1 r n hn hc
  exact ⟨A5, A6, x5, x6, s5, s6⟩
set_option maxHeartbeats 1600000 in
theorem bin_long (A : Option Addr) (c : Nat) (l : List UInt8) (nn : Int) (t : UInt8) (r : List UInt8) (w : World) (hs : SB w A c l) (hl : l.length ≤ 5000) (hr : readLen l = (nn, true)) (e1 : l.drop 4 = t :: r) (h : (r.length : Int) < nn) (hmx : nn ≤ 2147483647) :
    Calls Tryz.prog 50 #[.slice A l.length c] w fun e w' => e = .returned (.tuple #[.int .u8 0, .slice none 0 0, .slice A l.length c, .bool false]) ∧ Below w.heap.size w w' := by
  have HL := Lib.hid (lenS A c l nn w hs hr)
  have hlr : l.length - 4 = r.length + 1 := by rw [← List.length_drop, e1]; simp
  rw [e1] at HL
  have hcl := hs.le
  obtain ⟨p, hp⟩ : ∃ p, p = l.length := ⟨_, rfl⟩
  obtain ⟨p1, hp1⟩ : ∃ p, p = l.length - 4 := ⟨_, rfl⟩
  have HT := Lib.hid (fun A1 => bin_tail A1 (c - 4) p1 t r (by omega) (by omega))
  rw [← hp, show p - 4 = p1 from by omega] at HL
  rw [← hp]
  obtain ⟨q, hq⟩ : ∃ q, q = p1 - 1 := ⟨_, rfl⟩
  rw [← hq] at HT
  have HS := Lib.hid hs
  have d1 : decide ((p1 : Int) < 1) = false := decide_eq_false (by omega)
  have d2 : decide ((q : Int) < nn) = true := decide_eq_true (by omega)
  have hp10 : 0 < p1 := by omega
  obtain ⟨tt, htt⟩ : ∃ x : Int, x = (t.toNat : Int) := ⟨_, rfl⟩
  have HTT := Lib.hid htt
  have HW : Hid (wrap64 nn = nn) := Lib.hid (by unfold wrap64; omega)
  clear hs hl hr e1 h hmx hlr hcl hp hp1 hq htt
  have i5 := HW.out
  go_enter Tryz.func50, Tryz.ntmps50
  go_wp2_with fail
  refine HL.out.mono ?_
  rintro e w1 ⟨A1, rfl, hsm, hb1⟩
  obtain ⟨A6, x6, s6⟩ := HT.out A1
  have hs1 := hsm w1 (HS.out.keep hb1)
  obtain ⟨g, off, rfl, hc⟩ := hs1.cells (by simp)
  have c0 : w1.cell? ⟨g, off, none⟩ = some (.int .u8 tt) := by have h := hc 0 (by simp); rw [HTT.out]; simpa using h
  have HB1 := Lib.hid hb1
  clear hb1 hsm HL hs1 hc s6 HT
  go_wp2_with fail
  refine start_ (n := 7) (S := fun w' => w'.cell? ⟨g, off, none⟩ = some (.int .u8 tt)) (ds := []) #[false, false, false, false, false, false, false] (by kernel_rfl) rfl rfl ((by go_simp)) (fun hHeld => ?_)
  refine with_tabW R50.tab6 R50.bits6 (fun HT_ HW_ => ?_)
  refine pure_ (i := 0) (N := some 20) (v := ?_) (a' := ?_) #[true, false, false, false, false, false, false] rfl rfl (any_of HT_.out (by kernel_rfl)) (fun _ _ _ h => h) (Or.inl ⟨by rfl, ?_⟩) ?_ ?_
  rotate_left
  · intro w'
    go_simp
    with_reducible rfl
  rotate_left
  · simp only [Act.put, List.setIfInBounds_toArray, List.set_cons_zero, List.set_cons_succ, i64_w, i32_w]
    rfl
  refine pure_ (i := 1) (N := some 21) (v := ?_) (a' := ?_) #[true, true, false, false, false, false, false] rfl rfl (any_of HT_.out (by kernel_rfl)) (fun _ _ _ h => h) (Or.inl ⟨by rfl, ?_⟩) ?_ ?_
  rotate_left
  · intro w'
    go_simp
    with_reducible rfl
  rotate_left
  · simp only [Act.put, List.setIfInBounds_toArray, List.set_cons_zero, List.set_cons_succ, i64_w, i32_w]
    rfl
  refine pure_ (i := 3) (N := some 23) (v := ?_) (a' := ?_) #[true, true, false, true, false, false, false] rfl rfl (any_of HT_.out (by kernel_rfl)) (fun _ _ _ h => h) (Or.inl ⟨by rfl, ?_⟩) ?_ ?_
  rotate_left
  · intro w'
    go_simp
    with_reducible rfl
  rotate_left
  · simp only [Act.put, List.setIfInBounds_toArray, List.set_cons_zero, List.set_cons_succ, i64_w, i32_w]
    rfl
  refine pure_ (i := 4) (N := some 24) (v := ?_) (a' := ?_) #[true, true, false, true, true, false, false] rfl rfl (any_of HT_.out (by kernel_rfl)) (fun _ _ _ h => h) (Or.inl ⟨by rfl, ?_⟩) ?_ ?_
  rotate_left
  · intro w'
    go_simp
    with_reducible rfl
  rotate_left
  · simp only [Act.put, List.setIfInBounds_toArray, List.set_cons_zero, List.set_cons_succ, i64_w, i32_w]
    rfl
  refine take_ (i := 2) (N := some 22) (v := ?_) (a' := ?_) #[true, true, true, true, true, false, false] rfl rfl (take_ofW HT_.out HW_.out (by kernel_rfl)) (fun _ _ _ h => h) (Or.inl ⟨by rfl, ?_⟩) hHeld ?_ ?_
  rotate_left
  · intro w' s0
    go_simp
    with_reducible rfl
  rotate_left
  · simp only [Act.put, List.setIfInBounds_toArray, List.set_cons_zero, List.set_cons_succ, i64_w, i32_w]
    rfl
  refine pure_ (i := 5) (N := some 2) (v := ?_) (a' := ?_) #[true, true, true, true, true, true, false] rfl rfl (any_of HT_.out (by kernel_rfl)) (fun _ _ _ h => h) (Or.inl ⟨by rfl, ?_⟩) ?_ ?_
  rotate_left
  · intro w'
    go_simp
    with_reducible rfl
  rotate_left
  · simp only [Act.put, List.setIfInBounds_toArray, List.set_cons_zero, List.set_cons_succ, i64_w, i32_w]
    rfl
  refine pure_ (i := 6) (N := some 4) (v := ?_) (a' := ?_) #[true, true, true, true, true, true, true] rfl rfl (any_of HT_.out (by kernel_rfl)) (fun _ _ _ h => h) (Or.inl ⟨by rfl, ?_⟩) ?_ ?_
  rotate_left
  · intro w'
    go_simp
    with_reducible rfl
  rotate_left
  · simp only [Act.put, List.setIfInBounds_toArray, List.set_cons_zero, List.set_cons_succ, i64_w, i32_w]
    rfl
  refine done_ (done_of HT_.out (by kernel_rfl)) ?_
  go_wp2_with fail
  exact bodyPost_ret (v := .tuple #[.int .u8 0, .slice none 0 0, .slice A p c, .bool false]) (by simp [results, Tryz.results50, go_sem]) rfl ⟨rfl, bdrew HB1.out⟩
set_option maxHeartbeats 1600000 in
theorem bin_ok (A : Option Addr) (c : Nat) (l : List UInt8) (n : Nat) (t : UInt8) (r : List UInt8) (w : World) (hs : SB w A c l) (hl : l.length ≤ 5000) (hr : readLen l = ((n : Int), true)) (e1 : l.drop 4 = t :: r) (hn : n ≤ r.length) (ht : t ≠ 2) :
    Calls Tryz.prog 50 #[.slice A l.length c] w fun e w' => ∃ A1 c1 A2 c2, e = .returned (.tuple #[.int .u8 (t.toNat : Int), .slice A1 n c1, .slice A2 (r.length - n) c2, .bool true]) ∧ Sm A c l A1 c1 (r.take n) ∧ Sm A c l A2 c2 (r.drop n) ∧ Below w.heap.size w w' := by
  have HL := Lib.hid (lenS A c l _ w hs hr)
  have hlr : l.length - 4 = r.length + 1 := by rw [← List.length_drop, e1]; simp
  rw [e1] at HL
  have hcl := hs.le
  obtain ⟨p, hp⟩ : ∃ p, p = l.length := ⟨_, rfl⟩
  obtain ⟨p1, hp1⟩ : ∃ p, p = l.length - 4 := ⟨_, rfl⟩
  have HT := Lib.hid (fun A1 => bin_tail A1 (c - 4) p1 t r (by omega) (by omega))
  have HC := Lib.hid (fun A1 => bin_cut A1 (c - 4 - 1) n r hn (by omega))
  rw [← hp, show p - 4 = p1 from by omega] at HL
  rw [← hp]
  obtain ⟨q, hq⟩ : ∃ q, q = r.length := ⟨_, rfl⟩
  rw [show p1 - 1 = q from by omega] at HT
  rw [← hq] at HC
  rw [← hq]
  have HS := Lib.hid hs
  have d1 : decide ((p1 : Int) < 1) = false := decide_eq_false (by omega)
  have d2 : decide (q < n) = false := decide_eq_false (by omega)
  have hp10 : 0 < p1 := by omega
  obtain ⟨tt, htt⟩ : ∃ x : Int, x = (t.toNat : Int) := ⟨_, rfl⟩
  have d3 : (tt == 2) = false := by
    rw [beq_eq_false_iff_ne, htt]
    intro h
    exact ht (UInt8.toNat_inj.1 (show t.toNat = (2 : UInt8).toNat from by show t.toNat = 2; omega))
  have HTT := Lib.hid htt
  have HW : Hid (wrap64 (n : Int) = n) := Lib.hid (by unfold wrap64; omega)
  rw [← htt]
  clear hs hl hr e1 hn ht hlr hcl hp hp1 hq htt
  have i5 := HW.out
  go_enter Tryz.func50, Tryz.ntmps50
  go_wp2_with fail
  refine HL.out.mono ?_
  rintro e w1 ⟨A1, rfl, hsm, hb1⟩
  obtain ⟨A6, x6, s6⟩ := HT.out A1
  obtain ⟨A7, A8, x7, x8, s7, s8⟩ := HC.out A6
  have hs1 := hsm w1 (HS.out.keep hb1)
  obtain ⟨g, off, rfl, hc⟩ := hs1.cells (by simp)
  have c0 : w1.cell? ⟨g, off, none⟩ = some (.int .u8 tt) := by have h := hc 0 (by simp); rw [HTT.out]; simpa using h
  have HB1 := Lib.hid hb1
  have HS7 : Hid (Sm A c l A7 (c - 4 - 1) (r.take n)) := Lib.hid fun wx h => s7 wx (s6 wx (hsm wx h))
  have HS8 : Hid (Sm A c l A8 (c - 4 - 1 - n) (r.drop n)) := Lib.hid fun wx h => s8 wx (s6 wx (hsm wx h))
  clear hb1 hsm HL hs1 hc s6 s7 s8 HT HC
  go_wp2_with fail
  refine start_ (n := 7) (S := fun w' => w'.cell? ⟨g, off, none⟩ = some (.int .u8 tt)) (ds := []) #[false, false, false, false, false, false, false] (by kernel_rfl) rfl rfl ((by go_simp)) (fun hHeld => ?_)
  refine with_tabW R50.tab6 R50.bits6 (fun HT_ HW_ => ?_)
  refine pure_ (i := 0) (N := some 20) (v := ?_) (a' := ?_) #[true, false, false, false, false, false, false] rfl rfl (any_of HT_.out (by kernel_rfl)) (fun _ _ _ h => h) (Or.inl ⟨by rfl, ?_⟩) ?_ ?_
  rotate_left
  · intro w'
    go_simp
    with_reducible rfl
  rotate_left
  · simp only [Act.put, List.setIfInBounds_toArray, List.set_cons_zero, List.set_cons_succ, i64_w, i32_w]
    rfl
  refine pure_ (i := 1) (N := some 21) (v := ?_) (a' := ?_) #[true, true, false, false, false, false, false] rfl rfl (any_of HT_.out (by kernel_rfl)) (fun _ _ _ h => h) (Or.inl ⟨by rfl, ?_⟩) ?_ ?_
  rotate_left
  · intro w'
    go_simp
    with_reducible rfl
  rotate_left
  · simp only [Act.put, List.setIfInBounds_toArray, List.set_cons_zero, List.set_cons_succ, i64_w, i32_w]
    rfl
  refine pure_ (i := 3) (N := some 23) (v := ?_) (a' := ?_) #[true, true, false, true, false, false, false] rfl rfl (any_of HT_.out (by kernel_rfl)) (fun _ _ _ h => h) (Or.inl ⟨by rfl, ?_⟩) ?_ ?_
  rotate_left
  · intro w'
    go_simp
    with_reducible rfl
  rotate_left
  · simp only [Act.put, List.setIfInBounds_toArray, List.set_cons_zero, List.set_cons_succ, i64_w, i32_w]
    rfl
  refine pure_ (i := 4) (N := some 24) (v := ?_) (a' := ?_) #[true, true, false, true, true, false, false] rfl rfl (any_of HT_.out (by kernel_rfl)) (fun _ _ _ h => h) (Or.inl ⟨by rfl, ?_⟩) ?_ ?_
  rotate_left
  · intro w'
    go_simp
    with_reducible rfl
  rotate_left
  · simp only [Act.put, List.setIfInBounds_toArray, List.set_cons_zero, List.set_cons_succ, i64_w, i32_w]
    rfl
  refine take_ (i := 2) (N := some 22) (v := ?_) (a' := ?_) #[true, true, true, true, true, false, false] rfl rfl (take_ofW HT_.out HW_.out (by kernel_rfl)) (fun _ _ _ h => h) (Or.inl ⟨by rfl, ?_⟩) hHeld ?_ ?_
  rotate_left
  · intro w' s0
    go_simp
    with_reducible rfl
  rotate_left
  · simp only [Act.put, List.setIfInBounds_toArray, List.set_cons_zero, List.set_cons_succ, i64_w, i32_w]
    rfl
  refine pure_ (i := 5) (N := some 2) (v := ?_) (a' := ?_) #[true, true, true, true, true, true, false] rfl rfl (any_of HT_.out (by kernel_rfl)) (fun _ _ _ h => h) (Or.inl ⟨by rfl, ?_⟩) ?_ ?_
  rotate_left
  · intro w'
    go_simp
    with_reducible rfl
  rotate_left
  · simp only [Act.put, List.setIfInBounds_toArray, List.set_cons_zero, List.set_cons_succ, i64_w, i32_w]
    rfl
  refine pure_ (i := 6) (N := some 4) (v := ?_) (a' := ?_) #[true, true, true, true, true, true, true] rfl rfl (any_of HT_.out (by kernel_rfl)) (fun _ _ _ h => h) (Or.inl ⟨by rfl, ?_⟩) ?_ ?_
  rotate_left
  · intro w'
    go_simp
    with_reducible rfl
  rotate_left
  · simp only [Act.put, List.setIfInBounds_toArray, List.set_cons_zero, List.set_cons_succ, i64_w, i32_w]
    rfl
  refine done_ (done_of HT_.out (by kernel_rfl)) ?_
  go_wp2_with fail
  go_region
  go_wp2_with fail
  exact bodyPost_ret (v := .tuple #[.int .u8 tt, .slice A7 n (c - 4 - 1), .slice A8 (q - n) (c - 4 - 1 - n), .bool true]) (by simp [results, Tryz.results50, go_sem]) rfl ⟨_, _, _, _, rfl, HS7.out, HS8.out, by first | exact bdrew (bdrew HB1.out) | exact bdrewN HB1.out _⟩
set_option maxHeartbeats 1600000 in
theorem bin_ok2 (A : Option Addr) (c : Nat) (l : List UInt8) (n k : Nat) (r : List UInt8) (w : World) (hs : SB w A c l) (hl : l.length ≤ 5000) (hr : readLen l = ((n : Int), true)) (e1 : l.drop 4 = 2 :: r) (hn : n ≤ r.length) (hk : readLen r = ((k : Int), true)) (hkl : k + 4 ≤ r.length) :
    Calls Tryz.prog 50 #[.slice A l.length c] w fun e w' => ∃ A1 c1 A2 c2, e = .returned (.tuple #[.int .u8 2, .slice A1 k c1, .slice A2 (r.length - 4 - k) c2, .bool true]) ∧ Sm A c l A1 c1 ((r.drop 4).take k) ∧ Sm A c l A2 c2 ((r.drop 4).drop k) ∧ Below w.heap.size w w' := by
  have HL := Lib.hid (lenS A c l _ w hs hr)
  have hlr : l.length - 4 = r.length + 1 := by rw [← List.length_drop, e1]; simp
  rw [e1] at HL
  have hcl := hs.le
  obtain ⟨p, hp⟩ : ∃ p, p = l.length := ⟨_, rfl⟩
  obtain ⟨p1, hp1⟩ : ∃ p, p = l.length - 4 := ⟨_, rfl⟩
  have HT := Lib.hid (fun A1 => bin_tail A1 (c - 4) p1 2 r (by omega) (by omega))
  have HL2 := Lib.hid (fun A1 c1 wx (h : SB wx A1 c1 r) => lenS A1 c1 r _ wx h hk)
  have hd4 : (r.drop 4).length = r.length - 4 := List.length_drop
  have HC := Lib.hid (fun A1 => bin_cut A1 (c - 4 - 1 - 4) k (r.drop 4) (by omega) (by omega))
  rw [hd4] at HC
  rw [← hp, show p - 4 = p1 from by omega] at HL
  rw [← hp]
  obtain ⟨q, hq⟩ : ∃ q, q = r.length := ⟨_, rfl⟩
  rw [show p1 - 1 = q from by omega] at HT
  rw [← hq] at HC HL2
  rw [← hq]
  obtain ⟨q4, hq4⟩ : ∃ x, x = q - 4 := ⟨_, rfl⟩
  rw [← hq4] at HC HL2
  rw [← hq4]
  have HS := Lib.hid hs
  have d1 : decide ((p1 : Int) < 1) = false := decide_eq_false (by omega)
  have d2 : decide (q < n) = false := decide_eq_false (by omega)
  have d3 : decide (q4 < k) = false := decide_eq_false (by omega)
  have hp10 : 0 < p1 := by omega
  have HW : Hid (wrap64 (n : Int) = n ∧ wrap64 (k : Int) = k) := Lib.hid (by constructor <;> (unfold wrap64; omega))
  clear hs hl hr e1 hn hk hkl hlr hcl hp hp1 hq hd4 hq4
  obtain ⟨i5, i6⟩ := HW.out
  go_enter Tryz.func50, Tryz.ntmps50
  go_wp2_with fail
  refine HL.out.mono ?_
  rintro e w1 ⟨A1, rfl, hsm, hb1⟩
  obtain ⟨A6, x6, s6⟩ := HT.out A1
  have hs1 := hsm w1 (HS.out.keep hb1)
  obtain ⟨g, off, rfl, hc⟩ := hs1.cells (by simp)
  have c0 : w1.cell? ⟨g, off, none⟩ = some (.int .u8 2) := by have h := hc 0 (by simp); simpa using h
  have HB1 := Lib.hid hb1
  have HS6 : Hid (Sm A c l A6 (c - 4 - 1) r) := Lib.hid fun wx h => s6 wx (hsm wx h)
  clear hb1 hsm HL hs1 hc s6 HT
  go_wp2_with fail
  refine start_ (n := 7) (S := fun w' => w'.cell? ⟨g, off, none⟩ = some (.int .u8 2)) (ds := []) #[false, false, false, false, false, false, false] (by kernel_rfl) rfl rfl ((by go_simp)) (fun hHeld => ?_)
  refine with_tabW R50.tab6 R50.bits6 (fun HT_ HW_ => ?_)
  refine pure_ (i := 0) (N := some 20) (v := ?_) (a' := ?_) #[true, false, false, false, false, false, false] rfl rfl (any_of HT_.out (by kernel_rfl)) (fun _ _ _ h => h) (Or.inl ⟨by rfl, ?_⟩) ?_ ?_
  rotate_left
  · intro w'
    go_simp
    with_reducible rfl
  rotate_left
  · simp only [Act.put, List.setIfInBounds_toArray, List.set_cons_zero, List.set_cons_succ, i64_w, i32_w]
    rfl
  refine pure_ (i := 1) (N := some 21) (v := ?_) (a' := ?_) #[true, true, false, false, false, false, false] rfl rfl (any_of HT_.out (by kernel_rfl)) (fun _ _ _ h => h) (Or.inl ⟨by rfl, ?_⟩) ?_ ?_
  rotate_left
  · intro w'
    go_simp
    with_reducible rfl
  rotate_left
  · simp only [Act.put, List.setIfInBounds_toArray, List.set_cons_zero, List.set_cons_succ, i64_w, i32_w]
    rfl
  refine pure_ (i := 3) (N := some 23) (v := ?_) (a' := ?_) #[true, true, false, true, false, false, false] rfl rfl (any_of HT_.out (by kernel_rfl)) (fun _ _ _ h => h) (Or.inl ⟨by rfl, ?_⟩) ?_ ?_
  rotate_left
  · intro w'
    go_simp
    with_reducible rfl
  rotate_left
  · simp only [Act.put, List.setIfInBounds_toArray, List.set_cons_zero, List.set_cons_succ, i64_w, i32_w]
    rfl
  refine pure_ (i := 4) (N := some 24) (v := ?_) (a' := ?_) #[true, true, false, true, true, false, false] rfl rfl (any_of HT_.out (by kernel_rfl)) (fun _ _ _ h => h) (Or.inl ⟨by rfl, ?_⟩) ?_ ?_
  rotate_left
  · intro w'
    go_simp
    with_reducible rfl
  rotate_left
  · simp only [Act.put, List.setIfInBounds_toArray, List.set_cons_zero, List.set_cons_succ, i64_w, i32_w]
    rfl
  refine take_ (i := 2) (N := some 22) (v := ?_) (a' := ?_) #[true, true, true, true, true, false, false] rfl rfl (take_ofW HT_.out HW_.out (by kernel_rfl)) (fun _ _ _ h => h) (Or.inl ⟨by rfl, ?_⟩) hHeld ?_ ?_
  rotate_left
  · intro w' s0
    go_simp
    with_reducible rfl
  rotate_left
  · simp only [Act.put, List.setIfInBounds_toArray, List.set_cons_zero, List.set_cons_succ, i64_w, i32_w]
    rfl
  refine pure_ (i := 5) (N := some 2) (v := ?_) (a' := ?_) #[true, true, true, true, true, true, false] rfl rfl (any_of HT_.out (by kernel_rfl)) (fun _ _ _ h => h) (Or.inl ⟨by rfl, ?_⟩) ?_ ?_
  rotate_left
  · intro w'
    go_simp
    with_reducible rfl
  rotate_left
  · simp only [Act.put, List.setIfInBounds_toArray, List.set_cons_zero, List.set_cons_succ, i64_w, i32_w]
    rfl
  refine pure_ (i := 6) (N := some 4) (v := ?_) (a' := ?_) #[true, true, true, true, true, true, true] rfl rfl (any_of HT_.out (by kernel_rfl)) (fun _ _ _ h => h) (Or.inl ⟨by rfl, ?_⟩) ?_ ?_
  rotate_left
  · intro w'
    go_simp
    with_reducible rfl
  rotate_left
  · simp only [Act.put, List.setIfInBounds_toArray, List.set_cons_zero, List.set_cons_succ, i64_w, i32_w]
    rfl
  refine done_ (done_of HT_.out (by kernel_rfl)) ?_
  go_wp2_with fail
  refine (HL2.out A6 (c - 4 - 1) _ (HS6.out _ (HS.out.keep (bdrew HB1.out)))).mono ?_
  rintro e w2 ⟨A9, rfl, hsm9, hb2⟩
  obtain ⟨A7, A8, x7, x8, s7, s8⟩ := HC.out A9
  have HB2 := Lib.hid (bthen HB1.out (bleft hb2))
  have HS7 : Hid (Sm A c l A7 (c - 4 - 1 - 4) ((r.drop 4).take k)) := Lib.hid fun wx h => s7 wx (hsm9 wx (HS6.out wx h))
  have HS8 : Hid (Sm A c l A8 (c - 4 - 1 - 4 - k) ((r.drop 4).drop k)) := Lib.hid fun wx h => s8 wx (hsm9 wx (HS6.out wx h))
  clear hb2 hsm9 HL2 s7 s8 HC
  go_wp2_with fail
  go_region
  go_wp2_with fail
  exact bodyPost_ret (v := .tuple #[.int .u8 2, .slice A7 k (c - 4 - 1 - 4), .slice A8 (q4 - k) (c - 4 - 1 - 4 - k), .bool true]) (by simp [results, Tryz.results50, go_sem]) rfl ⟨_, _, _, _, rfl, HS7.out, HS8.out, bdrew HB2.out⟩
end Rr
end Go.Proofs.YtbpopaegfhcdpaaGreatDoor.X


/- impl.Read by kind. (gen_rdi.py) -/
set_option linter.unusedVariables false
set_option linter.unusedSimpArgs false
set_option maxRecDepth 100000
namespace Go.Proofs.YtbpopaegfhcdpaaGreatDoor.X
open Go.RowKit Go.Proofs.YtbpopaegfhcdpaaGreatDoorW.PrintLast
namespace Rr
open Sp Al Av Aw Ck Lk
def R17.T59 : Bool × List (List Nat × List Nat) := (true, [([], []), ([], []), ([1], [1]), ([], []), ([0, 2, 0], [0]), ([2, 4, 0, 1, 2, 4], [1, 2]), ([3, 5, 0, 1, 2, 3, 4, 5], [3])])
def R17.B59 : List Nat := [0, 0, 2, 0, 7, 23, 63]
theorem R17.tab59 : rtab .any (opsOf Tryz.f17 59) = R17.T59 := by kernel_rfl
theorem R17.bits59 : waitsOk R17.T59.2 R17.B59 = true := by kernel_rfl
theorem ownF (A : Option Addr) (c : Nat) (l : List UInt8) (w : World) (hs : SB w A c l) (hl : l.length ≤ 5000) :
    Calls Tryz.prog 40 #[.slice A l.length c] w fun e w' => ∃ A1 c1, e = .returned (.slice A1 l.length c1) ∧ SB w' A1 c1 l ∧ (∀ a, A1 = some a → w.heap.size ≤ a.block) ∧ Below w.heap.size w w' := by
  refine (implOwn A c l w hs (by omega)).mono ?_
  rintro e w' ⟨v1, rfl, ho, hb⟩
  obtain ⟨A1, c1, rfl, h1, h2⟩ := ho.sb
  exact ⟨A1, c1, rfl, h1, fun a ha => (h2 a ha).1, hb⟩
/-- What impl.Read gives. -/
def RdOk (K : Int) (l : List UInt8) (text more : ByteArray) (n bits high : Int) (b r : List UInt8) (A : Option Addr) (c : Nat) (w : World) : Prop :=
  Calls Tryz.prog 17 #[.int .i64 K, .slice A l.length c] w fun e w' => (∃ A1 c1 A2 c2, e = .returned (.tuple #[.agg #[.int .i64 K, .string text, .string more, .int .i64 n, .int .u64 bits, .int .u64 high, .slice A1 b.length c1, .slice none 0 0], .slice A2 r.length c2, .bool true]) ∧ SB w' A1 c1 b ∧ SB w' A2 c2 r) ∧ Below w.heap.size w w'
def RdNo (K : Int) (l : List UInt8) (A : Option Addr) (c : Nat) (w : World) : Prop :=
  Calls Tryz.prog 17 #[.int .i64 K, .slice A l.length c] w fun e w' => (∃ A2 c2, e = .returned (.tuple #[.agg #[.int .i64 0, .string ⟨#[]⟩, .string ⟨#[]⟩, .int .i64 0, .int .u64 0, .int .u64 0, .slice none 0 0, .slice none 0 0], .slice A2 l.length c2, .bool false]) ∧ SB w' A2 c2 l) ∧ Below w.heap.size w w'
theorem cells8 {W : World} {B : Nat} {T : TypeId} {c0 c1 c2 c3 c4 c5 c6 c7 : Value} (h : W.heap[B]? = some (.cells #[c0, c1, c2, c3, c4, c5, c6, c7] T (0, 0))) : W.cell? ⟨B, 0, none⟩ = some c0 ∧ W.cell? ⟨B, 1, none⟩ = some c1 ∧ W.cell? ⟨B, 2, none⟩ = some c2 ∧ W.cell? ⟨B, 3, none⟩ = some c3 ∧ W.cell? ⟨B, 4, none⟩ = some c4 ∧ W.cell? ⟨B, 5, none⟩ = some c5 ∧ W.cell? ⟨B, 6, none⟩ = some c6 ∧ W.cell? ⟨B, 7, none⟩ = some c7 ∧ W.frozen? ⟨B, 0, none⟩ = false ∧ W.frozen? ⟨B, 1, none⟩ = false ∧ W.frozen? ⟨B, 2, none⟩ = false ∧ W.frozen? ⟨B, 3, none⟩ = false ∧ W.frozen? ⟨B, 4, none⟩ = false ∧ W.frozen? ⟨B, 5, none⟩ = false ∧ W.frozen? ⟨B, 6, none⟩ = false ∧ W.frozen? ⟨B, 7, none⟩ = false := by
  refine ⟨?_, ?_, ?_, ?_, ?_, ?_, ?_, ?_, ?_, ?_, ?_, ?_, ?_, ?_, ?_, ?_⟩ <;> first | (simp only [World.cell?, h]; rfl) | (simp only [World.frozen?, h]; rfl)
theorem set8 (w : World) (B t : Nat) (c0 c1 c2 c3 c4 c5 c6 c7 : Value) (h : w.heap[B]? = some (.cells #[c0, c1, c2, c3, c4, c5, c6, c7] t (0, 0))) : ((((((((w.setCell ⟨B, 0, none⟩ c0).setCell ⟨B, 1, none⟩ c1).setCell ⟨B, 2, none⟩ c2).setCell ⟨B, 3, none⟩ c3).setCell ⟨B, 4, none⟩ c4).setCell ⟨B, 5, none⟩ c5).setCell ⟨B, 6, none⟩ c6).setCell ⟨B, 7, none⟩ c7).heap[B]? = some (.cells #[c0, c1, c2, c3, c4, c5, c6, c7] t (0, 0)) := by
  have h0 := heap_setCell_same _ B 0 _ _ c0 h
  have h1 := heap_setCell_same _ B 1 _ _ c1 h0
  have h2 := heap_setCell_same _ B 2 _ _ c2 h1
  have h3 := heap_setCell_same _ B 3 _ _ c3 h2
  have h4 := heap_setCell_same _ B 4 _ _ c4 h3
  have h5 := heap_setCell_same _ B 5 _ _ c5 h4
  have h6 := heap_setCell_same _ B 6 _ _ c6 h5
  have h7 := heap_setCell_same _ B 7 _ _ c7 h6
  simpa using h7
set_option maxHeartbeats 8000000 in
theorem tail59 {K' : Act → World → Prop} {Q' : Exit → Act → World → Prop} {x0 x1 x2 x3 x7 x8 x9 x10 x11 x12 x13 x14 x15 x16 x17 x18 x19 x20 x21 x22 x23 x24 x25 x26 x27 x28 x29 x30 x31 x32 x33 x34 x35 x36 x37 x38 x39 x40 x41 x42 x43 x44 x45 x46 x47 x48 x49 x50 x51 x52 x53 x54 x55 x56 x57 x58 x59 x60 x61 x62 x63 x64 x65 x66 x67 x68 x69 x70 x71 x72 x73 x74 x75 x76 x77 x78 x79 x80 x81 x82 x83 x84 x85 x86 x87 x88 x89 x90 x91 x92 x93 x94 x95 x96 x97 x98 x99 x100 x101 x102 x103 x104 x105 x106 x107 x108 x109 x110 x111 x112 x113 x114 x115 x116 x117 x118 x119 x120 x121 x122 x123 x124 x125 x126 x127 x128 x129 x130 x131 x132 x133 x134 x135 x136 x137 x138 x139 x140 x141 x142 x143 x144 x145 x146 x147 x148 x149 x150 x151 x152 x153 x154 x155 x156 x157 x158 x159 x160 x161 x162 x163 x164 x165 x166 x167 x168 x169 x170 x171 x172 x173 x174 x175 x176 x177 x178 x179 x180 x181 x182 x183 x184 x185 x186 x187 x188 x189 x190 x191 x192 x193 x194 x195 x196 x197 x198 x199 x200 x201 x202 x203 x204 x205 x206 x207 x208 x209 x210 x211 x212 x213 x214 x215 x216 x217 x218 x219 x220 x221 x222 x223 x224 x225 x226 x227 x228 : Value} (w W : World) (k0 n3 n4 n5 : Int) (s1 s2 : ByteArray) (A6 : Option Addr) (m6 c6 : Nat) (A1 : Option Addr) (c1 q : Nat) (ok : Bool) (rr : List UInt8) (hp : ∀ c t t' d w, Exit.then K' Q' (Exit.panic c) ⟨t, d⟩ w → Exit.then K' Q' (Exit.panic c) ⟨t', d⟩ w) (hblk2 : W.heap[w.heap.size]? = some (.cells #[.int .i64 k0, .string s1, .string s2, .int .i64 n3, .int .u64 n4, .int .u64 n5, .slice A6 m6 c6, .slice none 0 0] 27 (0, 0))) (hb : Below w.heap.size w W)
    (hown : ∀ wx, Below w.heap.size w wx → Calls Tryz.prog 40 #[.slice A1 q c1] wx fun e w' => ∃ A3 c3, e = .returned (.slice A3 q c3) ∧ SB w' A3 c3 rr ∧ (∀ a, A3 = some a → wx.heap.size ≤ a.block) ∧ Below wx.heap.size wx w')
    (hk : ∀ A3 c3 w9, w9.heap[w.heap.size]? = some (.cells #[.int .i64 k0, .string s1, .string s2, .int .i64 n3, .int .u64 n4, .int .u64 n5, .slice A6 m6 c6, .slice none 0 0] 27 (0, 0)) → Below w.heap.size w w9 → SB w9 A3 c3 rr → (∀ A5 c5 bb, SB W A5 c5 bb → (∀ a, A5 = some a → a.block ≠ w.heap.size) → SB w9 A5 c5 bb) → K' { tmps := #[x0, x1, x2, x3, (.pointer (some ⟨w.heap.size, 0, none⟩)), (.slice A3 q c3), (.bool ok), x7, x8, x9, x10, x11, x12, x13, x14, x15, x16, x17, x18, x19, x20, x21, x22, x23, x24, x25, x26, x27, x28, x29, x30, x31, x32, x33, x34, x35, x36, x37, x38, x39, x40, x41, x42, x43, x44, x45, x46, x47, x48, x49, x50, x51, x52, x53, x54, x55, x56, x57, x58, x59, x60, x61, x62, x63, x64, x65, x66, x67, x68, x69, x70, x71, x72, x73, x74, x75, x76, x77, x78, x79, x80, x81, x82, x83, x84, x85, x86, x87, x88, x89, x90, x91, x92, x93, x94, x95, x96, x97, x98, x99, x100, x101, x102, x103, x104, x105, x106, x107, x108, x109, x110, x111, x112, x113, x114, x115, x116, x117, x118, x119, x120, x121, x122, x123, x124, x125, x126, x127, x128, x129, x130, x131, x132, x133, x134, x135, x136, x137, x138, x139, x140, x141, x142, x143, x144, x145, x146, x147, x148, x149, x150, x151, x152, x153, x154, x155, x156, x157, x158, x159, x160, x161, x162, x163, x164, x165, x166, x167, x168, x169, x170, x171, x172, x173, x174, x175, x176, x177, x178, x179, x180, x181, x182, x183, x184, x185, x186, x187, x188, x189, x190, x191, x192, x193, x194, x195, x196, x197, x198, x199, x200, x201, x202, x203, x204, x205, x206, x207, x208, x209, x210, x211, x212, x213, x214, x215, x216, x217, x218, x219, x220, x221, x222, x223, x224, (.agg #[.int .i64 k0, .string s1, .string s2, .int .i64 n3, .int .u64 n4, .int .u64 n5, .slice A6 m6 c6, .slice none 0 0]), (.slice A1 q c1), (.slice A3 q c3), (.bool ok)], defers := [] } w9) :
    Code.wp Tryz.prog (Code.region 59 (opsOf Tryz.f17 59) true) (Exit.then K' Q') { tmps := #[x0, x1, x2, x3, (.pointer (some ⟨w.heap.size, 0, none⟩)), (.slice A1 q c1), (.bool ok), x7, x8, x9, x10, x11, x12, x13, x14, x15, x16, x17, x18, x19, x20, x21, x22, x23, x24, x25, x26, x27, x28, x29, x30, x31, x32, x33, x34, x35, x36, x37, x38, x39, x40, x41, x42, x43, x44, x45, x46, x47, x48, x49, x50, x51, x52, x53, x54, x55, x56, x57, x58, x59, x60, x61, x62, x63, x64, x65, x66, x67, x68, x69, x70, x71, x72, x73, x74, x75, x76, x77, x78, x79, x80, x81, x82, x83, x84, x85, x86, x87, x88, x89, x90, x91, x92, x93, x94, x95, x96, x97, x98, x99, x100, x101, x102, x103, x104, x105, x106, x107, x108, x109, x110, x111, x112, x113, x114, x115, x116, x117, x118, x119, x120, x121, x122, x123, x124, x125, x126, x127, x128, x129, x130, x131, x132, x133, x134, x135, x136, x137, x138, x139, x140, x141, x142, x143, x144, x145, x146, x147, x148, x149, x150, x151, x152, x153, x154, x155, x156, x157, x158, x159, x160, x161, x162, x163, x164, x165, x166, x167, x168, x169, x170, x171, x172, x173, x174, x175, x176, x177, x178, x179, x180, x181, x182, x183, x184, x185, x186, x187, x188, x189, x190, x191, x192, x193, x194, x195, x196, x197, x198, x199, x200, x201, x202, x203, x204, x205, x206, x207, x208, x209, x210, x211, x212, x213, x214, x215, x216, x217, x218, x219, x220, x221, x222, x223, x224, x225, x226, x227, x228], defers := [] } W := by
  simp (config := {decide := true}) only [opsOf, Tryz.f17, opsIn, Option.bind, Option.getD, if_false, if_true, ↓reduceIte]
  have HB2 := Lib.hid hb
  have HOWN := Lib.hid hown
  have HK := Lib.hid hk
  have hlt2 : w.heap.size < W.heap.size := (Array.getElem?_eq_some_iff.1 hblk2).1
  obtain ⟨t0, t1, t2, t3, t4, t5, t6, t7, -⟩ := cells8 hblk2
  clear hb hown hk
  refine start_ (n := 7) (S := fun w' => w'.cell? ⟨w.heap.size, 0, none⟩ = some (.int .i64 k0) ∧ w'.cell? ⟨w.heap.size, 1, none⟩ = some (.string s1) ∧ w'.cell? ⟨w.heap.size, 2, none⟩ = some (.string s2) ∧ w'.cell? ⟨w.heap.size, 3, none⟩ = some (.int .i64 n3) ∧ w'.cell? ⟨w.heap.size, 4, none⟩ = some (.int .u64 n4) ∧ w'.cell? ⟨w.heap.size, 5, none⟩ = some (.int .u64 n5) ∧ w'.cell? ⟨w.heap.size, 6, none⟩ = some (.slice A6 m6 c6) ∧ w'.cell? ⟨w.heap.size, 7, none⟩ = some (.slice none 0 0)) (ds := [4]) #[false, false, false, false, false, false, false] (by kernel_rfl) rfl rfl ⟨(by exact t0), (by exact t1), (by exact t2), (by exact t3), (by exact t4), (by exact t5), (by exact t6), (by exact t7)⟩ (fun hHeld => ?_)
  refine with_tabW R17.tab59 R17.bits59 (fun HT_ HW_ => ?_)
  refine pure_ (i := 1) (N := some 226) (v := ?_) (a' := ?_) #[false, true, false, false, false, false, false] rfl rfl (any_of HT_.out (by kernel_rfl)) (fun _ _ _ h => hp _ _ _ _ _ h) (Or.inl ⟨by rfl, ?_⟩) ?_ ?_
  rotate_left
  · intro w'
    go_simp
    with_reducible rfl
  rotate_left
  · simp only [Act.put, List.setIfInBounds_toArray, List.set_cons_zero, List.set_cons_succ, i64_w, i32_w]
    rfl
  refine pure_ (i := 3) (N := some 228) (v := ?_) (a' := ?_) #[false, true, false, true, false, false, false] rfl rfl (any_of HT_.out (by kernel_rfl)) (fun _ _ _ h => hp _ _ _ _ _ h) (Or.inl ⟨by rfl, ?_⟩) ?_ ?_
  rotate_left
  · intro w'
    go_simp
    with_reducible rfl
  rotate_left
  · simp only [Act.put, List.setIfInBounds_toArray, List.set_cons_zero, List.set_cons_succ, i64_w, i32_w]
    rfl
  refine take_ (i := 0) (N := some 225) (v := ?_) (a' := ?_) #[true, true, false, true, false, false, false] rfl rfl (take_ofW HT_.out HW_.out (by kernel_rfl)) (fun _ _ _ h => hp _ _ _ _ _ h) (Or.inl ⟨by rfl, ?_⟩) hHeld ?_ ?_
  rotate_left
  · rintro w' ⟨s0, s1, s2, s3, s4, s5, s6, s7⟩
    go_simp
    with_reducible rfl
  rotate_left
  · simp only [Act.put, List.setIfInBounds_toArray, List.set_cons_zero, List.set_cons_succ, i64_w, i32_w]
    rfl
  refine one_ (i := 2) (N := some 227) #[true, true, true, true, false, false, false] rfl rfl (one_of HT_.out (by kernel_rfl)) (by decide) (fun K hK => ?_)
  refine goes_ Tryz.func40 (by kernel_rfl) rfl #[.slice A1 q c1] (by rfl) rfl rfl (by simp only [List.map_toArray, List.map_cons, List.map_nil]; rfl) ?_
  with_reducible refine (HOWN.out _ (bdrew HB2.out)).mono ?_
  rintro e w3 ⟨A3, c3, rfl, hs3, hn3, hb3⟩
  refine ⟨_, rfl, ?_⟩
  have hblk3 := (hb3.block w.heap.size (by have := hlt2; exact this)).trans hblk2
  have hlt3 : w.heap.size < w3.heap.size := (Array.getElem?_eq_some_iff.1 hblk3).1
  obtain ⟨u0, u1, u2, u3, u4, u5, u6, u7, z0, z1, z2, z3, z4, z5, z6, z7⟩ := cells8 hblk3
  refine hK.out _ _ ⟨((hb3.cell (World.block_lt_of_cell? _ _ hHeld.1)).trans hHeld.1), ((hb3.cell (World.block_lt_of_cell? _ _ hHeld.2.1)).trans hHeld.2.1), ((hb3.cell (World.block_lt_of_cell? _ _ hHeld.2.2.1)).trans hHeld.2.2.1), ((hb3.cell (World.block_lt_of_cell? _ _ hHeld.2.2.2.1)).trans hHeld.2.2.2.1), ((hb3.cell (World.block_lt_of_cell? _ _ hHeld.2.2.2.2.1)).trans hHeld.2.2.2.2.1), ((hb3.cell (World.block_lt_of_cell? _ _ hHeld.2.2.2.2.2.1)).trans hHeld.2.2.2.2.2.1), ((hb3.cell (World.block_lt_of_cell? _ _ hHeld.2.2.2.2.2.2.1)).trans hHeld.2.2.2.2.2.2.1), ((hb3.cell (World.block_lt_of_cell? _ _ hHeld.2.2.2.2.2.2.2)).trans hHeld.2.2.2.2.2.2.2)⟩ (fun hHeld => ?_)
  clear hK K
  refine norm_ (a' := ?_) ?_ ?_
  rotate_left
  · show Act.put _ (some 227) _ = _
    simp only [Act.put, List.setIfInBounds_toArray, List.set_cons_zero, List.set_cons_succ, i64_w, i32_w]
    rfl
  refine last_ (i := 4) (N := none) #[true, true, true, true, true, false, false] rfl rfl (one_of HT_.out (by kernel_rfl)) (by decide) (fun K hK => ?_)
  refine skip_ (w1 := ?_) (by rfl) rfl ?_ ?_
  rotate_left
  · go_simp
    rfl
  refine hK.out _ _ ?_
  clear hK K
  refine pure_ (i := 5) (N := some 5) (v := ?_) (a' := ?_) #[true, true, true, true, true, true, false] rfl rfl (any_of HT_.out (by kernel_rfl)) (fun _ _ _ h => hp _ _ _ _ _ h) (Or.inl ⟨by rfl, ?_⟩) ?_ ?_
  rotate_left
  · intro w'
    go_simp
    with_reducible rfl
  rotate_left
  · simp only [Act.put, List.setIfInBounds_toArray, List.set_cons_zero, List.set_cons_succ, i64_w, i32_w]
    rfl
  refine pure_ (i := 6) (N := some 6) (v := ?_) (a' := ?_) #[true, true, true, true, true, true, true] rfl rfl (any_of HT_.out (by kernel_rfl)) (fun _ _ _ h => hp _ _ _ _ _ h) (Or.inl ⟨by rfl, ?_⟩) ?_ ?_
  rotate_left
  · intro w'
    go_simp
    with_reducible rfl
  rotate_left
  · simp only [Act.put, List.setIfInBounds_toArray, List.set_cons_zero, List.set_cons_succ, i64_w, i32_w]
    rfl
  refine done_ (done_of HT_.out (by kernel_rfl)) ?_
  have hA3 : ∀ a, A3 = some a → a.block ≠ w.heap.size := fun a ha => by have h := hn3 a ha; have h3 : W.heap.size ≤ a.block := h; omega
  refine HK.out A3 c3 _ (set8 w3 w.heap.size _ _ _ _ _ _ _ _ _ hblk3) ?_ ?_ ?_
  · (iterate 8 (refine bsR _ ?_))
    exact bthen HB2.out (bleft hb3)
  · (iterate 8 (refine SB.far ?_ hA3 _))
    exact hs3
  · intro A5 c5 bb h1 h2
    (iterate 8 (refine SB.far ?_ h2 _))
    exact h1.keep (bleft hb3)
set_option maxHeartbeats 8000000 in
theorem rd_2_ok (A : Option Addr) (c : Nat) (l : List UInt8) (w : World) (hs : SB w A c l) (hl : l.length ≤ 5000) (n : Nat) (hr : readLen l = ((n : Int) + 1, true)) (hle : n + 5 ≤ l.length) : RdOk 2 l ⟨((l.drop 4).take n).toArray⟩ ⟨#[]⟩ 0 0 0 [] (l.drop (n + 5)) A c w := by
  unfold RdOk
  obtain ⟨rr, hrr⟩ : ∃ x, x = l.drop (n + 5) := ⟨_, rfl⟩
  have hrl : rr.length ≤ 5000 := by rw [hrr, List.length_drop]; omega
  rw [← hrr]
  have HX : Hid (∀ wx, Below w.heap.size w wx → Calls Tryz.prog 47 #[.slice A l.length c] wx fun e w' => ∃ A1 c1, e = .returned (.tuple #[.string ⟨((l.drop 4).take n).toArray⟩, .slice A1 rr.length c1, .bool true]) ∧ Sm A c l A1 c1 rr ∧ Below wx.heap.size wx w') := Lib.hid fun wx hb => by
    refine (wrapReadString ((str_ok A c l n wx (hs.keep hb) hl hr hle).mono (?_ : ∀ (e : Ending) (w' : World), _ → ∃ x y z : Value, e = .returned (.tuple #[x, y, z]) ∧ ((∃ A1 c1, x = .string ⟨((l.drop 4).take n).toArray⟩ ∧ y = .slice A1 rr.length c1 ∧ z = .bool true ∧ Sm A c l A1 c1 rr) ∧ Below wx.heap.size wx w')))).mono ?_
    · rintro e w' ⟨A1, c1, rfl, h1, h2⟩
      exact ⟨_, _, _, rfl, ⟨A1, c1, rfl, by rw [hrr, List.length_drop], rfl, by rw [hrr]; exact h1⟩, h2⟩
    · rintro e w' ⟨x, y, z, rfl, ⟨A1, c1, rfl, rfl, rfl, h1⟩, h2⟩
      exact ⟨A1, c1, rfl, h1, h2⟩
  have HOWN := Lib.hid (fun A1 c1 wx (h : SB wx A1 c1 rr) => ownF A1 c1 rr wx h hrl)
  have HS := Lib.hid hs
  obtain ⟨p, hp⟩ : ∃ p, p = l.length := ⟨_, rfl⟩
  obtain ⟨q, hq⟩ : ∃ p, p = rr.length := ⟨_, rfl⟩
  obtain ⟨Z, hZ⟩ : ∃ z : ByteArray, z = ⟨((l.drop 4).take n).toArray⟩ := ⟨_, rfl⟩
  rw [← hZ] at HX ⊢
  rw [← hp, ← hq] at HX
  rw [← hq] at HOWN
  rw [← hp, ← hq]
  clear hs hl hrl hp hq hr hle hrr hZ
  go_enter Tryz.func17, Tryz.ntmps17
  go_wp2_with fail
  refine (HX.out _ (balloc (Below.refl _ _) (Nat.le_refl _) _)).mono ?_
  rintro e w1 ⟨A1, c1, rfl, hsm, hb⟩
  have hbx : Below (w.heap.size + 1) (w.alloc (.cells #[.int .i64 2, .string ⟨#[]⟩, .string ⟨#[]⟩, .int .i64 0, .int .u64 0, .int .u64 0, .slice none 0 0, .slice none 0 0] 27)) w1 := by simpa using hb
  have HBX := Lib.hid hbx
  have HSR := Lib.hid hsm
  have hz1 := boxs hbx
  have HB1 := Lib.hid (boxb hbx)
  have hblk1 : w1.heap[w.heap.size]? = some (.cells #[.int .i64 2, .string ⟨#[]⟩, .string ⟨#[]⟩, .int .i64 0, .int .u64 0, .int .u64 0, .slice none 0 0, .slice none 0 0] 27 (0, 0)) := by rw [HBX.out.block w.heap.size (by omega)]; exact heap_alloc_new w _
  obtain ⟨q0, q1, q2, q3, q4, q5, q6, q7, f0, f1, f2, f3, f4, f5, f6, f7⟩ := cells8 hblk1
  have hlt1 : w.heap.size < w1.heap.size := by omega
  clear hb hbx hsm HX
  go_wp2_with fail
  refine tail59 w _ 2 0 0 0 Z ⟨#[]⟩ none 0 0 A1 c1 q true _ (fun _ _ _ _ _ h => h) ?h1 ?h2 (fun wx hb => HOWN.out _ _ wx (HSR.out _ (HS.out.keep hb))) ?_
  case h1 => (refine Eq.trans (heap_setCell_same _ _ _ _ _ _ hblk1) ?_; first | rfl | simp)
  case h2 => (iterate 1 (refine bsR _ ?_)); exact HB1.out
  intro A3 c3 w9 hblk9 hb9 hs9 hx9
  obtain ⟨u0, u1, u2, u3, u4, u5, u6, u7, -⟩ := cells8 hblk9
  have hlt9 : w.heap.size < w9.heap.size := (Array.getElem?_eq_some_iff.1 hblk9).1
  go_wp2_with fail
  exact bodyPost_ret (v := .tuple #[.agg #[.int .i64 2, .string Z, .string ⟨#[]⟩, .int .i64 0, .int .u64 0, .int .u64 0, .slice none 0 0, .slice none 0 0], .slice A3 q c3, .bool true]) (by simp [results, Tryz.results17, go_sem, u0, u1, u2, u3, u4, u5, u6, u7, hlt9]) rfl ⟨⟨none, 0, A3, c3, rfl, SB.nil _, hs9⟩, hb9⟩
set_option maxHeartbeats 8000000 in
theorem rd_2_no (A : Option Addr) (c : Nat) (l : List UInt8) (w : World) (hs : SB w A c l) (hl : l.length ≤ 5000) (h : (readLen l).2 = false ∨ (l.length : Int) < (readLen l).1 + 4 ∨ (readLen l).1 = 0) : RdNo 2 l A c w := by
  unfold RdNo
  have HX : Hid (∀ wx, Below w.heap.size w wx → Calls Tryz.prog 47 #[.slice A l.length c] wx fun e w' => ∃ A1 c1, e = .returned (.tuple #[.string ⟨#[]⟩, .slice A1 l.length c1, .bool false]) ∧ Sm A c l A1 c1 l ∧ Below wx.heap.size wx w') := Lib.hid fun wx hb => by
    refine (wrapReadString ((str_no A c l wx (hs.keep hb) hl h).mono (?_ : ∀ (e : Ending) (w' : World), _ → ∃ x y z : Value, e = .returned (.tuple #[x, y, z]) ∧ (x = .string ⟨#[]⟩ ∧ y = .slice A l.length c ∧ z = .bool false ∧ Below wx.heap.size wx w')))).mono ?_
    · rintro e w' ⟨rfl, h2⟩
      exact ⟨_, _, _, rfl, rfl, rfl, rfl, h2⟩
    · rintro e w' ⟨x, y, z, rfl, rfl, rfl, rfl, h2⟩
      exact ⟨A, c, rfl, fun wy h => h, h2⟩
  have HOWN := Lib.hid (fun A1 c1 wx (h : SB wx A1 c1 l) => ownF A1 c1 l wx h hl)
  have HS := Lib.hid hs
  obtain ⟨p, hp⟩ : ∃ p, p = l.length := ⟨_, rfl⟩
  rw [← hp] at HX HOWN ⊢
  clear hs hl hp h
  go_enter Tryz.func17, Tryz.ntmps17
  go_wp2_with fail
  refine (HX.out _ (balloc (Below.refl _ _) (Nat.le_refl _) _)).mono ?_
  rintro e w1 ⟨A1, c1, rfl, hsm, hb⟩
  have hbx : Below (w.heap.size + 1) (w.alloc (.cells #[.int .i64 2, .string ⟨#[]⟩, .string ⟨#[]⟩, .int .i64 0, .int .u64 0, .int .u64 0, .slice none 0 0, .slice none 0 0] 27)) w1 := by simpa using hb
  have HBX := Lib.hid hbx
  have HSR := Lib.hid hsm
  have hz1 := boxs hbx
  have HB1 := Lib.hid (boxb hbx)
  have hblk1 : w1.heap[w.heap.size]? = some (.cells #[.int .i64 2, .string ⟨#[]⟩, .string ⟨#[]⟩, .int .i64 0, .int .u64 0, .int .u64 0, .slice none 0 0, .slice none 0 0] 27 (0, 0)) := by rw [HBX.out.block w.heap.size (by omega)]; exact heap_alloc_new w _
  obtain ⟨q0, q1, q2, q3, q4, q5, q6, q7, f0, f1, f2, f3, f4, f5, f6, f7⟩ := cells8 hblk1
  have hlt1 : w.heap.size < w1.heap.size := by omega
  clear hb hbx hsm HX
  go_wp2_with fail
  refine tail59 w _ 0 0 0 0 ⟨#[]⟩ ⟨#[]⟩ none 0 0 A1 c1 p false _ (fun _ _ _ _ _ h => h) ?h1 ?h2 (fun wx hb => HOWN.out _ _ wx (HSR.out _ (HS.out.keep hb))) ?_
  case h1 => (refine Eq.trans (heap_setCell_same _ _ _ _ _ _ (heap_setCell_same _ _ _ _ _ _ (heap_setCell_same _ _ _ _ _ _ (heap_setCell_same _ _ _ _ _ _ (heap_setCell_same _ _ _ _ _ _ (heap_setCell_same _ _ _ _ _ _ (heap_setCell_same _ _ _ _ _ _ (heap_setCell_same _ _ _ _ _ _ (heap_setCell_same _ _ _ _ _ _ hblk1))))))))) ?_; first | rfl | simp)
  case h2 => (iterate 9 (refine bsR _ ?_)); exact HB1.out
  intro A3 c3 w9 hblk9 hb9 hs9 hx9
  obtain ⟨u0, u1, u2, u3, u4, u5, u6, u7, -⟩ := cells8 hblk9
  have hlt9 : w.heap.size < w9.heap.size := (Array.getElem?_eq_some_iff.1 hblk9).1
  go_wp2_with fail
  exact bodyPost_ret (v := .tuple #[.agg #[.int .i64 0, .string ⟨#[]⟩, .string ⟨#[]⟩, .int .i64 0, .int .u64 0, .int .u64 0, .slice none 0 0, .slice none 0 0], .slice A3 p c3, .bool false]) (by simp [results, Tryz.results17, go_sem, u0, u1, u2, u3, u4, u5, u6, u7, hlt9]) rfl ⟨⟨A3, c3, rfl, hs9⟩, hb9⟩
set_option maxHeartbeats 8000000 in
theorem rd_13_ok (A : Option Addr) (c : Nat) (l : List UInt8) (w : World) (hs : SB w A c l) (hl : l.length ≤ 5000) (n : Nat) (hr : readLen l = ((n : Int) + 1, true)) (hle : n + 5 ≤ l.length) : RdOk 13 l ⟨((l.drop 4).take n).toArray⟩ ⟨#[]⟩ 0 0 0 [] (l.drop (n + 5)) A c w := by
  unfold RdOk
  obtain ⟨rr, hrr⟩ : ∃ x, x = l.drop (n + 5) := ⟨_, rfl⟩
  have hrl : rr.length ≤ 5000 := by rw [hrr, List.length_drop]; omega
  rw [← hrr]
  have HX : Hid (∀ wx, Below w.heap.size w wx → Calls Tryz.prog 57 #[.slice A l.length c] wx fun e w' => ∃ A1 c1, e = .returned (.tuple #[.string ⟨((l.drop 4).take n).toArray⟩, .slice A1 rr.length c1, .bool true]) ∧ Sm A c l A1 c1 rr ∧ Below wx.heap.size wx w') := Lib.hid fun wx hb => by
    refine (wrapReadJavaScript ((str_ok A c l n wx (hs.keep hb) hl hr hle).mono (?_ : ∀ (e : Ending) (w' : World), _ → ∃ x y z : Value, e = .returned (.tuple #[x, y, z]) ∧ ((∃ A1 c1, x = .string ⟨((l.drop 4).take n).toArray⟩ ∧ y = .slice A1 rr.length c1 ∧ z = .bool true ∧ Sm A c l A1 c1 rr) ∧ Below wx.heap.size wx w')))).mono ?_
    · rintro e w' ⟨A1, c1, rfl, h1, h2⟩
      exact ⟨_, _, _, rfl, ⟨A1, c1, rfl, by rw [hrr, List.length_drop], rfl, by rw [hrr]; exact h1⟩, h2⟩
    · rintro e w' ⟨x, y, z, rfl, ⟨A1, c1, rfl, rfl, rfl, h1⟩, h2⟩
      exact ⟨A1, c1, rfl, h1, h2⟩
  have HOWN := Lib.hid (fun A1 c1 wx (h : SB wx A1 c1 rr) => ownF A1 c1 rr wx h hrl)
  have HS := Lib.hid hs
  obtain ⟨p, hp⟩ : ∃ p, p = l.length := ⟨_, rfl⟩
  obtain ⟨q, hq⟩ : ∃ p, p = rr.length := ⟨_, rfl⟩
  obtain ⟨Z, hZ⟩ : ∃ z : ByteArray, z = ⟨((l.drop 4).take n).toArray⟩ := ⟨_, rfl⟩
  rw [← hZ] at HX ⊢
  rw [← hp, ← hq] at HX
  rw [← hq] at HOWN
  rw [← hp, ← hq]
  clear hs hl hrl hp hq hr hle hrr hZ
  go_enter Tryz.func17, Tryz.ntmps17
  go_wp2_with fail
  refine (HX.out _ (balloc (Below.refl _ _) (Nat.le_refl _) _)).mono ?_
  rintro e w1 ⟨A1, c1, rfl, hsm, hb⟩
  have hbx : Below (w.heap.size + 1) (w.alloc (.cells #[.int .i64 13, .string ⟨#[]⟩, .string ⟨#[]⟩, .int .i64 0, .int .u64 0, .int .u64 0, .slice none 0 0, .slice none 0 0] 27)) w1 := by simpa using hb
  have HBX := Lib.hid hbx
  have HSR := Lib.hid hsm
  have hz1 := boxs hbx
  have HB1 := Lib.hid (boxb hbx)
  have hblk1 : w1.heap[w.heap.size]? = some (.cells #[.int .i64 13, .string ⟨#[]⟩, .string ⟨#[]⟩, .int .i64 0, .int .u64 0, .int .u64 0, .slice none 0 0, .slice none 0 0] 27 (0, 0)) := by rw [HBX.out.block w.heap.size (by omega)]; exact heap_alloc_new w _
  obtain ⟨q0, q1, q2, q3, q4, q5, q6, q7, f0, f1, f2, f3, f4, f5, f6, f7⟩ := cells8 hblk1
  have hlt1 : w.heap.size < w1.heap.size := by omega
  clear hb hbx hsm HX
  go_wp2_with fail
  refine tail59 w _ 13 0 0 0 Z ⟨#[]⟩ none 0 0 A1 c1 q true _ (fun _ _ _ _ _ h => h) ?h1 ?h2 (fun wx hb => HOWN.out _ _ wx (HSR.out _ (HS.out.keep hb))) ?_
  case h1 => (refine Eq.trans (heap_setCell_same _ _ _ _ _ _ hblk1) ?_; first | rfl | simp)
  case h2 => (iterate 1 (refine bsR _ ?_)); exact HB1.out
  intro A3 c3 w9 hblk9 hb9 hs9 hx9
  obtain ⟨u0, u1, u2, u3, u4, u5, u6, u7, -⟩ := cells8 hblk9
  have hlt9 : w.heap.size < w9.heap.size := (Array.getElem?_eq_some_iff.1 hblk9).1
  go_wp2_with fail
  exact bodyPost_ret (v := .tuple #[.agg #[.int .i64 13, .string Z, .string ⟨#[]⟩, .int .i64 0, .int .u64 0, .int .u64 0, .slice none 0 0, .slice none 0 0], .slice A3 q c3, .bool true]) (by simp [results, Tryz.results17, go_sem, u0, u1, u2, u3, u4, u5, u6, u7, hlt9]) rfl ⟨⟨none, 0, A3, c3, rfl, SB.nil _, hs9⟩, hb9⟩
set_option maxHeartbeats 8000000 in
theorem rd_13_no (A : Option Addr) (c : Nat) (l : List UInt8) (w : World) (hs : SB w A c l) (hl : l.length ≤ 5000) (h : (readLen l).2 = false ∨ (l.length : Int) < (readLen l).1 + 4 ∨ (readLen l).1 = 0) : RdNo 13 l A c w := by
  unfold RdNo
  have HX : Hid (∀ wx, Below w.heap.size w wx → Calls Tryz.prog 57 #[.slice A l.length c] wx fun e w' => ∃ A1 c1, e = .returned (.tuple #[.string ⟨#[]⟩, .slice A1 l.length c1, .bool false]) ∧ Sm A c l A1 c1 l ∧ Below wx.heap.size wx w') := Lib.hid fun wx hb => by
    refine (wrapReadJavaScript ((str_no A c l wx (hs.keep hb) hl h).mono (?_ : ∀ (e : Ending) (w' : World), _ → ∃ x y z : Value, e = .returned (.tuple #[x, y, z]) ∧ (x = .string ⟨#[]⟩ ∧ y = .slice A l.length c ∧ z = .bool false ∧ Below wx.heap.size wx w')))).mono ?_
    · rintro e w' ⟨rfl, h2⟩
      exact ⟨_, _, _, rfl, rfl, rfl, rfl, h2⟩
    · rintro e w' ⟨x, y, z, rfl, rfl, rfl, rfl, h2⟩
      exact ⟨A, c, rfl, fun wy h => h, h2⟩
  have HOWN := Lib.hid (fun A1 c1 wx (h : SB wx A1 c1 l) => ownF A1 c1 l wx h hl)
  have HS := Lib.hid hs
  obtain ⟨p, hp⟩ : ∃ p, p = l.length := ⟨_, rfl⟩
  rw [← hp] at HX HOWN ⊢
  clear hs hl hp h
  go_enter Tryz.func17, Tryz.ntmps17
  go_wp2_with fail
  refine (HX.out _ (balloc (Below.refl _ _) (Nat.le_refl _) _)).mono ?_
  rintro e w1 ⟨A1, c1, rfl, hsm, hb⟩
  have hbx : Below (w.heap.size + 1) (w.alloc (.cells #[.int .i64 13, .string ⟨#[]⟩, .string ⟨#[]⟩, .int .i64 0, .int .u64 0, .int .u64 0, .slice none 0 0, .slice none 0 0] 27)) w1 := by simpa using hb
  have HBX := Lib.hid hbx
  have HSR := Lib.hid hsm
  have hz1 := boxs hbx
  have HB1 := Lib.hid (boxb hbx)
  have hblk1 : w1.heap[w.heap.size]? = some (.cells #[.int .i64 13, .string ⟨#[]⟩, .string ⟨#[]⟩, .int .i64 0, .int .u64 0, .int .u64 0, .slice none 0 0, .slice none 0 0] 27 (0, 0)) := by rw [HBX.out.block w.heap.size (by omega)]; exact heap_alloc_new w _
  obtain ⟨q0, q1, q2, q3, q4, q5, q6, q7, f0, f1, f2, f3, f4, f5, f6, f7⟩ := cells8 hblk1
  have hlt1 : w.heap.size < w1.heap.size := by omega
  clear hb hbx hsm HX
  go_wp2_with fail
  refine tail59 w _ 0 0 0 0 ⟨#[]⟩ ⟨#[]⟩ none 0 0 A1 c1 p false _ (fun _ _ _ _ _ h => h) ?h1 ?h2 (fun wx hb => HOWN.out _ _ wx (HSR.out _ (HS.out.keep hb))) ?_
  case h1 => (refine Eq.trans (heap_setCell_same _ _ _ _ _ _ (heap_setCell_same _ _ _ _ _ _ (heap_setCell_same _ _ _ _ _ _ (heap_setCell_same _ _ _ _ _ _ (heap_setCell_same _ _ _ _ _ _ (heap_setCell_same _ _ _ _ _ _ (heap_setCell_same _ _ _ _ _ _ (heap_setCell_same _ _ _ _ _ _ (heap_setCell_same _ _ _ _ _ _ hblk1))))))))) ?_; first | rfl | simp)
  case h2 => (iterate 9 (refine bsR _ ?_)); exact HB1.out
  intro A3 c3 w9 hblk9 hb9 hs9 hx9
  obtain ⟨u0, u1, u2, u3, u4, u5, u6, u7, -⟩ := cells8 hblk9
  have hlt9 : w.heap.size < w9.heap.size := (Array.getElem?_eq_some_iff.1 hblk9).1
  go_wp2_with fail
  exact bodyPost_ret (v := .tuple #[.agg #[.int .i64 0, .string ⟨#[]⟩, .string ⟨#[]⟩, .int .i64 0, .int .u64 0, .int .u64 0, .slice none 0 0, .slice none 0 0], .slice A3 p c3, .bool false]) (by simp [results, Tryz.results17, go_sem, u0, u1, u2, u3, u4, u5, u6, u7, hlt9]) rfl ⟨⟨A3, c3, rfl, hs9⟩, hb9⟩
set_option maxHeartbeats 8000000 in
theorem rd_14_ok (A : Option Addr) (c : Nat) (l : List UInt8) (w : World) (hs : SB w A c l) (hl : l.length ≤ 5000) (n : Nat) (hr : readLen l = ((n : Int) + 1, true)) (hle : n + 5 ≤ l.length) : RdOk 14 l ⟨((l.drop 4).take n).toArray⟩ ⟨#[]⟩ 0 0 0 [] (l.drop (n + 5)) A c w := by
  unfold RdOk
  obtain ⟨rr, hrr⟩ : ∃ x, x = l.drop (n + 5) := ⟨_, rfl⟩
  have hrl : rr.length ≤ 5000 := by rw [hrr, List.length_drop]; omega
  rw [← hrr]
  have HX : Hid (∀ wx, Below w.heap.size w wx → Calls Tryz.prog 58 #[.slice A l.length c] wx fun e w' => ∃ A1 c1, e = .returned (.tuple #[.string ⟨((l.drop 4).take n).toArray⟩, .slice A1 rr.length c1, .bool true]) ∧ Sm A c l A1 c1 rr ∧ Below wx.heap.size wx w') := Lib.hid fun wx hb => by
    refine (wrapReadSymbol ((str_ok A c l n wx (hs.keep hb) hl hr hle).mono (?_ : ∀ (e : Ending) (w' : World), _ → ∃ x y z : Value, e = .returned (.tuple #[x, y, z]) ∧ ((∃ A1 c1, x = .string ⟨((l.drop 4).take n).toArray⟩ ∧ y = .slice A1 rr.length c1 ∧ z = .bool true ∧ Sm A c l A1 c1 rr) ∧ Below wx.heap.size wx w')))).mono ?_
    · rintro e w' ⟨A1, c1, rfl, h1, h2⟩
      exact ⟨_, _, _, rfl, ⟨A1, c1, rfl, by rw [hrr, List.length_drop], rfl, by rw [hrr]; exact h1⟩, h2⟩
    · rintro e w' ⟨x, y, z, rfl, ⟨A1, c1, rfl, rfl, rfl, h1⟩, h2⟩
      exact ⟨A1, c1, rfl, h1, h2⟩
  have HOWN := Lib.hid (fun A1 c1 wx (h : SB wx A1 c1 rr) => ownF A1 c1 rr wx h hrl)
  have HS := Lib.hid hs
  obtain ⟨p, hp⟩ : ∃ p, p = l.length := ⟨_, rfl⟩
  obtain ⟨q, hq⟩ : ∃ p, p = rr.length := ⟨_, rfl⟩
  obtain ⟨Z, hZ⟩ : ∃ z : ByteArray, z = ⟨((l.drop 4).take n).toArray⟩ := ⟨_, rfl⟩
  rw [← hZ] at HX ⊢
  rw [← hp, ← hq] at HX
  rw [← hq] at HOWN
  rw [← hp, ← hq]
  clear hs hl hrl hp hq hr hle hrr hZ
  go_enter Tryz.func17, Tryz.ntmps17
  go_wp2_with fail
  refine (HX.out _ (balloc (Below.refl _ _) (Nat.le_refl _) _)).mono ?_
  rintro e w1 ⟨A1, c1, rfl, hsm, hb⟩
  have hbx : Below (w.heap.size + 1) (w.alloc (.cells #[.int .i64 14, .string ⟨#[]⟩, .string ⟨#[]⟩, .int .i64 0, .int .u64 0, .int .u64 0, .slice none 0 0, .slice none 0 0] 27)) w1 := by simpa using hb
  have HBX := Lib.hid hbx
  have HSR := Lib.hid hsm
  have hz1 := boxs hbx
  have HB1 := Lib.hid (boxb hbx)
  have hblk1 : w1.heap[w.heap.size]? = some (.cells #[.int .i64 14, .string ⟨#[]⟩, .string ⟨#[]⟩, .int .i64 0, .int .u64 0, .int .u64 0, .slice none 0 0, .slice none 0 0] 27 (0, 0)) := by rw [HBX.out.block w.heap.size (by omega)]; exact heap_alloc_new w _
  obtain ⟨q0, q1, q2, q3, q4, q5, q6, q7, f0, f1, f2, f3, f4, f5, f6, f7⟩ := cells8 hblk1
  have hlt1 : w.heap.size < w1.heap.size := by omega
  clear hb hbx hsm HX
  go_wp2_with fail
  refine tail59 w _ 14 0 0 0 Z ⟨#[]⟩ none 0 0 A1 c1 q true _ (fun _ _ _ _ _ h => h) ?h1 ?h2 (fun wx hb => HOWN.out _ _ wx (HSR.out _ (HS.out.keep hb))) ?_
  case h1 => (refine Eq.trans (heap_setCell_same _ _ _ _ _ _ hblk1) ?_; first | rfl | simp)
  case h2 => (iterate 1 (refine bsR _ ?_)); exact HB1.out
  intro A3 c3 w9 hblk9 hb9 hs9 hx9
  obtain ⟨u0, u1, u2, u3, u4, u5, u6, u7, -⟩ := cells8 hblk9
  have hlt9 : w.heap.size < w9.heap.size := (Array.getElem?_eq_some_iff.1 hblk9).1
  go_wp2_with fail
  exact bodyPost_ret (v := .tuple #[.agg #[.int .i64 14, .string Z, .string ⟨#[]⟩, .int .i64 0, .int .u64 0, .int .u64 0, .slice none 0 0, .slice none 0 0], .slice A3 q c3, .bool true]) (by simp [results, Tryz.results17, go_sem, u0, u1, u2, u3, u4, u5, u6, u7, hlt9]) rfl ⟨⟨none, 0, A3, c3, rfl, SB.nil _, hs9⟩, hb9⟩
set_option maxHeartbeats 8000000 in
theorem rd_14_no (A : Option Addr) (c : Nat) (l : List UInt8) (w : World) (hs : SB w A c l) (hl : l.length ≤ 5000) (h : (readLen l).2 = false ∨ (l.length : Int) < (readLen l).1 + 4 ∨ (readLen l).1 = 0) : RdNo 14 l A c w := by
  unfold RdNo
  have HX : Hid (∀ wx, Below w.heap.size w wx → Calls Tryz.prog 58 #[.slice A l.length c] wx fun e w' => ∃ A1 c1, e = .returned (.tuple #[.string ⟨#[]⟩, .slice A1 l.length c1, .bool false]) ∧ Sm A c l A1 c1 l ∧ Below wx.heap.size wx w') := Lib.hid fun wx hb => by
    refine (wrapReadSymbol ((str_no A c l wx (hs.keep hb) hl h).mono (?_ : ∀ (e : Ending) (w' : World), _ → ∃ x y z : Value, e = .returned (.tuple #[x, y, z]) ∧ (x = .string ⟨#[]⟩ ∧ y = .slice A l.length c ∧ z = .bool false ∧ Below wx.heap.size wx w')))).mono ?_
    · rintro e w' ⟨rfl, h2⟩
      exact ⟨_, _, _, rfl, rfl, rfl, rfl, h2⟩
    · rintro e w' ⟨x, y, z, rfl, rfl, rfl, rfl, h2⟩
      exact ⟨A, c, rfl, fun wy h => h, h2⟩
  have HOWN := Lib.hid (fun A1 c1 wx (h : SB wx A1 c1 l) => ownF A1 c1 l wx h hl)
  have HS := Lib.hid hs
  obtain ⟨p, hp⟩ : ∃ p, p = l.length := ⟨_, rfl⟩
  rw [← hp] at HX HOWN ⊢
  clear hs hl hp h
  go_enter Tryz.func17, Tryz.ntmps17
  go_wp2_with fail
  refine (HX.out _ (balloc (Below.refl _ _) (Nat.le_refl _) _)).mono ?_
  rintro e w1 ⟨A1, c1, rfl, hsm, hb⟩
  have hbx : Below (w.heap.size + 1) (w.alloc (.cells #[.int .i64 14, .string ⟨#[]⟩, .string ⟨#[]⟩, .int .i64 0, .int .u64 0, .int .u64 0, .slice none 0 0, .slice none 0 0] 27)) w1 := by simpa using hb
  have HBX := Lib.hid hbx
  have HSR := Lib.hid hsm
  have hz1 := boxs hbx
  have HB1 := Lib.hid (boxb hbx)
  have hblk1 : w1.heap[w.heap.size]? = some (.cells #[.int .i64 14, .string ⟨#[]⟩, .string ⟨#[]⟩, .int .i64 0, .int .u64 0, .int .u64 0, .slice none 0 0, .slice none 0 0] 27 (0, 0)) := by rw [HBX.out.block w.heap.size (by omega)]; exact heap_alloc_new w _
  obtain ⟨q0, q1, q2, q3, q4, q5, q6, q7, f0, f1, f2, f3, f4, f5, f6, f7⟩ := cells8 hblk1
  have hlt1 : w.heap.size < w1.heap.size := by omega
  clear hb hbx hsm HX
  go_wp2_with fail
  refine tail59 w _ 0 0 0 0 ⟨#[]⟩ ⟨#[]⟩ none 0 0 A1 c1 p false _ (fun _ _ _ _ _ h => h) ?h1 ?h2 (fun wx hb => HOWN.out _ _ wx (HSR.out _ (HS.out.keep hb))) ?_
  case h1 => (refine Eq.trans (heap_setCell_same _ _ _ _ _ _ (heap_setCell_same _ _ _ _ _ _ (heap_setCell_same _ _ _ _ _ _ (heap_setCell_same _ _ _ _ _ _ (heap_setCell_same _ _ _ _ _ _ (heap_setCell_same _ _ _ _ _ _ (heap_setCell_same _ _ _ _ _ _ (heap_setCell_same _ _ _ _ _ _ (heap_setCell_same _ _ _ _ _ _ hblk1))))))))) ?_; first | rfl | simp)
  case h2 => (iterate 9 (refine bsR _ ?_)); exact HB1.out
  intro A3 c3 w9 hblk9 hb9 hs9 hx9
  obtain ⟨u0, u1, u2, u3, u4, u5, u6, u7, -⟩ := cells8 hblk9
  have hlt9 : w.heap.size < w9.heap.size := (Array.getElem?_eq_some_iff.1 hblk9).1
  go_wp2_with fail
  exact bodyPost_ret (v := .tuple #[.agg #[.int .i64 0, .string ⟨#[]⟩, .string ⟨#[]⟩, .int .i64 0, .int .u64 0, .int .u64 0, .slice none 0 0, .slice none 0 0], .slice A3 p c3, .bool false]) (by simp [results, Tryz.results17, go_sem, u0, u1, u2, u3, u4, u5, u6, u7, hlt9]) rfl ⟨⟨A3, c3, rfl, hs9⟩, hb9⟩
end Rr
end Go.Proofs.YtbpopaegfhcdpaaGreatDoor.X


