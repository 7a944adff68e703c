/- newBufferFromReader over bytes.Reader, for all bytes. -/
import Derived.Test.YtfhbnlbdmfjhlaaGreatDoorRdB
import Derived.Test.YtfhbnlbdmfjhlaaGreatDoorReadI32
import Derived.Laws.MakeOwn
import Derived.Laws.OwnMore
set_option linter.unusedVariables false
set_option linter.unusedSimpArgs false
set_option maxRecDepth 100000
namespace Go.Proofs.YtfhbnlbdmfjhlaaGreatDoor.X
open Go.RowKit
namespace Rd
theorem made_bytes (n : Nat) : (madeCells #[.int .u8 0] n).toList = byv (List.replicate n 0) := by
  rw [toList_madeCells_one]; simp [byv]
theorem run_makeN {P : Program} (t e : TypeId) (z : Value) (bytes : Nat) (ht : P.underlying t = some (.slice e)) (hinfo : (P.info? e).map (fun i => (i.zero, i.size, i.bytes)) = some (some z, 1, bytes)) (hz1 : z.cells = #[z])
    (kl kc : IntKind) (n : Nat) (hbytes : bytes * n ≤ 281474976710656) (h63 : n ≤ 9223372036854775807) (w : World) :
    (Instr.makeSlice t (.int kl (n : Int)) (.int kc (n : Int))).run P w = .ok (.slice (some ⟨w.heap.size, 0, none⟩) n n) (w.alloc (.cells (madeCells #[z] n) e)) := by
  obtain ⟨i, hi, hzz⟩ := Option.map_eq_some_iff.1 hinfo
  simp only [Prod.mk.injEq] at hzz
  obtain ⟨hz, hs, hb⟩ := hzz
  have hb' : (i.bytes : Int) * (n : Int) ≤ 281474976710656 := by
    have h : ((i.bytes * n : Nat) : Int) ≤ 281474976710656 := by rw [hb]; omega
    rwa [Int.natCast_mul] at h
  have hr := run_make (P := P) w t e i z ht hi hz kl kc n n (by omega) (by omega) hb' (by omega)
  simp only [Int.toNat_natCast, hs, Nat.mul_one, hz1] at hr
  exact hr
theorem infoM : (Tryz.prog.info? 5).map (fun i => (i.zero, i.size, i.bytes)) = some (some (.int .u8 0), 1, 1) := by kernel_rfl
theorem splice_head (a b c d : UInt8) (n : Nat) : splice (byv (List.replicate (n + 4) 0)) 0 (byv [a, b, c, d]) = byv ([a, b, c, d] ++ List.replicate n 0) := by
  simp [splice, byv]
theorem nbShort (w0 W : World) (B : Nat) (L : List UInt8) (hE : IoErrs w0) (hB : w0.heap.size ≤ B) (hb : Below w0.heap.size w0 W) (hR : Rdr w0 W B L 0) (hl : L.length < 4) :
    Calls Tryz.prog 58 #[.iface 63 (.pointer (some ⟨B, 0, none⟩))] W fun e w' => ∃ t v, e = .returned (.tuple #[.slice none 0 0, .iface t v]) ∧ Below w0.heap.size w0 w' := by
  have hBW := hR.lt
  have HV := Lib.hid (fun (wx : World) (hx : Below W.heap.size W wx) (hu : Buf wx W.heap.size 169 [0, 0, 0, 0]) => fullShort w0 wx B W.heap.size L [0, 0, 0, 0] 0 0 4 4 169 hE hB hBW (bstep hb hb.size hx) (hR.keep hx hBW) hu (by omega) (by omega) (by omega) (by simp) (by omega) (by omega))
  clear hb hR hl hBW
  go_enter Tryz.func58, Tryz.ntmps58
  go_wp2_with fail
  refine (HV.out _ (balloc (Below.refl _ _) (Nat.le_refl _) _) ?_).mono ?_
  · exact heap_alloc_new W _
  rintro e w1 ⟨n, v, rfl, hb1⟩
  have HB1 := Lib.hid hb1
  clear hb1 HV
  go_wp2_with fail
  go_ret2
  first | exact ⟨_, _, rfl, HB1.out⟩ | exact ⟨⟨_, _, rfl⟩, HB1.out⟩
theorem nbLow (w0 W : World) (B : Nat) (L R : List UInt8) (b0 b1 b2 b3 : UInt8) (hL : L = b0 :: b1 :: b2 :: b3 :: R) (hB : w0.heap.size ≤ B) (hb : Below w0.heap.size w0 W) (hR : Rdr w0 W B L 0) (hl : wrap32 (leI [b0, b1, b2, b3]) < 5) :
    Calls Tryz.prog 58 #[.iface 63 (.pointer (some ⟨B, 0, none⟩))] W fun e w' => ∃ t v, e = .returned (.tuple #[.slice none 0 0, .iface t v]) ∧ Below w0.heap.size w0 w' := by
  have hBW := hR.lt
  have HV := Lib.hid (fun (wx : World) (hx : Below W.heap.size W wx) (hu : Buf wx W.heap.size 169 [0, 0, 0, 0]) => fullOk w0 wx B W.heap.size L [0, 0, 0, 0] 0 0 4 4 169 hB hBW (bstep hb hb.size hx) (hR.keep hx hBW) hu (by omega) (by omega) (by omega) (by simp) (by rw [hL]; simp))
  have HLL := Lib.hid hL
  have i1 := hl
  obtain ⟨x, hx⟩ : ∃ x, x = wrap32 (leI [b0, b1, b2, b3]) := ⟨_, rfl⟩
  rw [← hx] at i1
  have HX := Lib.hid hx
  clear hR hl hBW hL hb hx
  go_enter Tryz.func58, Tryz.ntmps58
  go_wp2_with fail
  refine (HV.out _ (balloc (Below.refl _ _) (Nat.le_refl _) _) ?_).mono ?_
  · exact heap_alloc_new W _
  rintro e w1 ⟨rfl, hf1, hu1, hb1⟩
  have hu1 : Buf w1 W.heap.size 169 [b0, b1, b2, b3] := by rw [HLL.out] at hu1; simpa using hu1
  have hf1 : Rdr w0 w1 B L 4 := hf1
  have hs1 : SB w1 (some ⟨W.heap.size, 0, none⟩) 4 [b0, b1, b2, b3] := hu1.sb (by simp)
  have HI := Lib.hid (readI32 _ _ b0 b1 b2 b3 [] w1 hs1)
  have HF1 := Lib.hid hf1
  have HU1 := Lib.hid hu1
  have HB1 := Lib.hid hb1
  clear hf1 hu1 hb1 hs1 HV
  go_wp2_with fail
  refine HI.out.mono ?_
  rintro e w2 ⟨A1, rfl, -, hb2⟩
  rw [← HX.out]
  have HB2 := Lib.hid (HB1.out.trans (hb2.mono HB1.out.size))
  clear hb2 HI
  go_wp2_with fail
  go_ret2
  first | exact ⟨_, _, rfl, HB2.out⟩ | exact ⟨⟨_, _, rfl⟩, HB2.out⟩
theorem toNat_zero' (x : UInt8) (h : (x.toNat : Int) = 0) : x = 0 := by
  apply UInt8.toNat_inj.1
  simpa using h
set_option maxHeartbeats 1000000 in
theorem nbGood (w0 W : World) (B : Nat) (L R : List UInt8) (b0 b1 b2 b3 : UInt8) (hL : L = b0 :: b1 :: b2 :: b3 :: R) (rest more : List UInt8) (z : UInt8) (hRR : R = rest ++ z :: more) (hB : w0.heap.size ≤ B) (hb : Below w0.heap.size w0 W) (hR : Rdr w0 W B L 0) (r : Nat) (hw : wrap32 (leI [b0, b1, b2, b3]) = (r : Int) + 5) (hmax : r ≤ 2000000000) (hr : r = rest.length) (hz : z = 0) :
    Calls Tryz.prog 58 #[.iface 63 (.pointer (some ⟨B, 0, none⟩))] W fun e w' => ∃ A c, e = .returned (.tuple #[.slice A (r + 5) c, .nilIface]) ∧ SB w' A c (b0 :: b1 :: b2 :: b3 :: (rest ++ [z])) ∧ Below w0.heap.size w0 w' := by
  have hBW := hR.lt
  have HV := Lib.hid (fun (wx : World) (hx : Below W.heap.size W wx) (hu : Buf wx W.heap.size 169 [0, 0, 0, 0]) => fullOk w0 wx B W.heap.size L [0, 0, 0, 0] 0 0 4 4 169 hB hBW (bstep hb hb.size hx) (hR.keep hx hBW) hu (by omega) (by omega) (by omega) (by simp) (by rw [hL]; simp))
  have HLL := Lib.hid hL
  have HBW := Lib.hid hBW
  have HBS := Lib.hid hb.size
  have HRR := Lib.hid hRR
  have HR := Lib.hid hr
  have HZ := Lib.hid hz
  clear hR hBW hL hb hRR hr hz
  have i1 : ((r : Int) + 5 < 5) = False := eq_false (by omega)
  have i2 : wrap32 ((r : Int) + 5 - 1) = (r : Int) + 4 := by unfold wrap32; omega
  go_enter Tryz.func58, Tryz.ntmps58
  go_wp2_with fail
  refine (HV.out _ (balloc (Below.refl _ _) (Nat.le_refl _) _) ?_).mono ?_
  · exact heap_alloc_new W _
  rintro e w1 ⟨rfl, hf1, hu1, hb1⟩
  have hu1 : Buf w1 W.heap.size 169 [b0, b1, b2, b3] := by rw [HLL.out] at hu1; simpa using hu1
  have hf1 : Rdr w0 w1 B L 4 := hf1
  have hs1 : SB w1 (some ⟨W.heap.size, 0, none⟩) 4 [b0, b1, b2, b3] := hu1.sb (by simp)
  have HI := Lib.hid (readI32 _ _ b0 b1 b2 b3 [] w1 hs1)
  have HF1 := Lib.hid hf1
  have HU1 := Lib.hid hu1
  have HB1 := Lib.hid hb1
  clear hf1 hu1 hb1 hs1 HV
  go_wp2_with fail
  refine HI.out.mono ?_
  rintro e w2 ⟨A1, rfl, -, hb2⟩
  rw [hw]
  have HB2 := Lib.hid hb2
  have hmk : (Instr.makeSlice 22 (.int .i32 ((r : Int) + 5)) (.int .i32 ((r : Int) + 5))).run Tryz.prog w2 = .ok (.slice (some ⟨w2.heap.size, 0, none⟩) (r + 5) (r + 5)) (w2.alloc (.cells (madeCells #[.int .u8 0] (r + 5)) 5)) := by
    have h := run_makeN (P := Tryz.prog) 22 5 (.int .u8 0) 1 Tryz.underlying22 infoM rfl .i32 .i32 (r + 5) (by omega) (by omega) w2
    rw [show ((r + 5 : Nat) : Int) = (r : Int) + 5 from by omega] at h
    exact h
  obtain ⟨C, hC⟩ : ∃ C, C = byv [b0, b1, b2, b3] := ⟨_, rfl⟩
  have hCl : C.length = 4 := by rw [hC]; rfl
  have hU2 : Buf w2 W.heap.size 169 [b0, b1, b2, b3] := HU1.out.keep HB2.out HU1.out.lt
  have hU3 : Buf (w2.alloc (.cells (madeCells #[.int .u8 0] (r + 5)) 5)) W.heap.size 169 [b0, b1, b2, b3] := hU2.keep ((Below.refl _ _).alloc (Nat.le_refl _) _) hU2.lt
  have HSRC : Hid (∀ j v, C[j]? = some v → (w2.alloc (.cells (madeCells #[.int .u8 0] (r + 5)) 5)).cell? ((⟨W.heap.size, 0, none⟩ : Addr).add j) = some v) := Lib.hid (by rw [hC]; exact hU3.src)
  have HCN : Hid (C.length = Nat.min 4 (r + 5)) := Lib.hid (by rw [hCl]; show 4 = min 4 (r + 5); omega)
  have HFIT : Hid (0 + C.length ≤ (madeCells #[Value.int .u8 0] (r + 5)).toList.length) := Lib.hid (by rw [hCl]; simp [size_madeCells])
  have HONE : Hid (∀ v ∈ C, v.oneCell' = true) := Lib.hid (by rw [hC]; exact byv_one _)
  have HNEW : Hid ((w2.alloc (.cells (madeCells #[.int .u8 0] (r + 5)) 5)).heap[w2.heap.size]? = some (.cells (madeCells #[Value.int .u8 0] (r + 5)).toList.toArray 5 (0, 0))) := Lib.hid (by simpa using heap_alloc_new w2 (.cells (madeCells #[.int .u8 0] (r + 5)) 5))
  have HCC := Lib.hid hC
  clear hC hCl hU2 hU3
  clear hb2 HI
  go_wp2_with (first | (refine wpList_copy_splice rfl (.tmp 34) (.tmp 35) 22 22 rfl 5 Tryz.underlying22 sizeU8 (some ⟨w2.heap.size, 0, none⟩) (some ⟨W.heap.size, 0, none⟩) (r + 5) (r + 5) 4 4 rfl rfl w2.heap.size 0 (madeCells #[.int .u8 0] (r + 5)).toList 5 HNEW.out C HCN.out (fun _ => ⟨rfl, _, rfl, HSRC.out⟩) HFIT.out HONE.out w2.heap.size _ (Below.refl _ _) (Nat.le_refl _) ?_) | fail)
  intro w4 hg4 hb4
  have hbuf4 : Buf w4 w2.heap.size 5 ([b0, b1, b2, b3] ++ List.replicate (r + 1) 0) := by
    have h := hg4.out
    rw [made_bytes, HCC.out, show r + 5 = (r + 1) + 4 from by omega, splice_head] at h
    exact h
  have hb24 : Below w2.heap.size w2 w4 := (balloc (Below.refl _ _) (Nat.le_refl _) _).trans hb4
  have hf2 := HF1.out.keep HB2.out HF1.out.lt
  have hf4 := hf2.keep hb24 hf2.lt
  have z1 := HB1.out.size
  have z2 := HB2.out.size
  have hb04 : Below w0.heap.size w0 w4 := bstep (bstep HB1.out z1 HB2.out) (by omega) hb24
  have hrr := HR.out
  have hLl : 4 + (r + 1) ≤ L.length := by rw [HLL.out, HRR.out]; simp; omega
  have HV2 := Lib.hid (fullOk w0 w4 B w2.heap.size L _ 4 4 (r + 1) (r + 1) 5 hB hf2.lt hb04 hf4 hbuf4 (by omega) (Nat.le_refl _) (by omega) (by simp; omega) hLl)
  have HEND : Hid (([b0, b1, b2, b3] ++ List.replicate (r + 1) 0).take 4 ++ ((L.drop 4).take (r + 1) ++ ([b0, b1, b2, b3] ++ List.replicate (r + 1) 0).drop (4 + (r + 1))) = b0 :: b1 :: b2 :: b3 :: (rest ++ [z])) := Lib.hid (by
    have e1 : L.drop 4 = rest ++ z :: more := by rw [HLL.out, HRR.out]; rfl
    have e2 : (rest ++ z :: more).take (r + 1) = rest ++ [z] := by rw [hrr]; simp [List.take_append, List.take_of_length_le]
    have e3 : ([b0, b1, b2, b3] ++ List.replicate (r + 1) 0).drop (4 + (r + 1)) = [] := List.drop_of_length_le (by simp; omega)
    have e4 : ([b0, b1, b2, b3] ++ List.replicate (r + 1) 0).take 4 = [b0, b1, b2, b3] := by rw [List.take_append_of_le_length (by simp)]; rfl
    rw [e1, e2, e3, e4]
    simp)
  clear hbuf4 hb24 hf2 hf4 z1 z2 hb04 hrr hb4 hg4 hmk hLl
  go_wp2_with fail
  refine HV2.out.mono ?_
  rintro e w5 ⟨rfl, -, hu5, hb5⟩
  rw [HEND.out] at hu5
  have hlen5 : (b0 :: b1 :: b2 :: b3 :: (rest ++ [z])).length = r + 5 := by rw [HR.out]; simp
  have hs5 : SB w5 (some ⟨w2.heap.size, 0, none⟩) (r + 5) (b0 :: b1 :: b2 :: b3 :: (rest ++ [z])) := by
    have h := hu5.sb (by rw [hlen5]; omega)
    rw [hlen5] at h
    exact h
  have hlast : w5.cell? ⟨w2.heap.size, r + 4, none⟩ = some (.int .u8 (z.toNat : Int)) := by
    obtain ⟨b, o, e9, hc⟩ := hs5.cells (by rw [hlen5]; omega)
    obtain ⟨rfl, rfl⟩ : w2.heap.size = b ∧ 0 = o := by simpa using e9
    have h := hc (r + 4) (by rw [hlen5]; omega)
    rw [Nat.zero_add] at h
    rw [h]
    have hx : ∀ (l : List UInt8) (j : Nat) (hj : j < (b0 :: b1 :: b2 :: b3 :: (l ++ [z])).length), j = l.length + 4 → (b0 :: b1 :: b2 :: b3 :: (l ++ [z]))[j] = z := by
      intro l j hj e
      subst e
      simp
    rw [hx rest (r + 4) _ (by rw [HR.out])]
  rw [HZ.out] at hlast
  replace hlast : w5.cell? ⟨w2.heap.size, r + 4, none⟩ = some (.int .u8 0) := hlast
  have HS5 := Lib.hid hs5
  have HB5 := Lib.hid hb5
  have g1 : ((r : Int) + 4 < (r : Int) + 5) = True := eq_true (by omega)
  have g2 : ((r : Int) + 4).toNat = r + 4 := by omega
  have g3 : (0 ≤ (r : Int) + 4) = True := eq_true (by omega)
  clear hu5 hb5 hs5 hlen5 HV2
  go_wp2_with fail
  go_ret2
  exact ⟨_, _, rfl, HS5.out, HB5.out⟩
set_option maxHeartbeats 1000000 in
theorem nbLast (w0 W : World) (B : Nat) (L R : List UInt8) (b0 b1 b2 b3 : UInt8) (hL : L = b0 :: b1 :: b2 :: b3 :: R) (rest more : List UInt8) (z : UInt8) (hRR : R = rest ++ z :: more) (hB : w0.heap.size ≤ B) (hb : Below w0.heap.size w0 W) (hR : Rdr w0 W B L 0) (r : Nat) (hw : wrap32 (leI [b0, b1, b2, b3]) = (r : Int) + 5) (hmax : r ≤ 2000000000) (hr : r = rest.length) (hz : z ≠ 0) :
    Calls Tryz.prog 58 #[.iface 63 (.pointer (some ⟨B, 0, none⟩))] W fun e w' => ∃ t v, e = .returned (.tuple #[.slice none 0 0, .iface t v]) ∧ Below w0.heap.size w0 w' := by
  have hBW := hR.lt
  have HV := Lib.hid (fun (wx : World) (hx : Below W.heap.size W wx) (hu : Buf wx W.heap.size 169 [0, 0, 0, 0]) => fullOk w0 wx B W.heap.size L [0, 0, 0, 0] 0 0 4 4 169 hB hBW (bstep hb hb.size hx) (hR.keep hx hBW) hu (by omega) (by omega) (by omega) (by simp) (by rw [hL]; simp))
  have HLL := Lib.hid hL
  have HBW := Lib.hid hBW
  have HBS := Lib.hid hb.size
  have HRR := Lib.hid hRR
  have HR := Lib.hid hr
  have HZ := Lib.hid hz
  clear hR hBW hL hb hRR hr hz
  have i1 : ((r : Int) + 5 < 5) = False := eq_false (by omega)
  have i2 : wrap32 ((r : Int) + 5 - 1) = (r : Int) + 4 := by unfold wrap32; omega
  go_enter Tryz.func58, Tryz.ntmps58
  go_wp2_with fail
  refine (HV.out _ (balloc (Below.refl _ _) (Nat.le_refl _) _) ?_).mono ?_
  · exact heap_alloc_new W _
  rintro e w1 ⟨rfl, hf1, hu1, hb1⟩
  have hu1 : Buf w1 W.heap.size 169 [b0, b1, b2, b3] := by rw [HLL.out] at hu1; simpa using hu1
  have hf1 : Rdr w0 w1 B L 4 := hf1
  have hs1 : SB w1 (some ⟨W.heap.size, 0, none⟩) 4 [b0, b1, b2, b3] := hu1.sb (by simp)
  have HI := Lib.hid (readI32 _ _ b0 b1 b2 b3 [] w1 hs1)
  have HF1 := Lib.hid hf1
  have HU1 := Lib.hid hu1
  have HB1 := Lib.hid hb1
  clear hf1 hu1 hb1 hs1 HV
  go_wp2_with fail
  refine HI.out.mono ?_
  rintro e w2 ⟨A1, rfl, -, hb2⟩
  rw [hw]
  have HB2 := Lib.hid hb2
  have hmk : (Instr.makeSlice 22 (.int .i32 ((r : Int) + 5)) (.int .i32 ((r : Int) + 5))).run Tryz.prog w2 = .ok (.slice (some ⟨w2.heap.size, 0, none⟩) (r + 5) (r + 5)) (w2.alloc (.cells (madeCells #[.int .u8 0] (r + 5)) 5)) := by
    have h := run_makeN (P := Tryz.prog) 22 5 (.int .u8 0) 1 Tryz.underlying22 infoM rfl .i32 .i32 (r + 5) (by omega) (by omega) w2
    rw [show ((r + 5 : Nat) : Int) = (r : Int) + 5 from by omega] at h
    exact h
  obtain ⟨C, hC⟩ : ∃ C, C = byv [b0, b1, b2, b3] := ⟨_, rfl⟩
  have hCl : C.length = 4 := by rw [hC]; rfl
  have hU2 : Buf w2 W.heap.size 169 [b0, b1, b2, b3] := HU1.out.keep HB2.out HU1.out.lt
  have hU3 : Buf (w2.alloc (.cells (madeCells #[.int .u8 0] (r + 5)) 5)) W.heap.size 169 [b0, b1, b2, b3] := hU2.keep ((Below.refl _ _).alloc (Nat.le_refl _) _) hU2.lt
  have HSRC : Hid (∀ j v, C[j]? = some v → (w2.alloc (.cells (madeCells #[.int .u8 0] (r + 5)) 5)).cell? ((⟨W.heap.size, 0, none⟩ : Addr).add j) = some v) := Lib.hid (by rw [hC]; exact hU3.src)
  have HCN : Hid (C.length = Nat.min 4 (r + 5)) := Lib.hid (by rw [hCl]; show 4 = min 4 (r + 5); omega)
  have HFIT : Hid (0 + C.length ≤ (madeCells #[Value.int .u8 0] (r + 5)).toList.length) := Lib.hid (by rw [hCl]; simp [size_madeCells])
  have HONE : Hid (∀ v ∈ C, v.oneCell' = true) := Lib.hid (by rw [hC]; exact byv_one _)
  have HNEW : Hid ((w2.alloc (.cells (madeCells #[.int .u8 0] (r + 5)) 5)).heap[w2.heap.size]? = some (.cells (madeCells #[Value.int .u8 0] (r + 5)).toList.toArray 5 (0, 0))) := Lib.hid (by simpa using heap_alloc_new w2 (.cells (madeCells #[.int .u8 0] (r + 5)) 5))
  have HCC := Lib.hid hC
  clear hC hCl hU2 hU3
  clear hb2 HI
  go_wp2_with (first | (refine wpList_copy_splice rfl (.tmp 34) (.tmp 35) 22 22 rfl 5 Tryz.underlying22 sizeU8 (some ⟨w2.heap.size, 0, none⟩) (some ⟨W.heap.size, 0, none⟩) (r + 5) (r + 5) 4 4 rfl rfl w2.heap.size 0 (madeCells #[.int .u8 0] (r + 5)).toList 5 HNEW.out C HCN.out (fun _ => ⟨rfl, _, rfl, HSRC.out⟩) HFIT.out HONE.out w2.heap.size _ (Below.refl _ _) (Nat.le_refl _) ?_) | fail)
  intro w4 hg4 hb4
  have hbuf4 : Buf w4 w2.heap.size 5 ([b0, b1, b2, b3] ++ List.replicate (r + 1) 0) := by
    have h := hg4.out
    rw [made_bytes, HCC.out, show r + 5 = (r + 1) + 4 from by omega, splice_head] at h
    exact h
  have hb24 : Below w2.heap.size w2 w4 := (balloc (Below.refl _ _) (Nat.le_refl _) _).trans hb4
  have hf2 := HF1.out.keep HB2.out HF1.out.lt
  have hf4 := hf2.keep hb24 hf2.lt
  have z1 := HB1.out.size
  have z2 := HB2.out.size
  have hb04 : Below w0.heap.size w0 w4 := bstep (bstep HB1.out z1 HB2.out) (by omega) hb24
  have hrr := HR.out
  have hLl : 4 + (r + 1) ≤ L.length := by rw [HLL.out, HRR.out]; simp; omega
  have HV2 := Lib.hid (fullOk w0 w4 B w2.heap.size L _ 4 4 (r + 1) (r + 1) 5 hB hf2.lt hb04 hf4 hbuf4 (by omega) (Nat.le_refl _) (by omega) (by simp; omega) hLl)
  have HEND : Hid (([b0, b1, b2, b3] ++ List.replicate (r + 1) 0).take 4 ++ ((L.drop 4).take (r + 1) ++ ([b0, b1, b2, b3] ++ List.replicate (r + 1) 0).drop (4 + (r + 1))) = b0 :: b1 :: b2 :: b3 :: (rest ++ [z])) := Lib.hid (by
    have e1 : L.drop 4 = rest ++ z :: more := by rw [HLL.out, HRR.out]; rfl
    have e2 : (rest ++ z :: more).take (r + 1) = rest ++ [z] := by rw [hrr]; simp [List.take_append, List.take_of_length_le]
    have e3 : ([b0, b1, b2, b3] ++ List.replicate (r + 1) 0).drop (4 + (r + 1)) = [] := List.drop_of_length_le (by simp; omega)
    have e4 : ([b0, b1, b2, b3] ++ List.replicate (r + 1) 0).take 4 = [b0, b1, b2, b3] := by rw [List.take_append_of_le_length (by simp)]; rfl
    rw [e1, e2, e3, e4]
    simp)
  clear hbuf4 hb24 hf2 hf4 z1 z2 hb04 hrr hb4 hg4 hmk hLl
  go_wp2_with fail
  refine HV2.out.mono ?_
  rintro e w5 ⟨rfl, -, hu5, hb5⟩
  rw [HEND.out] at hu5
  have hlen5 : (b0 :: b1 :: b2 :: b3 :: (rest ++ [z])).length = r + 5 := by rw [HR.out]; simp
  have hs5 : SB w5 (some ⟨w2.heap.size, 0, none⟩) (r + 5) (b0 :: b1 :: b2 :: b3 :: (rest ++ [z])) := by
    have h := hu5.sb (by rw [hlen5]; omega)
    rw [hlen5] at h
    exact h
  have hlast : w5.cell? ⟨w2.heap.size, r + 4, none⟩ = some (.int .u8 (z.toNat : Int)) := by
    obtain ⟨b, o, e9, hc⟩ := hs5.cells (by rw [hlen5]; omega)
    obtain ⟨rfl, rfl⟩ : w2.heap.size = b ∧ 0 = o := by simpa using e9
    have h := hc (r + 4) (by rw [hlen5]; omega)
    rw [Nat.zero_add] at h
    rw [h]
    have hx : ∀ (l : List UInt8) (j : Nat) (hj : j < (b0 :: b1 :: b2 :: b3 :: (l ++ [z])).length), j = l.length + 4 → (b0 :: b1 :: b2 :: b3 :: (l ++ [z]))[j] = z := by
      intro l j hj e
      subst e
      simp
    rw [hx rest (r + 4) _ (by rw [HR.out])]
  obtain ⟨zi, hzi⟩ : ∃ zi, zi = (z.toNat : Int) := ⟨_, rfl⟩
  rw [← hzi] at hlast
  have hzn : (zi != 0) = true := by rw [bne_iff_ne, hzi]; intro h; exact HZ.out (toNat_zero' z h)
  clear hzi
  have HS5 := Lib.hid hs5
  have HB5 := Lib.hid hb5
  have g1 : ((r : Int) + 4 < (r : Int) + 5) = True := eq_true (by omega)
  have g2 : ((r : Int) + 4).toNat = r + 4 := by omega
  have g3 : (0 ≤ (r : Int) + 4) = True := eq_true (by omega)
  clear hu5 hb5 hs5 hlen5 HV2
  go_wp2_with fail
  go_ret2
  first | exact ⟨_, _, rfl, HB5.out⟩ | exact ⟨⟨_, _, rfl⟩, HB5.out⟩
set_option maxHeartbeats 1000000 in
theorem nbBig (w0 W : World) (B : Nat) (L R : List UInt8) (b0 b1 b2 b3 : UInt8) (hL : L = b0 :: b1 :: b2 :: b3 :: R) (hE : IoErrs w0) (hB : w0.heap.size ≤ B) (hb : Below w0.heap.size w0 W) (hR : Rdr w0 W B L 0) (r : Nat) (hw : wrap32 (leI [b0, b1, b2, b3]) = (r : Int) + 5) (hmax : r ≤ 2000000000) (hl : L.length < r + 5) :
    Calls Tryz.prog 58 #[.iface 63 (.pointer (some ⟨B, 0, none⟩))] W fun e w' => ∃ t v, e = .returned (.tuple #[.slice none 0 0, .iface t v]) ∧ Below w0.heap.size w0 w' := by
  have hBW := hR.lt
  have HV := Lib.hid (fun (wx : World) (hx : Below W.heap.size W wx) (hu : Buf wx W.heap.size 169 [0, 0, 0, 0]) => fullOk w0 wx B W.heap.size L [0, 0, 0, 0] 0 0 4 4 169 hB hBW (bstep hb hb.size hx) (hR.keep hx hBW) hu (by omega) (by omega) (by omega) (by simp) (by rw [hL]; simp))
  have HLL := Lib.hid hL
  have HBW := Lib.hid hBW
  have HBS := Lib.hid hb.size
  have HLS := Lib.hid hl
  clear hR hBW hL hb hl
  have i1 : ((r : Int) + 5 < 5) = False := eq_false (by omega)
  have i2 : wrap32 ((r : Int) + 5 - 1) = (r : Int) + 4 := by unfold wrap32; omega
  go_enter Tryz.func58, Tryz.ntmps58
  go_wp2_with fail
  refine (HV.out _ (balloc (Below.refl _ _) (Nat.le_refl _) _) ?_).mono ?_
  · exact heap_alloc_new W _
  rintro e w1 ⟨rfl, hf1, hu1, hb1⟩
  have hu1 : Buf w1 W.heap.size 169 [b0, b1, b2, b3] := by rw [HLL.out] at hu1; simpa using hu1
  have hf1 : Rdr w0 w1 B L 4 := hf1
  have hs1 : SB w1 (some ⟨W.heap.size, 0, none⟩) 4 [b0, b1, b2, b3] := hu1.sb (by simp)
  have HI := Lib.hid (readI32 _ _ b0 b1 b2 b3 [] w1 hs1)
  have HF1 := Lib.hid hf1
  have HU1 := Lib.hid hu1
  have HB1 := Lib.hid hb1
  clear hf1 hu1 hb1 hs1 HV
  go_wp2_with fail
  refine HI.out.mono ?_
  rintro e w2 ⟨A1, rfl, -, hb2⟩
  rw [hw]
  have HB2 := Lib.hid hb2
  have hmk : (Instr.makeSlice 22 (.int .i32 ((r : Int) + 5)) (.int .i32 ((r : Int) + 5))).run Tryz.prog w2 = .ok (.slice (some ⟨w2.heap.size, 0, none⟩) (r + 5) (r + 5)) (w2.alloc (.cells (madeCells #[.int .u8 0] (r + 5)) 5)) := by
    have h := run_makeN (P := Tryz.prog) 22 5 (.int .u8 0) 1 Tryz.underlying22 infoM rfl .i32 .i32 (r + 5) (by omega) (by omega) w2
    rw [show ((r + 5 : Nat) : Int) = (r : Int) + 5 from by omega] at h
    exact h
  obtain ⟨C, hC⟩ : ∃ C, C = byv [b0, b1, b2, b3] := ⟨_, rfl⟩
  have hCl : C.length = 4 := by rw [hC]; rfl
  have hU2 : Buf w2 W.heap.size 169 [b0, b1, b2, b3] := HU1.out.keep HB2.out HU1.out.lt
  have hU3 : Buf (w2.alloc (.cells (madeCells #[.int .u8 0] (r + 5)) 5)) W.heap.size 169 [b0, b1, b2, b3] := hU2.keep ((Below.refl _ _).alloc (Nat.le_refl _) _) hU2.lt
  have HSRC : Hid (∀ j v, C[j]? = some v → (w2.alloc (.cells (madeCells #[.int .u8 0] (r + 5)) 5)).cell? ((⟨W.heap.size, 0, none⟩ : Addr).add j) = some v) := Lib.hid (by rw [hC]; exact hU3.src)
  have HCN : Hid (C.length = Nat.min 4 (r + 5)) := Lib.hid (by rw [hCl]; show 4 = min 4 (r + 5); omega)
  have HFIT : Hid (0 + C.length ≤ (madeCells #[Value.int .u8 0] (r + 5)).toList.length) := Lib.hid (by rw [hCl]; simp [size_madeCells])
  have HONE : Hid (∀ v ∈ C, v.oneCell' = true) := Lib.hid (by rw [hC]; exact byv_one _)
  have HNEW : Hid ((w2.alloc (.cells (madeCells #[.int .u8 0] (r + 5)) 5)).heap[w2.heap.size]? = some (.cells (madeCells #[Value.int .u8 0] (r + 5)).toList.toArray 5 (0, 0))) := Lib.hid (by simpa using heap_alloc_new w2 (.cells (madeCells #[.int .u8 0] (r + 5)) 5))
  have HCC := Lib.hid hC
  clear hC hCl hU2 hU3
  clear hb2 HI
  go_wp2_with (first | (refine wpList_copy_splice rfl (.tmp 34) (.tmp 35) 22 22 rfl 5 Tryz.underlying22 sizeU8 (some ⟨w2.heap.size, 0, none⟩) (some ⟨W.heap.size, 0, none⟩) (r + 5) (r + 5) 4 4 rfl rfl w2.heap.size 0 (madeCells #[.int .u8 0] (r + 5)).toList 5 HNEW.out C HCN.out (fun _ => ⟨rfl, _, rfl, HSRC.out⟩) HFIT.out HONE.out w2.heap.size _ (Below.refl _ _) (Nat.le_refl _) ?_) | fail)
  intro w4 hg4 hb4
  have hbuf4 : Buf w4 w2.heap.size 5 ([b0, b1, b2, b3] ++ List.replicate (r + 1) 0) := by
    have h := hg4.out
    rw [made_bytes, HCC.out, show r + 5 = (r + 1) + 4 from by omega, splice_head] at h
    exact h
  have hb24 : Below w2.heap.size w2 w4 := (balloc (Below.refl _ _) (Nat.le_refl _) _).trans hb4
  have hf2 := HF1.out.keep HB2.out HF1.out.lt
  have hf4 := hf2.keep hb24 hf2.lt
  have z1 := HB1.out.size
  have z2 := HB2.out.size
  have hb04 : Below w0.heap.size w0 w4 := bstep (bstep HB1.out z1 HB2.out) (by omega) hb24
  have hLS := HLS.out
  have hL4 : 4 ≤ L.length := by rw [HLL.out]; simp
  have HV2 := Lib.hid (fullShort w0 w4 B w2.heap.size L _ 4 4 (r + 1) (r + 1) 5 hE hB hf2.lt hb04 hf4 hbuf4 (by omega) (Nat.le_refl _) (by omega) (by simp; omega) hL4 (by omega))
  clear hbuf4 hb24 hf2 hf4 z1 z2 hb04 hb4 hg4 hmk hLS hL4
  go_wp2_with fail
  refine HV2.out.mono ?_
  rintro e w5 ⟨n5, v5, rfl, hb5⟩
  have HB5 := Lib.hid hb5
  clear hb5 HV2
  go_wp2_with fail
  go_ret2
  first | exact ⟨_, _, rfl, HB5.out⟩ | exact ⟨⟨_, _, rfl⟩, HB5.out⟩
end Rd
end Go.Proofs.YtfhbnlbdmfjhlaaGreatDoor.X
