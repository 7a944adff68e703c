/- newBufferFromReader over few. -/
import Derived.Test.YtdmnogjgifapnaaDoorFull
import Derived.Test.YtdmnogjgifapnaaDoorReadI32
import Derived.Laws.MakeOwn
import Derived.Laws.OwnMore
set_option linter.unusedVariables false
set_option linter.unusedSimpArgs false
set_option maxRecDepth 100000
namespace Go.Proofs.YtdmnogjgifapnaaDoor.X
open Go.RowKit
theorem Buf.sb {w : World} {g : Nat} {t : TypeId} {L : List UInt8} (h : Buf w g t L) (hl : L.length ≤ 9223372036854775807) : SB w (some ⟨g, 0, none⟩) L.length L := by
  refine ⟨Nat.le_refl _, hl, fun _ => ⟨g, 0, rfl, fun j hj => ?_⟩⟩
  unfold Buf at h
  rw [Nat.zero_add]
  simp only [World.cell?, h]
  have := byv_get L j hj
  simp [this]
theorem Buf.keep {w w1 : World} {g B : Nat} {t : TypeId} {L : List UInt8} (h : Buf w g t L) (hb : Below B w w1) (hg : g < B) : Buf w1 g t L := by
  unfold Buf at h ⊢
  exact (hb.block g hg).trans h
theorem Few.keep {w0 w w1 : World} {g B : Nat} {R : List UInt8} {n : Int} (h : Few w0 w B R n) (hb : Below g w w1) (hg : B < g) : Few w0 w1 B R n := by
  obtain ⟨A, c, h1, h2⟩ := h
  exact ⟨A, c, h1, (hb.block B hg).trans h2⟩
theorem Buf.src {w : World} {g : Nat} {t : TypeId} {L : List UInt8} (h : Buf w g t L) : ∀ j v, (byv L)[j]? = some v → w.cell? ((⟨g, 0, none⟩ : Addr).add j) = some v := by
  intro j v hv
  have hadd : (⟨g, 0, none⟩ : Addr).add j = ⟨g, j, none⟩ := by unfold Addr.add; split <;> simp_all
  unfold Buf at h
  rw [hadd]
  simp only [World.cell?, h]
  simp [hv]
theorem made_bytes (n : Nat) : (madeCells #[.int .u8 0] n).toList = byv (List.replicate n 0) := by
  rw [toList_madeCells_one]; simp [byv]
theorem run_makeN {P : Program} (t e : TypeId) (z : Value) (bytes : Nat) (ht : P.underlying t = some (.slice e)) (hinfo : (P.info? e).map (fun i => (i.zero, i.size, i.bytes)) = some (some z, 1, bytes)) (hz1 : z.cells = #[z])
    (kl kc : IntKind) (n : Nat) (hbytes : bytes * n ≤ 281474976710656) (h63 : n ≤ 9223372036854775807) (w : World) :
    (Instr.makeSlice t (.int kl (n : Int)) (.int kc (n : Int))).run P w = .ok (.slice (some ⟨w.heap.size, 0, none⟩) n n) (w.alloc (.cells (madeCells #[z] n) e)) := by
  obtain ⟨i, hi, hzz⟩ := Option.map_eq_some_iff.1 hinfo
  simp only [Prod.mk.injEq] at hzz
  obtain ⟨hz, hs, hb⟩ := hzz
  have hb' : (i.bytes : Int) * (n : Int) ≤ 281474976710656 := by
    have h : ((i.bytes * n : Nat) : Int) ≤ 281474976710656 := by rw [hb]; omega
    rwa [Int.natCast_mul] at h
  have hr := run_make (P := P) w t e i z ht hi hz kl kc n n (by omega) (by omega) hb' (by omega)
  simp only [Int.toNat_natCast, hs, Nat.mul_one, hz1] at hr
  exact hr
theorem infoM : (Tryd.prog.info? 5).map (fun i => (i.zero, i.size, i.bytes)) = some (some (.int .u8 0), 1, 1) := by kernel_rfl
theorem splice_head (a b c d : UInt8) (n : Nat) : splice (byv (List.replicate (n + 4) 0)) 0 (byv [a, b, c, d]) = byv ([a, b, c, d] ++ List.replicate n 0) := by
  simp [splice, byv]
theorem Buf.lt {w : World} {g : Nat} {t : TypeId} {L : List UInt8} (h : Buf w g t L) : g < w.heap.size := (Array.getElem?_eq_some_iff.1 h).1
theorem Few.lt {w0 w : World} {B : Nat} {R : List UInt8} {n : Int} (h : Few w0 w B R n) : B < w.heap.size := by
  obtain ⟨A, c, h1, h2⟩ := h
  exact (Array.getElem?_eq_some_iff.1 h2).1
set_option maxHeartbeats 400000 in
theorem newBuffer (w0 W : World) (B : Nat) (b0 b1 b2 b3 : UInt8) (rest more : List UInt8) (n : Int) (hB : w0.heap.size ≤ B) (hb : Below w0.heap.size w0 W) (hF : Few w0 W B (b0 :: b1 :: b2 :: b3 :: (rest ++ 0 :: more)) n)
    (hlen : leI [b0, b1, b2, b3] = (rest.length : Int) + 5) (hmax : rest.length ≤ 2000000000) (hn : 1 ≤ n) (hn2 : n ≤ 100) :
    Calls Tryd.prog 78 #[.iface 87 (.pointer (some ⟨B, 0, none⟩))] W fun e w' => ∃ A c, e = .returned (.tuple #[.slice A (rest.length + 5) c, .nilIface]) ∧ SB w' A c (b0 :: b1 :: b2 :: b3 :: (rest ++ [0])) ∧ Below w0.heap.size w0 w' := by
  have hBW := hF.lt
  have hw : wrap32 (leI [b0, b1, b2, b3]) = (rest.length : Int) + 5 := by rw [hlen]; unfold wrap32; omega
  have HV := Lib.hid (fun (wx : World) (hx : Below W.heap.size W wx) (hu : Buf wx W.heap.size 175 [0, 0, 0, 0]) => readFull w0 wx B W.heap.size (b0 :: b1 :: b2 :: b3 :: (rest ++ 0 :: more)) [0, 0, 0, 0] n 0 4 4 175 hB hBW (bstep hb hb.size hx) (hF.keep hx hBW) hu (by omega) (by omega) (by simp) (by simp) hn hn2)
  obtain ⟨r, hr⟩ : ∃ r, r = rest.length := ⟨_, rfl⟩
  rw [← hr] at hw hmax ⊢
  have HR := Lib.hid hr
  have HBW := Lib.hid hBW
  have HBS := Lib.hid hb.size
  clear hF hb hlen hr hBW
  have i1 : ((r : Int) + 5 < 5) = False := eq_false (by omega)
  have i2 : wrap32 ((r : Int) + 5 - 1) = (r : Int) + 4 := by unfold wrap32; omega
  go_enter Tryd.func78, Tryd.ntmps78
  go_wp2_with fail
  refine (HV.out _ (balloc (Below.refl _ _) (Nat.le_refl _) _) ?_).mono ?_
  · exact heap_alloc_new W _
  rintro e w1 ⟨rfl, hf1, hu1, hb1⟩
  have hu1 : Buf w1 W.heap.size 175 [b0, b1, b2, b3] := by simpa using hu1
  have hf1 : Few w0 w1 B (rest ++ 0 :: more) n := by simpa using hf1
  have hs1 : SB w1 (some ⟨W.heap.size, 0, none⟩) 4 [b0, b1, b2, b3] := hu1.sb (by simp)
  have HI := Lib.hid (readI32 _ _ b0 b1 b2 b3 [] w1 hs1)
  have HF1 := Lib.hid hf1
  have HU1 := Lib.hid hu1
  have HB1 := Lib.hid hb1
  clear hf1 hu1 hb1 hs1 HV
  go_wp2_with fail
  refine HI.out.mono ?_
  rintro e w2 ⟨A1, rfl, -, hb2⟩
  rw [hw]
  have HB2 := Lib.hid hb2
  have hmk : (Instr.makeSlice 26 (.int .i32 ((r : Int) + 5)) (.int .i32 ((r : Int) + 5))).run Tryd.prog w2 = .ok (.slice (some ⟨w2.heap.size, 0, none⟩) (r + 5) (r + 5)) (w2.alloc (.cells (madeCells #[.int .u8 0] (r + 5)) 5)) := by
    have h := run_makeN (P := Tryd.prog) 26 5 (.int .u8 0) 1 Tryd.underlying26 infoM rfl .i32 .i32 (r + 5) (by omega) (by omega) w2
    rw [show ((r + 5 : Nat) : Int) = (r : Int) + 5 from by omega] at h
    exact h
  obtain ⟨C, hC⟩ : ∃ C, C = byv [b0, b1, b2, b3] := ⟨_, rfl⟩
  have hCl : C.length = 4 := by rw [hC]; rfl
  have hU2 : Buf w2 W.heap.size 175 [b0, b1, b2, b3] := HU1.out.keep HB2.out HU1.out.lt
  have hU3 : Buf (w2.alloc (.cells (madeCells #[.int .u8 0] (r + 5)) 5)) W.heap.size 175 [b0, b1, b2, b3] := hU2.keep ((Below.refl _ _).alloc (Nat.le_refl _) _) hU2.lt
  have HSRC : Hid (∀ j v, C[j]? = some v → (w2.alloc (.cells (madeCells #[.int .u8 0] (r + 5)) 5)).cell? ((⟨W.heap.size, 0, none⟩ : Addr).add j) = some v) := Lib.hid (by rw [hC]; exact hU3.src)
  have HCN : Hid (C.length = Nat.min 4 (r + 5)) := Lib.hid (by rw [hCl]; show 4 = min 4 (r + 5); omega)
  have HFIT : Hid (0 + C.length ≤ (madeCells #[Value.int .u8 0] (r + 5)).toList.length) := Lib.hid (by rw [hCl]; simp [size_madeCells])
  have HONE : Hid (∀ v ∈ C, v.oneCell' = true) := Lib.hid (by rw [hC]; exact byv_one _)
  have HNEW : Hid ((w2.alloc (.cells (madeCells #[.int .u8 0] (r + 5)) 5)).heap[w2.heap.size]? = some (.cells (madeCells #[Value.int .u8 0] (r + 5)).toList.toArray 5 (0, 0))) := Lib.hid (by simpa using heap_alloc_new w2 (.cells (madeCells #[.int .u8 0] (r + 5)) 5))
  have HCC := Lib.hid hC
  clear hC hCl hU2 hU3
  clear hb2 HI
  go_wp2_with (first | (refine wpList_copy_splice rfl (.tmp 34) (.tmp 35) 26 26 rfl 5 Tryd.underlying26 sizeU8 (some ⟨w2.heap.size, 0, none⟩) (some ⟨W.heap.size, 0, none⟩) (r + 5) (r + 5) 4 4 rfl rfl w2.heap.size 0 (madeCells #[.int .u8 0] (r + 5)).toList 5 HNEW.out C HCN.out (fun _ => ⟨rfl, _, rfl, HSRC.out⟩) HFIT.out HONE.out w2.heap.size _ (Below.refl _ _) (Nat.le_refl _) ?_) | fail)
  intro w4 hg4 hb4
  have hbuf4 : Buf w4 w2.heap.size 5 ([b0, b1, b2, b3] ++ List.replicate (r + 1) 0) := by
    have h := hg4.out
    rw [made_bytes, HCC.out, show r + 5 = (r + 1) + 4 from by omega, splice_head] at h
    exact h
  have hb24 : Below w2.heap.size w2 w4 := (balloc (Below.refl _ _) (Nat.le_refl _) _).trans hb4
  have hf2 := HF1.out.keep HB2.out HF1.out.lt
  have hf4 := hf2.keep hb24 hf2.lt
  have z1 := HB1.out.size
  have z2 := HB2.out.size
  have hb04 : Below w0.heap.size w0 w4 := bstep (bstep HB1.out z1 HB2.out) (by omega) hb24
  have hrr := HR.out
  have HV2 := Lib.hid (readFull w0 w4 B w2.heap.size (rest ++ 0 :: more) _ n 4 (r + 1) (r + 1) 5 hB hf2.lt hb04 hf4 hbuf4 (Nat.le_refl _) (by omega) (by simp; omega) (by simp; omega) hn hn2)
  have HEND : Hid (([b0, b1, b2, b3] ++ List.replicate (r + 1) 0).take 4 ++ ((rest ++ 0 :: more).take (r + 1) ++ ([b0, b1, b2, b3] ++ List.replicate (r + 1) 0).drop (4 + (r + 1))) = b0 :: b1 :: b2 :: b3 :: (rest ++ [0])) := Lib.hid (by
    rw [hrr, List.take_append_of_le_length (by simp), List.drop_of_length_le (by simp; omega), List.take_append]
    simp [List.take_of_length_le])
  clear hbuf4 hb24 hf2 hf4 z1 z2 hb04 hrr hb4 hg4 hmk
  go_wp2_with fail
  refine HV2.out.mono ?_
  rintro e w5 ⟨rfl, -, hu5, hb5⟩
  rw [HEND.out] at hu5
  have hlen5 : (b0 :: b1 :: b2 :: b3 :: (rest ++ [0])).length = r + 5 := by rw [HR.out]; simp
  have hs5 : SB w5 (some ⟨w2.heap.size, 0, none⟩) (r + 5) (b0 :: b1 :: b2 :: b3 :: (rest ++ [0])) := by
    have h := hu5.sb (by rw [hlen5]; omega)
    rw [hlen5] at h
    exact h
  have hlast : w5.cell? ⟨w2.heap.size, r + 4, none⟩ = some (.int .u8 0) := by
    obtain ⟨b, o, e9, hc⟩ := hs5.cells (by rw [hlen5]; omega)
    obtain ⟨rfl, rfl⟩ : w2.heap.size = b ∧ 0 = o := by simpa using e9
    have h := hc (r + 4) (by rw [hlen5]; omega)
    rw [Nat.zero_add] at h
    rw [h]
    have hx : ∀ (l : List UInt8) (j : Nat) (hj : j < (b0 :: b1 :: b2 :: b3 :: (l ++ [0])).length), j = l.length + 4 → (b0 :: b1 :: b2 :: b3 :: (l ++ [0]))[j] = 0 := by
      intro l j hj e
      subst e
      simp
    rw [hx rest (r + 4) _ (by rw [HR.out])]
    rfl
  have HS5 := Lib.hid hs5
  have HB5 := Lib.hid hb5
  have g1 : ((r : Int) + 4 < (r : Int) + 5) = True := eq_true (by omega)
  have g2 : ((r : Int) + 4).toNat = r + 4 := by omega
  have g3 : (0 ≤ (r : Int) + 4) = True := eq_true (by omega)
  clear hu5 hb5 hs5 hlen5 HV2
  go_wp2_with fail
  go_ret2
  exact ⟨_, _, rfl, HS5.out, HB5.out⟩
end Go.Proofs.YtdmnogjgifapnaaDoor.X
