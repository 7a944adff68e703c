/- Contract of parseDBPointer. -/
import Derived.Test.YtfpnhlfmnoikhabDoorDbpA
set_option linter.unusedVariables false
set_option linter.unusedSimpArgs false
set_option maxRecDepth 100000
namespace Go.Proofs.YtfpnhlfmnoikhabDoor.X
open Go.RowKit Go.Proofs.YtfpnhlfmnoikhabDoorW.PrintLast
def R21.T14 : Bool × List (List Nat × List Nat) := (true, [([], []), ([], []), ([1], []), ([0, 2, 0, 2], [0]), ([1, 3, 0, 1, 2, 3], [1])])
def R21.B14 : List Nat := [0, 0, 2, 7, 15]
theorem R21.tab14 : rtab .any (opsOf Tryd.f21 14) = R21.T14 := by kernel_rfl
theorem R21.bits14 : waitsOk R21.T14.2 R21.B14 = true := by kernel_rfl
def R21.T26 : Bool × List (List Nat × List Nat) := (true, [([], []), ([], []), ([], []), ([0, 2, 0, 2], [0]), ([1, 3, 0, 1, 2, 3], [1])])
def R21.B26 : List Nat := [0, 0, 0, 5, 15]
theorem R21.tab26 : rtab .any (opsOf Tryd.f21 26) = R21.T26 := by kernel_rfl
theorem R21.bits26 : waitsOk R21.T26.2 R21.B26 = true := by kernel_rfl
def R21.T21 : Bool × List (List Nat × List Nat) := (true, [([], []), ([], []), ([1], []), ([0, 2, 0, 2], [0]), ([1, 3, 0, 1, 2, 3], [1])])
def R21.B21 : List Nat := [0, 0, 2, 7, 15]
theorem R21.tab21 : rtab .any (opsOf Tryd.f21 21) = R21.T21 := by kernel_rfl
theorem R21.bits21 : waitsOk R21.T21.2 R21.B21 = true := by kernel_rfl
def R21.T11 : Bool × List (List Nat × List Nat) := (true, [([], []), ([], []), ([1], []), ([0, 2, 0, 2], [0]), ([1, 3, 0, 1, 2, 3], [1])])
def R21.B11 : List Nat := [0, 0, 2, 7, 15]
theorem R21.tab11 : rtab .any (opsOf Tryd.f21 11) = R21.T11 := by kernel_rfl
theorem R21.bits11 : waitsOk R21.T11.2 R21.B11 = true := by kernel_rfl
def R21.T30 : Bool × List (List Nat × List Nat) := (true, [([], []), ([], []), ([1], []), ([0, 2, 0, 2], [0]), ([1, 3, 0, 1, 2, 3], [1])])
def R21.B30 : List Nat := [0, 0, 2, 7, 15]
theorem R21.tab30 : rtab .any (opsOf Tryd.f21 30) = R21.T30 := by kernel_rfl
theorem R21.bits30 : waitsOk R21.T30.2 R21.B30 = true := by kernel_rfl
def R21.T32 : Bool × List (List Nat × List Nat) := (true, [([], []), ([], []), ([1], []), ([0, 2, 0, 2], [0]), ([1, 3, 0, 1, 2, 3], [1])])
def R21.B32 : List Nat := [0, 0, 2, 7, 15]
theorem R21.tab32 : rtab .any (opsOf Tryd.f21 32) = R21.T32 := by kernel_rfl
theorem R21.bits32 : waitsOk R21.T32.2 R21.B32 = true := by kernel_rfl
def R21.T33 : Bool × List (List Nat × List Nat) := (true, [([], []), ([], []), ([0, 0], [0]), ([1, 2, 0, 1, 2], [1]), ([3, 0, 1, 2, 3], [])])
def R21.B33 : List Nat := [0, 0, 1, 7, 15]
theorem R21.tab33 : rtab .any (opsOf Tryd.f21 33) = R21.T33 := by kernel_rfl
theorem R21.bits33 : waitsOk R21.T33.2 R21.B33 = true := by kernel_rfl
/-- What the function gives. -/
def DbpOut (w : World) (r : Option (ByteArray × List UInt8)) (e : Ending) (w' : World) : Prop := ∃ s f v, e = .returned (.tuple #[.string s, idA f, v]) ∧ (match r with | some (x, b) => v = .nilIface ∧ s = x ∧ b.length = 12 ∧ (∀ j, f j = ((b.getD j 0).toNat : Int)) | none => ∃ T p, v = .iface T p) ∧ Below w.heap.size w w'
/-- What has been read so far. -/
def PSt (L : List (ByteArray × ByteArray)) (k : Nat) (s : ByteArray) (nF iF : Bool) (f : Nat → Int) : Prop := ∃ os ob, (match os with | none => nF = false | some x => nF = true ∧ s = x) ∧ (match ob with | none => iF = false | some b => iF = true ∧ b.length = 12 ∧ ∀ j, f j = ((b.getD j 0).toNat : Int)) ∧ parse L none none = parse (L.drop k) os ob
def DRel (w : World) (R : Nat) (L : List (ByteArray × ByteArray)) (s2 e4 i6 n7 i28 : Value) (wr : World) : Prop := ∃ (k : Nat) (s : ByteArray) (nF iF : Bool) (f : Nat → Int), k ≤ L.length ∧ s2 = .string s ∧ e4 = .nilIface ∧ i6 = .bool iF ∧ n7 = .bool nF ∧ i28 = .int .i64 k ∧
  (∀ j, j < 12 → wr.cell? ⟨R, j, none⟩ = some (.int .u8 (f j))) ∧ (∀ o, wr.frozen? ⟨R, o, none⟩ = false) ∧ PSt L k s nF iF f ∧ Below R w wr ∧ R < wr.heap.size
theorem set12 {B : Nat} {w w3 : World} (h : Below B w w3) (v0 v1 v2 v3 v4 v5 v6 v7 v8 v9 v10 v11 : Value) : Below B w ((((((((((((w3.setCell ⟨B, 0, none⟩ v0).setCell ⟨B, 1, none⟩ v1).setCell ⟨B, 2, none⟩ v2).setCell ⟨B, 3, none⟩ v3).setCell ⟨B, 4, none⟩ v4).setCell ⟨B, 5, none⟩ v5).setCell ⟨B, 6, none⟩ v6).setCell ⟨B, 7, none⟩ v7).setCell ⟨B, 8, none⟩ v8).setCell ⟨B, 9, none⟩ v9).setCell ⟨B, 10, none⟩ v10).setCell ⟨B, 11, none⟩ v11) :=
  (((((((((((h.setCell (Nat.le_refl _) _).setCell (Nat.le_refl _) _).setCell (Nat.le_refl _) _).setCell (Nat.le_refl _) _).setCell (Nat.le_refl _) _).setCell (Nat.le_refl _) _).setCell (Nat.le_refl _) _).setCell (Nat.le_refl _) _).setCell (Nat.le_refl _) _).setCell (Nat.le_refl _) _).setCell (Nat.le_refl _) _).setCell (Nat.le_refl _) _
theorem size12 {B : Nat} {w3 : World} (h : B < w3.heap.size) (v0 v1 v2 v3 v4 v5 v6 v7 v8 v9 v10 v11 : Value) : B < ((((((((((((w3.setCell ⟨B, 0, none⟩ v0).setCell ⟨B, 1, none⟩ v1).setCell ⟨B, 2, none⟩ v2).setCell ⟨B, 3, none⟩ v3).setCell ⟨B, 4, none⟩ v4).setCell ⟨B, 5, none⟩ v5).setCell ⟨B, 6, none⟩ v6).setCell ⟨B, 7, none⟩ v7).setCell ⟨B, 8, none⟩ v8).setCell ⟨B, 9, none⟩ v9).setCell ⟨B, 10, none⟩ v10).setCell ⟨B, 11, none⟩ v11).heap.size := by simpa using h
theorem cells12 {w3 : World} {B : Nat} (f g : Nat → Int) (hc : ∀ j, j < 12 → w3.cell? ⟨B, j, none⟩ = some (.int .u8 (f j))) (hlt : B < w3.heap.size) : ∀ j, j < 12 → ((((((((((((w3.setCell ⟨B, 0, none⟩ (.int .u8 (g 0))).setCell ⟨B, 1, none⟩ (.int .u8 (g 1))).setCell ⟨B, 2, none⟩ (.int .u8 (g 2))).setCell ⟨B, 3, none⟩ (.int .u8 (g 3))).setCell ⟨B, 4, none⟩ (.int .u8 (g 4))).setCell ⟨B, 5, none⟩ (.int .u8 (g 5))).setCell ⟨B, 6, none⟩ (.int .u8 (g 6))).setCell ⟨B, 7, none⟩ (.int .u8 (g 7))).setCell ⟨B, 8, none⟩ (.int .u8 (g 8))).setCell ⟨B, 9, none⟩ (.int .u8 (g 9))).setCell ⟨B, 10, none⟩ (.int .u8 (g 10))).setCell ⟨B, 11, none⟩ (.int .u8 (g 11))).cell? ⟨B, j, none⟩ = some (.int .u8 (g j)) := by
  have c0 := hc 0 (by omega)
  have c1 := hc 1 (by omega)
  have c2 := hc 2 (by omega)
  have c3 := hc 3 (by omega)
  have c4 := hc 4 (by omega)
  have c5 := hc 5 (by omega)
  have c6 := hc 6 (by omega)
  have c7 := hc 7 (by omega)
  have c8 := hc 8 (by omega)
  have c9 := hc 9 (by omega)
  have c10 := hc 10 (by omega)
  have c11 := hc 11 (by omega)
  intro j hj
  match j, hj with
  | 0, _ | 1, _ | 2, _ | 3, _ | 4, _ | 5, _ | 6, _ | 7, _ | 8, _ | 9, _ | 10, _ | 11, _ => simp [go_sem, hlt, c0, c1, c2, c3, c4, c5, c6, c7, c8, c9, c10, c11]
theorem ids12 {w3 : World} {B : Nat} (h : Ids w3) (hB : 2 < B) (v0 v1 v2 v3 v4 v5 v6 v7 v8 v9 v10 v11 : Value) : Ids ((((((((((((w3.setCell ⟨B, 0, none⟩ v0).setCell ⟨B, 1, none⟩ v1).setCell ⟨B, 2, none⟩ v2).setCell ⟨B, 3, none⟩ v3).setCell ⟨B, 4, none⟩ v4).setCell ⟨B, 5, none⟩ v5).setCell ⟨B, 6, none⟩ v6).setCell ⟨B, 7, none⟩ v7).setCell ⟨B, 8, none⟩ v8).setCell ⟨B, 9, none⟩ v9).setCell ⟨B, 10, none⟩ v10).setCell ⟨B, 11, none⟩ v11) := by
  have hb := set12 (Below.refl B w3) v0 v1 v2 v3 v4 v5 v6 v7 v8 v9 v10 v11
  obtain ⟨T, x, h1⟩ := h.bad
  obtain ⟨ev, h2⟩ := h.len
  exact ⟨fun j hj => (hb.cell (p := ⟨0, j, none⟩) (by show 0 < B; omega)).trans (h.zero j hj), ⟨T, x, (hb.cell (p := ⟨1, 0, none⟩) (by show 1 < B; omega)).trans h1⟩, ⟨ev, (hb.cell (p := ⟨2, 0, none⟩) (by show 2 < B; omega)).trans h2⟩⟩
set_option maxHeartbeats 4000000 in
theorem parseDbp (J O : Nat) (A1 V : Option Addr) (c1 cv : Nat) (ks ts : List ByteArray) (vs : List Value) (w : World) (hI : Ids w) (hlen : ks.length = ts.length) (hts : ∀ t ∈ ts, t.size ≤ 140737488351232)
    (j0 : w.cell? ⟨J, 0, none⟩ = some (.int .u8 3)) (j1 : w.cell? ⟨J, 1, none⟩ = some (.iface 59 (.pointer (some ⟨O, 0, none⟩)))) (o0 : w.cell? ⟨O, 0, none⟩ = some (.slice A1 ks.length c1)) (o1 : w.cell? ⟨O, 1, none⟩ = some (.slice V ts.length cv))
    (h1 : GS w A1 c1 (strv ks)) (hV : GS w V cv vs) (hvs : VsIs w O none ts vs) :
    Calls Tryd.prog 21 #[.pointer (some ⟨J, 0, none⟩)] w (DbpOut w (parse (ks.zip ts) none none)) := by
  have t1 : ∀ W : World, (Instr.typeAssert (.iface 59 (.pointer (some ⟨O, 0, none⟩))) 20 59 false).run Tryd.prog W = .ok (.pointer (some ⟨O, 0, none⟩)) W := fun W => by rfl
  have hJ : J < w.heap.size := World.block_lt_of_cell? w _ j0
  have hO : O < w.heap.size := World.block_lt_of_cell? w _ o0
  obtain ⟨n, hn⟩ : ∃ n, n = ks.length := ⟨_, rfl⟩
  rw [← hlen, ← hn] at o1
  rw [← hn] at o0
  have HN := Lib.hid hn
  have HL := Lib.hid hlen
  obtain ⟨L, hL⟩ : ∃ L, L = ks.zip ts := ⟨_, rfl⟩
  rw [← hL]
  have HLL : Hid (L.length = n) := Lib.hid (by rw [hL, List.length_zip]; omega)
  have HZ := Lib.hid hL
  have H1 := Lib.hid h1
  have HV := Lib.hid hV
  have HVS := Lib.hid hvs
  have HI := Lib.hid hI
  have HTS := Lib.hid hts
  clear hn hlen hL h1 hV hvs hI hts
  go_enter Tryd.func21, Tryd.ntmps21
  go_wp2_with fail
  go_loopw [2, 4, 6, 7, 28] (fun s2 e4 i6 n7 i28 wr => DRel w w.heap.size L s2 e4 i6 n7 i28 wr) (fun _ _ _ _ i _ => n - (intOf i).toNat)
  case atStart => 
    refine ⟨0, ⟨#[]⟩, false, false, fun _ => 0, Nat.zero_le _, rfl, rfl, rfl, rfl, rfl, fun j hj => ?_, fun o => by simp [go_sem], ⟨none, none, rfl, rfl, rfl⟩, balloc (Below.refl _ _) (Nat.le_refl _) _, by simp⟩
    match j, hj with
    | 0, _ | 1, _ | 2, _ | 3, _ | 4, _ | 5, _ | 6, _ | 7, _ | 8, _ | 9, _ | 10, _ | 11, _ => simp [go_sem]
  case round =>
    obtain ⟨k, s, nF, iF, f, hk, rfl, rfl, rfl, rfl, rfl, hc, hf, hp, hb, hR⟩ := hrel
    have hn := HN.out
    have hlen := HL.out
    have hLL := HLL.out
    by_cases hkn : k < n
    · have hkt : k < ts.length := by omega
      have hkk : k < ks.length := by omega
      obtain ⟨b, off, rfl, hcb⟩ := H1.out.cells (by rw [strv_len]; omega)
      have hcw := hcb k (by rw [strv_len]; exact hkk)
      have hblt : b < w.heap.size := World.block_lt_of_cell? w _ hcw
      have hc1 : wr.cell? ⟨b, off + k, none⟩ = some (.string ks[k]) := by
        rw [hb.cell (p := ⟨b, off + k, none⟩) hblt, hcw]
        simp [strv]
      obtain ⟨v, hv, g, rfl, -, -, g0, g1⟩ := HVS.out.2 k ts[k] (by simp [hkt])
      have hvl := HVS.out.1
      obtain ⟨bv, ov, rfl, hcv⟩ := HV.out.cells (by omega)
      have hcv1 := hcv k (by omega)
      have hvk : vs[k]'(by omega) = .pointer (some ⟨g, 0, none⟩) := by
        rw [List.getElem?_eq_getElem (by omega)] at hv
        exact Option.some.inj hv
      rw [hvk] at hcv1
      have hcv2 := (hb.cell (p := ⟨bv, ov + k, none⟩) (World.block_lt_of_cell? w _ hcv1)).trans hcv1
      have hg0 := (hb.cell (p := ⟨g, 0, none⟩) (World.block_lt_of_cell? w _ g0)).trans g0
      have hg1 := (hb.cell (p := ⟨g, 1, none⟩) (World.block_lt_of_cell? w _ g1)).trans g1
      have ho1 := (hb.cell (p := ⟨O, 1, none⟩) hO).trans o1
      have hI : Ids wr := HI.out.keep hb
      have hLk : L.drop k = (ks[k], ts[k]) :: L.drop (k + 1) := by
        have hk2 : k < L.length := by omega
        rw [List.drop_eq_getElem_cons hk2]
        have e := HZ.out
        subst e
        simp
      have hts : ts[k].size ≤ 140737488351232 := HTS.out _ (List.getElem_mem hkt)
      obtain ⟨x, hx⟩ : ∃ x, x = ks[k] := ⟨_, rfl⟩
      obtain ⟨t, ht⟩ : ∃ t, t = ts[k] := ⟨_, rfl⟩
      rw [← hx, ← ht] at hLk
      rw [← hx] at hc1
      rw [← ht] at hg1 hts
      have t2 : ∀ W : World, (Instr.typeAssert (.iface 9 (.string t)) 20 9 false).run Tryd.prog W = .ok (.string t) W := fun W => by rfl
      have HLK := Lib.hid hLk
      have HIR := Lib.hid hI
      have HP := Lib.hid hp
      have HB := Lib.hid hb
      have HC := Lib.hid hc
      have HF := Lib.hid hf
      have HTT := Lib.hid hts
      have hkb : k + 1 ≤ 9223372036854775807 := by have := H1.out.len; rw [strv_len] at this; omega
      clear hn hlen hLL hcb hcw hvl hv g0 g1 hcv hcv1 hvk hb hI hLk hp hx ht hc hf hts
      by_cases h1 : x = REF
      · subst h1
        cases nF
        · unfold REF at hc1
          go_wp2_with fail
          go_roundw
          case rel =>
            obtain ⟨os, ob, h1, h2, h3⟩ := HP.out
            refine ⟨k + 1, t, true, iF, f, by have := HLL.out; omega, rfl, rfl, rfl, rfl, by simp, HC.out, HF.out, ⟨some t, ob, ⟨rfl, rfl⟩, h2, ?_⟩, HB.out, hR⟩
            rw [h3, HLK.out]
            cases os with
            | none => simp [parse]
            | some y => simp at h1
          case measure => simp [intOf]; omega
        · unfold REF at hc1
          have gz0 := HIR.out.zero 0 (by omega)
          have gz1 := HIR.out.zero 1 (by omega)
          have gz2 := HIR.out.zero 2 (by omega)
          have gz3 := HIR.out.zero 3 (by omega)
          have gz4 := HIR.out.zero 4 (by omega)
          have gz5 := HIR.out.zero 5 (by omega)
          have gz6 := HIR.out.zero 6 (by omega)
          have gz7 := HIR.out.zero 7 (by omega)
          have gz8 := HIR.out.zero 8 (by omega)
          have gz9 := HIR.out.zero 9 (by omega)
          have gz10 := HIR.out.zero 10 (by omega)
          have gz11 := HIR.out.zero 11 (by omega)
          have rc0 := HC.out 0 (by omega)
          have rc1 := HC.out 1 (by omega)
          have rc2 := HC.out 2 (by omega)
          have rc3 := HC.out 3 (by omega)
          have rc4 := HC.out 4 (by omega)
          have rc5 := HC.out 5 (by omega)
          have rc6 := HC.out 6 (by omega)
          have rc7 := HC.out 7 (by omega)
          have rc8 := HC.out 8 (by omega)
          have rc9 := HC.out 9 (by omega)
          have rc10 := HC.out 10 (by omega)
          have rc11 := HC.out 11 (by omega)
          have rf0 := HF.out 0
          have rf1 := HF.out 1
          have rf2 := HF.out 2
          have rf3 := HF.out 3
          have rf4 := HF.out 4
          have rf5 := HF.out 5
          have rf6 := HF.out 6
          have rf7 := HF.out 7
          have rf8 := HF.out 8
          have rf9 := HF.out 9
          have rf10 := HF.out 10
          have rf11 := HF.out 11
          go_wp2_with fail
          refine start_ (n := 5) (S := fun w' => w'.cell? ⟨0, 0, none⟩ = some (.int .u8 0) ∧ w'.cell? ⟨0, 1, none⟩ = some (.int .u8 0) ∧ w'.cell? ⟨0, 2, none⟩ = some (.int .u8 0) ∧ w'.cell? ⟨0, 3, none⟩ = some (.int .u8 0) ∧ w'.cell? ⟨0, 4, none⟩ = some (.int .u8 0) ∧ w'.cell? ⟨0, 5, none⟩ = some (.int .u8 0) ∧ w'.cell? ⟨0, 6, none⟩ = some (.int .u8 0) ∧ w'.cell? ⟨0, 7, none⟩ = some (.int .u8 0) ∧ w'.cell? ⟨0, 8, none⟩ = some (.int .u8 0) ∧ w'.cell? ⟨0, 9, none⟩ = some (.int .u8 0) ∧ w'.cell? ⟨0, 10, none⟩ = some (.int .u8 0) ∧ w'.cell? ⟨0, 11, none⟩ = some (.int .u8 0) ∧ w'.cell? ⟨w.heap.size, 0, none⟩ = some (.int .u8 (f 0)) ∧ w'.cell? ⟨w.heap.size, 1, none⟩ = some (.int .u8 (f 1)) ∧ w'.cell? ⟨w.heap.size, 2, none⟩ = some (.int .u8 (f 2)) ∧ w'.cell? ⟨w.heap.size, 3, none⟩ = some (.int .u8 (f 3)) ∧ w'.cell? ⟨w.heap.size, 4, none⟩ = some (.int .u8 (f 4)) ∧ w'.cell? ⟨w.heap.size, 5, none⟩ = some (.int .u8 (f 5)) ∧ w'.cell? ⟨w.heap.size, 6, none⟩ = some (.int .u8 (f 6)) ∧ w'.cell? ⟨w.heap.size, 7, none⟩ = some (.int .u8 (f 7)) ∧ w'.cell? ⟨w.heap.size, 8, none⟩ = some (.int .u8 (f 8)) ∧ w'.cell? ⟨w.heap.size, 9, none⟩ = some (.int .u8 (f 9)) ∧ w'.cell? ⟨w.heap.size, 10, none⟩ = some (.int .u8 (f 10)) ∧ w'.cell? ⟨w.heap.size, 11, none⟩ = some (.int .u8 (f 11)) ∧ w'.frozen? ⟨w.heap.size, 0, none⟩ = false ∧ w'.frozen? ⟨w.heap.size, 1, none⟩ = false ∧ w'.frozen? ⟨w.heap.size, 2, none⟩ = false ∧ w'.frozen? ⟨w.heap.size, 3, none⟩ = false ∧ w'.frozen? ⟨w.heap.size, 4, none⟩ = false ∧ w'.frozen? ⟨w.heap.size, 5, none⟩ = false ∧ w'.frozen? ⟨w.heap.size, 6, none⟩ = false ∧ w'.frozen? ⟨w.heap.size, 7, none⟩ = false ∧ w'.frozen? ⟨w.heap.size, 8, none⟩ = false ∧ w'.frozen? ⟨w.heap.size, 9, none⟩ = false ∧ w'.frozen? ⟨w.heap.size, 10, none⟩ = false ∧ w'.frozen? ⟨w.heap.size, 11, none⟩ = false) (ds := [3]) #[false, false, false, false, false] (by kernel_rfl) rfl rfl ⟨(by go_simp), (by go_simp), (by go_simp), (by go_simp), (by go_simp), (by go_simp), (by go_simp), (by go_simp), (by go_simp), (by go_simp), (by go_simp), (by go_simp), (by go_simp), (by go_simp), (by go_simp), (by go_simp), (by go_simp), (by go_simp), (by go_simp), (by go_simp), (by go_simp), (by go_simp), (by go_simp), (by go_simp), (by go_simp), (by go_simp), (by go_simp), (by go_simp), (by go_simp), (by go_simp), (by go_simp), (by go_simp), (by go_simp), (by go_simp), (by go_simp), (by go_simp)⟩ (fun hHeld => ?_)
          refine with_tabW R21.tab14 R21.bits14 (fun HT_ HW_ => ?_)
          refine take_ (i := 0) (N := some 46) (v := ?_) (a' := ?_) #[true, false, false, false, false] rfl rfl (take_ofW HT_.out HW_.out (by kernel_rfl)) (fun _ _ _ h => h) (Or.inl ⟨by rfl, ?_⟩) hHeld ?_ ?_
          rotate_left
          · rintro w' ⟨s0, s1, s2, s3, s4, s5, s6, s7, s8, s9, s10, s11, s12, s13, s14, s15, s16, s17, s18, s19, s20, s21, s22, s23, s24, s25, s26, s27, s28, s29, s30, s31, s32, s33, s34, s35⟩
            go_simp
            with_reducible rfl
          rotate_left
          · simp only [Act.put, List.setIfInBounds_toArray, List.set_cons_zero, List.set_cons_succ, i64_w, i32_w]
            rfl
          refine one_ (i := 1) (N := some 47) #[true, true, false, false, false] rfl rfl (one_of HT_.out (by kernel_rfl)) (by decide) (fun K hK => ?_)
          refine goes_ Tryd.func22 (by kernel_rfl) rfl #[.string ⟨#[100, 117, 112, 108, 105, 99, 97, 116, 101, 32, 36, 114, 101, 102, 32, 107, 101, 121, 32, 105, 110, 32, 36, 100, 98, 80, 111, 105, 110, 116, 101, 114]⟩] (by rfl) rfl rfl (by simp only [List.map_toArray, List.map_cons, List.map_nil]; rfl) ?_
          with_reducible refine (newErr _ _).mono ?_
          rintro e w3 ⟨p3, rfl, hb3⟩
          refine ⟨_, rfl, ?_⟩
          have rd0 := (hb3.cell (World.block_lt_of_cell? _ _ hHeld.2.2.2.2.2.2.2.2.2.2.2.2.1)).trans hHeld.2.2.2.2.2.2.2.2.2.2.2.2.1
          have rd1 := (hb3.cell (World.block_lt_of_cell? _ _ hHeld.2.2.2.2.2.2.2.2.2.2.2.2.2.1)).trans hHeld.2.2.2.2.2.2.2.2.2.2.2.2.2.1
          have rd2 := (hb3.cell (World.block_lt_of_cell? _ _ hHeld.2.2.2.2.2.2.2.2.2.2.2.2.2.2.1)).trans hHeld.2.2.2.2.2.2.2.2.2.2.2.2.2.2.1
          have rd3 := (hb3.cell (World.block_lt_of_cell? _ _ hHeld.2.2.2.2.2.2.2.2.2.2.2.2.2.2.2.1)).trans hHeld.2.2.2.2.2.2.2.2.2.2.2.2.2.2.2.1
          have rd4 := (hb3.cell (World.block_lt_of_cell? _ _ hHeld.2.2.2.2.2.2.2.2.2.2.2.2.2.2.2.2.1)).trans hHeld.2.2.2.2.2.2.2.2.2.2.2.2.2.2.2.2.1
          have rd5 := (hb3.cell (World.block_lt_of_cell? _ _ hHeld.2.2.2.2.2.2.2.2.2.2.2.2.2.2.2.2.2.1)).trans hHeld.2.2.2.2.2.2.2.2.2.2.2.2.2.2.2.2.2.1
          have rd6 := (hb3.cell (World.block_lt_of_cell? _ _ hHeld.2.2.2.2.2.2.2.2.2.2.2.2.2.2.2.2.2.2.1)).trans hHeld.2.2.2.2.2.2.2.2.2.2.2.2.2.2.2.2.2.2.1
          have rd7 := (hb3.cell (World.block_lt_of_cell? _ _ hHeld.2.2.2.2.2.2.2.2.2.2.2.2.2.2.2.2.2.2.2.1)).trans hHeld.2.2.2.2.2.2.2.2.2.2.2.2.2.2.2.2.2.2.2.1
          have rd8 := (hb3.cell (World.block_lt_of_cell? _ _ hHeld.2.2.2.2.2.2.2.2.2.2.2.2.2.2.2.2.2.2.2.2.1)).trans hHeld.2.2.2.2.2.2.2.2.2.2.2.2.2.2.2.2.2.2.2.2.1
          have rd9 := (hb3.cell (World.block_lt_of_cell? _ _ hHeld.2.2.2.2.2.2.2.2.2.2.2.2.2.2.2.2.2.2.2.2.2.1)).trans hHeld.2.2.2.2.2.2.2.2.2.2.2.2.2.2.2.2.2.2.2.2.2.1
          have rd10 := (hb3.cell (World.block_lt_of_cell? _ _ hHeld.2.2.2.2.2.2.2.2.2.2.2.2.2.2.2.2.2.2.2.2.2.2.1)).trans hHeld.2.2.2.2.2.2.2.2.2.2.2.2.2.2.2.2.2.2.2.2.2.2.1
          have rd11 := (hb3.cell (World.block_lt_of_cell? _ _ hHeld.2.2.2.2.2.2.2.2.2.2.2.2.2.2.2.2.2.2.2.2.2.2.2.1)).trans hHeld.2.2.2.2.2.2.2.2.2.2.2.2.2.2.2.2.2.2.2.2.2.2.2.1
          have HB3 := Lib.hid (bstep HB.out (by omega) (bleft hb3))
          have hR3 : w.heap.size < w3.heap.size := by have := hb3.size; simp at this; omega
          refine hK.out _ _ ⟨((hb3.cell (World.block_lt_of_cell? _ _ hHeld.1)).trans hHeld.1), ((hb3.cell (World.block_lt_of_cell? _ _ hHeld.2.1)).trans hHeld.2.1), ((hb3.cell (World.block_lt_of_cell? _ _ hHeld.2.2.1)).trans hHeld.2.2.1), ((hb3.cell (World.block_lt_of_cell? _ _ hHeld.2.2.2.1)).trans hHeld.2.2.2.1), ((hb3.cell (World.block_lt_of_cell? _ _ hHeld.2.2.2.2.1)).trans hHeld.2.2.2.2.1), ((hb3.cell (World.block_lt_of_cell? _ _ hHeld.2.2.2.2.2.1)).trans hHeld.2.2.2.2.2.1), ((hb3.cell (World.block_lt_of_cell? _ _ hHeld.2.2.2.2.2.2.1)).trans hHeld.2.2.2.2.2.2.1), ((hb3.cell (World.block_lt_of_cell? _ _ hHeld.2.2.2.2.2.2.2.1)).trans hHeld.2.2.2.2.2.2.2.1), ((hb3.cell (World.block_lt_of_cell? _ _ hHeld.2.2.2.2.2.2.2.2.1)).trans hHeld.2.2.2.2.2.2.2.2.1), ((hb3.cell (World.block_lt_of_cell? _ _ hHeld.2.2.2.2.2.2.2.2.2.1)).trans hHeld.2.2.2.2.2.2.2.2.2.1), ((hb3.cell (World.block_lt_of_cell? _ _ hHeld.2.2.2.2.2.2.2.2.2.2.1)).trans hHeld.2.2.2.2.2.2.2.2.2.2.1), ((hb3.cell (World.block_lt_of_cell? _ _ hHeld.2.2.2.2.2.2.2.2.2.2.2.1)).trans hHeld.2.2.2.2.2.2.2.2.2.2.2.1), ((hb3.cell (World.block_lt_of_cell? _ _ hHeld.2.2.2.2.2.2.2.2.2.2.2.2.1)).trans hHeld.2.2.2.2.2.2.2.2.2.2.2.2.1), ((hb3.cell (World.block_lt_of_cell? _ _ hHeld.2.2.2.2.2.2.2.2.2.2.2.2.2.1)).trans hHeld.2.2.2.2.2.2.2.2.2.2.2.2.2.1), ((hb3.cell (World.block_lt_of_cell? _ _ hHeld.2.2.2.2.2.2.2.2.2.2.2.2.2.2.1)).trans hHeld.2.2.2.2.2.2.2.2.2.2.2.2.2.2.1), ((hb3.cell (World.block_lt_of_cell? _ _ hHeld.2.2.2.2.2.2.2.2.2.2.2.2.2.2.2.1)).trans hHeld.2.2.2.2.2.2.2.2.2.2.2.2.2.2.2.1), ((hb3.cell (World.block_lt_of_cell? _ _ hHeld.2.2.2.2.2.2.2.2.2.2.2.2.2.2.2.2.1)).trans hHeld.2.2.2.2.2.2.2.2.2.2.2.2.2.2.2.2.1), ((hb3.cell (World.block_lt_of_cell? _ _ hHeld.2.2.2.2.2.2.2.2.2.2.2.2.2.2.2.2.2.1)).trans hHeld.2.2.2.2.2.2.2.2.2.2.2.2.2.2.2.2.2.1), ((hb3.cell (World.block_lt_of_cell? _ _ hHeld.2.2.2.2.2.2.2.2.2.2.2.2.2.2.2.2.2.2.1)).trans hHeld.2.2.2.2.2.2.2.2.2.2.2.2.2.2.2.2.2.2.1), ((hb3.cell (World.block_lt_of_cell? _ _ hHeld.2.2.2.2.2.2.2.2.2.2.2.2.2.2.2.2.2.2.2.1)).trans hHeld.2.2.2.2.2.2.2.2.2.2.2.2.2.2.2.2.2.2.2.1), ((hb3.cell (World.block_lt_of_cell? _ _ hHeld.2.2.2.2.2.2.2.2.2.2.2.2.2.2.2.2.2.2.2.2.1)).trans hHeld.2.2.2.2.2.2.2.2.2.2.2.2.2.2.2.2.2.2.2.2.1), ((hb3.cell (World.block_lt_of_cell? _ _ hHeld.2.2.2.2.2.2.2.2.2.2.2.2.2.2.2.2.2.2.2.2.2.1)).trans hHeld.2.2.2.2.2.2.2.2.2.2.2.2.2.2.2.2.2.2.2.2.2.1), ((hb3.cell (World.block_lt_of_cell? _ _ hHeld.2.2.2.2.2.2.2.2.2.2.2.2.2.2.2.2.2.2.2.2.2.2.1)).trans hHeld.2.2.2.2.2.2.2.2.2.2.2.2.2.2.2.2.2.2.2.2.2.2.1), ((hb3.cell (World.block_lt_of_cell? _ _ hHeld.2.2.2.2.2.2.2.2.2.2.2.2.2.2.2.2.2.2.2.2.2.2.2.1)).trans hHeld.2.2.2.2.2.2.2.2.2.2.2.2.2.2.2.2.2.2.2.2.2.2.2.1), ((hb3.frozen (p := ⟨w.heap.size, 0, none⟩) (by simpa using hR)).trans hHeld.2.2.2.2.2.2.2.2.2.2.2.2.2.2.2.2.2.2.2.2.2.2.2.2.1), ((hb3.frozen (p := ⟨w.heap.size, 1, none⟩) (by simpa using hR)).trans hHeld.2.2.2.2.2.2.2.2.2.2.2.2.2.2.2.2.2.2.2.2.2.2.2.2.2.1), ((hb3.frozen (p := ⟨w.heap.size, 2, none⟩) (by simpa using hR)).trans hHeld.2.2.2.2.2.2.2.2.2.2.2.2.2.2.2.2.2.2.2.2.2.2.2.2.2.2.1), ((hb3.frozen (p := ⟨w.heap.size, 3, none⟩) (by simpa using hR)).trans hHeld.2.2.2.2.2.2.2.2.2.2.2.2.2.2.2.2.2.2.2.2.2.2.2.2.2.2.2.1), ((hb3.frozen (p := ⟨w.heap.size, 4, none⟩) (by simpa using hR)).trans hHeld.2.2.2.2.2.2.2.2.2.2.2.2.2.2.2.2.2.2.2.2.2.2.2.2.2.2.2.2.1), ((hb3.frozen (p := ⟨w.heap.size, 5, none⟩) (by simpa using hR)).trans hHeld.2.2.2.2.2.2.2.2.2.2.2.2.2.2.2.2.2.2.2.2.2.2.2.2.2.2.2.2.2.1), ((hb3.frozen (p := ⟨w.heap.size, 6, none⟩) (by simpa using hR)).trans hHeld.2.2.2.2.2.2.2.2.2.2.2.2.2.2.2.2.2.2.2.2.2.2.2.2.2.2.2.2.2.2.1), ((hb3.frozen (p := ⟨w.heap.size, 7, none⟩) (by simpa using hR)).trans hHeld.2.2.2.2.2.2.2.2.2.2.2.2.2.2.2.2.2.2.2.2.2.2.2.2.2.2.2.2.2.2.2.1), ((hb3.frozen (p := ⟨w.heap.size, 8, none⟩) (by simpa using hR)).trans hHeld.2.2.2.2.2.2.2.2.2.2.2.2.2.2.2.2.2.2.2.2.2.2.2.2.2.2.2.2.2.2.2.2.1), ((hb3.frozen (p := ⟨w.heap.size, 9, none⟩) (by simpa using hR)).trans hHeld.2.2.2.2.2.2.2.2.2.2.2.2.2.2.2.2.2.2.2.2.2.2.2.2.2.2.2.2.2.2.2.2.2.1), ((hb3.frozen (p := ⟨w.heap.size, 10, none⟩) (by simpa using hR)).trans hHeld.2.2.2.2.2.2.2.2.2.2.2.2.2.2.2.2.2.2.2.2.2.2.2.2.2.2.2.2.2.2.2.2.2.2.1), ((hb3.frozen (p := ⟨w.heap.size, 11, none⟩) (by simpa using hR)).trans hHeld.2.2.2.2.2.2.2.2.2.2.2.2.2.2.2.2.2.2.2.2.2.2.2.2.2.2.2.2.2.2.2.2.2.2.2)⟩ (fun hHeld => ?_)
          clear hK K
          refine norm_ (a' := ?_) ?_ ?_
          rotate_left
          · show Act.put _ (some 47) _ = _
            simp only [Act.put, List.setIfInBounds_toArray, List.set_cons_zero, List.set_cons_succ, i64_w, i32_w]
            rfl
          refine pure_ (i := 2) (N := some 2) (v := ?_) (a' := ?_) #[true, true, true, false, false] rfl rfl (any_of HT_.out (by kernel_rfl)) (fun _ _ _ h => h) (Or.inl ⟨by rfl, ?_⟩) ?_ ?_
          rotate_left
          · intro w'
            go_simp
            with_reducible rfl
          rotate_left
          · simp only [Act.put, List.setIfInBounds_toArray, List.set_cons_zero, List.set_cons_succ, i64_w, i32_w]
            rfl
          refine last_ (i := 3) (N := none) #[true, true, true, true, false] rfl rfl (one_of HT_.out (by kernel_rfl)) (by decide) (fun K hK => ?_)
          refine skip_ (w1 := ?_) (by rfl) rfl ?_ ?_
          rotate_left
          · go_simp
            rfl
          refine hK.out _ _ ?_
          clear hK K
          refine pure_ (i := 4) (N := some 4) (v := ?_) (a' := ?_) #[true, true, true, true, true] rfl rfl (any_of HT_.out (by kernel_rfl)) (fun _ _ _ h => h) (Or.inl ⟨by rfl, ?_⟩) ?_ ?_
          rotate_left
          · intro w'
            go_simp
            with_reducible rfl
          rotate_left
          · simp only [Act.put, List.setIfInBounds_toArray, List.set_cons_zero, List.set_cons_succ, i64_w, i32_w]
            rfl
          refine done_ (done_of HT_.out (by kernel_rfl)) ?_
          have hnone : parse L none none = none := by
            obtain ⟨os, ob, h1, h2, h3⟩ := HP.out
            rw [h3, HLK.out]
            cases os with
            | none => simp at h1
            | some y => simp [parse]
          have HNO := Lib.hid hnone
          clear hnone
          go_wp2_with fail
          exact bodyPost_ret (v := .tuple #[.string ⟨#[]⟩, idA (fun _ => 0), (.iface 67 p3)]) (by simp [results, Tryd.results21, go_sem, idA, rd0, rd1, rd2, rd3, rd4, rd5, rd6, rd7, rd8, rd9, rd10, rd11, hR3]) rfl ⟨_, (fun _ => 0), _, rfl, by rw [HNO.out]; exact ⟨_, _, rfl⟩, set12 HB3.out _ _ _ _ _ _ _ _ _ _ _ _⟩
      · by_cases h2 : x = IDN
        · subst h2
          cases iF
          · unfold IDN at hc1
            go_wp2_with fail
            refine (oid_any t wr HTT.out HIR.out).mono ?_
            rintro e w5 ⟨f5, v5, rfl, hm, hb5⟩
            have hR5 : w.heap.size < w5.heap.size := by have := hb5.size; omega
            have hI5 := Lib.hid (HIR.out.keep hb5)
            have hC5 : Hid (∀ j, j < 12 → w5.cell? ⟨w.heap.size, j, none⟩ = some (.int .u8 (f j))) := Lib.hid fun j hj => (hb5.cell (p := ⟨w.heap.size, j, none⟩) hR).trans (HC.out j hj)
            have hF5 : Hid (∀ o, w5.frozen? ⟨w.heap.size, o, none⟩ = false) := Lib.hid fun o => (hb5.frozen (p := ⟨w.heap.size, o, none⟩) hR).trans (HF.out o)
            have HB5 := Lib.hid (bstep HB.out (by omega) hb5)
            have h0R : 2 < w.heap.size := by obtain ⟨ev, h2⟩ := HI.out.len; exact World.block_lt_of_cell? w _ h2
            clear hb5
            have rc0 := hC5.out 0 (by omega)
            have rf0 := hF5.out 0
            have rc1 := hC5.out 1 (by omega)
            have rf1 := hF5.out 1
            have rc2 := hC5.out 2 (by omega)
            have rf2 := hF5.out 2
            have rc3 := hC5.out 3 (by omega)
            have rf3 := hF5.out 3
            have rc4 := hC5.out 4 (by omega)
            have rf4 := hF5.out 4
            have rc5 := hC5.out 5 (by omega)
            have rf5 := hF5.out 5
            have rc6 := hC5.out 6 (by omega)
            have rf6 := hF5.out 6
            have rc7 := hC5.out 7 (by omega)
            have rf7 := hF5.out 7
            have rc8 := hC5.out 8 (by omega)
            have rf8 := hF5.out 8
            have rc9 := hC5.out 9 (by omega)
            have rf9 := hF5.out 9
            have rc10 := hC5.out 10 (by omega)
            have rf10 := hF5.out 10
            have rc11 := hC5.out 11 (by omega)
            have rf11 := hF5.out 11
            unfold idA
            cases hu : unhex t with
            | some b5 =>
              rw [hu] at hm
              obtain ⟨rfl, hlb, hfb⟩ := hm
              have HU := Lib.hid hu
              have HLB := Lib.hid hlb
              have HFB := Lib.hid hfb
              clear hu hlb hfb
              go_wp2_with fail
              go_roundw
              case rel =>
                obtain ⟨os, ob, h1, h2, h3⟩ := HP.out
                refine ⟨k + 1, s, nF, true, f5, by have := HLL.out; omega, rfl, rfl, rfl, rfl, by simp, cells12 f f5 hC5.out hR5, fun o => by simp [hF5.out], ⟨os, some b5, h1, ⟨rfl, HLB.out, HFB.out⟩, ?_⟩, set12 HB5.out _ _ _ _ _ _ _ _ _ _ _ _, size12 hR5 _ _ _ _ _ _ _ _ _ _ _ _⟩
                rw [h3, HLK.out]
                cases ob with
                | none => simp [parse, id_ne, HU.out]
                | some y => simp at h2
              case measure => simp [intOf]; omega
            | none =>
              rw [hu] at hm
              obtain ⟨T5, p5, rfl⟩ := hm
              have HU := Lib.hid hu
              clear hu
              have HNO : Hid (parse L none none = none) := Lib.hid (by
                obtain ⟨os, ob, h1, h2, h3⟩ := HP.out
                rw [h3, HLK.out]
                cases ob with
                | none => simp [parse, id_ne, HU.out]
                | some y => simp at h2)
              go_wp2_with fail
              have hC6 := cells12 f f5 hC5.out hR5
              have hI6 : Ids ((((((((((((w5.setCell ⟨w.heap.size, 0, none⟩ (.int .u8 (f5 0))).setCell ⟨w.heap.size, 1, none⟩ (.int .u8 (f5 1))).setCell ⟨w.heap.size, 2, none⟩ (.int .u8 (f5 2))).setCell ⟨w.heap.size, 3, none⟩ (.int .u8 (f5 3))).setCell ⟨w.heap.size, 4, none⟩ (.int .u8 (f5 4))).setCell ⟨w.heap.size, 5, none⟩ (.int .u8 (f5 5))).setCell ⟨w.heap.size, 6, none⟩ (.int .u8 (f5 6))).setCell ⟨w.heap.size, 7, none⟩ (.int .u8 (f5 7))).setCell ⟨w.heap.size, 8, none⟩ (.int .u8 (f5 8))).setCell ⟨w.heap.size, 9, none⟩ (.int .u8 (f5 9))).setCell ⟨w.heap.size, 10, none⟩ (.int .u8 (f5 10))).setCell ⟨w.heap.size, 11, none⟩ (.int .u8 (f5 11))) := ids12 hI5.out h0R _ _ _ _ _ _ _ _ _ _ _ _
              have hF6 : ∀ o, ((((((((((((w5.setCell ⟨w.heap.size, 0, none⟩ (.int .u8 (f5 0))).setCell ⟨w.heap.size, 1, none⟩ (.int .u8 (f5 1))).setCell ⟨w.heap.size, 2, none⟩ (.int .u8 (f5 2))).setCell ⟨w.heap.size, 3, none⟩ (.int .u8 (f5 3))).setCell ⟨w.heap.size, 4, none⟩ (.int .u8 (f5 4))).setCell ⟨w.heap.size, 5, none⟩ (.int .u8 (f5 5))).setCell ⟨w.heap.size, 6, none⟩ (.int .u8 (f5 6))).setCell ⟨w.heap.size, 7, none⟩ (.int .u8 (f5 7))).setCell ⟨w.heap.size, 8, none⟩ (.int .u8 (f5 8))).setCell ⟨w.heap.size, 9, none⟩ (.int .u8 (f5 9))).setCell ⟨w.heap.size, 10, none⟩ (.int .u8 (f5 10))).setCell ⟨w.heap.size, 11, none⟩ (.int .u8 (f5 11))).frozen? ⟨w.heap.size, o, none⟩ = false := fun o => by simp [hF5.out]
              have hB6 := set12 HB5.out (.int .u8 (f5 0)) (.int .u8 (f5 1)) (.int .u8 (f5 2)) (.int .u8 (f5 3)) (.int .u8 (f5 4)) (.int .u8 (f5 5)) (.int .u8 (f5 6)) (.int .u8 (f5 7)) (.int .u8 (f5 8)) (.int .u8 (f5 9)) (.int .u8 (f5 10)) (.int .u8 (f5 11))
              have hR6 := size12 hR5 (.int .u8 (f5 0)) (.int .u8 (f5 1)) (.int .u8 (f5 2)) (.int .u8 (f5 3)) (.int .u8 (f5 4)) (.int .u8 (f5 5)) (.int .u8 (f5 6)) (.int .u8 (f5 7)) (.int .u8 (f5 8)) (.int .u8 (f5 9)) (.int .u8 (f5 10)) (.int .u8 (f5 11))
              obtain ⟨w6, hw6⟩ : ∃ w6, w6 = ((((((((((((w5.setCell ⟨w.heap.size, 0, none⟩ (.int .u8 (f5 0))).setCell ⟨w.heap.size, 1, none⟩ (.int .u8 (f5 1))).setCell ⟨w.heap.size, 2, none⟩ (.int .u8 (f5 2))).setCell ⟨w.heap.size, 3, none⟩ (.int .u8 (f5 3))).setCell ⟨w.heap.size, 4, none⟩ (.int .u8 (f5 4))).setCell ⟨w.heap.size, 5, none⟩ (.int .u8 (f5 5))).setCell ⟨w.heap.size, 6, none⟩ (.int .u8 (f5 6))).setCell ⟨w.heap.size, 7, none⟩ (.int .u8 (f5 7))).setCell ⟨w.heap.size, 8, none⟩ (.int .u8 (f5 8))).setCell ⟨w.heap.size, 9, none⟩ (.int .u8 (f5 9))).setCell ⟨w.heap.size, 10, none⟩ (.int .u8 (f5 10))).setCell ⟨w.heap.size, 11, none⟩ (.int .u8 (f5 11))) := ⟨_, rfl⟩
              rw [← hw6] at hC6 hI6 hF6 hB6 hR6 ⊢
              have HC6 := Lib.hid hC6
              have HF6 := Lib.hid hF6
              have HI6 := Lib.hid hI6
              have HB6 := Lib.hid hB6
              clear hw6 hC6 hF6 hI6 hB6 rc0 rf0 rc1 rf1 rc2 rf2 rc3 rf3 rc4 rf4 rc5 rf5 rc6 rf6 rc7 rf7 rc8 rf8 rc9 rf9 rc10 rf10 rc11 rf11
              have gz0 := HI6.out.zero 0 (by omega)
              have rc0 := HC6.out 0 (by omega)
              have rf0 := HF6.out 0
              have gz1 := HI6.out.zero 1 (by omega)
              have rc1 := HC6.out 1 (by omega)
              have rf1 := HF6.out 1
              have gz2 := HI6.out.zero 2 (by omega)
              have rc2 := HC6.out 2 (by omega)
              have rf2 := HF6.out 2
              have gz3 := HI6.out.zero 3 (by omega)
              have rc3 := HC6.out 3 (by omega)
              have rf3 := HF6.out 3
              have gz4 := HI6.out.zero 4 (by omega)
              have rc4 := HC6.out 4 (by omega)
              have rf4 := HF6.out 4
              have gz5 := HI6.out.zero 5 (by omega)
              have rc5 := HC6.out 5 (by omega)
              have rf5 := HF6.out 5
              have gz6 := HI6.out.zero 6 (by omega)
              have rc6 := HC6.out 6 (by omega)
              have rf6 := HF6.out 6
              have gz7 := HI6.out.zero 7 (by omega)
              have rc7 := HC6.out 7 (by omega)
              have rf7 := HF6.out 7
              have gz8 := HI6.out.zero 8 (by omega)
              have rc8 := HC6.out 8 (by omega)
              have rf8 := HF6.out 8
              have gz9 := HI6.out.zero 9 (by omega)
              have rc9 := HC6.out 9 (by omega)
              have rf9 := HF6.out 9
              have gz10 := HI6.out.zero 10 (by omega)
              have rc10 := HC6.out 10 (by omega)
              have rf10 := HF6.out 10
              have gz11 := HI6.out.zero 11 (by omega)
              have rc11 := HC6.out 11 (by omega)
              have rf11 := HF6.out 11
              refine start_ (n := 5) (S := fun w' => w'.cell? ⟨0, 0, none⟩ = some (.int .u8 0) ∧ w'.cell? ⟨0, 1, none⟩ = some (.int .u8 0) ∧ w'.cell? ⟨0, 2, none⟩ = some (.int .u8 0) ∧ w'.cell? ⟨0, 3, none⟩ = some (.int .u8 0) ∧ w'.cell? ⟨0, 4, none⟩ = some (.int .u8 0) ∧ w'.cell? ⟨0, 5, none⟩ = some (.int .u8 0) ∧ w'.cell? ⟨0, 6, none⟩ = some (.int .u8 0) ∧ w'.cell? ⟨0, 7, none⟩ = some (.int .u8 0) ∧ w'.cell? ⟨0, 8, none⟩ = some (.int .u8 0) ∧ w'.cell? ⟨0, 9, none⟩ = some (.int .u8 0) ∧ w'.cell? ⟨0, 10, none⟩ = some (.int .u8 0) ∧ w'.cell? ⟨0, 11, none⟩ = some (.int .u8 0) ∧ w'.cell? ⟨w.heap.size, 0, none⟩ = some (.int .u8 (f5 0)) ∧ w'.cell? ⟨w.heap.size, 1, none⟩ = some (.int .u8 (f5 1)) ∧ w'.cell? ⟨w.heap.size, 2, none⟩ = some (.int .u8 (f5 2)) ∧ w'.cell? ⟨w.heap.size, 3, none⟩ = some (.int .u8 (f5 3)) ∧ w'.cell? ⟨w.heap.size, 4, none⟩ = some (.int .u8 (f5 4)) ∧ w'.cell? ⟨w.heap.size, 5, none⟩ = some (.int .u8 (f5 5)) ∧ w'.cell? ⟨w.heap.size, 6, none⟩ = some (.int .u8 (f5 6)) ∧ w'.cell? ⟨w.heap.size, 7, none⟩ = some (.int .u8 (f5 7)) ∧ w'.cell? ⟨w.heap.size, 8, none⟩ = some (.int .u8 (f5 8)) ∧ w'.cell? ⟨w.heap.size, 9, none⟩ = some (.int .u8 (f5 9)) ∧ w'.cell? ⟨w.heap.size, 10, none⟩ = some (.int .u8 (f5 10)) ∧ w'.cell? ⟨w.heap.size, 11, none⟩ = some (.int .u8 (f5 11)) ∧ w'.frozen? ⟨w.heap.size, 0, none⟩ = false ∧ w'.frozen? ⟨w.heap.size, 1, none⟩ = false ∧ w'.frozen? ⟨w.heap.size, 2, none⟩ = false ∧ w'.frozen? ⟨w.heap.size, 3, none⟩ = false ∧ w'.frozen? ⟨w.heap.size, 4, none⟩ = false ∧ w'.frozen? ⟨w.heap.size, 5, none⟩ = false ∧ w'.frozen? ⟨w.heap.size, 6, none⟩ = false ∧ w'.frozen? ⟨w.heap.size, 7, none⟩ = false ∧ w'.frozen? ⟨w.heap.size, 8, none⟩ = false ∧ w'.frozen? ⟨w.heap.size, 9, none⟩ = false ∧ w'.frozen? ⟨w.heap.size, 10, none⟩ = false ∧ w'.frozen? ⟨w.heap.size, 11, none⟩ = false) (ds := [3]) #[false, false, false, false, false] (by kernel_rfl) rfl rfl ⟨(by go_simp), (by go_simp), (by go_simp), (by go_simp), (by go_simp), (by go_simp), (by go_simp), (by go_simp), (by go_simp), (by go_simp), (by go_simp), (by go_simp), (by go_simp), (by go_simp), (by go_simp), (by go_simp), (by go_simp), (by go_simp), (by go_simp), (by go_simp), (by go_simp), (by go_simp), (by go_simp), (by go_simp), (by go_simp), (by go_simp), (by go_simp), (by go_simp), (by go_simp), (by go_simp), (by go_simp), (by go_simp), (by go_simp), (by go_simp), (by go_simp), (by go_simp)⟩ (fun hHeld => ?_)
              refine with_tabW R21.tab26 R21.bits26 (fun HT_ HW_ => ?_)
              refine pure_ (i := 1) (N := some 84) (v := ?_) (a' := ?_) #[false, true, false, false, false] rfl rfl (any_of HT_.out (by kernel_rfl)) (fun _ _ _ h => h) (Or.inl ⟨by rfl, ?_⟩) ?_ ?_
              rotate_left
              · intro w'
                go_simp
                with_reducible rfl
              rotate_left
              · simp only [Act.put, List.setIfInBounds_toArray, List.set_cons_zero, List.set_cons_succ, i64_w, i32_w]
                rfl
              refine pure_ (i := 2) (N := some 2) (v := ?_) (a' := ?_) #[false, true, true, false, false] rfl rfl (any_of HT_.out (by kernel_rfl)) (fun _ _ _ h => h) (Or.inl ⟨by rfl, ?_⟩) ?_ ?_
              rotate_left
              · intro w'
                go_simp
                with_reducible rfl
              rotate_left
              · simp only [Act.put, List.setIfInBounds_toArray, List.set_cons_zero, List.set_cons_succ, i64_w, i32_w]
                rfl
              refine take_ (i := 0) (N := some 83) (v := ?_) (a' := ?_) #[true, true, true, false, false] rfl rfl (take_ofW HT_.out HW_.out (by kernel_rfl)) (fun _ _ _ h => h) (Or.inl ⟨by rfl, ?_⟩) hHeld ?_ ?_
              rotate_left
              · rintro w' ⟨s0, s1, s2, s3, s4, s5, s6, s7, s8, s9, s10, s11, s12, s13, s14, s15, s16, s17, s18, s19, s20, s21, s22, s23, s24, s25, s26, s27, s28, s29, s30, s31, s32, s33, s34, s35⟩
                go_simp
                with_reducible rfl
              rotate_left
              · simp only [Act.put, List.setIfInBounds_toArray, List.set_cons_zero, List.set_cons_succ, i64_w, i32_w]
                rfl
              refine last_ (i := 3) (N := none) #[true, true, true, true, false] rfl rfl (one_of HT_.out (by kernel_rfl)) (by decide) (fun K hK => ?_)
              refine skip_ (w1 := ?_) (by rfl) rfl ?_ ?_
              rotate_left
              · go_simp
                rfl
              refine hK.out _ _ ?_
              clear hK K
              refine pure_ (i := 4) (N := some 4) (v := ?_) (a' := ?_) #[true, true, true, true, true] rfl rfl (any_of HT_.out (by kernel_rfl)) (fun _ _ _ h => h) (Or.inl ⟨by rfl, ?_⟩) ?_ ?_
              rotate_left
              · intro w'
                go_simp
                with_reducible rfl
              rotate_left
              · simp only [Act.put, List.setIfInBounds_toArray, List.set_cons_zero, List.set_cons_succ, i64_w, i32_w]
                rfl
              refine done_ (done_of HT_.out (by kernel_rfl)) ?_
              go_wp2_with fail
              exact bodyPost_ret (v := .tuple #[.string ⟨#[]⟩, idA (fun _ => 0), (.iface T5 p5)]) (by simp [results, Tryd.results21, go_sem, idA, rc0, rc1, rc2, rc3, rc4, rc5, rc6, rc7, rc8, rc9, rc10, rc11, hR6]) rfl ⟨_, (fun _ => 0), _, rfl, by rw [HNO.out]; exact ⟨_, _, rfl⟩, bdrew (set12 HB6.out _ _ _ _ _ _ _ _ _ _ _ _)⟩
          · unfold IDN at hc1
            have gz0 := HIR.out.zero 0 (by omega)
            have gz1 := HIR.out.zero 1 (by omega)
            have gz2 := HIR.out.zero 2 (by omega)
            have gz3 := HIR.out.zero 3 (by omega)
            have gz4 := HIR.out.zero 4 (by omega)
            have gz5 := HIR.out.zero 5 (by omega)
            have gz6 := HIR.out.zero 6 (by omega)
            have gz7 := HIR.out.zero 7 (by omega)
            have gz8 := HIR.out.zero 8 (by omega)
            have gz9 := HIR.out.zero 9 (by omega)
            have gz10 := HIR.out.zero 10 (by omega)
            have gz11 := HIR.out.zero 11 (by omega)
            have rc0 := HC.out 0 (by omega)
            have rc1 := HC.out 1 (by omega)
            have rc2 := HC.out 2 (by omega)
            have rc3 := HC.out 3 (by omega)
            have rc4 := HC.out 4 (by omega)
            have rc5 := HC.out 5 (by omega)
            have rc6 := HC.out 6 (by omega)
            have rc7 := HC.out 7 (by omega)
            have rc8 := HC.out 8 (by omega)
            have rc9 := HC.out 9 (by omega)
            have rc10 := HC.out 10 (by omega)
            have rc11 := HC.out 11 (by omega)
            have rf0 := HF.out 0
            have rf1 := HF.out 1
            have rf2 := HF.out 2
            have rf3 := HF.out 3
            have rf4 := HF.out 4
            have rf5 := HF.out 5
            have rf6 := HF.out 6
            have rf7 := HF.out 7
            have rf8 := HF.out 8
            have rf9 := HF.out 9
            have rf10 := HF.out 10
            have rf11 := HF.out 11
            go_wp2_with fail
            refine start_ (n := 5) (S := fun w' => w'.cell? ⟨0, 0, none⟩ = some (.int .u8 0) ∧ w'.cell? ⟨0, 1, none⟩ = some (.int .u8 0) ∧ w'.cell? ⟨0, 2, none⟩ = some (.int .u8 0) ∧ w'.cell? ⟨0, 3, none⟩ = some (.int .u8 0) ∧ w'.cell? ⟨0, 4, none⟩ = some (.int .u8 0) ∧ w'.cell? ⟨0, 5, none⟩ = some (.int .u8 0) ∧ w'.cell? ⟨0, 6, none⟩ = some (.int .u8 0) ∧ w'.cell? ⟨0, 7, none⟩ = some (.int .u8 0) ∧ w'.cell? ⟨0, 8, none⟩ = some (.int .u8 0) ∧ w'.cell? ⟨0, 9, none⟩ = some (.int .u8 0) ∧ w'.cell? ⟨0, 10, none⟩ = some (.int .u8 0) ∧ w'.cell? ⟨0, 11, none⟩ = some (.int .u8 0) ∧ w'.cell? ⟨w.heap.size, 0, none⟩ = some (.int .u8 (f 0)) ∧ w'.cell? ⟨w.heap.size, 1, none⟩ = some (.int .u8 (f 1)) ∧ w'.cell? ⟨w.heap.size, 2, none⟩ = some (.int .u8 (f 2)) ∧ w'.cell? ⟨w.heap.size, 3, none⟩ = some (.int .u8 (f 3)) ∧ w'.cell? ⟨w.heap.size, 4, none⟩ = some (.int .u8 (f 4)) ∧ w'.cell? ⟨w.heap.size, 5, none⟩ = some (.int .u8 (f 5)) ∧ w'.cell? ⟨w.heap.size, 6, none⟩ = some (.int .u8 (f 6)) ∧ w'.cell? ⟨w.heap.size, 7, none⟩ = some (.int .u8 (f 7)) ∧ w'.cell? ⟨w.heap.size, 8, none⟩ = some (.int .u8 (f 8)) ∧ w'.cell? ⟨w.heap.size, 9, none⟩ = some (.int .u8 (f 9)) ∧ w'.cell? ⟨w.heap.size, 10, none⟩ = some (.int .u8 (f 10)) ∧ w'.cell? ⟨w.heap.size, 11, none⟩ = some (.int .u8 (f 11)) ∧ w'.frozen? ⟨w.heap.size, 0, none⟩ = false ∧ w'.frozen? ⟨w.heap.size, 1, none⟩ = false ∧ w'.frozen? ⟨w.heap.size, 2, none⟩ = false ∧ w'.frozen? ⟨w.heap.size, 3, none⟩ = false ∧ w'.frozen? ⟨w.heap.size, 4, none⟩ = false ∧ w'.frozen? ⟨w.heap.size, 5, none⟩ = false ∧ w'.frozen? ⟨w.heap.size, 6, none⟩ = false ∧ w'.frozen? ⟨w.heap.size, 7, none⟩ = false ∧ w'.frozen? ⟨w.heap.size, 8, none⟩ = false ∧ w'.frozen? ⟨w.heap.size, 9, none⟩ = false ∧ w'.frozen? ⟨w.heap.size, 10, none⟩ = false ∧ w'.frozen? ⟨w.heap.size, 11, none⟩ = false) (ds := [3]) #[false, false, false, false, false] (by kernel_rfl) rfl rfl ⟨(by go_simp), (by go_simp), (by go_simp), (by go_simp), (by go_simp), (by go_simp), (by go_simp), (by go_simp), (by go_simp), (by go_simp), (by go_simp), (by go_simp), (by go_simp), (by go_simp), (by go_simp), (by go_simp), (by go_simp), (by go_simp), (by go_simp), (by go_simp), (by go_simp), (by go_simp), (by go_simp), (by go_simp), (by go_simp), (by go_simp), (by go_simp), (by go_simp), (by go_simp), (by go_simp), (by go_simp), (by go_simp), (by go_simp), (by go_simp), (by go_simp), (by go_simp)⟩ (fun hHeld => ?_)
            refine with_tabW R21.tab21 R21.bits21 (fun HT_ HW_ => ?_)
            refine take_ (i := 0) (N := some 63) (v := ?_) (a' := ?_) #[true, false, false, false, false] rfl rfl (take_ofW HT_.out HW_.out (by kernel_rfl)) (fun _ _ _ h => h) (Or.inl ⟨by rfl, ?_⟩) hHeld ?_ ?_
            rotate_left
            · rintro w' ⟨s0, s1, s2, s3, s4, s5, s6, s7, s8, s9, s10, s11, s12, s13, s14, s15, s16, s17, s18, s19, s20, s21, s22, s23, s24, s25, s26, s27, s28, s29, s30, s31, s32, s33, s34, s35⟩
              go_simp
              with_reducible rfl
            rotate_left
            · simp only [Act.put, List.setIfInBounds_toArray, List.set_cons_zero, List.set_cons_succ, i64_w, i32_w]
              rfl
            refine one_ (i := 1) (N := some 64) #[true, true, false, false, false] rfl rfl (one_of HT_.out (by kernel_rfl)) (by decide) (fun K hK => ?_)
            refine goes_ Tryd.func22 (by kernel_rfl) rfl #[.string ⟨#[100, 117, 112, 108, 105, 99, 97, 116, 101, 32, 36, 105, 100, 32, 107, 101, 121, 32, 105, 110, 32, 36, 100, 98, 80, 111, 105, 110, 116, 101, 114]⟩] (by rfl) rfl rfl (by simp only [List.map_toArray, List.map_cons, List.map_nil]; rfl) ?_
            with_reducible refine (newErr _ _).mono ?_
            rintro e w3 ⟨p3, rfl, hb3⟩
            refine ⟨_, rfl, ?_⟩
            have rd0 := (hb3.cell (World.block_lt_of_cell? _ _ hHeld.2.2.2.2.2.2.2.2.2.2.2.2.1)).trans hHeld.2.2.2.2.2.2.2.2.2.2.2.2.1
            have rd1 := (hb3.cell (World.block_lt_of_cell? _ _ hHeld.2.2.2.2.2.2.2.2.2.2.2.2.2.1)).trans hHeld.2.2.2.2.2.2.2.2.2.2.2.2.2.1
            have rd2 := (hb3.cell (World.block_lt_of_cell? _ _ hHeld.2.2.2.2.2.2.2.2.2.2.2.2.2.2.1)).trans hHeld.2.2.2.2.2.2.2.2.2.2.2.2.2.2.1
            have rd3 := (hb3.cell (World.block_lt_of_cell? _ _ hHeld.2.2.2.2.2.2.2.2.2.2.2.2.2.2.2.1)).trans hHeld.2.2.2.2.2.2.2.2.2.2.2.2.2.2.2.1
            have rd4 := (hb3.cell (World.block_lt_of_cell? _ _ hHeld.2.2.2.2.2.2.2.2.2.2.2.2.2.2.2.2.1)).trans hHeld.2.2.2.2.2.2.2.2.2.2.2.2.2.2.2.2.1
            have rd5 := (hb3.cell (World.block_lt_of_cell? _ _ hHeld.2.2.2.2.2.2.2.2.2.2.2.2.2.2.2.2.2.1)).trans hHeld.2.2.2.2.2.2.2.2.2.2.2.2.2.2.2.2.2.1
            have rd6 := (hb3.cell (World.block_lt_of_cell? _ _ hHeld.2.2.2.2.2.2.2.2.2.2.2.2.2.2.2.2.2.2.1)).trans hHeld.2.2.2.2.2.2.2.2.2.2.2.2.2.2.2.2.2.2.1
            have rd7 := (hb3.cell (World.block_lt_of_cell? _ _ hHeld.2.2.2.2.2.2.2.2.2.2.2.2.2.2.2.2.2.2.2.1)).trans hHeld.2.2.2.2.2.2.2.2.2.2.2.2.2.2.2.2.2.2.2.1
            have rd8 := (hb3.cell (World.block_lt_of_cell? _ _ hHeld.2.2.2.2.2.2.2.2.2.2.2.2.2.2.2.2.2.2.2.2.1)).trans hHeld.2.2.2.2.2.2.2.2.2.2.2.2.2.2.2.2.2.2.2.2.1
            have rd9 := (hb3.cell (World.block_lt_of_cell? _ _ hHeld.2.2.2.2.2.2.2.2.2.2.2.2.2.2.2.2.2.2.2.2.2.1)).trans hHeld.2.2.2.2.2.2.2.2.2.2.2.2.2.2.2.2.2.2.2.2.2.1
            have rd10 := (hb3.cell (World.block_lt_of_cell? _ _ hHeld.2.2.2.2.2.2.2.2.2.2.2.2.2.2.2.2.2.2.2.2.2.2.1)).trans hHeld.2.2.2.2.2.2.2.2.2.2.2.2.2.2.2.2.2.2.2.2.2.2.1
            have rd11 := (hb3.cell (World.block_lt_of_cell? _ _ hHeld.2.2.2.2.2.2.2.2.2.2.2.2.2.2.2.2.2.2.2.2.2.2.2.1)).trans hHeld.2.2.2.2.2.2.2.2.2.2.2.2.2.2.2.2.2.2.2.2.2.2.2.1
            have HB3 := Lib.hid (bstep HB.out (by omega) (bleft hb3))
            have hR3 : w.heap.size < w3.heap.size := by have := hb3.size; simp at this; omega
            refine hK.out _ _ ⟨((hb3.cell (World.block_lt_of_cell? _ _ hHeld.1)).trans hHeld.1), ((hb3.cell (World.block_lt_of_cell? _ _ hHeld.2.1)).trans hHeld.2.1), ((hb3.cell (World.block_lt_of_cell? _ _ hHeld.2.2.1)).trans hHeld.2.2.1), ((hb3.cell (World.block_lt_of_cell? _ _ hHeld.2.2.2.1)).trans hHeld.2.2.2.1), ((hb3.cell (World.block_lt_of_cell? _ _ hHeld.2.2.2.2.1)).trans hHeld.2.2.2.2.1), ((hb3.cell (World.block_lt_of_cell? _ _ hHeld.2.2.2.2.2.1)).trans hHeld.2.2.2.2.2.1), ((hb3.cell (World.block_lt_of_cell? _ _ hHeld.2.2.2.2.2.2.1)).trans hHeld.2.2.2.2.2.2.1), ((hb3.cell (World.block_lt_of_cell? _ _ hHeld.2.2.2.2.2.2.2.1)).trans hHeld.2.2.2.2.2.2.2.1), ((hb3.cell (World.block_lt_of_cell? _ _ hHeld.2.2.2.2.2.2.2.2.1)).trans hHeld.2.2.2.2.2.2.2.2.1), ((hb3.cell (World.block_lt_of_cell? _ _ hHeld.2.2.2.2.2.2.2.2.2.1)).trans hHeld.2.2.2.2.2.2.2.2.2.1), ((hb3.cell (World.block_lt_of_cell? _ _ hHeld.2.2.2.2.2.2.2.2.2.2.1)).trans hHeld.2.2.2.2.2.2.2.2.2.2.1), ((hb3.cell (World.block_lt_of_cell? _ _ hHeld.2.2.2.2.2.2.2.2.2.2.2.1)).trans hHeld.2.2.2.2.2.2.2.2.2.2.2.1), ((hb3.cell (World.block_lt_of_cell? _ _ hHeld.2.2.2.2.2.2.2.2.2.2.2.2.1)).trans hHeld.2.2.2.2.2.2.2.2.2.2.2.2.1), ((hb3.cell (World.block_lt_of_cell? _ _ hHeld.2.2.2.2.2.2.2.2.2.2.2.2.2.1)).trans hHeld.2.2.2.2.2.2.2.2.2.2.2.2.2.1), ((hb3.cell (World.block_lt_of_cell? _ _ hHeld.2.2.2.2.2.2.2.2.2.2.2.2.2.2.1)).trans hHeld.2.2.2.2.2.2.2.2.2.2.2.2.2.2.1), ((hb3.cell (World.block_lt_of_cell? _ _ hHeld.2.2.2.2.2.2.2.2.2.2.2.2.2.2.2.1)).trans hHeld.2.2.2.2.2.2.2.2.2.2.2.2.2.2.2.1), ((hb3.cell (World.block_lt_of_cell? _ _ hHeld.2.2.2.2.2.2.2.2.2.2.2.2.2.2.2.2.1)).trans hHeld.2.2.2.2.2.2.2.2.2.2.2.2.2.2.2.2.1), ((hb3.cell (World.block_lt_of_cell? _ _ hHeld.2.2.2.2.2.2.2.2.2.2.2.2.2.2.2.2.2.1)).trans hHeld.2.2.2.2.2.2.2.2.2.2.2.2.2.2.2.2.2.1), ((hb3.cell (World.block_lt_of_cell? _ _ hHeld.2.2.2.2.2.2.2.2.2.2.2.2.2.2.2.2.2.2.1)).trans hHeld.2.2.2.2.2.2.2.2.2.2.2.2.2.2.2.2.2.2.1), ((hb3.cell (World.block_lt_of_cell? _ _ hHeld.2.2.2.2.2.2.2.2.2.2.2.2.2.2.2.2.2.2.2.1)).trans hHeld.2.2.2.2.2.2.2.2.2.2.2.2.2.2.2.2.2.2.2.1), ((hb3.cell (World.block_lt_of_cell? _ _ hHeld.2.2.2.2.2.2.2.2.2.2.2.2.2.2.2.2.2.2.2.2.1)).trans hHeld.2.2.2.2.2.2.2.2.2.2.2.2.2.2.2.2.2.2.2.2.1), ((hb3.cell (World.block_lt_of_cell? _ _ hHeld.2.2.2.2.2.2.2.2.2.2.2.2.2.2.2.2.2.2.2.2.2.1)).trans hHeld.2.2.2.2.2.2.2.2.2.2.2.2.2.2.2.2.2.2.2.2.2.1), ((hb3.cell (World.block_lt_of_cell? _ _ hHeld.2.2.2.2.2.2.2.2.2.2.2.2.2.2.2.2.2.2.2.2.2.2.1)).trans hHeld.2.2.2.2.2.2.2.2.2.2.2.2.2.2.2.2.2.2.2.2.2.2.1), ((hb3.cell (World.block_lt_of_cell? _ _ hHeld.2.2.2.2.2.2.2.2.2.2.2.2.2.2.2.2.2.2.2.2.2.2.2.1)).trans hHeld.2.2.2.2.2.2.2.2.2.2.2.2.2.2.2.2.2.2.2.2.2.2.2.1), ((hb3.frozen (p := ⟨w.heap.size, 0, none⟩) (by simpa using hR)).trans hHeld.2.2.2.2.2.2.2.2.2.2.2.2.2.2.2.2.2.2.2.2.2.2.2.2.1), ((hb3.frozen (p := ⟨w.heap.size, 1, none⟩) (by simpa using hR)).trans hHeld.2.2.2.2.2.2.2.2.2.2.2.2.2.2.2.2.2.2.2.2.2.2.2.2.2.1), ((hb3.frozen (p := ⟨w.heap.size, 2, none⟩) (by simpa using hR)).trans hHeld.2.2.2.2.2.2.2.2.2.2.2.2.2.2.2.2.2.2.2.2.2.2.2.2.2.2.1), ((hb3.frozen (p := ⟨w.heap.size, 3, none⟩) (by simpa using hR)).trans hHeld.2.2.2.2.2.2.2.2.2.2.2.2.2.2.2.2.2.2.2.2.2.2.2.2.2.2.2.1), ((hb3.frozen (p := ⟨w.heap.size, 4, none⟩) (by simpa using hR)).trans hHeld.2.2.2.2.2.2.2.2.2.2.2.2.2.2.2.2.2.2.2.2.2.2.2.2.2.2.2.2.1), ((hb3.frozen (p := ⟨w.heap.size, 5, none⟩) (by simpa using hR)).trans hHeld.2.2.2.2.2.2.2.2.2.2.2.2.2.2.2.2.2.2.2.2.2.2.2.2.2.2.2.2.2.1), ((hb3.frozen (p := ⟨w.heap.size, 6, none⟩) (by simpa using hR)).trans hHeld.2.2.2.2.2.2.2.2.2.2.2.2.2.2.2.2.2.2.2.2.2.2.2.2.2.2.2.2.2.2.1), ((hb3.frozen (p := ⟨w.heap.size, 7, none⟩) (by simpa using hR)).trans hHeld.2.2.2.2.2.2.2.2.2.2.2.2.2.2.2.2.2.2.2.2.2.2.2.2.2.2.2.2.2.2.2.1), ((hb3.frozen (p := ⟨w.heap.size, 8, none⟩) (by simpa using hR)).trans hHeld.2.2.2.2.2.2.2.2.2.2.2.2.2.2.2.2.2.2.2.2.2.2.2.2.2.2.2.2.2.2.2.2.1), ((hb3.frozen (p := ⟨w.heap.size, 9, none⟩) (by simpa using hR)).trans hHeld.2.2.2.2.2.2.2.2.2.2.2.2.2.2.2.2.2.2.2.2.2.2.2.2.2.2.2.2.2.2.2.2.2.1), ((hb3.frozen (p := ⟨w.heap.size, 10, none⟩) (by simpa using hR)).trans hHeld.2.2.2.2.2.2.2.2.2.2.2.2.2.2.2.2.2.2.2.2.2.2.2.2.2.2.2.2.2.2.2.2.2.2.1), ((hb3.frozen (p := ⟨w.heap.size, 11, none⟩) (by simpa using hR)).trans hHeld.2.2.2.2.2.2.2.2.2.2.2.2.2.2.2.2.2.2.2.2.2.2.2.2.2.2.2.2.2.2.2.2.2.2.2)⟩ (fun hHeld => ?_)
            clear hK K
            refine norm_ (a' := ?_) ?_ ?_
            rotate_left
            · show Act.put _ (some 64) _ = _
              simp only [Act.put, List.setIfInBounds_toArray, List.set_cons_zero, List.set_cons_succ, i64_w, i32_w]
              rfl
            refine pure_ (i := 2) (N := some 2) (v := ?_) (a' := ?_) #[true, true, true, false, false] rfl rfl (any_of HT_.out (by kernel_rfl)) (fun _ _ _ h => h) (Or.inl ⟨by rfl, ?_⟩) ?_ ?_
            rotate_left
            · intro w'
              go_simp
              with_reducible rfl
            rotate_left
            · simp only [Act.put, List.setIfInBounds_toArray, List.set_cons_zero, List.set_cons_succ, i64_w, i32_w]
              rfl
            refine last_ (i := 3) (N := none) #[true, true, true, true, false] rfl rfl (one_of HT_.out (by kernel_rfl)) (by decide) (fun K hK => ?_)
            refine skip_ (w1 := ?_) (by rfl) rfl ?_ ?_
            rotate_left
            · go_simp
              rfl
            refine hK.out _ _ ?_
            clear hK K
            refine pure_ (i := 4) (N := some 4) (v := ?_) (a' := ?_) #[true, true, true, true, true] rfl rfl (any_of HT_.out (by kernel_rfl)) (fun _ _ _ h => h) (Or.inl ⟨by rfl, ?_⟩) ?_ ?_
            rotate_left
            · intro w'
              go_simp
              with_reducible rfl
            rotate_left
            · simp only [Act.put, List.setIfInBounds_toArray, List.set_cons_zero, List.set_cons_succ, i64_w, i32_w]
              rfl
            refine done_ (done_of HT_.out (by kernel_rfl)) ?_
            have hnone : parse L none none = none := by
              obtain ⟨os, ob, h1, h2, h3⟩ := HP.out
              rw [h3, HLK.out]
              cases ob with
              | none => simp at h2
              | some y => simp [parse, id_ne]
            have HNO := Lib.hid hnone
            clear hnone
            go_wp2_with fail
            exact bodyPost_ret (v := .tuple #[.string ⟨#[]⟩, idA (fun _ => 0), (.iface 67 p3)]) (by simp [results, Tryd.results21, go_sem, idA, rd0, rd1, rd2, rd3, rd4, rd5, rd6, rd7, rd8, rd9, rd10, rd11, hR3]) rfl ⟨_, (fun _ => 0), _, rfl, by rw [HNO.out]; exact ⟨_, _, rfl⟩, set12 HB3.out _ _ _ _ _ _ _ _ _ _ _ _⟩
        · have e1 : (x.toList == [36, 114, 101, 102]) = false := by rw [beq_eq_false_iff_ne]; intro h; exact h1 (toList_eq.1 (h.trans (by rw [toList_data]; rfl)))
          have e2 : (x.toList == [36, 105, 100]) = false := by rw [beq_eq_false_iff_ne]; intro h; exact h2 (toList_eq.1 (h.trans (by rw [toList_data]; rfl)))
          have gz0 := HIR.out.zero 0 (by omega)
          have gz1 := HIR.out.zero 1 (by omega)
          have gz2 := HIR.out.zero 2 (by omega)
          have gz3 := HIR.out.zero 3 (by omega)
          have gz4 := HIR.out.zero 4 (by omega)
          have gz5 := HIR.out.zero 5 (by omega)
          have gz6 := HIR.out.zero 6 (by omega)
          have gz7 := HIR.out.zero 7 (by omega)
          have gz8 := HIR.out.zero 8 (by omega)
          have gz9 := HIR.out.zero 9 (by omega)
          have gz10 := HIR.out.zero 10 (by omega)
          have gz11 := HIR.out.zero 11 (by omega)
          have rc0 := HC.out 0 (by omega)
          have rc1 := HC.out 1 (by omega)
          have rc2 := HC.out 2 (by omega)
          have rc3 := HC.out 3 (by omega)
          have rc4 := HC.out 4 (by omega)
          have rc5 := HC.out 5 (by omega)
          have rc6 := HC.out 6 (by omega)
          have rc7 := HC.out 7 (by omega)
          have rc8 := HC.out 8 (by omega)
          have rc9 := HC.out 9 (by omega)
          have rc10 := HC.out 10 (by omega)
          have rc11 := HC.out 11 (by omega)
          have rf0 := HF.out 0
          have rf1 := HF.out 1
          have rf2 := HF.out 2
          have rf3 := HF.out 3
          have rf4 := HF.out 4
          have rf5 := HF.out 5
          have rf6 := HF.out 6
          have rf7 := HF.out 7
          have rf8 := HF.out 8
          have rf9 := HF.out 9
          have rf10 := HF.out 10
          have rf11 := HF.out 11
          have HNO : Hid (parse L none none = none) := Lib.hid (by
            obtain ⟨os, ob, _, _, h3⟩ := HP.out
            rw [h3, HLK.out]
            simp [parse, h1, h2])
          clear h1 h2
          go_wp2_with fail
          refine start_ (n := 5) (S := fun w' => w'.cell? ⟨0, 0, none⟩ = some (.int .u8 0) ∧ w'.cell? ⟨0, 1, none⟩ = some (.int .u8 0) ∧ w'.cell? ⟨0, 2, none⟩ = some (.int .u8 0) ∧ w'.cell? ⟨0, 3, none⟩ = some (.int .u8 0) ∧ w'.cell? ⟨0, 4, none⟩ = some (.int .u8 0) ∧ w'.cell? ⟨0, 5, none⟩ = some (.int .u8 0) ∧ w'.cell? ⟨0, 6, none⟩ = some (.int .u8 0) ∧ w'.cell? ⟨0, 7, none⟩ = some (.int .u8 0) ∧ w'.cell? ⟨0, 8, none⟩ = some (.int .u8 0) ∧ w'.cell? ⟨0, 9, none⟩ = some (.int .u8 0) ∧ w'.cell? ⟨0, 10, none⟩ = some (.int .u8 0) ∧ w'.cell? ⟨0, 11, none⟩ = some (.int .u8 0) ∧ w'.cell? ⟨w.heap.size, 0, none⟩ = some (.int .u8 (f 0)) ∧ w'.cell? ⟨w.heap.size, 1, none⟩ = some (.int .u8 (f 1)) ∧ w'.cell? ⟨w.heap.size, 2, none⟩ = some (.int .u8 (f 2)) ∧ w'.cell? ⟨w.heap.size, 3, none⟩ = some (.int .u8 (f 3)) ∧ w'.cell? ⟨w.heap.size, 4, none⟩ = some (.int .u8 (f 4)) ∧ w'.cell? ⟨w.heap.size, 5, none⟩ = some (.int .u8 (f 5)) ∧ w'.cell? ⟨w.heap.size, 6, none⟩ = some (.int .u8 (f 6)) ∧ w'.cell? ⟨w.heap.size, 7, none⟩ = some (.int .u8 (f 7)) ∧ w'.cell? ⟨w.heap.size, 8, none⟩ = some (.int .u8 (f 8)) ∧ w'.cell? ⟨w.heap.size, 9, none⟩ = some (.int .u8 (f 9)) ∧ w'.cell? ⟨w.heap.size, 10, none⟩ = some (.int .u8 (f 10)) ∧ w'.cell? ⟨w.heap.size, 11, none⟩ = some (.int .u8 (f 11)) ∧ w'.frozen? ⟨w.heap.size, 0, none⟩ = false ∧ w'.frozen? ⟨w.heap.size, 1, none⟩ = false ∧ w'.frozen? ⟨w.heap.size, 2, none⟩ = false ∧ w'.frozen? ⟨w.heap.size, 3, none⟩ = false ∧ w'.frozen? ⟨w.heap.size, 4, none⟩ = false ∧ w'.frozen? ⟨w.heap.size, 5, none⟩ = false ∧ w'.frozen? ⟨w.heap.size, 6, none⟩ = false ∧ w'.frozen? ⟨w.heap.size, 7, none⟩ = false ∧ w'.frozen? ⟨w.heap.size, 8, none⟩ = false ∧ w'.frozen? ⟨w.heap.size, 9, none⟩ = false ∧ w'.frozen? ⟨w.heap.size, 10, none⟩ = false ∧ w'.frozen? ⟨w.heap.size, 11, none⟩ = false) (ds := [3]) #[false, false, false, false, false] (by kernel_rfl) rfl rfl ⟨(by go_simp), (by go_simp), (by go_simp), (by go_simp), (by go_simp), (by go_simp), (by go_simp), (by go_simp), (by go_simp), (by go_simp), (by go_simp), (by go_simp), (by go_simp), (by go_simp), (by go_simp), (by go_simp), (by go_simp), (by go_simp), (by go_simp), (by go_simp), (by go_simp), (by go_simp), (by go_simp), (by go_simp), (by go_simp), (by go_simp), (by go_simp), (by go_simp), (by go_simp), (by go_simp), (by go_simp), (by go_simp), (by go_simp), (by go_simp), (by go_simp), (by go_simp)⟩ (fun hHeld => ?_)
          refine with_tabW R21.tab11 R21.bits11 (fun HT_ HW_ => ?_)
          refine take_ (i := 0) (N := some 41) (v := ?_) (a' := ?_) #[true, false, false, false, false] rfl rfl (take_ofW HT_.out HW_.out (by kernel_rfl)) (fun _ _ _ h => h) (Or.inl ⟨by rfl, ?_⟩) hHeld ?_ ?_
          rotate_left
          · rintro w' ⟨s0, s1, s2, s3, s4, s5, s6, s7, s8, s9, s10, s11, s12, s13, s14, s15, s16, s17, s18, s19, s20, s21, s22, s23, s24, s25, s26, s27, s28, s29, s30, s31, s32, s33, s34, s35⟩
            go_simp
            with_reducible rfl
          rotate_left
          · simp only [Act.put, List.setIfInBounds_toArray, List.set_cons_zero, List.set_cons_succ, i64_w, i32_w]
            rfl
          refine one_ (i := 1) (N := some 42) #[true, true, false, false, false] rfl rfl (one_of HT_.out (by kernel_rfl)) (by decide) (fun K hK => ?_)
          refine goes_ Tryd.func22 (by kernel_rfl) rfl #[.string ⟨#[105, 110, 118, 97, 108, 105, 100, 32, 107, 101, 121, 32, 105, 110, 32, 36, 100, 98, 80, 111, 105, 110, 116, 101, 114, 32, 111, 98, 106, 101, 99, 116]⟩] (by rfl) rfl rfl (by simp only [List.map_toArray, List.map_cons, List.map_nil]; rfl) ?_
          with_reducible refine (newErr _ _).mono ?_
          rintro e w3 ⟨p3, rfl, hb3⟩
          refine ⟨_, rfl, ?_⟩
          have rd0 := (hb3.cell (World.block_lt_of_cell? _ _ hHeld.2.2.2.2.2.2.2.2.2.2.2.2.1)).trans hHeld.2.2.2.2.2.2.2.2.2.2.2.2.1
          have rd1 := (hb3.cell (World.block_lt_of_cell? _ _ hHeld.2.2.2.2.2.2.2.2.2.2.2.2.2.1)).trans hHeld.2.2.2.2.2.2.2.2.2.2.2.2.2.1
          have rd2 := (hb3.cell (World.block_lt_of_cell? _ _ hHeld.2.2.2.2.2.2.2.2.2.2.2.2.2.2.1)).trans hHeld.2.2.2.2.2.2.2.2.2.2.2.2.2.2.1
          have rd3 := (hb3.cell (World.block_lt_of_cell? _ _ hHeld.2.2.2.2.2.2.2.2.2.2.2.2.2.2.2.1)).trans hHeld.2.2.2.2.2.2.2.2.2.2.2.2.2.2.2.1
          have rd4 := (hb3.cell (World.block_lt_of_cell? _ _ hHeld.2.2.2.2.2.2.2.2.2.2.2.2.2.2.2.2.1)).trans hHeld.2.2.2.2.2.2.2.2.2.2.2.2.2.2.2.2.1
          have rd5 := (hb3.cell (World.block_lt_of_cell? _ _ hHeld.2.2.2.2.2.2.2.2.2.2.2.2.2.2.2.2.2.1)).trans hHeld.2.2.2.2.2.2.2.2.2.2.2.2.2.2.2.2.2.1
          have rd6 := (hb3.cell (World.block_lt_of_cell? _ _ hHeld.2.2.2.2.2.2.2.2.2.2.2.2.2.2.2.2.2.2.1)).trans hHeld.2.2.2.2.2.2.2.2.2.2.2.2.2.2.2.2.2.2.1
          have rd7 := (hb3.cell (World.block_lt_of_cell? _ _ hHeld.2.2.2.2.2.2.2.2.2.2.2.2.2.2.2.2.2.2.2.1)).trans hHeld.2.2.2.2.2.2.2.2.2.2.2.2.2.2.2.2.2.2.2.1
          have rd8 := (hb3.cell (World.block_lt_of_cell? _ _ hHeld.2.2.2.2.2.2.2.2.2.2.2.2.2.2.2.2.2.2.2.2.1)).trans hHeld.2.2.2.2.2.2.2.2.2.2.2.2.2.2.2.2.2.2.2.2.1
          have rd9 := (hb3.cell (World.block_lt_of_cell? _ _ hHeld.2.2.2.2.2.2.2.2.2.2.2.2.2.2.2.2.2.2.2.2.2.1)).trans hHeld.2.2.2.2.2.2.2.2.2.2.2.2.2.2.2.2.2.2.2.2.2.1
          have rd10 := (hb3.cell (World.block_lt_of_cell? _ _ hHeld.2.2.2.2.2.2.2.2.2.2.2.2.2.2.2.2.2.2.2.2.2.2.1)).trans hHeld.2.2.2.2.2.2.2.2.2.2.2.2.2.2.2.2.2.2.2.2.2.2.1
          have rd11 := (hb3.cell (World.block_lt_of_cell? _ _ hHeld.2.2.2.2.2.2.2.2.2.2.2.2.2.2.2.2.2.2.2.2.2.2.2.1)).trans hHeld.2.2.2.2.2.2.2.2.2.2.2.2.2.2.2.2.2.2.2.2.2.2.2.1
          have HB3 := Lib.hid (bstep HB.out (by omega) (bleft hb3))
          have hR3 : w.heap.size < w3.heap.size := by have := hb3.size; simp at this; omega
          refine hK.out _ _ ⟨((hb3.cell (World.block_lt_of_cell? _ _ hHeld.1)).trans hHeld.1), ((hb3.cell (World.block_lt_of_cell? _ _ hHeld.2.1)).trans hHeld.2.1), ((hb3.cell (World.block_lt_of_cell? _ _ hHeld.2.2.1)).trans hHeld.2.2.1), ((hb3.cell (World.block_lt_of_cell? _ _ hHeld.2.2.2.1)).trans hHeld.2.2.2.1), ((hb3.cell (World.block_lt_of_cell? _ _ hHeld.2.2.2.2.1)).trans hHeld.2.2.2.2.1), ((hb3.cell (World.block_lt_of_cell? _ _ hHeld.2.2.2.2.2.1)).trans hHeld.2.2.2.2.2.1), ((hb3.cell (World.block_lt_of_cell? _ _ hHeld.2.2.2.2.2.2.1)).trans hHeld.2.2.2.2.2.2.1), ((hb3.cell (World.block_lt_of_cell? _ _ hHeld.2.2.2.2.2.2.2.1)).trans hHeld.2.2.2.2.2.2.2.1), ((hb3.cell (World.block_lt_of_cell? _ _ hHeld.2.2.2.2.2.2.2.2.1)).trans hHeld.2.2.2.2.2.2.2.2.1), ((hb3.cell (World.block_lt_of_cell? _ _ hHeld.2.2.2.2.2.2.2.2.2.1)).trans hHeld.2.2.2.2.2.2.2.2.2.1), ((hb3.cell (World.block_lt_of_cell? _ _ hHeld.2.2.2.2.2.2.2.2.2.2.1)).trans hHeld.2.2.2.2.2.2.2.2.2.2.1), ((hb3.cell (World.block_lt_of_cell? _ _ hHeld.2.2.2.2.2.2.2.2.2.2.2.1)).trans hHeld.2.2.2.2.2.2.2.2.2.2.2.1), ((hb3.cell (World.block_lt_of_cell? _ _ hHeld.2.2.2.2.2.2.2.2.2.2.2.2.1)).trans hHeld.2.2.2.2.2.2.2.2.2.2.2.2.1), ((hb3.cell (World.block_lt_of_cell? _ _ hHeld.2.2.2.2.2.2.2.2.2.2.2.2.2.1)).trans hHeld.2.2.2.2.2.2.2.2.2.2.2.2.2.1), ((hb3.cell (World.block_lt_of_cell? _ _ hHeld.2.2.2.2.2.2.2.2.2.2.2.2.2.2.1)).trans hHeld.2.2.2.2.2.2.2.2.2.2.2.2.2.2.1), ((hb3.cell (World.block_lt_of_cell? _ _ hHeld.2.2.2.2.2.2.2.2.2.2.2.2.2.2.2.1)).trans hHeld.2.2.2.2.2.2.2.2.2.2.2.2.2.2.2.1), ((hb3.cell (World.block_lt_of_cell? _ _ hHeld.2.2.2.2.2.2.2.2.2.2.2.2.2.2.2.2.1)).trans hHeld.2.2.2.2.2.2.2.2.2.2.2.2.2.2.2.2.1), ((hb3.cell (World.block_lt_of_cell? _ _ hHeld.2.2.2.2.2.2.2.2.2.2.2.2.2.2.2.2.2.1)).trans hHeld.2.2.2.2.2.2.2.2.2.2.2.2.2.2.2.2.2.1), ((hb3.cell (World.block_lt_of_cell? _ _ hHeld.2.2.2.2.2.2.2.2.2.2.2.2.2.2.2.2.2.2.1)).trans hHeld.2.2.2.2.2.2.2.2.2.2.2.2.2.2.2.2.2.2.1), ((hb3.cell (World.block_lt_of_cell? _ _ hHeld.2.2.2.2.2.2.2.2.2.2.2.2.2.2.2.2.2.2.2.1)).trans hHeld.2.2.2.2.2.2.2.2.2.2.2.2.2.2.2.2.2.2.2.1), ((hb3.cell (World.block_lt_of_cell? _ _ hHeld.2.2.2.2.2.2.2.2.2.2.2.2.2.2.2.2.2.2.2.2.1)).trans hHeld.2.2.2.2.2.2.2.2.2.2.2.2.2.2.2.2.2.2.2.2.1), ((hb3.cell (World.block_lt_of_cell? _ _ hHeld.2.2.2.2.2.2.2.2.2.2.2.2.2.2.2.2.2.2.2.2.2.1)).trans hHeld.2.2.2.2.2.2.2.2.2.2.2.2.2.2.2.2.2.2.2.2.2.1), ((hb3.cell (World.block_lt_of_cell? _ _ hHeld.2.2.2.2.2.2.2.2.2.2.2.2.2.2.2.2.2.2.2.2.2.2.1)).trans hHeld.2.2.2.2.2.2.2.2.2.2.2.2.2.2.2.2.2.2.2.2.2.2.1), ((hb3.cell (World.block_lt_of_cell? _ _ hHeld.2.2.2.2.2.2.2.2.2.2.2.2.2.2.2.2.2.2.2.2.2.2.2.1)).trans hHeld.2.2.2.2.2.2.2.2.2.2.2.2.2.2.2.2.2.2.2.2.2.2.2.1), ((hb3.frozen (p := ⟨w.heap.size, 0, none⟩) (by simpa using hR)).trans hHeld.2.2.2.2.2.2.2.2.2.2.2.2.2.2.2.2.2.2.2.2.2.2.2.2.1), ((hb3.frozen (p := ⟨w.heap.size, 1, none⟩) (by simpa using hR)).trans hHeld.2.2.2.2.2.2.2.2.2.2.2.2.2.2.2.2.2.2.2.2.2.2.2.2.2.1), ((hb3.frozen (p := ⟨w.heap.size, 2, none⟩) (by simpa using hR)).trans hHeld.2.2.2.2.2.2.2.2.2.2.2.2.2.2.2.2.2.2.2.2.2.2.2.2.2.2.1), ((hb3.frozen (p := ⟨w.heap.size, 3, none⟩) (by simpa using hR)).trans hHeld.2.2.2.2.2.2.2.2.2.2.2.2.2.2.2.2.2.2.2.2.2.2.2.2.2.2.2.1), ((hb3.frozen (p := ⟨w.heap.size, 4, none⟩) (by simpa using hR)).trans hHeld.2.2.2.2.2.2.2.2.2.2.2.2.2.2.2.2.2.2.2.2.2.2.2.2.2.2.2.2.1), ((hb3.frozen (p := ⟨w.heap.size, 5, none⟩) (by simpa using hR)).trans hHeld.2.2.2.2.2.2.2.2.2.2.2.2.2.2.2.2.2.2.2.2.2.2.2.2.2.2.2.2.2.1), ((hb3.frozen (p := ⟨w.heap.size, 6, none⟩) (by simpa using hR)).trans hHeld.2.2.2.2.2.2.2.2.2.2.2.2.2.2.2.2.2.2.2.2.2.2.2.2.2.2.2.2.2.2.1), ((hb3.frozen (p := ⟨w.heap.size, 7, none⟩) (by simpa using hR)).trans hHeld.2.2.2.2.2.2.2.2.2.2.2.2.2.2.2.2.2.2.2.2.2.2.2.2.2.2.2.2.2.2.2.1), ((hb3.frozen (p := ⟨w.heap.size, 8, none⟩) (by simpa using hR)).trans hHeld.2.2.2.2.2.2.2.2.2.2.2.2.2.2.2.2.2.2.2.2.2.2.2.2.2.2.2.2.2.2.2.2.1), ((hb3.frozen (p := ⟨w.heap.size, 9, none⟩) (by simpa using hR)).trans hHeld.2.2.2.2.2.2.2.2.2.2.2.2.2.2.2.2.2.2.2.2.2.2.2.2.2.2.2.2.2.2.2.2.2.1), ((hb3.frozen (p := ⟨w.heap.size, 10, none⟩) (by simpa using hR)).trans hHeld.2.2.2.2.2.2.2.2.2.2.2.2.2.2.2.2.2.2.2.2.2.2.2.2.2.2.2.2.2.2.2.2.2.2.1), ((hb3.frozen (p := ⟨w.heap.size, 11, none⟩) (by simpa using hR)).trans hHeld.2.2.2.2.2.2.2.2.2.2.2.2.2.2.2.2.2.2.2.2.2.2.2.2.2.2.2.2.2.2.2.2.2.2.2)⟩ (fun hHeld => ?_)
          clear hK K
          refine norm_ (a' := ?_) ?_ ?_
          rotate_left
          · show Act.put _ (some 42) _ = _
            simp only [Act.put, List.setIfInBounds_toArray, List.set_cons_zero, List.set_cons_succ, i64_w, i32_w]
            rfl
          refine pure_ (i := 2) (N := some 2) (v := ?_) (a' := ?_) #[true, true, true, false, false] rfl rfl (any_of HT_.out (by kernel_rfl)) (fun _ _ _ h => h) (Or.inl ⟨by rfl, ?_⟩) ?_ ?_
          rotate_left
          · intro w'
            go_simp
            with_reducible rfl
          rotate_left
          · simp only [Act.put, List.setIfInBounds_toArray, List.set_cons_zero, List.set_cons_succ, i64_w, i32_w]
            rfl
          refine last_ (i := 3) (N := none) #[true, true, true, true, false] rfl rfl (one_of HT_.out (by kernel_rfl)) (by decide) (fun K hK => ?_)
          refine skip_ (w1 := ?_) (by rfl) rfl ?_ ?_
          rotate_left
          · go_simp
            rfl
          refine hK.out _ _ ?_
          clear hK K
          refine pure_ (i := 4) (N := some 4) (v := ?_) (a' := ?_) #[true, true, true, true, true] rfl rfl (any_of HT_.out (by kernel_rfl)) (fun _ _ _ h => h) (Or.inl ⟨by rfl, ?_⟩) ?_ ?_
          rotate_left
          · intro w'
            go_simp
            with_reducible rfl
          rotate_left
          · simp only [Act.put, List.setIfInBounds_toArray, List.set_cons_zero, List.set_cons_succ, i64_w, i32_w]
            rfl
          refine done_ (done_of HT_.out (by kernel_rfl)) ?_
          go_wp2_with fail
          exact bodyPost_ret (v := .tuple #[.string ⟨#[]⟩, idA (fun _ => 0), (.iface 67 p3)]) (by simp [results, Tryd.results21, go_sem, idA, rd0, rd1, rd2, rd3, rd4, rd5, rd6, rd7, rd8, rd9, rd10, rd11, hR3]) rfl ⟨_, (fun _ => 0), _, rfl, by rw [HNO.out]; exact ⟨_, _, rfl⟩, set12 HB3.out _ _ _ _ _ _ _ _ _ _ _ _⟩
    · have hkn2 : k = n := by omega
      have hdrop : L.drop k = [] := List.drop_eq_nil_of_le (by omega)
      obtain ⟨os, ob, h1, h2, h3⟩ := hp
      rw [hdrop] at h3
      have HC := Lib.hid hc
      have HB := Lib.hid hb
      have H3 := Lib.hid h3
      have HOS := Lib.hid h1
      have HOB := Lib.hid h2
      have rc0 := hc 0 (by omega)
      have rf0 := hf 0
      have rc1 := hc 1 (by omega)
      have rf1 := hf 1
      have rc2 := hc 2 (by omega)
      have rf2 := hf 2
      have rc3 := hc 3 (by omega)
      have rf3 := hf 3
      have rc4 := hc 4 (by omega)
      have rf4 := hf 4
      have rc5 := hc 5 (by omega)
      have rf5 := hf 5
      have rc6 := hc 6 (by omega)
      have rf6 := hf 6
      have rc7 := hc 7 (by omega)
      have rf7 := hf 7
      have rc8 := hc 8 (by omega)
      have rf8 := hf 8
      have rc9 := hc 9 (by omega)
      have rf9 := hf 9
      have rc10 := hc 10 (by omega)
      have rf10 := hf 10
      have rc11 := hc 11 (by omega)
      have rf11 := hf 11
      subst hkn2
      clear hn hlen hLL hdrop h3 hc hf hb h1 h2
      cases nF
      · have HNO : Hid (parse L none none = none) := Lib.hid (by
          have h1 := HOS.out
          rw [H3.out]
          cases os with
          | none => simp [parse]
          | some y => simp at h1)
        go_wp2_with fail
        refine start_ (n := 5) (S := fun w' => w'.cell? ⟨w.heap.size, 0, none⟩ = some (.int .u8 (f 0)) ∧ w'.cell? ⟨w.heap.size, 1, none⟩ = some (.int .u8 (f 1)) ∧ w'.cell? ⟨w.heap.size, 2, none⟩ = some (.int .u8 (f 2)) ∧ w'.cell? ⟨w.heap.size, 3, none⟩ = some (.int .u8 (f 3)) ∧ w'.cell? ⟨w.heap.size, 4, none⟩ = some (.int .u8 (f 4)) ∧ w'.cell? ⟨w.heap.size, 5, none⟩ = some (.int .u8 (f 5)) ∧ w'.cell? ⟨w.heap.size, 6, none⟩ = some (.int .u8 (f 6)) ∧ w'.cell? ⟨w.heap.size, 7, none⟩ = some (.int .u8 (f 7)) ∧ w'.cell? ⟨w.heap.size, 8, none⟩ = some (.int .u8 (f 8)) ∧ w'.cell? ⟨w.heap.size, 9, none⟩ = some (.int .u8 (f 9)) ∧ w'.cell? ⟨w.heap.size, 10, none⟩ = some (.int .u8 (f 10)) ∧ w'.cell? ⟨w.heap.size, 11, none⟩ = some (.int .u8 (f 11)) ∧ w'.frozen? ⟨w.heap.size, 0, none⟩ = false ∧ w'.frozen? ⟨w.heap.size, 1, none⟩ = false ∧ w'.frozen? ⟨w.heap.size, 2, none⟩ = false ∧ w'.frozen? ⟨w.heap.size, 3, none⟩ = false ∧ w'.frozen? ⟨w.heap.size, 4, none⟩ = false ∧ w'.frozen? ⟨w.heap.size, 5, none⟩ = false ∧ w'.frozen? ⟨w.heap.size, 6, none⟩ = false ∧ w'.frozen? ⟨w.heap.size, 7, none⟩ = false ∧ w'.frozen? ⟨w.heap.size, 8, none⟩ = false ∧ w'.frozen? ⟨w.heap.size, 9, none⟩ = false ∧ w'.frozen? ⟨w.heap.size, 10, none⟩ = false ∧ w'.frozen? ⟨w.heap.size, 11, none⟩ = false) (ds := [3]) #[false, false, false, false, false] (by kernel_rfl) rfl rfl ⟨(by go_simp), (by go_simp), (by go_simp), (by go_simp), (by go_simp), (by go_simp), (by go_simp), (by go_simp), (by go_simp), (by go_simp), (by go_simp), (by go_simp), (by go_simp), (by go_simp), (by go_simp), (by go_simp), (by go_simp), (by go_simp), (by go_simp), (by go_simp), (by go_simp), (by go_simp), (by go_simp), (by go_simp)⟩ (fun hHeld => ?_)
        refine with_tabW R21.tab30 R21.bits30 (fun HT_ HW_ => ?_)
        refine take_ (i := 0) (N := some 88) (v := ?_) (a' := ?_) #[true, false, false, false, false] rfl rfl (take_ofW HT_.out HW_.out (by kernel_rfl)) (fun _ _ _ h => h) (Or.inl ⟨by rfl, ?_⟩) hHeld ?_ ?_
        rotate_left
        · rintro w' ⟨s0, s1, s2, s3, s4, s5, s6, s7, s8, s9, s10, s11, s12, s13, s14, s15, s16, s17, s18, s19, s20, s21, s22, s23⟩
          go_simp
          with_reducible rfl
        rotate_left
        · simp only [Act.put, List.setIfInBounds_toArray, List.set_cons_zero, List.set_cons_succ, i64_w, i32_w]
          rfl
        refine one_ (i := 1) (N := some 89) #[true, true, false, false, false] rfl rfl (one_of HT_.out (by kernel_rfl)) (by decide) (fun K hK => ?_)
        refine goes_ Tryd.func22 (by kernel_rfl) rfl #[.string ⟨#[109, 105, 115, 115, 105, 110, 103, 32, 36, 114, 101, 102, 32, 102, 105, 101, 108, 100, 32, 105, 110, 32, 36, 100, 98, 80, 111, 105, 110, 116, 101, 114, 32, 111, 98, 106, 101, 99, 116]⟩] (by rfl) rfl rfl (by simp only [List.map_toArray, List.map_cons, List.map_nil]; rfl) ?_
        with_reducible refine (newErr _ _).mono ?_
        rintro e w3 ⟨p3, rfl, hb3⟩
        refine ⟨_, rfl, ?_⟩
        have rd0 := (hb3.cell (World.block_lt_of_cell? _ _ hHeld.1)).trans hHeld.1
        have rd1 := (hb3.cell (World.block_lt_of_cell? _ _ hHeld.2.1)).trans hHeld.2.1
        have rd2 := (hb3.cell (World.block_lt_of_cell? _ _ hHeld.2.2.1)).trans hHeld.2.2.1
        have rd3 := (hb3.cell (World.block_lt_of_cell? _ _ hHeld.2.2.2.1)).trans hHeld.2.2.2.1
        have rd4 := (hb3.cell (World.block_lt_of_cell? _ _ hHeld.2.2.2.2.1)).trans hHeld.2.2.2.2.1
        have rd5 := (hb3.cell (World.block_lt_of_cell? _ _ hHeld.2.2.2.2.2.1)).trans hHeld.2.2.2.2.2.1
        have rd6 := (hb3.cell (World.block_lt_of_cell? _ _ hHeld.2.2.2.2.2.2.1)).trans hHeld.2.2.2.2.2.2.1
        have rd7 := (hb3.cell (World.block_lt_of_cell? _ _ hHeld.2.2.2.2.2.2.2.1)).trans hHeld.2.2.2.2.2.2.2.1
        have rd8 := (hb3.cell (World.block_lt_of_cell? _ _ hHeld.2.2.2.2.2.2.2.2.1)).trans hHeld.2.2.2.2.2.2.2.2.1
        have rd9 := (hb3.cell (World.block_lt_of_cell? _ _ hHeld.2.2.2.2.2.2.2.2.2.1)).trans hHeld.2.2.2.2.2.2.2.2.2.1
        have rd10 := (hb3.cell (World.block_lt_of_cell? _ _ hHeld.2.2.2.2.2.2.2.2.2.2.1)).trans hHeld.2.2.2.2.2.2.2.2.2.2.1
        have rd11 := (hb3.cell (World.block_lt_of_cell? _ _ hHeld.2.2.2.2.2.2.2.2.2.2.2.1)).trans hHeld.2.2.2.2.2.2.2.2.2.2.2.1
        have HB3 := Lib.hid (bstep HB.out (by omega) (bleft hb3))
        have hR3 : w.heap.size < w3.heap.size := by have := hb3.size; simp at this; omega
        refine hK.out _ _ ⟨((hb3.cell (World.block_lt_of_cell? _ _ hHeld.1)).trans hHeld.1), ((hb3.cell (World.block_lt_of_cell? _ _ hHeld.2.1)).trans hHeld.2.1), ((hb3.cell (World.block_lt_of_cell? _ _ hHeld.2.2.1)).trans hHeld.2.2.1), ((hb3.cell (World.block_lt_of_cell? _ _ hHeld.2.2.2.1)).trans hHeld.2.2.2.1), ((hb3.cell (World.block_lt_of_cell? _ _ hHeld.2.2.2.2.1)).trans hHeld.2.2.2.2.1), ((hb3.cell (World.block_lt_of_cell? _ _ hHeld.2.2.2.2.2.1)).trans hHeld.2.2.2.2.2.1), ((hb3.cell (World.block_lt_of_cell? _ _ hHeld.2.2.2.2.2.2.1)).trans hHeld.2.2.2.2.2.2.1), ((hb3.cell (World.block_lt_of_cell? _ _ hHeld.2.2.2.2.2.2.2.1)).trans hHeld.2.2.2.2.2.2.2.1), ((hb3.cell (World.block_lt_of_cell? _ _ hHeld.2.2.2.2.2.2.2.2.1)).trans hHeld.2.2.2.2.2.2.2.2.1), ((hb3.cell (World.block_lt_of_cell? _ _ hHeld.2.2.2.2.2.2.2.2.2.1)).trans hHeld.2.2.2.2.2.2.2.2.2.1), ((hb3.cell (World.block_lt_of_cell? _ _ hHeld.2.2.2.2.2.2.2.2.2.2.1)).trans hHeld.2.2.2.2.2.2.2.2.2.2.1), ((hb3.cell (World.block_lt_of_cell? _ _ hHeld.2.2.2.2.2.2.2.2.2.2.2.1)).trans hHeld.2.2.2.2.2.2.2.2.2.2.2.1), ((hb3.frozen (p := ⟨w.heap.size, 0, none⟩) (by simpa using hR)).trans hHeld.2.2.2.2.2.2.2.2.2.2.2.2.1), ((hb3.frozen (p := ⟨w.heap.size, 1, none⟩) (by simpa using hR)).trans hHeld.2.2.2.2.2.2.2.2.2.2.2.2.2.1), ((hb3.frozen (p := ⟨w.heap.size, 2, none⟩) (by simpa using hR)).trans hHeld.2.2.2.2.2.2.2.2.2.2.2.2.2.2.1), ((hb3.frozen (p := ⟨w.heap.size, 3, none⟩) (by simpa using hR)).trans hHeld.2.2.2.2.2.2.2.2.2.2.2.2.2.2.2.1), ((hb3.frozen (p := ⟨w.heap.size, 4, none⟩) (by simpa using hR)).trans hHeld.2.2.2.2.2.2.2.2.2.2.2.2.2.2.2.2.1), ((hb3.frozen (p := ⟨w.heap.size, 5, none⟩) (by simpa using hR)).trans hHeld.2.2.2.2.2.2.2.2.2.2.2.2.2.2.2.2.2.1), ((hb3.frozen (p := ⟨w.heap.size, 6, none⟩) (by simpa using hR)).trans hHeld.2.2.2.2.2.2.2.2.2.2.2.2.2.2.2.2.2.2.1), ((hb3.frozen (p := ⟨w.heap.size, 7, none⟩) (by simpa using hR)).trans hHeld.2.2.2.2.2.2.2.2.2.2.2.2.2.2.2.2.2.2.2.1), ((hb3.frozen (p := ⟨w.heap.size, 8, none⟩) (by simpa using hR)).trans hHeld.2.2.2.2.2.2.2.2.2.2.2.2.2.2.2.2.2.2.2.2.1), ((hb3.frozen (p := ⟨w.heap.size, 9, none⟩) (by simpa using hR)).trans hHeld.2.2.2.2.2.2.2.2.2.2.2.2.2.2.2.2.2.2.2.2.2.1), ((hb3.frozen (p := ⟨w.heap.size, 10, none⟩) (by simpa using hR)).trans hHeld.2.2.2.2.2.2.2.2.2.2.2.2.2.2.2.2.2.2.2.2.2.2.1), ((hb3.frozen (p := ⟨w.heap.size, 11, none⟩) (by simpa using hR)).trans hHeld.2.2.2.2.2.2.2.2.2.2.2.2.2.2.2.2.2.2.2.2.2.2.2)⟩ (fun hHeld => ?_)
        clear hK K
        refine norm_ (a' := ?_) ?_ ?_
        rotate_left
        · show Act.put _ (some 89) _ = _
          simp only [Act.put, List.setIfInBounds_toArray, List.set_cons_zero, List.set_cons_succ, i64_w, i32_w]
          rfl
        refine pure_ (i := 2) (N := some 2) (v := ?_) (a' := ?_) #[true, true, true, false, false] rfl rfl (any_of HT_.out (by kernel_rfl)) (fun _ _ _ h => h) (Or.inl ⟨by rfl, ?_⟩) ?_ ?_
        rotate_left
        · intro w'
          go_simp
          with_reducible rfl
        rotate_left
        · simp only [Act.put, List.setIfInBounds_toArray, List.set_cons_zero, List.set_cons_succ, i64_w, i32_w]
          rfl
        refine last_ (i := 3) (N := none) #[true, true, true, true, false] rfl rfl (one_of HT_.out (by kernel_rfl)) (by decide) (fun K hK => ?_)
        refine skip_ (w1 := ?_) (by rfl) rfl ?_ ?_
        rotate_left
        · go_simp
          rfl
        refine hK.out _ _ ?_
        clear hK K
        refine pure_ (i := 4) (N := some 4) (v := ?_) (a' := ?_) #[true, true, true, true, true] rfl rfl (any_of HT_.out (by kernel_rfl)) (fun _ _ _ h => h) (Or.inl ⟨by rfl, ?_⟩) ?_ ?_
        rotate_left
        · intro w'
          go_simp
          with_reducible rfl
        rotate_left
        · simp only [Act.put, List.setIfInBounds_toArray, List.set_cons_zero, List.set_cons_succ, i64_w, i32_w]
          rfl
        refine done_ (done_of HT_.out (by kernel_rfl)) ?_
        go_wp2_with fail
        exact bodyPost_ret (v := .tuple #[.string ⟨#[]⟩, idA f, (.iface 67 p3)]) (by simp [results, Tryd.results21, go_sem, idA, rd0, rd1, rd2, rd3, rd4, rd5, rd6, rd7, rd8, rd9, rd10, rd11, hR3]) rfl ⟨_, f, _, rfl, by rw [HNO.out]; exact ⟨_, _, rfl⟩, set12 HB3.out _ _ _ _ _ _ _ _ _ _ _ _⟩
      · cases iF
        · have HNO : Hid (parse L none none = none) := Lib.hid (by
            have h2 := HOB.out
            rw [H3.out]
            cases ob with
            | none => cases os <;> simp [parse]
            | some y => simp at h2)
          go_wp2_with fail
          refine start_ (n := 5) (S := fun w' => w'.cell? ⟨w.heap.size, 0, none⟩ = some (.int .u8 (f 0)) ∧ w'.cell? ⟨w.heap.size, 1, none⟩ = some (.int .u8 (f 1)) ∧ w'.cell? ⟨w.heap.size, 2, none⟩ = some (.int .u8 (f 2)) ∧ w'.cell? ⟨w.heap.size, 3, none⟩ = some (.int .u8 (f 3)) ∧ w'.cell? ⟨w.heap.size, 4, none⟩ = some (.int .u8 (f 4)) ∧ w'.cell? ⟨w.heap.size, 5, none⟩ = some (.int .u8 (f 5)) ∧ w'.cell? ⟨w.heap.size, 6, none⟩ = some (.int .u8 (f 6)) ∧ w'.cell? ⟨w.heap.size, 7, none⟩ = some (.int .u8 (f 7)) ∧ w'.cell? ⟨w.heap.size, 8, none⟩ = some (.int .u8 (f 8)) ∧ w'.cell? ⟨w.heap.size, 9, none⟩ = some (.int .u8 (f 9)) ∧ w'.cell? ⟨w.heap.size, 10, none⟩ = some (.int .u8 (f 10)) ∧ w'.cell? ⟨w.heap.size, 11, none⟩ = some (.int .u8 (f 11)) ∧ w'.frozen? ⟨w.heap.size, 0, none⟩ = false ∧ w'.frozen? ⟨w.heap.size, 1, none⟩ = false ∧ w'.frozen? ⟨w.heap.size, 2, none⟩ = false ∧ w'.frozen? ⟨w.heap.size, 3, none⟩ = false ∧ w'.frozen? ⟨w.heap.size, 4, none⟩ = false ∧ w'.frozen? ⟨w.heap.size, 5, none⟩ = false ∧ w'.frozen? ⟨w.heap.size, 6, none⟩ = false ∧ w'.frozen? ⟨w.heap.size, 7, none⟩ = false ∧ w'.frozen? ⟨w.heap.size, 8, none⟩ = false ∧ w'.frozen? ⟨w.heap.size, 9, none⟩ = false ∧ w'.frozen? ⟨w.heap.size, 10, none⟩ = false ∧ w'.frozen? ⟨w.heap.size, 11, none⟩ = false) (ds := [3]) #[false, false, false, false, false] (by kernel_rfl) rfl rfl ⟨(by go_simp), (by go_simp), (by go_simp), (by go_simp), (by go_simp), (by go_simp), (by go_simp), (by go_simp), (by go_simp), (by go_simp), (by go_simp), (by go_simp), (by go_simp), (by go_simp), (by go_simp), (by go_simp), (by go_simp), (by go_simp), (by go_simp), (by go_simp), (by go_simp), (by go_simp), (by go_simp), (by go_simp)⟩ (fun hHeld => ?_)
          refine with_tabW R21.tab32 R21.bits32 (fun HT_ HW_ => ?_)
          refine take_ (i := 0) (N := some 92) (v := ?_) (a' := ?_) #[true, false, false, false, false] rfl rfl (take_ofW HT_.out HW_.out (by kernel_rfl)) (fun _ _ _ h => h) (Or.inl ⟨by rfl, ?_⟩) hHeld ?_ ?_
          rotate_left
          · rintro w' ⟨s0, s1, s2, s3, s4, s5, s6, s7, s8, s9, s10, s11, s12, s13, s14, s15, s16, s17, s18, s19, s20, s21, s22, s23⟩
            go_simp
            with_reducible rfl
          rotate_left
          · simp only [Act.put, List.setIfInBounds_toArray, List.set_cons_zero, List.set_cons_succ, i64_w, i32_w]
            rfl
          refine one_ (i := 1) (N := some 93) #[true, true, false, false, false] rfl rfl (one_of HT_.out (by kernel_rfl)) (by decide) (fun K hK => ?_)
          refine goes_ Tryd.func22 (by kernel_rfl) rfl #[.string ⟨#[109, 105, 115, 115, 105, 110, 103, 32, 36, 105, 100, 32, 102, 105, 101, 108, 100, 32, 105, 110, 32, 36, 100, 98, 80, 111, 105, 110, 116, 101, 114, 32, 111, 98, 106, 101, 99, 116]⟩] (by rfl) rfl rfl (by simp only [List.map_toArray, List.map_cons, List.map_nil]; rfl) ?_
          with_reducible refine (newErr _ _).mono ?_
          rintro e w3 ⟨p3, rfl, hb3⟩
          refine ⟨_, rfl, ?_⟩
          have rd0 := (hb3.cell (World.block_lt_of_cell? _ _ hHeld.1)).trans hHeld.1
          have rd1 := (hb3.cell (World.block_lt_of_cell? _ _ hHeld.2.1)).trans hHeld.2.1
          have rd2 := (hb3.cell (World.block_lt_of_cell? _ _ hHeld.2.2.1)).trans hHeld.2.2.1
          have rd3 := (hb3.cell (World.block_lt_of_cell? _ _ hHeld.2.2.2.1)).trans hHeld.2.2.2.1
          have rd4 := (hb3.cell (World.block_lt_of_cell? _ _ hHeld.2.2.2.2.1)).trans hHeld.2.2.2.2.1
          have rd5 := (hb3.cell (World.block_lt_of_cell? _ _ hHeld.2.2.2.2.2.1)).trans hHeld.2.2.2.2.2.1
          have rd6 := (hb3.cell (World.block_lt_of_cell? _ _ hHeld.2.2.2.2.2.2.1)).trans hHeld.2.2.2.2.2.2.1
          have rd7 := (hb3.cell (World.block_lt_of_cell? _ _ hHeld.2.2.2.2.2.2.2.1)).trans hHeld.2.2.2.2.2.2.2.1
          have rd8 := (hb3.cell (World.block_lt_of_cell? _ _ hHeld.2.2.2.2.2.2.2.2.1)).trans hHeld.2.2.2.2.2.2.2.2.1
          have rd9 := (hb3.cell (World.block_lt_of_cell? _ _ hHeld.2.2.2.2.2.2.2.2.2.1)).trans hHeld.2.2.2.2.2.2.2.2.2.1
          have rd10 := (hb3.cell (World.block_lt_of_cell? _ _ hHeld.2.2.2.2.2.2.2.2.2.2.1)).trans hHeld.2.2.2.2.2.2.2.2.2.2.1
          have rd11 := (hb3.cell (World.block_lt_of_cell? _ _ hHeld.2.2.2.2.2.2.2.2.2.2.2.1)).trans hHeld.2.2.2.2.2.2.2.2.2.2.2.1
          have HB3 := Lib.hid (bstep HB.out (by omega) (bleft hb3))
          have hR3 : w.heap.size < w3.heap.size := by have := hb3.size; simp at this; omega
          refine hK.out _ _ ⟨((hb3.cell (World.block_lt_of_cell? _ _ hHeld.1)).trans hHeld.1), ((hb3.cell (World.block_lt_of_cell? _ _ hHeld.2.1)).trans hHeld.2.1), ((hb3.cell (World.block_lt_of_cell? _ _ hHeld.2.2.1)).trans hHeld.2.2.1), ((hb3.cell (World.block_lt_of_cell? _ _ hHeld.2.2.2.1)).trans hHeld.2.2.2.1), ((hb3.cell (World.block_lt_of_cell? _ _ hHeld.2.2.2.2.1)).trans hHeld.2.2.2.2.1), ((hb3.cell (World.block_lt_of_cell? _ _ hHeld.2.2.2.2.2.1)).trans hHeld.2.2.2.2.2.1), ((hb3.cell (World.block_lt_of_cell? _ _ hHeld.2.2.2.2.2.2.1)).trans hHeld.2.2.2.2.2.2.1), ((hb3.cell (World.block_lt_of_cell? _ _ hHeld.2.2.2.2.2.2.2.1)).trans hHeld.2.2.2.2.2.2.2.1), ((hb3.cell (World.block_lt_of_cell? _ _ hHeld.2.2.2.2.2.2.2.2.1)).trans hHeld.2.2.2.2.2.2.2.2.1), ((hb3.cell (World.block_lt_of_cell? _ _ hHeld.2.2.2.2.2.2.2.2.2.1)).trans hHeld.2.2.2.2.2.2.2.2.2.1), ((hb3.cell (World.block_lt_of_cell? _ _ hHeld.2.2.2.2.2.2.2.2.2.2.1)).trans hHeld.2.2.2.2.2.2.2.2.2.2.1), ((hb3.cell (World.block_lt_of_cell? _ _ hHeld.2.2.2.2.2.2.2.2.2.2.2.1)).trans hHeld.2.2.2.2.2.2.2.2.2.2.2.1), ((hb3.frozen (p := ⟨w.heap.size, 0, none⟩) (by simpa using hR)).trans hHeld.2.2.2.2.2.2.2.2.2.2.2.2.1), ((hb3.frozen (p := ⟨w.heap.size, 1, none⟩) (by simpa using hR)).trans hHeld.2.2.2.2.2.2.2.2.2.2.2.2.2.1), ((hb3.frozen (p := ⟨w.heap.size, 2, none⟩) (by simpa using hR)).trans hHeld.2.2.2.2.2.2.2.2.2.2.2.2.2.2.1), ((hb3.frozen (p := ⟨w.heap.size, 3, none⟩) (by simpa using hR)).trans hHeld.2.2.2.2.2.2.2.2.2.2.2.2.2.2.2.1), ((hb3.frozen (p := ⟨w.heap.size, 4, none⟩) (by simpa using hR)).trans hHeld.2.2.2.2.2.2.2.2.2.2.2.2.2.2.2.2.1), ((hb3.frozen (p := ⟨w.heap.size, 5, none⟩) (by simpa using hR)).trans hHeld.2.2.2.2.2.2.2.2.2.2.2.2.2.2.2.2.2.1), ((hb3.frozen (p := ⟨w.heap.size, 6, none⟩) (by simpa using hR)).trans hHeld.2.2.2.2.2.2.2.2.2.2.2.2.2.2.2.2.2.2.1), ((hb3.frozen (p := ⟨w.heap.size, 7, none⟩) (by simpa using hR)).trans hHeld.2.2.2.2.2.2.2.2.2.2.2.2.2.2.2.2.2.2.2.1), ((hb3.frozen (p := ⟨w.heap.size, 8, none⟩) (by simpa using hR)).trans hHeld.2.2.2.2.2.2.2.2.2.2.2.2.2.2.2.2.2.2.2.2.1), ((hb3.frozen (p := ⟨w.heap.size, 9, none⟩) (by simpa using hR)).trans hHeld.2.2.2.2.2.2.2.2.2.2.2.2.2.2.2.2.2.2.2.2.2.1), ((hb3.frozen (p := ⟨w.heap.size, 10, none⟩) (by simpa using hR)).trans hHeld.2.2.2.2.2.2.2.2.2.2.2.2.2.2.2.2.2.2.2.2.2.2.1), ((hb3.frozen (p := ⟨w.heap.size, 11, none⟩) (by simpa using hR)).trans hHeld.2.2.2.2.2.2.2.2.2.2.2.2.2.2.2.2.2.2.2.2.2.2.2)⟩ (fun hHeld => ?_)
          clear hK K
          refine norm_ (a' := ?_) ?_ ?_
          rotate_left
          · show Act.put _ (some 93) _ = _
            simp only [Act.put, List.setIfInBounds_toArray, List.set_cons_zero, List.set_cons_succ, i64_w, i32_w]
            rfl
          refine pure_ (i := 2) (N := some 2) (v := ?_) (a' := ?_) #[true, true, true, false, false] rfl rfl (any_of HT_.out (by kernel_rfl)) (fun _ _ _ h => h) (Or.inl ⟨by rfl, ?_⟩) ?_ ?_
          rotate_left
          · intro w'
            go_simp
            with_reducible rfl
          rotate_left
          · simp only [Act.put, List.setIfInBounds_toArray, List.set_cons_zero, List.set_cons_succ, i64_w, i32_w]
            rfl
          refine last_ (i := 3) (N := none) #[true, true, true, true, false] rfl rfl (one_of HT_.out (by kernel_rfl)) (by decide) (fun K hK => ?_)
          refine skip_ (w1 := ?_) (by rfl) rfl ?_ ?_
          rotate_left
          · go_simp
            rfl
          refine hK.out _ _ ?_
          clear hK K
          refine pure_ (i := 4) (N := some 4) (v := ?_) (a' := ?_) #[true, true, true, true, true] rfl rfl (any_of HT_.out (by kernel_rfl)) (fun _ _ _ h => h) (Or.inl ⟨by rfl, ?_⟩) ?_ ?_
          rotate_left
          · intro w'
            go_simp
            with_reducible rfl
          rotate_left
          · simp only [Act.put, List.setIfInBounds_toArray, List.set_cons_zero, List.set_cons_succ, i64_w, i32_w]
            rfl
          refine done_ (done_of HT_.out (by kernel_rfl)) ?_
          go_wp2_with fail
          exact bodyPost_ret (v := .tuple #[.string ⟨#[]⟩, idA f, (.iface 67 p3)]) (by simp [results, Tryd.results21, go_sem, idA, rd0, rd1, rd2, rd3, rd4, rd5, rd6, rd7, rd8, rd9, rd10, rd11, hR3]) rfl ⟨_, f, _, rfl, by rw [HNO.out]; exact ⟨_, _, rfl⟩, set12 HB3.out _ _ _ _ _ _ _ _ _ _ _ _⟩
        · have HNO : Hid (∃ b, parse L none none = some (s, b) ∧ b.length = 12 ∧ ∀ j, f j = ((b.getD j 0).toNat : Int)) := Lib.hid (by
            have h1 := HOS.out
            have h2 := HOB.out
            rw [H3.out]
            cases os with
            | none => simp at h1
            | some y =>
              cases ob with
              | none => simp at h2
              | some b =>
                obtain ⟨_, rfl⟩ := h1
                exact ⟨b, rfl, h2.2.1, h2.2.2⟩)
          go_wp2_with fail
          refine start_ (n := 5) (S := fun w' => w'.cell? ⟨w.heap.size, 0, none⟩ = some (.int .u8 (f 0)) ∧ w'.cell? ⟨w.heap.size, 1, none⟩ = some (.int .u8 (f 1)) ∧ w'.cell? ⟨w.heap.size, 2, none⟩ = some (.int .u8 (f 2)) ∧ w'.cell? ⟨w.heap.size, 3, none⟩ = some (.int .u8 (f 3)) ∧ w'.cell? ⟨w.heap.size, 4, none⟩ = some (.int .u8 (f 4)) ∧ w'.cell? ⟨w.heap.size, 5, none⟩ = some (.int .u8 (f 5)) ∧ w'.cell? ⟨w.heap.size, 6, none⟩ = some (.int .u8 (f 6)) ∧ w'.cell? ⟨w.heap.size, 7, none⟩ = some (.int .u8 (f 7)) ∧ w'.cell? ⟨w.heap.size, 8, none⟩ = some (.int .u8 (f 8)) ∧ w'.cell? ⟨w.heap.size, 9, none⟩ = some (.int .u8 (f 9)) ∧ w'.cell? ⟨w.heap.size, 10, none⟩ = some (.int .u8 (f 10)) ∧ w'.cell? ⟨w.heap.size, 11, none⟩ = some (.int .u8 (f 11)) ∧ w'.frozen? ⟨w.heap.size, 0, none⟩ = false ∧ w'.frozen? ⟨w.heap.size, 1, none⟩ = false ∧ w'.frozen? ⟨w.heap.size, 2, none⟩ = false ∧ w'.frozen? ⟨w.heap.size, 3, none⟩ = false ∧ w'.frozen? ⟨w.heap.size, 4, none⟩ = false ∧ w'.frozen? ⟨w.heap.size, 5, none⟩ = false ∧ w'.frozen? ⟨w.heap.size, 6, none⟩ = false ∧ w'.frozen? ⟨w.heap.size, 7, none⟩ = false ∧ w'.frozen? ⟨w.heap.size, 8, none⟩ = false ∧ w'.frozen? ⟨w.heap.size, 9, none⟩ = false ∧ w'.frozen? ⟨w.heap.size, 10, none⟩ = false ∧ w'.frozen? ⟨w.heap.size, 11, none⟩ = false) (ds := [3]) #[false, false, false, false, false] (by kernel_rfl) rfl rfl ⟨(by go_simp), (by go_simp), (by go_simp), (by go_simp), (by go_simp), (by go_simp), (by go_simp), (by go_simp), (by go_simp), (by go_simp), (by go_simp), (by go_simp), (by go_simp), (by go_simp), (by go_simp), (by go_simp), (by go_simp), (by go_simp), (by go_simp), (by go_simp), (by go_simp), (by go_simp), (by go_simp), (by go_simp)⟩ (fun hHeld => ?_)
          refine with_tabW R21.tab33 R21.bits33 (fun HT_ HW_ => ?_)
          refine pure_ (i := 0) (N := some 94) (v := ?_) (a' := ?_) #[true, false, false, false, false] rfl rfl (any_of HT_.out (by kernel_rfl)) (fun _ _ _ h => h) (Or.inl ⟨by rfl, ?_⟩) ?_ ?_
          rotate_left
          · intro w'
            go_simp
            with_reducible rfl
          rotate_left
          · simp only [Act.put, List.setIfInBounds_toArray, List.set_cons_zero, List.set_cons_succ, i64_w, i32_w]
            rfl
          refine pure_ (i := 2) (N := some 2) (v := ?_) (a' := ?_) #[true, false, true, false, false] rfl rfl (any_of HT_.out (by kernel_rfl)) (fun _ _ _ h => h) (Or.inl ⟨by rfl, ?_⟩) ?_ ?_
          rotate_left
          · intro w'
            go_simp
            with_reducible rfl
          rotate_left
          · simp only [Act.put, List.setIfInBounds_toArray, List.set_cons_zero, List.set_cons_succ, i64_w, i32_w]
            rfl
          refine take_ (i := 1) (N := some 95) (v := ?_) (a' := ?_) #[true, true, true, false, false] rfl rfl (take_ofW HT_.out HW_.out (by kernel_rfl)) (fun _ _ _ h => h) (Or.inl ⟨by rfl, ?_⟩) hHeld ?_ ?_
          rotate_left
          · rintro w' ⟨s0, s1, s2, s3, s4, s5, s6, s7, s8, s9, s10, s11, s12, s13, s14, s15, s16, s17, s18, s19, s20, s21, s22, s23⟩
            go_simp
            with_reducible rfl
          rotate_left
          · simp only [Act.put, List.setIfInBounds_toArray, List.set_cons_zero, List.set_cons_succ, i64_w, i32_w]
            rfl
          refine last_ (i := 3) (N := none) #[true, true, true, true, false] rfl rfl (one_of HT_.out (by kernel_rfl)) (by decide) (fun K hK => ?_)
          refine skip_ (w1 := ?_) (by rfl) rfl ?_ ?_
          rotate_left
          · go_simp
            rfl
          refine hK.out _ _ ?_
          clear hK K
          refine pure_ (i := 4) (N := some 4) (v := ?_) (a' := ?_) #[true, true, true, true, true] rfl rfl (any_of HT_.out (by kernel_rfl)) (fun _ _ _ h => h) (Or.inl ⟨by rfl, ?_⟩) ?_ ?_
          rotate_left
          · intro w'
            go_simp
            with_reducible rfl
          rotate_left
          · simp only [Act.put, List.setIfInBounds_toArray, List.set_cons_zero, List.set_cons_succ, i64_w, i32_w]
            rfl
          refine done_ (done_of HT_.out (by kernel_rfl)) ?_
          go_wp2_with fail
          exact bodyPost_ret (v := .tuple #[.string s, idA f, .nilIface]) (by simp [results, Tryd.results21, go_sem, idA, rc0, rc1, rc2, rc3, rc4, rc5, rc6, rc7, rc8, rc9, rc10, rc11, hR]) rfl ⟨s, f, _, rfl, by obtain ⟨b, e, hb, hfb⟩ := HNO.out; rw [e]; exact ⟨rfl, rfl, hb, hfb⟩, bdrew (set12 HB.out _ _ _ _ _ _ _ _ _ _ _ _)⟩
end Go.Proofs.YtfpnhlfmnoikhabDoor.X
