/- impl's appended, element and scope: right values, whatever is inside of them. (gen_appi.py) -/
import Derived.Test.YtohfgfbfohkkkaaGreatDoorAppE
import Derived.Test.YtohfgfbfohkkkaaGreatDoorDoc9
set_option linter.unusedVariables false
set_option linter.unusedSimpArgs false
set_option maxRecDepth 100000
namespace Go.Proofs.YtohfgfbfohkkkaaGreatDoor.X
open Go.RowKit Go.Proofs.YtohfgfbfohkkkaaGreatDoorW.PrintLast
namespace Ap
def R37.T35 : Bool × List (List Nat × List Nat) := (true, [([], []), ([], []), ([1], [1]), ([], []), ([3], [3]), ([4], [4]), ([0, 2, 5, 5], [0, 2, 5]), ([6, 6, 0, 1, 2, 3, 4, 5, 6], [6])])
def R37.B35 : List Nat := [0, 0, 2, 0, 8, 24, 63, 127]
theorem R37.tab35 : rtab .any (opsOf Tryz.f37 35) = R37.T35 := by kernel_rfl
theorem R37.bits35 : waitsOk R37.T35.2 R37.B35 = true := by kernel_rfl
def R37.T41 : Bool × List (List Nat × List Nat) := (true, [([], []), ([], []), ([1], [1]), ([], []), ([3], [3]), ([0, 2, 4, 4], [0, 2, 4]), ([5, 5, 0, 1, 2, 3, 4, 5], [5])])
def R37.B41 : List Nat := [0, 0, 2, 0, 8, 31, 63]
theorem R37.tab41 : rtab .any (opsOf Tryz.f37 41) = R37.T41 := by kernel_rfl
theorem R37.bits41 : waitsOk R37.T41.2 R37.B41 = true := by kernel_rfl
def R82.T25 : Bool × List (List Nat × List Nat) := (true, [([], []), ([], []), ([], []), ([2], [2]), ([], []), ([4], [4]), ([5], [5]), ([0, 1, 3, 6, 6], [0, 1, 3, 6]), ([7, 7, 0, 1, 2, 3, 4, 5, 6, 7], [7])])
def R82.B25 : List Nat := [0, 0, 0, 4, 0, 16, 48, 127, 255]
theorem R82.tab25 : rtab .any (opsOf Tryz.f82 25) = R82.T25 := by kernel_rfl
theorem R82.bits25 : waitsOk R82.T25.2 R82.B25 = true := by kernel_rfl
def R82.T31 : Bool × List (List Nat × List Nat) := (true, [([], []), ([], []), ([], []), ([2], [2]), ([], []), ([4], [4]), ([0, 1, 3, 5, 5], [0, 1, 3, 5]), ([6, 6, 0, 1, 2, 3, 4, 5, 6], [6])])
def R82.B31 : List Nat := [0, 0, 0, 4, 0, 16, 63, 127]
theorem R82.tab31 : rtab .any (opsOf Tryz.f82 31) = R82.T31 := by kernel_rfl
theorem R82.bits31 : waitsOk R82.T31.2 R82.B31 = true := by kernel_rfl
theorem bthen' {B : Nat} {w0 W w1 : World} (h : Below B w0 W) (k : Below W.heap.size W w1) (hB : B ≤ W.heap.size := by first | (simp; done) | (simp; omega) | omega) : Below B w0 w1 := h.trans (k.mono hB)
theorem measQ {q n : Nat} (h : q < n) : n - (intOf (.int .i64 ((q : Int) + 1))).toNat < n - (intOf (.int .i64 (q : Int))).toNat := by simp [intOf]; omega
theorem w64Q {q n : Nat} (h : q < n) (hl : n ≤ 1000000) : wrap64 ((q : Int) + 1) = (q : Int) + 1 := by unfold wrap64; omega
theorem w32Q {n : Int} (h0 : -2147483648 ≤ n) (h1 : n < 2147483648) : wrap32 n = n := by unfold wrap32; omega
theorem sep_old {W w0 : World} {base : Nat} {v : Value} {l m : List UInt8} {A : Option Addr} {c : Nat} (HO : OB 5 W base v l) (hs : SB w0 A c m) (hle : w0.heap.size ≤ base) : Sep v A m := fun hp a ha e => by
  obtain ⟨b, off, e1, hc⟩ := hs.cells hp
  have hlt : b < w0.heap.size := World.block_lt_of_cell? _ _ (hc 0 hp)
  have h1 := (HO.lt _ e).1
  rw [e1] at ha
  have hab : a.block = b := by rw [← Option.some.inj ha]
  omega
/-- appended, for right values up to a size. -/
def AppUpto (N : Nat) : Prop := ∀ (v : Val) (cs : List Value) (deep : Int) (w0 W : World) (base : Nat) (dv : Value) (l : List UInt8), wt v < N → okv v → right v deep = true → (docValue v).length ≤ 900000 → RV w0 v cs → Below w0.heap.size w0 W → w0.heap.size ≤ base →
  OB 5 W base dv l → base ≤ W.heap.size → l.length + (docValue v).length ≤ 80000000 → Calls Tryz.prog 37 #[dv, .agg cs.toArray] W (After fun v1 w1 => App (E := 5) W base dv (l ++ docValue v) v1 w1)
def ElUpto (N : Nat) : Prop := ∀ (nm : ByteArray) (v : Val) (cs : List Value) (deep : Int) (w0 W : World) (base : Nat) (dv : Value) (l : List UInt8), wt v < N → plainB nm.data.toList = true → okv v → right v deep = true → (docElemOf nm v).length ≤ 900000 → RV w0 v cs → Below w0.heap.size w0 W → w0.heap.size ≤ base →
  OB 5 W base dv l → base ≤ W.heap.size → l.length + (docElemOf nm v).length ≤ 80000000 → Calls Tryz.prog 82 #[dv, .string nm, .agg cs.toArray] W (After fun v1 w1 => App (E := 5) W base dv (l ++ docElemOf nm v) v1 w1)
theorem rightK_get (k : Int) : ∀ (ks : List (ByteArray × Val)) (i : Nat) (deep : Int), rightK k ks i deep = true → ∀ j (hj : j < ks.length), plainB (ks[j]).1.data.toList = true ∧ right (ks[j]).2 (deep - 1) = true
  | (nm, v) :: r, i, deep, h, 0, _ => by
    simp only [rightK, Bool.and_eq_true] at h
    exact ⟨h.1.1.1, h.1.2⟩
  | (nm, v) :: r, i, deep, h, j + 1, hj => by
    simp only [rightK, Bool.and_eq_true] at h
    exact rightK_get k r (i + 1) deep h.2 j (by simpa using hj)
theorem elem_le : ∀ (ks : List (ByteArray × Val)) (j : Nat) (hj : j < ks.length), (docElems (ks.take j)).length + (docElemOf (ks[j]).1 (ks[j]).2).length ≤ (docElems ks).length := fun ks j hj => by
  have h := docElems_le ks (j + 1)
  rw [docElems_at ks j hj, List.length_append] at h
  exact h
theorem kids_le : ∀ ks : List (ByteArray × Val), ks.length ≤ (docElems ks).length
  | [] => by simp
  | (nm, v) :: r => by
    have := kids_le r
    simp only [docElems, List.length_append, List.length_cons, hd]
    simp
    omega
set_option maxHeartbeats 1600000 in
theorem appKids3 (N : Nat) (hE : ElUpto N) (text more : ByteArray) (n bits high : Int) (b : List UInt8) (kids : List (ByteArray × Val)) (cs : List Value) (k' deep : Int) (w0 W : World) (base : Nat) (dv : Value) (l : List UInt8) (hw : wt (.mk 3 text more n bits high b kids) < N + 1) (hok : okK kids) (hr : rightK k' kids 0 deep = true) (hlen : (docElems kids).length ≤ 900000)
    (hv : RV w0 (.mk 3 text more n bits high b kids) cs) (hbl : Below w0.heap.size w0 W) (hle : w0.heap.size ≤ base) (HO : OB 5 W base dv l) (hbase : base ≤ W.heap.size) (hl : l.length + (docElems kids).length ≤ 79999995) :
    Calls Tryz.prog 37 #[dv, .agg cs.toArray] W (After fun v1 w1 => App (E := 5) W base dv (l ++ docBytesOf kids) v1 w1) := by
  simp only [RV] at hv
  obtain ⟨A, c, K', dd, rfl, hs, hd, hd2, hk⟩ := hv
  have hcnt := kids_le kids
  have HST := Lib.hid (fun wx (hx : Below W.heap.size W wx) => docStart wx base dv l (HO.keep hx) (by have := hx.size; omega) (by omega))
  have HEN := Lib.hid (fun wx u (h : App (E := 5) W base dv (l ++ [0, 0, 0, 0] ++ docElems (kids.take kids.length)) u wx) => docEnd wx base u l [0, 0, 0, 0] (docElems kids) (by have := h.own; rw [List.take_length] at this; simpa using this) rfl (by have := h.size; omega) (by omega))
  have HEL : Hid (∀ q (hq : q < kids.length) cs wx wy u, RV w0 (kids[q]).2 cs → App (E := 5) W base dv (l ++ [0, 0, 0, 0] ++ docElems (kids.take q)) u wx → Below wx.heap.size wx wy → Calls Tryz.prog 82 #[u, .string (kids[q]).1, .agg cs.toArray] wy (After fun v1 w1 => App (E := 5) W base dv (l ++ [0, 0, 0, 0] ++ docElems (kids.take (q + 1))) v1 w1)) := Lib.hid fun q hq cs wx wy u h1 h2 h3 => by
    have hle2 := elem_le kids q hq
    obtain ⟨o1, o2⟩ := okK_at hok q hq
    obtain ⟨r1, r2⟩ := rightK_get k' kids 0 deep hr q hq
    have hb2 : Below w0.heap.size w0 wx := hbl.trans ((h2.kept HO hbase).mono hle)
    have hz := h2.size
    have hz3 := h3.size
    have hb3 : Below w0.heap.size w0 wy := hb2.trans (h3.mono (by omega))
    refine (hE (kids[q]).1 (kids[q]).2 cs (deep - 1) w0 wy base u _ (wt_at hw q hq) r1 o2 r2 (by omega) h1 hb3 hle (h2.own.keep h3) (by omega) (by simp only [List.length_append, List.length_cons, List.length_nil]; omega)).mono ?_
    rintro e w' ⟨v1, rfl, h⟩
    refine ⟨v1, rfl, ?_⟩
    rw [docElems_at kids q hq, ← List.append_assoc]
    exact (h2.post h3).trans h
  have HKB : Hid (∀ wx u q, App (E := 5) W base dv (l ++ [0, 0, 0, 0] ++ docElems (kids.take q)) u wx → Below w0.heap.size w0 wx) := Lib.hid fun wx u q h => hbl.trans ((h.kept HO hbase).mono hle)
  have HF : Hid (∀ v1 w1, App (E := 5) W base dv (l ++ (i32 (((docElems kids).length : Int) + 5) ++ (docElems kids ++ [0]))) v1 w1 → App (E := 5) W base dv (l ++ docBytesOf kids) v1 w1) := Lib.hid fun v1 w1 h => by
    unfold docBytesOf
    rw [List.append_assoc (i32 _)]
    exact h
  have HKK := Lib.hid hk
  have HNE : Hid (some W.heap.size ≠ dv.ownBlock) := Lib.hid (fun e => by have := (HO.lt _ e.symm).2; omega)
  have HB0 : Below W.heap.size W (W.alloc (.cells #[.int .i64 3, .string text, .string more, .int .i64 n, .int .u64 bits, .int .u64 high, .slice A b.length c, .slice K' kids.length dd] 45)) := balloc (Below.refl _ _) (Nat.le_refl _) _
  obtain ⟨nk, hnk⟩ : ∃ q, q = kids.length := ⟨_, rfl⟩
  have HNK := Lib.hid hnk
  have HL2 : Hid (nk ≤ 1000000) := Lib.hid (by omega)
  rw [← hnk] at hd HEN HB0 ⊢
  have HNW := Lib.hid (heap_alloc_new W (.cells #[.int .i64 3, .string text, .string more, .int .i64 n, .int .u64 bits, .int .u64 high, .slice A b.length c, .slice K' nk dd] 45))
  clear hk hw hok hr hlen hbl HO hl hcnt hs hnk hE hbase hle
  go_enter Tryz.func37, Tryz.ntmps37
  go_wp2_with fail
  refine (HST.out _ HB0).mono ?_
  rintro e w1 ⟨v1, rfl, h⟩
  have H1 : Hid (App (E := 5) W base dv (l ++ [0, 0, 0, 0]) v1 w1) := Lib.hid (h.pre HB0)
  have hx1 : w1.heap[W.heap.size]? = _ := (h.grown.block W.heap.size (by simp) HNE.out).trans HNW.out
  have q7 : w1.cell? ⟨W.heap.size, 7, none⟩ = some (.slice K' nk dd) := by simp only [World.cell?, hx1]; rfl
  clear h HST HB0 hx1
  go_wp2_with fail
  go_loopw [6, 38] (fun u i wr => ∃ q : Nat, q ≤ nk ∧ i = .int .i64 q ∧ Hid (App (E := 5) W base dv (l ++ [0, 0, 0, 0] ++ docElems (kids.take q)) u wr)) (fun _ i _ => nk - (intOf i).toNat)
  case atStart => exact ⟨0, Nat.zero_le _, rfl, Lib.hid (by simpa [docElems] using H1.out)⟩
  case round =>
    obtain ⟨q, hq, rfl, HA⟩ := hrel
    by_cases hlt : q < nk
    · have hlk : q < kids.length := by rw [← HNK.out]; exact hlt
      obtain ⟨blk, off, rfl, hks⟩ : ∃ blk off, K' = some ⟨blk, off, none⟩ ∧ RKs w0 blk off kids := by
        rcases HKK.out with h | h
        · rw [h] at hlk; exact absurd hlk (Nat.not_lt_zero _)
        · exact h
      obtain ⟨c0, c1, c2, c3, c4, c5, c6, c7, hkv, hn0, e0, e1, e2, e3, e4, e5, e6, e7⟩ := hks.cells_ q hlk
      have hB := HKB.out _ _ _ HA.out
      replace hn0 := (hB.cell (World.block_lt_of_cell? _ _ hn0)).trans hn0
      replace e0 := (hB.cell (World.block_lt_of_cell? _ _ e0)).trans e0
      replace e1 := (hB.cell (World.block_lt_of_cell? _ _ e1)).trans e1
      replace e2 := (hB.cell (World.block_lt_of_cell? _ _ e2)).trans e2
      replace e3 := (hB.cell (World.block_lt_of_cell? _ _ e3)).trans e3
      replace e4 := (hB.cell (World.block_lt_of_cell? _ _ e4)).trans e4
      replace e5 := (hB.cell (World.block_lt_of_cell? _ _ e5)).trans e5
      replace e6 := (hB.cell (World.block_lt_of_cell? _ _ e6)).trans e6
      replace e7 := (hB.cell (World.block_lt_of_cell? _ _ e7)).trans e7
      have HCL := Lib.hid (fun wy (h : Below wr.heap.size wr wy) => HEL.out q hlk _ wr wy _ hkv HA.out h)
      have hq0 : (0 : Int) ≤ (q : Int) := Int.natCast_nonneg _
      have hq1 : (q : Int) < (nk : Int) := by omega
      obtain ⟨nm, hnm⟩ : ∃ x, x = (kids[q]).1 := ⟨_, rfl⟩
      rw [← hnm] at hn0 HCL
      obtain ⟨kv, hkve⟩ : ∃ x, x = (kids[q]).2 := ⟨_, rfl⟩
      rw [← hkve] at hkv
      obtain ⟨k1, t1, m1, n1, bi1, hi1, b1, ks1⟩ := kv
      simp only [RV] at hkv
      obtain ⟨A1, cc1, K1, d1, hcs, -⟩ := hkv
      obtain ⟨x1, hx1⟩ : ∃ x, x = b1.length := ⟨_, rfl⟩
      obtain ⟨x2, hx2⟩ : ∃ x, x = ks1.length := ⟨_, rfl⟩
      rw [← hx1, ← hx2] at hcs
      simp only [List.cons.injEq, and_true] at hcs
      obtain ⟨rfl, rfl, rfl, rfl, rfl, rfl, rfl, rfl⟩ := hcs
      clear hks hB hnm hkve hx1 hx2
      go_wp2_with fail
      refine (HCL.out _ (balloc (Below.refl _ _) (Nat.le_refl _) _)).mono ?_
      rintro e w2 ⟨v2, rfl, h⟩
      have H2 := Lib.hid h
      clear h HCL hn0 e0 e1 e2 e3 e4 e5 e6 e7
      have hw64 : wrap64 ((q : Int) + 1) = (q : Int) + 1 := w64Q hlt HL2.out
      go_wp2_with fail
      go_roundw
      case rel => exact ⟨q + 1, by omega, by go_num, H2⟩
      case measure => first | exact measQ hlt | (rw [hw64]; exact measQ hlt)
    · have hqn : q = nk := by omega
      subst hqn
      have HD := Lib.hid (HEN.out wr _ (by have := HA.out; exact this))
      go_wp2_with fail
      refine HD.out.mono ?_
      rintro e w2 ⟨v2, rfl, h⟩
      have HE := Lib.hid (HF.out _ _ (HA.out.trans h))
      clear h HD
      go_wp2_with fail
      go_ret
      exact ⟨v2, rfl, HE.out⟩
set_option maxHeartbeats 1600000 in
theorem appKids4 (N : Nat) (hE : ElUpto N) (text more : ByteArray) (n bits high : Int) (b : List UInt8) (kids : List (ByteArray × Val)) (cs : List Value) (k' deep : Int) (w0 W : World) (base : Nat) (dv : Value) (l : List UInt8) (hw : wt (.mk 4 text more n bits high b kids) < N + 1) (hok : okK kids) (hr : rightK k' kids 0 deep = true) (hlen : (docElems kids).length ≤ 900000)
    (hv : RV w0 (.mk 4 text more n bits high b kids) cs) (hbl : Below w0.heap.size w0 W) (hle : w0.heap.size ≤ base) (HO : OB 5 W base dv l) (hbase : base ≤ W.heap.size) (hl : l.length + (docElems kids).length ≤ 79999995) :
    Calls Tryz.prog 37 #[dv, .agg cs.toArray] W (After fun v1 w1 => App (E := 5) W base dv (l ++ docBytesOf kids) v1 w1) := by
  simp only [RV] at hv
  obtain ⟨A, c, K', dd, rfl, hs, hd, hd2, hk⟩ := hv
  have hcnt := kids_le kids
  have HST := Lib.hid (fun wx (hx : Below W.heap.size W wx) => arrStart wx base dv l (HO.keep hx) (by have := hx.size; omega) (by omega))
  have HEN := Lib.hid (fun wx u (h : App (E := 5) W base dv (l ++ [0, 0, 0, 0] ++ docElems (kids.take kids.length)) u wx) => arrEnd wx base u l [0, 0, 0, 0] (docElems kids) (by have := h.own; rw [List.take_length] at this; simpa using this) rfl (by have := h.size; omega) (by omega))
  have HEL : Hid (∀ q (hq : q < kids.length) cs wx wy u, RV w0 (kids[q]).2 cs → App (E := 5) W base dv (l ++ [0, 0, 0, 0] ++ docElems (kids.take q)) u wx → Below wx.heap.size wx wy → Calls Tryz.prog 82 #[u, .string (kids[q]).1, .agg cs.toArray] wy (After fun v1 w1 => App (E := 5) W base dv (l ++ [0, 0, 0, 0] ++ docElems (kids.take (q + 1))) v1 w1)) := Lib.hid fun q hq cs wx wy u h1 h2 h3 => by
    have hle2 := elem_le kids q hq
    obtain ⟨o1, o2⟩ := okK_at hok q hq
    obtain ⟨r1, r2⟩ := rightK_get k' kids 0 deep hr q hq
    have hb2 : Below w0.heap.size w0 wx := hbl.trans ((h2.kept HO hbase).mono hle)
    have hz := h2.size
    have hz3 := h3.size
    have hb3 : Below w0.heap.size w0 wy := hb2.trans (h3.mono (by omega))
    refine (hE (kids[q]).1 (kids[q]).2 cs (deep - 1) w0 wy base u _ (wt_at hw q hq) r1 o2 r2 (by omega) h1 hb3 hle (h2.own.keep h3) (by omega) (by simp only [List.length_append, List.length_cons, List.length_nil]; omega)).mono ?_
    rintro e w' ⟨v1, rfl, h⟩
    refine ⟨v1, rfl, ?_⟩
    rw [docElems_at kids q hq, ← List.append_assoc]
    exact (h2.post h3).trans h
  have HKB : Hid (∀ wx u q, App (E := 5) W base dv (l ++ [0, 0, 0, 0] ++ docElems (kids.take q)) u wx → Below w0.heap.size w0 wx) := Lib.hid fun wx u q h => hbl.trans ((h.kept HO hbase).mono hle)
  have HF : Hid (∀ v1 w1, App (E := 5) W base dv (l ++ (i32 (((docElems kids).length : Int) + 5) ++ (docElems kids ++ [0]))) v1 w1 → App (E := 5) W base dv (l ++ docBytesOf kids) v1 w1) := Lib.hid fun v1 w1 h => by
    unfold docBytesOf
    rw [List.append_assoc (i32 _)]
    exact h
  have HKK := Lib.hid hk
  have HNE : Hid (some W.heap.size ≠ dv.ownBlock) := Lib.hid (fun e => by have := (HO.lt _ e.symm).2; omega)
  have HB0 : Below W.heap.size W (W.alloc (.cells #[.int .i64 4, .string text, .string more, .int .i64 n, .int .u64 bits, .int .u64 high, .slice A b.length c, .slice K' kids.length dd] 45)) := balloc (Below.refl _ _) (Nat.le_refl _) _
  obtain ⟨nk, hnk⟩ : ∃ q, q = kids.length := ⟨_, rfl⟩
  have HNK := Lib.hid hnk
  have HL2 : Hid (nk ≤ 1000000) := Lib.hid (by omega)
  rw [← hnk] at hd HEN HB0 ⊢
  have HNW := Lib.hid (heap_alloc_new W (.cells #[.int .i64 4, .string text, .string more, .int .i64 n, .int .u64 bits, .int .u64 high, .slice A b.length c, .slice K' nk dd] 45))
  clear hk hw hok hr hlen hbl HO hl hcnt hs hnk hE hbase hle
  go_enter Tryz.func37, Tryz.ntmps37
  go_wp2_with fail
  refine (HST.out _ HB0).mono ?_
  rintro e w1 ⟨v1, rfl, h⟩
  have H1 : Hid (App (E := 5) W base dv (l ++ [0, 0, 0, 0]) v1 w1) := Lib.hid (h.pre HB0)
  have hx1 : w1.heap[W.heap.size]? = _ := (h.grown.block W.heap.size (by simp) HNE.out).trans HNW.out
  have q7 : w1.cell? ⟨W.heap.size, 7, none⟩ = some (.slice K' nk dd) := by simp only [World.cell?, hx1]; rfl
  clear h HST HB0 hx1
  go_wp2_with fail
  go_loopw [10, 66] (fun u i wr => ∃ q : Nat, q ≤ nk ∧ i = .int .i64 q ∧ Hid (App (E := 5) W base dv (l ++ [0, 0, 0, 0] ++ docElems (kids.take q)) u wr)) (fun _ i _ => nk - (intOf i).toNat)
  case atStart => exact ⟨0, Nat.zero_le _, rfl, Lib.hid (by simpa [docElems] using H1.out)⟩
  case round =>
    obtain ⟨q, hq, rfl, HA⟩ := hrel
    by_cases hlt : q < nk
    · have hlk : q < kids.length := by rw [← HNK.out]; exact hlt
      obtain ⟨blk, off, rfl, hks⟩ : ∃ blk off, K' = some ⟨blk, off, none⟩ ∧ RKs w0 blk off kids := by
        rcases HKK.out with h | h
        · rw [h] at hlk; exact absurd hlk (Nat.not_lt_zero _)
        · exact h
      obtain ⟨c0, c1, c2, c3, c4, c5, c6, c7, hkv, hn0, e0, e1, e2, e3, e4, e5, e6, e7⟩ := hks.cells_ q hlk
      have hB := HKB.out _ _ _ HA.out
      replace hn0 := (hB.cell (World.block_lt_of_cell? _ _ hn0)).trans hn0
      replace e0 := (hB.cell (World.block_lt_of_cell? _ _ e0)).trans e0
      replace e1 := (hB.cell (World.block_lt_of_cell? _ _ e1)).trans e1
      replace e2 := (hB.cell (World.block_lt_of_cell? _ _ e2)).trans e2
      replace e3 := (hB.cell (World.block_lt_of_cell? _ _ e3)).trans e3
      replace e4 := (hB.cell (World.block_lt_of_cell? _ _ e4)).trans e4
      replace e5 := (hB.cell (World.block_lt_of_cell? _ _ e5)).trans e5
      replace e6 := (hB.cell (World.block_lt_of_cell? _ _ e6)).trans e6
      replace e7 := (hB.cell (World.block_lt_of_cell? _ _ e7)).trans e7
      have HCL := Lib.hid (fun wy (h : Below wr.heap.size wr wy) => HEL.out q hlk _ wr wy _ hkv HA.out h)
      have hq0 : (0 : Int) ≤ (q : Int) := Int.natCast_nonneg _
      have hq1 : (q : Int) < (nk : Int) := by omega
      obtain ⟨nm, hnm⟩ : ∃ x, x = (kids[q]).1 := ⟨_, rfl⟩
      rw [← hnm] at hn0 HCL
      obtain ⟨kv, hkve⟩ : ∃ x, x = (kids[q]).2 := ⟨_, rfl⟩
      rw [← hkve] at hkv
      obtain ⟨k1, t1, m1, n1, bi1, hi1, b1, ks1⟩ := kv
      simp only [RV] at hkv
      obtain ⟨A1, cc1, K1, d1, hcs, -⟩ := hkv
      obtain ⟨x1, hx1⟩ : ∃ x, x = b1.length := ⟨_, rfl⟩
      obtain ⟨x2, hx2⟩ : ∃ x, x = ks1.length := ⟨_, rfl⟩
      rw [← hx1, ← hx2] at hcs
      simp only [List.cons.injEq, and_true] at hcs
      obtain ⟨rfl, rfl, rfl, rfl, rfl, rfl, rfl, rfl⟩ := hcs
      clear hks hB hnm hkve hx1 hx2
      go_wp2_with fail
      refine (HCL.out _ (balloc (Below.refl _ _) (Nat.le_refl _) _)).mono ?_
      rintro e w2 ⟨v2, rfl, h⟩
      have H2 := Lib.hid h
      clear h HCL hn0 e0 e1 e2 e3 e4 e5 e6 e7
      have hw64 : wrap64 ((q : Int) + 1) = (q : Int) + 1 := w64Q hlt HL2.out
      go_wp2_with fail
      go_roundw
      case rel => exact ⟨q + 1, by omega, by go_num, H2⟩
      case measure => first | exact measQ hlt | (rw [hw64]; exact measQ hlt)
    · have hqn : q = nk := by omega
      subst hqn
      have HD := Lib.hid (HEN.out wr _ (by have := HA.out; exact this))
      go_wp2_with fail
      refine HD.out.mono ?_
      rintro e w2 ⟨v2, rfl, h⟩
      have HE := Lib.hid (HF.out _ _ (HA.out.trans h))
      clear h HD
      go_wp2_with fail
      go_ret
      exact ⟨v2, rfl, HE.out⟩
/-- What right values are, by kind. -/
structure RF (k n : Int) (text more : ByteArray) (b : List UInt8) (kids : List (ByteArray × Val)) (deep : Int) : Prop where
  r5 : k = 5 → 0 ≤ n ∧ n ≤ 255
  r7 : k = 7 ∨ k = 12 → b.length = 12
  r8 : k = 8 → n = 0 ∨ n = 1
  r16 : k = 16 → -2147483648 ≤ n ∧ n < 2147483648
  r11 : k = 11 → plainB text.data.toList = true ∧ plainB more.data.toList = true
  rk : k = 3 ∨ k = 4 ∨ k = 15 → rightK k kids 0 deep = true
  kn : 1 ≤ k ∧ k ≤ 19 ∨ k = 255 ∨ k = 127
theorem right_facts {k n bits high : Int} {text more : ByteArray} {b : List UInt8} {kids : List (ByteArray × Val)} {deep : Int} (h : right (.mk k text more n bits high b kids) deep = true) : RF k n text more b kids deep := by
  simp only [right, Bool.and_eq_true] at h
  obtain ⟨⟨⟨h1, h2⟩, h3⟩, h4⟩ := h
  simp only [known, decide_eq_true_eq] at h1
  refine ⟨fun e => ?_, fun e => ?_, fun e => ?_, fun e => ?_, fun e => ?_, fun e => ?_, h1⟩
  · subst e; simpa using h4
  · rcases e with rfl | rfl <;> simpa using h4
  · subst e; simpa using h4
  · subst e; simpa using h4
  · subst e; simpa using h4
  · rcases e with rfl | rfl | rfl <;> simpa using h4
theorem binB_eq (n : Int) (b : List UInt8) : (if n = 2 then i32 ((b.length : Int) + 4) ++ [2] ++ i32 (b.length : Int) else i32 (b.length : Int) ++ [ub n]) ++ b = binB n b := by
  unfold binB
  split <;> rfl
theorem time_eq (bi : Int) (h0 : 0 ≤ bi) (h1 : bi ≤ 18446744073709551615) : i64 bi = i32 (bi % 4294967296) ++ i32 (bi / 4294967296) := by
  have hu : ∀ a b : Int, a % 256 = b % 256 → ub a = ub b := fun a b h => by unfold ub; rw [h]
  have e8 : i64 bi = [ub bi, ub (bi / 256), ub (bi / 65536), ub (bi / 16777216), ub (bi / 4294967296), ub (bi / 1099511627776), ub (bi / 281474976710656), ub (bi / 72057594037927936)] := by simp [i64, List.range_succ]
  rw [e8]
  unfold i32
  simp only [List.cons_append, List.nil_append, List.cons.injEq, and_true]
  exact ⟨hu _ _ (by omega), hu _ _ (by omega), hu _ _ (by omega), hu _ _ (by omega), trivial, hu _ _ (by omega), hu _ _ (by omega), hu _ _ (by omega)⟩
theorem rv_make {w : World} {K' : Option Addr} {d : Nat} {ks : List (ByteArray × Val)} (k : Int) (h1 : ks.length ≤ d) (h2 : d ≤ 9223372036854775807) (h3 : ks = [] ∨ ∃ blk off, K' = some ⟨blk, off, none⟩ ∧ RKs w blk off ks) :
    RV w (.mk k ⟨#[]⟩ ⟨#[]⟩ 0 0 0 [] ks) [.int .i64 k, .string ⟨#[]⟩, .string ⟨#[]⟩, .int .i64 0, .int .u64 0, .int .u64 0, .slice none 0 0, .slice K' ks.length d] := by
  simp only [RV]
  exact ⟨none, 0, K', d, rfl, SB.nil w, h1, h2, h3⟩
theorem scopeC (N : Nat) (hE : ElUpto N) (k : Int) (text more : ByteArray) (n bits high : Int) (b : List UInt8) (kids : List (ByteArray × Val)) (cs : List Value) (k' deep : Int) (w0 W : World) (hw : wt (.mk k text more n bits high b kids) < N + 1) (hok : okK kids) (hr : rightK k' kids 0 deep = true) (hlen : (docElems kids).length ≤ 900000) (hv : RV w0 (.mk k text more n bits high b kids) cs) (hbl : Below w0.heap.size w0 W) :
    Calls Tryz.prog 95 #[.agg cs.toArray] W fun e w' => ∃ A c, e = .returned (.slice A (docBytesOf kids).length c) ∧ SB w' A c (docBytesOf kids) ∧ (∀ a, A = some a → W.heap.size ≤ a.block) ∧ Below W.heap.size W w' := by
  simp only [RV] at hv
  obtain ⟨A, c, K', dd, rfl, hs, hd, hd2, hk⟩ := hv
  have hsz := hbl.size
  have HC := Lib.hid (fun wx (hx : Below W.heap.size W wx) => appKids3 N hE ⟨#[]⟩ ⟨#[]⟩ 0 0 0 [] kids [.int .i64 3, .string ⟨#[]⟩, .string ⟨#[]⟩, .int .i64 0, .int .u64 0, .int .u64 0, .slice none 0 0, .slice K' kids.length dd] k' deep w0 wx wx.heap.size (.slice none 0 0) [] (by simp only [wt] at hw ⊢; exact hw) hok hr hlen (rv_make 3 hd hd2 hk) (hbl.trans (hx.mono hsz)) (by have := hx.size; omega) (OB.nil _ _) (Nat.le_refl _) (by simp; omega))
  obtain ⟨L, hL⟩ : ∃ L, L = docBytesOf kids := ⟨_, rfl⟩
  obtain ⟨nk, hnk⟩ : ∃ q, q = kids.length := ⟨_, rfl⟩
  rw [← hL, ← hnk] at HC
  rw [← hL, ← hnk]
  have HB0 : Below W.heap.size W (W.alloc (.cells #[.int .i64 k, .string text, .string more, .int .i64 n, .int .u64 bits, .int .u64 high, .slice A b.length c, .slice K' nk dd] 45)) := balloc (Below.refl _ _) (Nat.le_refl _) _
  clear hs hd hd2 hk hok hr hlen hbl hL hnk hE hw hsz
  go_enter Tryz.func95, Tryz.ntmps95
  go_wp2_with fail
  refine (HC.out _ HB0).mono ?_
  rintro e w1 ⟨v1, rfl, h⟩
  have ho := h.own
  obtain ⟨A1, c1, rfl, hs1, hn1⟩ := ho.sb
  have HB1 := Lib.hid (HB0.trans (h.fresh.mono (by simp)))
  have HS1 := Lib.hid hs1
  have HN1 : Hid (∀ a, A1 = some a → W.heap.size ≤ a.block) := Lib.hid fun a ha => by have := (hn1 a ha).1; simp at this; omega
  clear h ho hs1 hn1 HC HB0
  go_wp2_with fail
  go_ret
  exact ⟨A1, c1, rfl, HS1.out, HN1.out, HB1.out⟩
theorem tmod {b : Int} (h0 : 0 ≤ b) (h1 : b ≤ 18446744073709551615) : b / 4294967296 % 4294967296 = b / 4294967296 := by omega
set_option maxHeartbeats 1600000 in
theorem appK1 (N : Nat) (hE : ElUpto N) (text more : ByteArray) (n bits high : Int) (b : List UInt8) (kids : List (ByteArray × Val)) (cs : List Value) (deep : Int) (w0 W : World) (base : Nat) (dv : Value) (l : List UInt8) (hw : wt (.mk 1 text more n bits high b kids) < N + 1) (hok : okv (.mk 1 text more n bits high b kids)) (hr : right (.mk 1 text more n bits high b kids) deep = true)
    (hlen : (docValue (.mk 1 text more n bits high b kids)).length ≤ 900000) (hv : RV w0 (.mk 1 text more n bits high b kids) cs) (hbl : Below w0.heap.size w0 W) (hle : w0.heap.size ≤ base) (HO : OB 5 W base dv l) (hbase : base ≤ W.heap.size) (hl : l.length + (docValue (.mk 1 text more n bits high b kids)).length ≤ 80000000) :
    Calls Tryz.prog 37 #[dv, .agg cs.toArray] W (After fun v1 w1 => App (E := 5) W base dv (l ++ docValue (.mk 1 text more n bits high b kids)) v1 w1) := by
  have hv0 := hv
  simp only [RV] at hv
  obtain ⟨A, c, K', dd, rfl, hs, hd, hd2, hk⟩ := hv
  clear hd hd2 hk
  obtain ⟨o1, o2, o3, o4, o5, o6, o7, o8, o9⟩ := hok
  have R := right_facts hr
  have hsW := hs.keep hbl
  have hsep := sep_old HO hs hle
  have hne : some W.heap.size ≠ dv.ownBlock := fun e => by have := (HO.lt _ e.symm).2; omega

  have hdv : docValue (.mk 1 text more n bits high b kids) = i64 bits := by simp [docValue]
  rw [hdv] at hlen hl ⊢
  have HC := Lib.hid (fun wx (hx : Below W.heap.size W wx) => appDbl wx base dv l bits o7.1 o7.2 (HO.keep hx) (by have := hx.size; omega) (by omega))
  have hcb : ∀ (k : Int) (W : World), Sem.run Tryz.prog (callFunc 79 #[.int .u64 k]) W = .ok (.value (.float .f64 k.toNat)) W := fun k W => by kernel_rfl
  obtain ⟨l9, hl9⟩ : ∃ x, x = l ++ i64 bits := ⟨_, rfl⟩
  change Hid (∀ wx : World, Below W.heap.size W wx → Calls _ _ _ wx (After fun v1 w1 => App (E := 5) wx base dv (l ++ i64 bits) v1 w1)) at HC
  rw [← hl9] at HC ⊢
  have hB0 : Below W.heap.size W (W.alloc (.cells #[.int .i64 1, .string text, .string more, .int .i64 n, .int .u64 bits, .int .u64 high, .slice A b.length c, .slice K' kids.length dd] 45)) := balloc (Below.refl _ _) (Nat.le_refl _) _
  obtain ⟨xb, hxb⟩ : ∃ x, x = b.length := ⟨_, rfl⟩
  obtain ⟨xk, hxk⟩ : ∃ x, x = kids.length := ⟨_, rfl⟩
  rw [← hxb, ← hxk] at hB0 ⊢
  clear hl9 hdv hs hsW hsep hne R o1 o2 o3 o4 o5 o6 o7 o8 o9 hv0 hE hw hr HO hbl hlen hl hxb hxk
  go_enter Tryz.func37, Tryz.ntmps37
  go_wp2_with fail
  refine (HC.out _ hB0).mono ?_
  rintro e w1 ⟨v1, rfl, h⟩
  have HE := Lib.hid (h.pre hB0)
  clear h HC
  go_wp2_with fail
  go_ret
  exact ⟨v1, rfl, HE.out⟩
set_option maxHeartbeats 1600000 in
theorem appK2 (N : Nat) (hE : ElUpto N) (text more : ByteArray) (n bits high : Int) (b : List UInt8) (kids : List (ByteArray × Val)) (cs : List Value) (deep : Int) (w0 W : World) (base : Nat) (dv : Value) (l : List UInt8) (hw : wt (.mk 2 text more n bits high b kids) < N + 1) (hok : okv (.mk 2 text more n bits high b kids)) (hr : right (.mk 2 text more n bits high b kids) deep = true)
    (hlen : (docValue (.mk 2 text more n bits high b kids)).length ≤ 900000) (hv : RV w0 (.mk 2 text more n bits high b kids) cs) (hbl : Below w0.heap.size w0 W) (hle : w0.heap.size ≤ base) (HO : OB 5 W base dv l) (hbase : base ≤ W.heap.size) (hl : l.length + (docValue (.mk 2 text more n bits high b kids)).length ≤ 80000000) :
    Calls Tryz.prog 37 #[dv, .agg cs.toArray] W (After fun v1 w1 => App (E := 5) W base dv (l ++ docValue (.mk 2 text more n bits high b kids)) v1 w1) := by
  have hv0 := hv
  simp only [RV] at hv
  obtain ⟨A, c, K', dd, rfl, hs, hd, hd2, hk⟩ := hv
  clear hd hd2 hk
  obtain ⟨o1, o2, o3, o4, o5, o6, o7, o8, o9⟩ := hok
  have R := right_facts hr
  have hsW := hs.keep hbl
  have hsep := sep_old HO hs hle
  have hne : some W.heap.size ≠ dv.ownBlock := fun e => by have := (HO.lt _ e.symm).2; omega

  have hdv : docValue (.mk 2 text more n bits high b kids) = txt (bs text) := by simp [docValue]
  rw [hdv] at hlen hl ⊢
  have hts : (txt (bs text)).length = 5 + text.size := by simp [txt, i32, bs, size_data]; omega
  have HC := Lib.hid (fun wx (hx : Below W.heap.size W wx) => appStr wx base dv l text (by omega) (HO.keep hx) (by have := hx.size; omega) (by omega))
  obtain ⟨l9, hl9⟩ : ∃ x, x = l ++ txt (bs text) := ⟨_, rfl⟩
  change Hid (∀ wx : World, Below W.heap.size W wx → Calls _ _ _ wx (After fun v1 w1 => App (E := 5) wx base dv (l ++ txt (bs text)) v1 w1)) at HC
  rw [← hl9] at HC ⊢
  have hB0 : Below W.heap.size W (W.alloc (.cells #[.int .i64 2, .string text, .string more, .int .i64 n, .int .u64 bits, .int .u64 high, .slice A b.length c, .slice K' kids.length dd] 45)) := balloc (Below.refl _ _) (Nat.le_refl _) _
  obtain ⟨xb, hxb⟩ : ∃ x, x = b.length := ⟨_, rfl⟩
  obtain ⟨xk, hxk⟩ : ∃ x, x = kids.length := ⟨_, rfl⟩
  rw [← hxb, ← hxk] at hB0 ⊢
  clear hl9 hdv hs hsW hsep hne R o1 o2 o3 o4 o5 o6 o7 o8 o9 hv0 hE hw hr HO hbl hlen hl hxb hxk
  go_enter Tryz.func37, Tryz.ntmps37
  go_wp2_with fail
  refine (HC.out _ hB0).mono ?_
  rintro e w1 ⟨v1, rfl, h⟩
  have HE := Lib.hid (h.pre hB0)
  clear h HC
  go_wp2_with fail
  go_ret
  exact ⟨v1, rfl, HE.out⟩
set_option maxHeartbeats 1600000 in
theorem appK5 (N : Nat) (hE : ElUpto N) (text more : ByteArray) (n bits high : Int) (b : List UInt8) (kids : List (ByteArray × Val)) (cs : List Value) (deep : Int) (w0 W : World) (base : Nat) (dv : Value) (l : List UInt8) (hw : wt (.mk 5 text more n bits high b kids) < N + 1) (hok : okv (.mk 5 text more n bits high b kids)) (hr : right (.mk 5 text more n bits high b kids) deep = true)
    (hlen : (docValue (.mk 5 text more n bits high b kids)).length ≤ 900000) (hv : RV w0 (.mk 5 text more n bits high b kids) cs) (hbl : Below w0.heap.size w0 W) (hle : w0.heap.size ≤ base) (HO : OB 5 W base dv l) (hbase : base ≤ W.heap.size) (hl : l.length + (docValue (.mk 5 text more n bits high b kids)).length ≤ 80000000) :
    Calls Tryz.prog 37 #[dv, .agg cs.toArray] W (After fun v1 w1 => App (E := 5) W base dv (l ++ docValue (.mk 5 text more n bits high b kids)) v1 w1) := by
  have hv0 := hv
  simp only [RV] at hv
  obtain ⟨A, c, K', dd, rfl, hs, hd, hd2, hk⟩ := hv
  clear hd hd2 hk
  obtain ⟨o1, o2, o3, o4, o5, o6, o7, o8, o9⟩ := hok
  have R := right_facts hr
  have hsW := hs.keep hbl
  have hsep := sep_old HO hs hle
  have hne : some W.heap.size ≠ dv.ownBlock := fun e => by have := (HO.lt _ e.symm).2; omega

  have hdv : docValue (.mk 5 text more n bits high b kids) = binB n b := by rw [← binB_eq]; simp [docValue]
  rw [hdv] at hlen hl ⊢
  have HC := Lib.hid (fun wx (hx : Below W.heap.size W wx) => appBin wx base dv l n (R.r5 rfl).1 (R.r5 rfl).2 A c b (hsW.keep hx) hsep (by unfold binB at hlen; split at hlen <;> simp at hlen <;> omega) (HO.keep hx) (by have := hx.size; omega) (by omega))
  have hw8 : n % 256 = n := by have := R.r5 rfl; omega
  obtain ⟨l9, hl9⟩ : ∃ x, x = l ++ binB n b := ⟨_, rfl⟩
  change Hid (∀ wx : World, Below W.heap.size W wx → Calls _ _ _ wx (After fun v1 w1 => App (E := 5) wx base dv (l ++ binB n b) v1 w1)) at HC
  rw [← hl9] at HC ⊢
  have hB0 : Below W.heap.size W (W.alloc (.cells #[.int .i64 5, .string text, .string more, .int .i64 n, .int .u64 bits, .int .u64 high, .slice A b.length c, .slice K' kids.length dd] 45)) := balloc (Below.refl _ _) (Nat.le_refl _) _
  obtain ⟨xb, hxb⟩ : ∃ x, x = b.length := ⟨_, rfl⟩
  obtain ⟨xk, hxk⟩ : ∃ x, x = kids.length := ⟨_, rfl⟩
  rw [← hxb, ← hxk] at hB0 ⊢
  rw [← hxb] at HC
  clear hl9 hdv hs hsW hsep hne R o1 o2 o3 o4 o5 o6 o7 o8 o9 hv0 hE hw hr HO hbl hlen hl hxb hxk
  go_enter Tryz.func37, Tryz.ntmps37
  go_wp2_with fail
  refine (HC.out _ hB0).mono ?_
  rintro e w1 ⟨v1, rfl, h⟩
  have HE := Lib.hid (h.pre hB0)
  clear h HC
  go_wp2_with fail
  go_ret
  exact ⟨v1, rfl, HE.out⟩
set_option maxHeartbeats 1600000 in
theorem appK9 (N : Nat) (hE : ElUpto N) (text more : ByteArray) (n bits high : Int) (b : List UInt8) (kids : List (ByteArray × Val)) (cs : List Value) (deep : Int) (w0 W : World) (base : Nat) (dv : Value) (l : List UInt8) (hw : wt (.mk 9 text more n bits high b kids) < N + 1) (hok : okv (.mk 9 text more n bits high b kids)) (hr : right (.mk 9 text more n bits high b kids) deep = true)
    (hlen : (docValue (.mk 9 text more n bits high b kids)).length ≤ 900000) (hv : RV w0 (.mk 9 text more n bits high b kids) cs) (hbl : Below w0.heap.size w0 W) (hle : w0.heap.size ≤ base) (HO : OB 5 W base dv l) (hbase : base ≤ W.heap.size) (hl : l.length + (docValue (.mk 9 text more n bits high b kids)).length ≤ 80000000) :
    Calls Tryz.prog 37 #[dv, .agg cs.toArray] W (After fun v1 w1 => App (E := 5) W base dv (l ++ docValue (.mk 9 text more n bits high b kids)) v1 w1) := by
  have hv0 := hv
  simp only [RV] at hv
  obtain ⟨A, c, K', dd, rfl, hs, hd, hd2, hk⟩ := hv
  clear hd hd2 hk
  obtain ⟨o1, o2, o3, o4, o5, o6, o7, o8, o9⟩ := hok
  have R := right_facts hr
  have hsW := hs.keep hbl
  have hsep := sep_old HO hs hle
  have hne : some W.heap.size ≠ dv.ownBlock := fun e => by have := (HO.lt _ e.symm).2; omega

  have hdv : docValue (.mk 9 text more n bits high b kids) = i64 (n % 18446744073709551616) := by simp [docValue]
  rw [hdv] at hlen hl ⊢
  have HC := Lib.hid (fun wx (hx : Below W.heap.size W wx) => appDate wx base dv l n o6.1 o6.2 (HO.keep hx) (by have := hx.size; omega) (by omega))
  obtain ⟨l9, hl9⟩ : ∃ x, x = l ++ i64 (n % 18446744073709551616) := ⟨_, rfl⟩
  change Hid (∀ wx : World, Below W.heap.size W wx → Calls _ _ _ wx (After fun v1 w1 => App (E := 5) wx base dv (l ++ i64 (n % 18446744073709551616)) v1 w1)) at HC
  rw [← hl9] at HC ⊢
  have hB0 : Below W.heap.size W (W.alloc (.cells #[.int .i64 9, .string text, .string more, .int .i64 n, .int .u64 bits, .int .u64 high, .slice A b.length c, .slice K' kids.length dd] 45)) := balloc (Below.refl _ _) (Nat.le_refl _) _
  obtain ⟨xb, hxb⟩ : ∃ x, x = b.length := ⟨_, rfl⟩
  obtain ⟨xk, hxk⟩ : ∃ x, x = kids.length := ⟨_, rfl⟩
  rw [← hxb, ← hxk] at hB0 ⊢
  clear hl9 hdv hs hsW hsep hne R o1 o2 o3 o4 o5 o6 o7 o8 o9 hv0 hE hw hr HO hbl hlen hl hxb hxk
  go_enter Tryz.func37, Tryz.ntmps37
  go_wp2_with fail
  refine (HC.out _ hB0).mono ?_
  rintro e w1 ⟨v1, rfl, h⟩
  have HE := Lib.hid (h.pre hB0)
  clear h HC
  go_wp2_with fail
  go_ret
  exact ⟨v1, rfl, HE.out⟩
set_option maxHeartbeats 1600000 in
theorem appK11 (N : Nat) (hE : ElUpto N) (text more : ByteArray) (n bits high : Int) (b : List UInt8) (kids : List (ByteArray × Val)) (cs : List Value) (deep : Int) (w0 W : World) (base : Nat) (dv : Value) (l : List UInt8) (hw : wt (.mk 11 text more n bits high b kids) < N + 1) (hok : okv (.mk 11 text more n bits high b kids)) (hr : right (.mk 11 text more n bits high b kids) deep = true)
    (hlen : (docValue (.mk 11 text more n bits high b kids)).length ≤ 900000) (hv : RV w0 (.mk 11 text more n bits high b kids) cs) (hbl : Below w0.heap.size w0 W) (hle : w0.heap.size ≤ base) (HO : OB 5 W base dv l) (hbase : base ≤ W.heap.size) (hl : l.length + (docValue (.mk 11 text more n bits high b kids)).length ≤ 80000000) :
    Calls Tryz.prog 37 #[dv, .agg cs.toArray] W (After fun v1 w1 => App (E := 5) W base dv (l ++ docValue (.mk 11 text more n bits high b kids)) v1 w1) := by
  have hv0 := hv
  simp only [RV] at hv
  obtain ⟨A, c, K', dd, rfl, hs, hd, hd2, hk⟩ := hv
  clear hd hd2 hk
  obtain ⟨o1, o2, o3, o4, o5, o6, o7, o8, o9⟩ := hok
  have R := right_facts hr
  have hsW := hs.keep hbl
  have hsep := sep_old HO hs hle
  have hne : some W.heap.size ≠ dv.ownBlock := fun e => by have := (HO.lt _ e.symm).2; omega

  have hdv : docValue (.mk 11 text more n bits high b kids) = (bs text ++ [0] ++ bs more ++ [0]) := by simp [docValue]
  rw [hdv] at hlen hl ⊢
  have hts : (bs text ++ [0] ++ bs more ++ [0]).length = text.size + more.size + 2 := by simp [bs, size_data]; omega
  have HC := Lib.hid (fun wx (hx : Below W.heap.size W wx) => appRegex wx base dv l text more (R.r11 rfl).1 (R.r11 rfl).2 (by omega) (by omega) (HO.keep hx) (by have := hx.size; omega) (by omega))
  obtain ⟨l9, hl9⟩ : ∃ x, x = l ++ (bs text ++ [0] ++ bs more ++ [0]) := ⟨_, rfl⟩
  change Hid (∀ wx : World, Below W.heap.size W wx → Calls _ _ _ wx (After fun v1 w1 => App (E := 5) wx base dv (l ++ (bs text ++ [0] ++ bs more ++ [0])) v1 w1)) at HC
  rw [← hl9] at HC ⊢
  have hB0 : Below W.heap.size W (W.alloc (.cells #[.int .i64 11, .string text, .string more, .int .i64 n, .int .u64 bits, .int .u64 high, .slice A b.length c, .slice K' kids.length dd] 45)) := balloc (Below.refl _ _) (Nat.le_refl _) _
  obtain ⟨xb, hxb⟩ : ∃ x, x = b.length := ⟨_, rfl⟩
  obtain ⟨xk, hxk⟩ : ∃ x, x = kids.length := ⟨_, rfl⟩
  rw [← hxb, ← hxk] at hB0 ⊢
  clear hl9 hdv hs hsW hsep hne R o1 o2 o3 o4 o5 o6 o7 o8 o9 hv0 hE hw hr HO hbl hlen hl hxb hxk
  go_enter Tryz.func37, Tryz.ntmps37
  go_wp2_with fail
  refine (HC.out _ hB0).mono ?_
  rintro e w1 ⟨v1, rfl, h⟩
  have HE := Lib.hid (h.pre hB0)
  clear h HC
  go_wp2_with fail
  go_ret
  exact ⟨v1, rfl, HE.out⟩
set_option maxHeartbeats 1600000 in
theorem appK13 (N : Nat) (hE : ElUpto N) (text more : ByteArray) (n bits high : Int) (b : List UInt8) (kids : List (ByteArray × Val)) (cs : List Value) (deep : Int) (w0 W : World) (base : Nat) (dv : Value) (l : List UInt8) (hw : wt (.mk 13 text more n bits high b kids) < N + 1) (hok : okv (.mk 13 text more n bits high b kids)) (hr : right (.mk 13 text more n bits high b kids) deep = true)
    (hlen : (docValue (.mk 13 text more n bits high b kids)).length ≤ 900000) (hv : RV w0 (.mk 13 text more n bits high b kids) cs) (hbl : Below w0.heap.size w0 W) (hle : w0.heap.size ≤ base) (HO : OB 5 W base dv l) (hbase : base ≤ W.heap.size) (hl : l.length + (docValue (.mk 13 text more n bits high b kids)).length ≤ 80000000) :
    Calls Tryz.prog 37 #[dv, .agg cs.toArray] W (After fun v1 w1 => App (E := 5) W base dv (l ++ docValue (.mk 13 text more n bits high b kids)) v1 w1) := by
  have hv0 := hv
  simp only [RV] at hv
  obtain ⟨A, c, K', dd, rfl, hs, hd, hd2, hk⟩ := hv
  clear hd hd2 hk
  obtain ⟨o1, o2, o3, o4, o5, o6, o7, o8, o9⟩ := hok
  have R := right_facts hr
  have hsW := hs.keep hbl
  have hsep := sep_old HO hs hle
  have hne : some W.heap.size ≠ dv.ownBlock := fun e => by have := (HO.lt _ e.symm).2; omega

  have hdv : docValue (.mk 13 text more n bits high b kids) = txt (bs text) := by simp [docValue]
  rw [hdv] at hlen hl ⊢
  have hts : (txt (bs text)).length = 5 + text.size := by simp [txt, i32, bs, size_data]; omega
  have HC := Lib.hid (fun wx (hx : Below W.heap.size W wx) => appJs wx base dv l text (by omega) (HO.keep hx) (by have := hx.size; omega) (by omega))
  obtain ⟨l9, hl9⟩ : ∃ x, x = l ++ txt (bs text) := ⟨_, rfl⟩
  change Hid (∀ wx : World, Below W.heap.size W wx → Calls _ _ _ wx (After fun v1 w1 => App (E := 5) wx base dv (l ++ txt (bs text)) v1 w1)) at HC
  rw [← hl9] at HC ⊢
  have hB0 : Below W.heap.size W (W.alloc (.cells #[.int .i64 13, .string text, .string more, .int .i64 n, .int .u64 bits, .int .u64 high, .slice A b.length c, .slice K' kids.length dd] 45)) := balloc (Below.refl _ _) (Nat.le_refl _) _
  obtain ⟨xb, hxb⟩ : ∃ x, x = b.length := ⟨_, rfl⟩
  obtain ⟨xk, hxk⟩ : ∃ x, x = kids.length := ⟨_, rfl⟩
  rw [← hxb, ← hxk] at hB0 ⊢
  clear hl9 hdv hs hsW hsep hne R o1 o2 o3 o4 o5 o6 o7 o8 o9 hv0 hE hw hr HO hbl hlen hl hxb hxk
  go_enter Tryz.func37, Tryz.ntmps37
  go_wp2_with fail
  refine (HC.out _ hB0).mono ?_
  rintro e w1 ⟨v1, rfl, h⟩
  have HE := Lib.hid (h.pre hB0)
  clear h HC
  go_wp2_with fail
  go_ret
  exact ⟨v1, rfl, HE.out⟩
set_option maxHeartbeats 1600000 in
theorem appK14 (N : Nat) (hE : ElUpto N) (text more : ByteArray) (n bits high : Int) (b : List UInt8) (kids : List (ByteArray × Val)) (cs : List Value) (deep : Int) (w0 W : World) (base : Nat) (dv : Value) (l : List UInt8) (hw : wt (.mk 14 text more n bits high b kids) < N + 1) (hok : okv (.mk 14 text more n bits high b kids)) (hr : right (.mk 14 text more n bits high b kids) deep = true)
    (hlen : (docValue (.mk 14 text more n bits high b kids)).length ≤ 900000) (hv : RV w0 (.mk 14 text more n bits high b kids) cs) (hbl : Below w0.heap.size w0 W) (hle : w0.heap.size ≤ base) (HO : OB 5 W base dv l) (hbase : base ≤ W.heap.size) (hl : l.length + (docValue (.mk 14 text more n bits high b kids)).length ≤ 80000000) :
    Calls Tryz.prog 37 #[dv, .agg cs.toArray] W (After fun v1 w1 => App (E := 5) W base dv (l ++ docValue (.mk 14 text more n bits high b kids)) v1 w1) := by
  have hv0 := hv
  simp only [RV] at hv
  obtain ⟨A, c, K', dd, rfl, hs, hd, hd2, hk⟩ := hv
  clear hd hd2 hk
  obtain ⟨o1, o2, o3, o4, o5, o6, o7, o8, o9⟩ := hok
  have R := right_facts hr
  have hsW := hs.keep hbl
  have hsep := sep_old HO hs hle
  have hne : some W.heap.size ≠ dv.ownBlock := fun e => by have := (HO.lt _ e.symm).2; omega

  have hdv : docValue (.mk 14 text more n bits high b kids) = txt (bs text) := by simp [docValue]
  rw [hdv] at hlen hl ⊢
  have hts : (txt (bs text)).length = 5 + text.size := by simp [txt, i32, bs, size_data]; omega
  have HC := Lib.hid (fun wx (hx : Below W.heap.size W wx) => appSym wx base dv l text (by omega) (HO.keep hx) (by have := hx.size; omega) (by omega))
  obtain ⟨l9, hl9⟩ : ∃ x, x = l ++ txt (bs text) := ⟨_, rfl⟩
  change Hid (∀ wx : World, Below W.heap.size W wx → Calls _ _ _ wx (After fun v1 w1 => App (E := 5) wx base dv (l ++ txt (bs text)) v1 w1)) at HC
  rw [← hl9] at HC ⊢
  have hB0 : Below W.heap.size W (W.alloc (.cells #[.int .i64 14, .string text, .string more, .int .i64 n, .int .u64 bits, .int .u64 high, .slice A b.length c, .slice K' kids.length dd] 45)) := balloc (Below.refl _ _) (Nat.le_refl _) _
  obtain ⟨xb, hxb⟩ : ∃ x, x = b.length := ⟨_, rfl⟩
  obtain ⟨xk, hxk⟩ : ∃ x, x = kids.length := ⟨_, rfl⟩
  rw [← hxb, ← hxk] at hB0 ⊢
  clear hl9 hdv hs hsW hsep hne R o1 o2 o3 o4 o5 o6 o7 o8 o9 hv0 hE hw hr HO hbl hlen hl hxb hxk
  go_enter Tryz.func37, Tryz.ntmps37
  go_wp2_with fail
  refine (HC.out _ hB0).mono ?_
  rintro e w1 ⟨v1, rfl, h⟩
  have HE := Lib.hid (h.pre hB0)
  clear h HC
  go_wp2_with fail
  go_ret
  exact ⟨v1, rfl, HE.out⟩
set_option maxHeartbeats 1600000 in
theorem appK16 (N : Nat) (hE : ElUpto N) (text more : ByteArray) (n bits high : Int) (b : List UInt8) (kids : List (ByteArray × Val)) (cs : List Value) (deep : Int) (w0 W : World) (base : Nat) (dv : Value) (l : List UInt8) (hw : wt (.mk 16 text more n bits high b kids) < N + 1) (hok : okv (.mk 16 text more n bits high b kids)) (hr : right (.mk 16 text more n bits high b kids) deep = true)
    (hlen : (docValue (.mk 16 text more n bits high b kids)).length ≤ 900000) (hv : RV w0 (.mk 16 text more n bits high b kids) cs) (hbl : Below w0.heap.size w0 W) (hle : w0.heap.size ≤ base) (HO : OB 5 W base dv l) (hbase : base ≤ W.heap.size) (hl : l.length + (docValue (.mk 16 text more n bits high b kids)).length ≤ 80000000) :
    Calls Tryz.prog 37 #[dv, .agg cs.toArray] W (After fun v1 w1 => App (E := 5) W base dv (l ++ docValue (.mk 16 text more n bits high b kids)) v1 w1) := by
  have hv0 := hv
  simp only [RV] at hv
  obtain ⟨A, c, K', dd, rfl, hs, hd, hd2, hk⟩ := hv
  clear hd hd2 hk
  obtain ⟨o1, o2, o3, o4, o5, o6, o7, o8, o9⟩ := hok
  have R := right_facts hr
  have hsW := hs.keep hbl
  have hsep := sep_old HO hs hle
  have hne : some W.heap.size ≠ dv.ownBlock := fun e => by have := (HO.lt _ e.symm).2; omega

  have hdv : docValue (.mk 16 text more n bits high b kids) = i32 n := by simp [docValue]
  rw [hdv] at hlen hl ⊢
  have HC := Lib.hid (fun wx (hx : Below W.heap.size W wx) => appI32 wx base dv l n (R.r16 rfl).1 (by have := R.r16 rfl; omega) (HO.keep hx) (by have := hx.size; omega) (by omega))
  have hw32 : wrap32 n = n := w32Q (R.r16 rfl).1 (R.r16 rfl).2
  obtain ⟨l9, hl9⟩ : ∃ x, x = l ++ i32 n := ⟨_, rfl⟩
  change Hid (∀ wx : World, Below W.heap.size W wx → Calls _ _ _ wx (After fun v1 w1 => App (E := 5) wx base dv (l ++ i32 n) v1 w1)) at HC
  rw [← hl9] at HC ⊢
  have hB0 : Below W.heap.size W (W.alloc (.cells #[.int .i64 16, .string text, .string more, .int .i64 n, .int .u64 bits, .int .u64 high, .slice A b.length c, .slice K' kids.length dd] 45)) := balloc (Below.refl _ _) (Nat.le_refl _) _
  obtain ⟨xb, hxb⟩ : ∃ x, x = b.length := ⟨_, rfl⟩
  obtain ⟨xk, hxk⟩ : ∃ x, x = kids.length := ⟨_, rfl⟩
  rw [← hxb, ← hxk] at hB0 ⊢
  clear hl9 hdv hs hsW hsep hne R o1 o2 o3 o4 o5 o6 o7 o8 o9 hv0 hE hw hr HO hbl hlen hl hxb hxk
  go_enter Tryz.func37, Tryz.ntmps37
  go_wp2_with fail
  refine (HC.out _ hB0).mono ?_
  rintro e w1 ⟨v1, rfl, h⟩
  have HE := Lib.hid (h.pre hB0)
  clear h HC
  go_wp2_with fail
  go_ret
  exact ⟨v1, rfl, HE.out⟩
set_option maxHeartbeats 1600000 in
theorem appK17 (N : Nat) (hE : ElUpto N) (text more : ByteArray) (n bits high : Int) (b : List UInt8) (kids : List (ByteArray × Val)) (cs : List Value) (deep : Int) (w0 W : World) (base : Nat) (dv : Value) (l : List UInt8) (hw : wt (.mk 17 text more n bits high b kids) < N + 1) (hok : okv (.mk 17 text more n bits high b kids)) (hr : right (.mk 17 text more n bits high b kids) deep = true)
    (hlen : (docValue (.mk 17 text more n bits high b kids)).length ≤ 900000) (hv : RV w0 (.mk 17 text more n bits high b kids) cs) (hbl : Below w0.heap.size w0 W) (hle : w0.heap.size ≤ base) (HO : OB 5 W base dv l) (hbase : base ≤ W.heap.size) (hl : l.length + (docValue (.mk 17 text more n bits high b kids)).length ≤ 80000000) :
    Calls Tryz.prog 37 #[dv, .agg cs.toArray] W (After fun v1 w1 => App (E := 5) W base dv (l ++ docValue (.mk 17 text more n bits high b kids)) v1 w1) := by
  have hv0 := hv
  simp only [RV] at hv
  obtain ⟨A, c, K', dd, rfl, hs, hd, hd2, hk⟩ := hv
  clear hd hd2 hk
  obtain ⟨o1, o2, o3, o4, o5, o6, o7, o8, o9⟩ := hok
  have R := right_facts hr
  have hsW := hs.keep hbl
  have hsep := sep_old HO hs hle
  have hne : some W.heap.size ≠ dv.ownBlock := fun e => by have := (HO.lt _ e.symm).2; omega

  have hdv : docValue (.mk 17 text more n bits high b kids) = (i32 (bits % 4294967296) ++ i32 (bits / 4294967296)) := by rw [← time_eq bits o7.1 o7.2]; simp [docValue]
  rw [hdv] at hlen hl ⊢
  have HC := Lib.hid (fun wx (hx : Below W.heap.size W wx) => appTime wx base dv l (bits / 4294967296) (bits % 4294967296) (by omega) (by omega) (by omega) (by omega) (HO.keep hx) (by have := hx.size; omega) (by omega))
  have hwt : bits / 4294967296 % 4294967296 = bits / 4294967296 := tmod o7.1 o7.2
  obtain ⟨l9, hl9⟩ : ∃ x, x = l ++ (i32 (bits % 4294967296) ++ i32 (bits / 4294967296)) := ⟨_, rfl⟩
  change Hid (∀ wx : World, Below W.heap.size W wx → Calls _ _ _ wx (After fun v1 w1 => App (E := 5) wx base dv (l ++ (i32 (bits % 4294967296) ++ i32 (bits / 4294967296))) v1 w1)) at HC
  rw [← hl9] at HC ⊢
  have hB0 : Below W.heap.size W (W.alloc (.cells #[.int .i64 17, .string text, .string more, .int .i64 n, .int .u64 bits, .int .u64 high, .slice A b.length c, .slice K' kids.length dd] 45)) := balloc (Below.refl _ _) (Nat.le_refl _) _
  obtain ⟨xb, hxb⟩ : ∃ x, x = b.length := ⟨_, rfl⟩
  obtain ⟨xk, hxk⟩ : ∃ x, x = kids.length := ⟨_, rfl⟩
  rw [← hxb, ← hxk] at hB0 ⊢
  clear hl9 hdv hs hsW hsep hne R o1 o2 o3 o4 o5 o6 o7 o8 o9 hv0 hE hw hr HO hbl hlen hl hxb hxk
  go_enter Tryz.func37, Tryz.ntmps37
  go_wp2_with fail
  refine (HC.out _ hB0).mono ?_
  rintro e w1 ⟨v1, rfl, h⟩
  have HE := Lib.hid (h.pre hB0)
  clear h HC
  go_wp2_with fail
  go_ret
  exact ⟨v1, rfl, HE.out⟩
set_option maxHeartbeats 1600000 in
theorem appK18 (N : Nat) (hE : ElUpto N) (text more : ByteArray) (n bits high : Int) (b : List UInt8) (kids : List (ByteArray × Val)) (cs : List Value) (deep : Int) (w0 W : World) (base : Nat) (dv : Value) (l : List UInt8) (hw : wt (.mk 18 text more n bits high b kids) < N + 1) (hok : okv (.mk 18 text more n bits high b kids)) (hr : right (.mk 18 text more n bits high b kids) deep = true)
    (hlen : (docValue (.mk 18 text more n bits high b kids)).length ≤ 900000) (hv : RV w0 (.mk 18 text more n bits high b kids) cs) (hbl : Below w0.heap.size w0 W) (hle : w0.heap.size ≤ base) (HO : OB 5 W base dv l) (hbase : base ≤ W.heap.size) (hl : l.length + (docValue (.mk 18 text more n bits high b kids)).length ≤ 80000000) :
    Calls Tryz.prog 37 #[dv, .agg cs.toArray] W (After fun v1 w1 => App (E := 5) W base dv (l ++ docValue (.mk 18 text more n bits high b kids)) v1 w1) := by
  have hv0 := hv
  simp only [RV] at hv
  obtain ⟨A, c, K', dd, rfl, hs, hd, hd2, hk⟩ := hv
  clear hd hd2 hk
  obtain ⟨o1, o2, o3, o4, o5, o6, o7, o8, o9⟩ := hok
  have R := right_facts hr
  have hsW := hs.keep hbl
  have hsep := sep_old HO hs hle
  have hne : some W.heap.size ≠ dv.ownBlock := fun e => by have := (HO.lt _ e.symm).2; omega

  have hdv : docValue (.mk 18 text more n bits high b kids) = i64 (n % 18446744073709551616) := by simp [docValue]
  rw [hdv] at hlen hl ⊢
  have HC := Lib.hid (fun wx (hx : Below W.heap.size W wx) => appI64 wx base dv l n o6.1 o6.2 (HO.keep hx) (by have := hx.size; omega) (by omega))
  obtain ⟨l9, hl9⟩ : ∃ x, x = l ++ i64 (n % 18446744073709551616) := ⟨_, rfl⟩
  change Hid (∀ wx : World, Below W.heap.size W wx → Calls _ _ _ wx (After fun v1 w1 => App (E := 5) wx base dv (l ++ i64 (n % 18446744073709551616)) v1 w1)) at HC
  rw [← hl9] at HC ⊢
  have hB0 : Below W.heap.size W (W.alloc (.cells #[.int .i64 18, .string text, .string more, .int .i64 n, .int .u64 bits, .int .u64 high, .slice A b.length c, .slice K' kids.length dd] 45)) := balloc (Below.refl _ _) (Nat.le_refl _) _
  obtain ⟨xb, hxb⟩ : ∃ x, x = b.length := ⟨_, rfl⟩
  obtain ⟨xk, hxk⟩ : ∃ x, x = kids.length := ⟨_, rfl⟩
  rw [← hxb, ← hxk] at hB0 ⊢
  clear hl9 hdv hs hsW hsep hne R o1 o2 o3 o4 o5 o6 o7 o8 o9 hv0 hE hw hr HO hbl hlen hl hxb hxk
  go_enter Tryz.func37, Tryz.ntmps37
  go_wp2_with fail
  refine (HC.out _ hB0).mono ?_
  rintro e w1 ⟨v1, rfl, h⟩
  have HE := Lib.hid (h.pre hB0)
  clear h HC
  go_wp2_with fail
  go_ret
  exact ⟨v1, rfl, HE.out⟩
set_option maxHeartbeats 1600000 in
theorem appK19 (N : Nat) (hE : ElUpto N) (text more : ByteArray) (n bits high : Int) (b : List UInt8) (kids : List (ByteArray × Val)) (cs : List Value) (deep : Int) (w0 W : World) (base : Nat) (dv : Value) (l : List UInt8) (hw : wt (.mk 19 text more n bits high b kids) < N + 1) (hok : okv (.mk 19 text more n bits high b kids)) (hr : right (.mk 19 text more n bits high b kids) deep = true)
    (hlen : (docValue (.mk 19 text more n bits high b kids)).length ≤ 900000) (hv : RV w0 (.mk 19 text more n bits high b kids) cs) (hbl : Below w0.heap.size w0 W) (hle : w0.heap.size ≤ base) (HO : OB 5 W base dv l) (hbase : base ≤ W.heap.size) (hl : l.length + (docValue (.mk 19 text more n bits high b kids)).length ≤ 80000000) :
    Calls Tryz.prog 37 #[dv, .agg cs.toArray] W (After fun v1 w1 => App (E := 5) W base dv (l ++ docValue (.mk 19 text more n bits high b kids)) v1 w1) := by
  have hv0 := hv
  simp only [RV] at hv
  obtain ⟨A, c, K', dd, rfl, hs, hd, hd2, hk⟩ := hv
  clear hd hd2 hk
  obtain ⟨o1, o2, o3, o4, o5, o6, o7, o8, o9⟩ := hok
  have R := right_facts hr
  have hsW := hs.keep hbl
  have hsep := sep_old HO hs hle
  have hne : some W.heap.size ≠ dv.ownBlock := fun e => by have := (HO.lt _ e.symm).2; omega

  have hdv : docValue (.mk 19 text more n bits high b kids) = (i64 bits ++ i64 high) := by simp [docValue]
  rw [hdv] at hlen hl ⊢
  have HC := Lib.hid (fun wx (hx : Below W.heap.size W wx) => appDec wx base dv l high bits o8.1 o8.2 o7.1 o7.2 (HO.keep hx) (by have := hx.size; omega) (by omega))
  obtain ⟨l9, hl9⟩ : ∃ x, x = l ++ (i64 bits ++ i64 high) := ⟨_, rfl⟩
  change Hid (∀ wx : World, Below W.heap.size W wx → Calls _ _ _ wx (After fun v1 w1 => App (E := 5) wx base dv (l ++ (i64 bits ++ i64 high)) v1 w1)) at HC
  rw [← hl9] at HC ⊢
  have hB0 : Below W.heap.size W (W.alloc (.cells #[.int .i64 19, .string text, .string more, .int .i64 n, .int .u64 bits, .int .u64 high, .slice A b.length c, .slice K' kids.length dd] 45)) := balloc (Below.refl _ _) (Nat.le_refl _) _
  obtain ⟨xb, hxb⟩ : ∃ x, x = b.length := ⟨_, rfl⟩
  obtain ⟨xk, hxk⟩ : ∃ x, x = kids.length := ⟨_, rfl⟩
  rw [← hxb, ← hxk] at hB0 ⊢
  clear hl9 hdv hs hsW hsep hne R o1 o2 o3 o4 o5 o6 o7 o8 o9 hv0 hE hw hr HO hbl hlen hl hxb hxk
  go_enter Tryz.func37, Tryz.ntmps37
  go_wp2_with fail
  refine (HC.out _ hB0).mono ?_
  rintro e w1 ⟨v1, rfl, h⟩
  have HE := Lib.hid (h.pre hB0)
  clear h HC
  go_wp2_with fail
  go_ret
  exact ⟨v1, rfl, HE.out⟩
set_option maxHeartbeats 1600000 in
theorem appK8 (N : Nat) (hE : ElUpto N) (text more : ByteArray) (n bits high : Int) (b : List UInt8) (kids : List (ByteArray × Val)) (cs : List Value) (deep : Int) (w0 W : World) (base : Nat) (dv : Value) (l : List UInt8) (hw : wt (.mk 8 text more n bits high b kids) < N + 1) (hok : okv (.mk 8 text more n bits high b kids)) (hr : right (.mk 8 text more n bits high b kids) deep = true)
    (hlen : (docValue (.mk 8 text more n bits high b kids)).length ≤ 900000) (hv : RV w0 (.mk 8 text more n bits high b kids) cs) (hbl : Below w0.heap.size w0 W) (hle : w0.heap.size ≤ base) (HO : OB 5 W base dv l) (hbase : base ≤ W.heap.size) (hl : l.length + (docValue (.mk 8 text more n bits high b kids)).length ≤ 80000000) :
    Calls Tryz.prog 37 #[dv, .agg cs.toArray] W (After fun v1 w1 => App (E := 5) W base dv (l ++ docValue (.mk 8 text more n bits high b kids)) v1 w1) := by
  have hv0 := hv
  simp only [RV] at hv
  obtain ⟨A, c, K', dd, rfl, hs, hd, hd2, hk⟩ := hv
  clear hd hd2 hk
  obtain ⟨o1, o2, o3, o4, o5, o6, o7, o8, o9⟩ := hok
  have R := right_facts hr
  have hsW := hs.keep hbl
  have hsep := sep_old HO hs hle
  have hne : some W.heap.size ≠ dv.ownBlock := fun e => by have := (HO.lt _ e.symm).2; omega

  have hdv : docValue (.mk 8 text more n bits high b kids) = [ub n] := by simp [docValue]
  rw [hdv] at hlen hl ⊢
  have hn01 := R.r8 rfl
  have HC := Lib.hid (fun (z : Bool) wx (hx : Below W.heap.size W wx) => appBool wx base dv l z (HO.keep hx) (by have := hx.size; omega) (by omega))
  have hB0 : Below W.heap.size W (W.alloc (.cells #[.int .i64 8, .string text, .string more, .int .i64 n, .int .u64 bits, .int .u64 high, .slice A b.length c, .slice K' kids.length dd] 45)) := balloc (Below.refl _ _) (Nat.le_refl _) _
  obtain ⟨xb, hxb⟩ : ∃ x, x = b.length := ⟨_, rfl⟩
  obtain ⟨xk, hxk⟩ : ∃ x, x = kids.length := ⟨_, rfl⟩
  rw [← hxb, ← hxk] at hB0 ⊢
  clear hdv hs hsW hsep hne R o1 o2 o3 o4 o5 o6 o7 o8 o9 hv0 hE hw hr HO hbl hlen hl hxb hxk
  rcases hn01 with rfl | rfl
  · go_enter Tryz.func37, Tryz.ntmps37
    go_wp2_with fail
    refine (HC.out false _ hB0).mono ?_
    rintro e w1 ⟨v1, rfl, h⟩
    have HE := Lib.hid (h.pre hB0)
    clear h HC
    go_wp2_with fail
    go_ret
    exact ⟨v1, rfl, HE.out⟩
  · go_enter Tryz.func37, Tryz.ntmps37
    go_wp2_with fail
    refine (HC.out true _ hB0).mono ?_
    rintro e w1 ⟨v1, rfl, h⟩
    have HE := Lib.hid (h.pre hB0)
    clear h HC
    go_wp2_with fail
    go_ret
    exact ⟨v1, rfl, HE.out⟩
set_option maxHeartbeats 1600000 in
theorem elK1 (N : Nat) (hE : ElUpto N) (nm : ByteArray) (hp : plainB nm.data.toList = true) (text more : ByteArray) (n bits high : Int) (b : List UInt8) (kids : List (ByteArray × Val)) (cs : List Value) (deep : Int) (w0 W : World) (base : Nat) (dv : Value) (l : List UInt8) (hw : wt (.mk 1 text more n bits high b kids) < N + 1) (hok : okv (.mk 1 text more n bits high b kids)) (hr : right (.mk 1 text more n bits high b kids) deep = true)
    (hlen : (docElemOf nm (.mk 1 text more n bits high b kids)).length ≤ 900000) (hv : RV w0 (.mk 1 text more n bits high b kids) cs) (hbl : Below w0.heap.size w0 W) (hle : w0.heap.size ≤ base) (HO : OB 5 W base dv l) (hbase : base ≤ W.heap.size) (hl : l.length + (docElemOf nm (.mk 1 text more n bits high b kids)).length ≤ 80000000) :
    Calls Tryz.prog 82 #[dv, .string nm, .agg cs.toArray] W (After fun v1 w1 => App (E := 5) W base dv (l ++ docElemOf nm (.mk 1 text more n bits high b kids)) v1 w1) := by
  have hv0 := hv
  simp only [RV] at hv
  obtain ⟨A, c, K', dd, rfl, hs, hd, hd2, hk⟩ := hv
  clear hd hd2 hk
  obtain ⟨o1, o2, o3, o4, o5, o6, o7, o8, o9⟩ := hok
  have R := right_facts hr
  have hsW := hs.keep hbl
  have hsep := sep_old HO hs hle
  have hne : some W.heap.size ≠ dv.ownBlock := fun e => by have := (HO.lt _ e.symm).2; omega

  have hdv : docElemOf nm (.mk 1 text more n bits high b kids) = hd 1 (bs nm) ++ i64 bits := by
    have e : docValue (.mk 1 text more n bits high b kids) = i64 bits := by simp [docValue]
    show hd 1 (bs nm) ++ docValue (.mk 1 text more n bits high b kids) = _
    rw [e]
  rw [hdv] at hlen hl ⊢
  rw [List.length_append] at hlen hl
  have hs0 : nm.size ≤ 1000000 := by have := hd_len 1 nm; unfold bs at hlen; omega
  have HC := Lib.hid (fun wx (hx : Below W.heap.size W wx) => eDbl wx base dv l nm hp hs0 bits o7.1 o7.2 (HO.keep hx) (by have := hx.size; omega) (by omega))
  have hcb : ∀ (k : Int) (W : World), Sem.run Tryz.prog (callFunc 79 #[.int .u64 k]) W = .ok (.value (.float .f64 k.toNat)) W := fun k W => by kernel_rfl
  obtain ⟨l9, hl9⟩ : ∃ x, x = l ++ (hd 1 (bs nm) ++ i64 bits) := ⟨_, rfl⟩
  change Hid (∀ wx : World, Below W.heap.size W wx → Calls _ _ _ wx (After fun v1 w1 => App (E := 5) wx base dv (l ++ (hd 1 (bs nm) ++ i64 bits)) v1 w1)) at HC
  rw [← hl9] at HC ⊢
  have hB0 : Below W.heap.size W (W.alloc (.cells #[.int .i64 1, .string text, .string more, .int .i64 n, .int .u64 bits, .int .u64 high, .slice A b.length c, .slice K' kids.length dd] 45)) := balloc (Below.refl _ _) (Nat.le_refl _) _
  obtain ⟨xb, hxb⟩ : ∃ x, x = b.length := ⟨_, rfl⟩
  obtain ⟨xk, hxk⟩ : ∃ x, x = kids.length := ⟨_, rfl⟩
  rw [← hxb, ← hxk] at hB0 ⊢
  clear hl9 hdv hs hsW hsep hne R o1 o2 o3 o4 o5 o6 o7 o8 o9 hv0 hE hw hr HO hbl hlen hl hxb hxk hp
  go_enter Tryz.func82, Tryz.ntmps82
  go_wp2_with fail
  refine (HC.out _ hB0).mono ?_
  rintro e w1 ⟨v1, rfl, h⟩
  have HE := Lib.hid (h.pre hB0)
  clear h HC
  go_wp2_with fail
  go_ret
  exact ⟨v1, rfl, HE.out⟩
set_option maxHeartbeats 1600000 in
theorem elK2 (N : Nat) (hE : ElUpto N) (nm : ByteArray) (hp : plainB nm.data.toList = true) (text more : ByteArray) (n bits high : Int) (b : List UInt8) (kids : List (ByteArray × Val)) (cs : List Value) (deep : Int) (w0 W : World) (base : Nat) (dv : Value) (l : List UInt8) (hw : wt (.mk 2 text more n bits high b kids) < N + 1) (hok : okv (.mk 2 text more n bits high b kids)) (hr : right (.mk 2 text more n bits high b kids) deep = true)
    (hlen : (docElemOf nm (.mk 2 text more n bits high b kids)).length ≤ 900000) (hv : RV w0 (.mk 2 text more n bits high b kids) cs) (hbl : Below w0.heap.size w0 W) (hle : w0.heap.size ≤ base) (HO : OB 5 W base dv l) (hbase : base ≤ W.heap.size) (hl : l.length + (docElemOf nm (.mk 2 text more n bits high b kids)).length ≤ 80000000) :
    Calls Tryz.prog 82 #[dv, .string nm, .agg cs.toArray] W (After fun v1 w1 => App (E := 5) W base dv (l ++ docElemOf nm (.mk 2 text more n bits high b kids)) v1 w1) := by
  have hv0 := hv
  simp only [RV] at hv
  obtain ⟨A, c, K', dd, rfl, hs, hd, hd2, hk⟩ := hv
  clear hd hd2 hk
  obtain ⟨o1, o2, o3, o4, o5, o6, o7, o8, o9⟩ := hok
  have R := right_facts hr
  have hsW := hs.keep hbl
  have hsep := sep_old HO hs hle
  have hne : some W.heap.size ≠ dv.ownBlock := fun e => by have := (HO.lt _ e.symm).2; omega

  have hdv : docElemOf nm (.mk 2 text more n bits high b kids) = hd 2 (bs nm) ++ txt (bs text) := by
    have e : docValue (.mk 2 text more n bits high b kids) = txt (bs text) := by simp [docValue]
    show hd 2 (bs nm) ++ docValue (.mk 2 text more n bits high b kids) = _
    rw [e]
  rw [hdv] at hlen hl ⊢
  rw [List.length_append] at hlen hl
  have hs0 : nm.size ≤ 1000000 := by have := hd_len 2 nm; unfold bs at hlen; omega
  have hts : (txt (bs text)).length = 5 + text.size := by simp [txt, i32, bs, size_data]; omega
  have HC := Lib.hid (fun wx (hx : Below W.heap.size W wx) => eStr wx base dv l nm hp hs0 text (by omega) (HO.keep hx) (by have := hx.size; omega) (by omega))
  obtain ⟨l9, hl9⟩ : ∃ x, x = l ++ (hd 2 (bs nm) ++ txt (bs text)) := ⟨_, rfl⟩
  change Hid (∀ wx : World, Below W.heap.size W wx → Calls _ _ _ wx (After fun v1 w1 => App (E := 5) wx base dv (l ++ (hd 2 (bs nm) ++ txt (bs text))) v1 w1)) at HC
  rw [← hl9] at HC ⊢
  have hB0 : Below W.heap.size W (W.alloc (.cells #[.int .i64 2, .string text, .string more, .int .i64 n, .int .u64 bits, .int .u64 high, .slice A b.length c, .slice K' kids.length dd] 45)) := balloc (Below.refl _ _) (Nat.le_refl _) _
  obtain ⟨xb, hxb⟩ : ∃ x, x = b.length := ⟨_, rfl⟩
  obtain ⟨xk, hxk⟩ : ∃ x, x = kids.length := ⟨_, rfl⟩
  rw [← hxb, ← hxk] at hB0 ⊢
  clear hl9 hdv hs hsW hsep hne R o1 o2 o3 o4 o5 o6 o7 o8 o9 hv0 hE hw hr HO hbl hlen hl hxb hxk hp
  go_enter Tryz.func82, Tryz.ntmps82
  go_wp2_with fail
  refine (HC.out _ hB0).mono ?_
  rintro e w1 ⟨v1, rfl, h⟩
  have HE := Lib.hid (h.pre hB0)
  clear h HC
  go_wp2_with fail
  go_ret
  exact ⟨v1, rfl, HE.out⟩
set_option maxHeartbeats 1600000 in
theorem elK5 (N : Nat) (hE : ElUpto N) (nm : ByteArray) (hp : plainB nm.data.toList = true) (text more : ByteArray) (n bits high : Int) (b : List UInt8) (kids : List (ByteArray × Val)) (cs : List Value) (deep : Int) (w0 W : World) (base : Nat) (dv : Value) (l : List UInt8) (hw : wt (.mk 5 text more n bits high b kids) < N + 1) (hok : okv (.mk 5 text more n bits high b kids)) (hr : right (.mk 5 text more n bits high b kids) deep = true)
    (hlen : (docElemOf nm (.mk 5 text more n bits high b kids)).length ≤ 900000) (hv : RV w0 (.mk 5 text more n bits high b kids) cs) (hbl : Below w0.heap.size w0 W) (hle : w0.heap.size ≤ base) (HO : OB 5 W base dv l) (hbase : base ≤ W.heap.size) (hl : l.length + (docElemOf nm (.mk 5 text more n bits high b kids)).length ≤ 80000000) :
    Calls Tryz.prog 82 #[dv, .string nm, .agg cs.toArray] W (After fun v1 w1 => App (E := 5) W base dv (l ++ docElemOf nm (.mk 5 text more n bits high b kids)) v1 w1) := by
  have hv0 := hv
  simp only [RV] at hv
  obtain ⟨A, c, K', dd, rfl, hs, hd, hd2, hk⟩ := hv
  clear hd hd2 hk
  obtain ⟨o1, o2, o3, o4, o5, o6, o7, o8, o9⟩ := hok
  have R := right_facts hr
  have hsW := hs.keep hbl
  have hsep := sep_old HO hs hle
  have hne : some W.heap.size ≠ dv.ownBlock := fun e => by have := (HO.lt _ e.symm).2; omega

  have hdv : docElemOf nm (.mk 5 text more n bits high b kids) = hd 5 (bs nm) ++ binB n b := by
    have e : docValue (.mk 5 text more n bits high b kids) = binB n b := by rw [← binB_eq]; simp [docValue]
    show hd 5 (bs nm) ++ docValue (.mk 5 text more n bits high b kids) = _
    rw [e]
  rw [hdv] at hlen hl ⊢
  rw [List.length_append] at hlen hl
  have hs0 : nm.size ≤ 1000000 := by have := hd_len 5 nm; unfold bs at hlen; omega
  have HC := Lib.hid (fun wx (hx : Below W.heap.size W wx) => eBin wx base dv l nm hp hs0 n (R.r5 rfl).1 (R.r5 rfl).2 A c b (hsW.keep hx) hsep (by unfold binB at hlen; split at hlen <;> simp at hlen <;> omega) (HO.keep hx) (by have := hx.size; omega) (by omega))
  have hw8 : n % 256 = n := by have := R.r5 rfl; omega
  obtain ⟨l9, hl9⟩ : ∃ x, x = l ++ (hd 5 (bs nm) ++ binB n b) := ⟨_, rfl⟩
  change Hid (∀ wx : World, Below W.heap.size W wx → Calls _ _ _ wx (After fun v1 w1 => App (E := 5) wx base dv (l ++ (hd 5 (bs nm) ++ binB n b)) v1 w1)) at HC
  rw [← hl9] at HC ⊢
  have hB0 : Below W.heap.size W (W.alloc (.cells #[.int .i64 5, .string text, .string more, .int .i64 n, .int .u64 bits, .int .u64 high, .slice A b.length c, .slice K' kids.length dd] 45)) := balloc (Below.refl _ _) (Nat.le_refl _) _
  obtain ⟨xb, hxb⟩ : ∃ x, x = b.length := ⟨_, rfl⟩
  obtain ⟨xk, hxk⟩ : ∃ x, x = kids.length := ⟨_, rfl⟩
  rw [← hxb, ← hxk] at hB0 ⊢
  rw [← hxb] at HC
  clear hl9 hdv hs hsW hsep hne R o1 o2 o3 o4 o5 o6 o7 o8 o9 hv0 hE hw hr HO hbl hlen hl hxb hxk hp
  go_enter Tryz.func82, Tryz.ntmps82
  go_wp2_with fail
  refine (HC.out _ hB0).mono ?_
  rintro e w1 ⟨v1, rfl, h⟩
  have HE := Lib.hid (h.pre hB0)
  clear h HC
  go_wp2_with fail
  go_ret
  exact ⟨v1, rfl, HE.out⟩
set_option maxHeartbeats 1600000 in
theorem elK9 (N : Nat) (hE : ElUpto N) (nm : ByteArray) (hp : plainB nm.data.toList = true) (text more : ByteArray) (n bits high : Int) (b : List UInt8) (kids : List (ByteArray × Val)) (cs : List Value) (deep : Int) (w0 W : World) (base : Nat) (dv : Value) (l : List UInt8) (hw : wt (.mk 9 text more n bits high b kids) < N + 1) (hok : okv (.mk 9 text more n bits high b kids)) (hr : right (.mk 9 text more n bits high b kids) deep = true)
    (hlen : (docElemOf nm (.mk 9 text more n bits high b kids)).length ≤ 900000) (hv : RV w0 (.mk 9 text more n bits high b kids) cs) (hbl : Below w0.heap.size w0 W) (hle : w0.heap.size ≤ base) (HO : OB 5 W base dv l) (hbase : base ≤ W.heap.size) (hl : l.length + (docElemOf nm (.mk 9 text more n bits high b kids)).length ≤ 80000000) :
    Calls Tryz.prog 82 #[dv, .string nm, .agg cs.toArray] W (After fun v1 w1 => App (E := 5) W base dv (l ++ docElemOf nm (.mk 9 text more n bits high b kids)) v1 w1) := by
  have hv0 := hv
  simp only [RV] at hv
  obtain ⟨A, c, K', dd, rfl, hs, hd, hd2, hk⟩ := hv
  clear hd hd2 hk
  obtain ⟨o1, o2, o3, o4, o5, o6, o7, o8, o9⟩ := hok
  have R := right_facts hr
  have hsW := hs.keep hbl
  have hsep := sep_old HO hs hle
  have hne : some W.heap.size ≠ dv.ownBlock := fun e => by have := (HO.lt _ e.symm).2; omega

  have hdv : docElemOf nm (.mk 9 text more n bits high b kids) = hd 9 (bs nm) ++ i64 (n % 18446744073709551616) := by
    have e : docValue (.mk 9 text more n bits high b kids) = i64 (n % 18446744073709551616) := by simp [docValue]
    show hd 9 (bs nm) ++ docValue (.mk 9 text more n bits high b kids) = _
    rw [e]
  rw [hdv] at hlen hl ⊢
  rw [List.length_append] at hlen hl
  have hs0 : nm.size ≤ 1000000 := by have := hd_len 9 nm; unfold bs at hlen; omega
  have HC := Lib.hid (fun wx (hx : Below W.heap.size W wx) => eDate wx base dv l nm hp hs0 n o6.1 o6.2 (HO.keep hx) (by have := hx.size; omega) (by omega))
  obtain ⟨l9, hl9⟩ : ∃ x, x = l ++ (hd 9 (bs nm) ++ i64 (n % 18446744073709551616)) := ⟨_, rfl⟩
  change Hid (∀ wx : World, Below W.heap.size W wx → Calls _ _ _ wx (After fun v1 w1 => App (E := 5) wx base dv (l ++ (hd 9 (bs nm) ++ i64 (n % 18446744073709551616))) v1 w1)) at HC
  rw [← hl9] at HC ⊢
  have hB0 : Below W.heap.size W (W.alloc (.cells #[.int .i64 9, .string text, .string more, .int .i64 n, .int .u64 bits, .int .u64 high, .slice A b.length c, .slice K' kids.length dd] 45)) := balloc (Below.refl _ _) (Nat.le_refl _) _
  obtain ⟨xb, hxb⟩ : ∃ x, x = b.length := ⟨_, rfl⟩
  obtain ⟨xk, hxk⟩ : ∃ x, x = kids.length := ⟨_, rfl⟩
  rw [← hxb, ← hxk] at hB0 ⊢
  clear hl9 hdv hs hsW hsep hne R o1 o2 o3 o4 o5 o6 o7 o8 o9 hv0 hE hw hr HO hbl hlen hl hxb hxk hp
  go_enter Tryz.func82, Tryz.ntmps82
  go_wp2_with fail
  refine (HC.out _ hB0).mono ?_
  rintro e w1 ⟨v1, rfl, h⟩
  have HE := Lib.hid (h.pre hB0)
  clear h HC
  go_wp2_with fail
  go_ret
  exact ⟨v1, rfl, HE.out⟩
set_option maxHeartbeats 1600000 in
theorem elK11 (N : Nat) (hE : ElUpto N) (nm : ByteArray) (hp : plainB nm.data.toList = true) (text more : ByteArray) (n bits high : Int) (b : List UInt8) (kids : List (ByteArray × Val)) (cs : List Value) (deep : Int) (w0 W : World) (base : Nat) (dv : Value) (l : List UInt8) (hw : wt (.mk 11 text more n bits high b kids) < N + 1) (hok : okv (.mk 11 text more n bits high b kids)) (hr : right (.mk 11 text more n bits high b kids) deep = true)
    (hlen : (docElemOf nm (.mk 11 text more n bits high b kids)).length ≤ 900000) (hv : RV w0 (.mk 11 text more n bits high b kids) cs) (hbl : Below w0.heap.size w0 W) (hle : w0.heap.size ≤ base) (HO : OB 5 W base dv l) (hbase : base ≤ W.heap.size) (hl : l.length + (docElemOf nm (.mk 11 text more n bits high b kids)).length ≤ 80000000) :
    Calls Tryz.prog 82 #[dv, .string nm, .agg cs.toArray] W (After fun v1 w1 => App (E := 5) W base dv (l ++ docElemOf nm (.mk 11 text more n bits high b kids)) v1 w1) := by
  have hv0 := hv
  simp only [RV] at hv
  obtain ⟨A, c, K', dd, rfl, hs, hd, hd2, hk⟩ := hv
  clear hd hd2 hk
  obtain ⟨o1, o2, o3, o4, o5, o6, o7, o8, o9⟩ := hok
  have R := right_facts hr
  have hsW := hs.keep hbl
  have hsep := sep_old HO hs hle
  have hne : some W.heap.size ≠ dv.ownBlock := fun e => by have := (HO.lt _ e.symm).2; omega

  have hdv : docElemOf nm (.mk 11 text more n bits high b kids) = hd 11 (bs nm) ++ (bs text ++ [0] ++ bs more ++ [0]) := by
    have e : docValue (.mk 11 text more n bits high b kids) = (bs text ++ [0] ++ bs more ++ [0]) := by simp [docValue]
    show hd 11 (bs nm) ++ docValue (.mk 11 text more n bits high b kids) = _
    rw [e]
  rw [hdv] at hlen hl ⊢
  rw [List.length_append] at hlen hl
  have hs0 : nm.size ≤ 1000000 := by have := hd_len 11 nm; unfold bs at hlen; omega
  have hts : (bs text ++ [0] ++ bs more ++ [0]).length = text.size + more.size + 2 := by simp [bs, size_data]; omega
  have HC := Lib.hid (fun wx (hx : Below W.heap.size W wx) => eRegex wx base dv l nm hp hs0 text more (R.r11 rfl).1 (R.r11 rfl).2 (by omega) (by omega) (HO.keep hx) (by have := hx.size; omega) (by omega))
  obtain ⟨l9, hl9⟩ : ∃ x, x = l ++ (hd 11 (bs nm) ++ (bs text ++ [0] ++ bs more ++ [0])) := ⟨_, rfl⟩
  change Hid (∀ wx : World, Below W.heap.size W wx → Calls _ _ _ wx (After fun v1 w1 => App (E := 5) wx base dv (l ++ (hd 11 (bs nm) ++ (bs text ++ [0] ++ bs more ++ [0]))) v1 w1)) at HC
  rw [← hl9] at HC ⊢
  have hB0 : Below W.heap.size W (W.alloc (.cells #[.int .i64 11, .string text, .string more, .int .i64 n, .int .u64 bits, .int .u64 high, .slice A b.length c, .slice K' kids.length dd] 45)) := balloc (Below.refl _ _) (Nat.le_refl _) _
  obtain ⟨xb, hxb⟩ : ∃ x, x = b.length := ⟨_, rfl⟩
  obtain ⟨xk, hxk⟩ : ∃ x, x = kids.length := ⟨_, rfl⟩
  rw [← hxb, ← hxk] at hB0 ⊢
  clear hl9 hdv hs hsW hsep hne R o1 o2 o3 o4 o5 o6 o7 o8 o9 hv0 hE hw hr HO hbl hlen hl hxb hxk hp
  go_enter Tryz.func82, Tryz.ntmps82
  go_wp2_with fail
  refine (HC.out _ hB0).mono ?_
  rintro e w1 ⟨v1, rfl, h⟩
  have HE := Lib.hid (h.pre hB0)
  clear h HC
  go_wp2_with fail
  go_ret
  exact ⟨v1, rfl, HE.out⟩
set_option maxHeartbeats 1600000 in
theorem elK13 (N : Nat) (hE : ElUpto N) (nm : ByteArray) (hp : plainB nm.data.toList = true) (text more : ByteArray) (n bits high : Int) (b : List UInt8) (kids : List (ByteArray × Val)) (cs : List Value) (deep : Int) (w0 W : World) (base : Nat) (dv : Value) (l : List UInt8) (hw : wt (.mk 13 text more n bits high b kids) < N + 1) (hok : okv (.mk 13 text more n bits high b kids)) (hr : right (.mk 13 text more n bits high b kids) deep = true)
    (hlen : (docElemOf nm (.mk 13 text more n bits high b kids)).length ≤ 900000) (hv : RV w0 (.mk 13 text more n bits high b kids) cs) (hbl : Below w0.heap.size w0 W) (hle : w0.heap.size ≤ base) (HO : OB 5 W base dv l) (hbase : base ≤ W.heap.size) (hl : l.length + (docElemOf nm (.mk 13 text more n bits high b kids)).length ≤ 80000000) :
    Calls Tryz.prog 82 #[dv, .string nm, .agg cs.toArray] W (After fun v1 w1 => App (E := 5) W base dv (l ++ docElemOf nm (.mk 13 text more n bits high b kids)) v1 w1) := by
  have hv0 := hv
  simp only [RV] at hv
  obtain ⟨A, c, K', dd, rfl, hs, hd, hd2, hk⟩ := hv
  clear hd hd2 hk
  obtain ⟨o1, o2, o3, o4, o5, o6, o7, o8, o9⟩ := hok
  have R := right_facts hr
  have hsW := hs.keep hbl
  have hsep := sep_old HO hs hle
  have hne : some W.heap.size ≠ dv.ownBlock := fun e => by have := (HO.lt _ e.symm).2; omega

  have hdv : docElemOf nm (.mk 13 text more n bits high b kids) = hd 13 (bs nm) ++ txt (bs text) := by
    have e : docValue (.mk 13 text more n bits high b kids) = txt (bs text) := by simp [docValue]
    show hd 13 (bs nm) ++ docValue (.mk 13 text more n bits high b kids) = _
    rw [e]
  rw [hdv] at hlen hl ⊢
  rw [List.length_append] at hlen hl
  have hs0 : nm.size ≤ 1000000 := by have := hd_len 13 nm; unfold bs at hlen; omega
  have hts : (txt (bs text)).length = 5 + text.size := by simp [txt, i32, bs, size_data]; omega
  have HC := Lib.hid (fun wx (hx : Below W.heap.size W wx) => eJs wx base dv l nm hp hs0 text (by omega) (HO.keep hx) (by have := hx.size; omega) (by omega))
  obtain ⟨l9, hl9⟩ : ∃ x, x = l ++ (hd 13 (bs nm) ++ txt (bs text)) := ⟨_, rfl⟩
  change Hid (∀ wx : World, Below W.heap.size W wx → Calls _ _ _ wx (After fun v1 w1 => App (E := 5) wx base dv (l ++ (hd 13 (bs nm) ++ txt (bs text))) v1 w1)) at HC
  rw [← hl9] at HC ⊢
  have hB0 : Below W.heap.size W (W.alloc (.cells #[.int .i64 13, .string text, .string more, .int .i64 n, .int .u64 bits, .int .u64 high, .slice A b.length c, .slice K' kids.length dd] 45)) := balloc (Below.refl _ _) (Nat.le_refl _) _
  obtain ⟨xb, hxb⟩ : ∃ x, x = b.length := ⟨_, rfl⟩
  obtain ⟨xk, hxk⟩ : ∃ x, x = kids.length := ⟨_, rfl⟩
  rw [← hxb, ← hxk] at hB0 ⊢
  clear hl9 hdv hs hsW hsep hne R o1 o2 o3 o4 o5 o6 o7 o8 o9 hv0 hE hw hr HO hbl hlen hl hxb hxk hp
  go_enter Tryz.func82, Tryz.ntmps82
  go_wp2_with fail
  refine (HC.out _ hB0).mono ?_
  rintro e w1 ⟨v1, rfl, h⟩
  have HE := Lib.hid (h.pre hB0)
  clear h HC
  go_wp2_with fail
  go_ret
  exact ⟨v1, rfl, HE.out⟩
set_option maxHeartbeats 1600000 in
theorem elK14 (N : Nat) (hE : ElUpto N) (nm : ByteArray) (hp : plainB nm.data.toList = true) (text more : ByteArray) (n bits high : Int) (b : List UInt8) (kids : List (ByteArray × Val)) (cs : List Value) (deep : Int) (w0 W : World) (base : Nat) (dv : Value) (l : List UInt8) (hw : wt (.mk 14 text more n bits high b kids) < N + 1) (hok : okv (.mk 14 text more n bits high b kids)) (hr : right (.mk 14 text more n bits high b kids) deep = true)
    (hlen : (docElemOf nm (.mk 14 text more n bits high b kids)).length ≤ 900000) (hv : RV w0 (.mk 14 text more n bits high b kids) cs) (hbl : Below w0.heap.size w0 W) (hle : w0.heap.size ≤ base) (HO : OB 5 W base dv l) (hbase : base ≤ W.heap.size) (hl : l.length + (docElemOf nm (.mk 14 text more n bits high b kids)).length ≤ 80000000) :
    Calls Tryz.prog 82 #[dv, .string nm, .agg cs.toArray] W (After fun v1 w1 => App (E := 5) W base dv (l ++ docElemOf nm (.mk 14 text more n bits high b kids)) v1 w1) := by
  have hv0 := hv
  simp only [RV] at hv
  obtain ⟨A, c, K', dd, rfl, hs, hd, hd2, hk⟩ := hv
  clear hd hd2 hk
  obtain ⟨o1, o2, o3, o4, o5, o6, o7, o8, o9⟩ := hok
  have R := right_facts hr
  have hsW := hs.keep hbl
  have hsep := sep_old HO hs hle
  have hne : some W.heap.size ≠ dv.ownBlock := fun e => by have := (HO.lt _ e.symm).2; omega

  have hdv : docElemOf nm (.mk 14 text more n bits high b kids) = hd 14 (bs nm) ++ txt (bs text) := by
    have e : docValue (.mk 14 text more n bits high b kids) = txt (bs text) := by simp [docValue]
    show hd 14 (bs nm) ++ docValue (.mk 14 text more n bits high b kids) = _
    rw [e]
  rw [hdv] at hlen hl ⊢
  rw [List.length_append] at hlen hl
  have hs0 : nm.size ≤ 1000000 := by have := hd_len 14 nm; unfold bs at hlen; omega
  have hts : (txt (bs text)).length = 5 + text.size := by simp [txt, i32, bs, size_data]; omega
  have HC := Lib.hid (fun wx (hx : Below W.heap.size W wx) => eSym wx base dv l nm hp hs0 text (by omega) (HO.keep hx) (by have := hx.size; omega) (by omega))
  obtain ⟨l9, hl9⟩ : ∃ x, x = l ++ (hd 14 (bs nm) ++ txt (bs text)) := ⟨_, rfl⟩
  change Hid (∀ wx : World, Below W.heap.size W wx → Calls _ _ _ wx (After fun v1 w1 => App (E := 5) wx base dv (l ++ (hd 14 (bs nm) ++ txt (bs text))) v1 w1)) at HC
  rw [← hl9] at HC ⊢
  have hB0 : Below W.heap.size W (W.alloc (.cells #[.int .i64 14, .string text, .string more, .int .i64 n, .int .u64 bits, .int .u64 high, .slice A b.length c, .slice K' kids.length dd] 45)) := balloc (Below.refl _ _) (Nat.le_refl _) _
  obtain ⟨xb, hxb⟩ : ∃ x, x = b.length := ⟨_, rfl⟩
  obtain ⟨xk, hxk⟩ : ∃ x, x = kids.length := ⟨_, rfl⟩
  rw [← hxb, ← hxk] at hB0 ⊢
  clear hl9 hdv hs hsW hsep hne R o1 o2 o3 o4 o5 o6 o7 o8 o9 hv0 hE hw hr HO hbl hlen hl hxb hxk hp
  go_enter Tryz.func82, Tryz.ntmps82
  go_wp2_with fail
  refine (HC.out _ hB0).mono ?_
  rintro e w1 ⟨v1, rfl, h⟩
  have HE := Lib.hid (h.pre hB0)
  clear h HC
  go_wp2_with fail
  go_ret
  exact ⟨v1, rfl, HE.out⟩
set_option maxHeartbeats 1600000 in
theorem elK16 (N : Nat) (hE : ElUpto N) (nm : ByteArray) (hp : plainB nm.data.toList = true) (text more : ByteArray) (n bits high : Int) (b : List UInt8) (kids : List (ByteArray × Val)) (cs : List Value) (deep : Int) (w0 W : World) (base : Nat) (dv : Value) (l : List UInt8) (hw : wt (.mk 16 text more n bits high b kids) < N + 1) (hok : okv (.mk 16 text more n bits high b kids)) (hr : right (.mk 16 text more n bits high b kids) deep = true)
    (hlen : (docElemOf nm (.mk 16 text more n bits high b kids)).length ≤ 900000) (hv : RV w0 (.mk 16 text more n bits high b kids) cs) (hbl : Below w0.heap.size w0 W) (hle : w0.heap.size ≤ base) (HO : OB 5 W base dv l) (hbase : base ≤ W.heap.size) (hl : l.length + (docElemOf nm (.mk 16 text more n bits high b kids)).length ≤ 80000000) :
    Calls Tryz.prog 82 #[dv, .string nm, .agg cs.toArray] W (After fun v1 w1 => App (E := 5) W base dv (l ++ docElemOf nm (.mk 16 text more n bits high b kids)) v1 w1) := by
  have hv0 := hv
  simp only [RV] at hv
  obtain ⟨A, c, K', dd, rfl, hs, hd, hd2, hk⟩ := hv
  clear hd hd2 hk
  obtain ⟨o1, o2, o3, o4, o5, o6, o7, o8, o9⟩ := hok
  have R := right_facts hr
  have hsW := hs.keep hbl
  have hsep := sep_old HO hs hle
  have hne : some W.heap.size ≠ dv.ownBlock := fun e => by have := (HO.lt _ e.symm).2; omega

  have hdv : docElemOf nm (.mk 16 text more n bits high b kids) = hd 16 (bs nm) ++ i32 n := by
    have e : docValue (.mk 16 text more n bits high b kids) = i32 n := by simp [docValue]
    show hd 16 (bs nm) ++ docValue (.mk 16 text more n bits high b kids) = _
    rw [e]
  rw [hdv] at hlen hl ⊢
  rw [List.length_append] at hlen hl
  have hs0 : nm.size ≤ 1000000 := by have := hd_len 16 nm; unfold bs at hlen; omega
  have HC := Lib.hid (fun wx (hx : Below W.heap.size W wx) => eI32 wx base dv l nm hp hs0 n (R.r16 rfl).1 (by have := R.r16 rfl; omega) (HO.keep hx) (by have := hx.size; omega) (by omega))
  have hw32 : wrap32 n = n := w32Q (R.r16 rfl).1 (R.r16 rfl).2
  obtain ⟨l9, hl9⟩ : ∃ x, x = l ++ (hd 16 (bs nm) ++ i32 n) := ⟨_, rfl⟩
  change Hid (∀ wx : World, Below W.heap.size W wx → Calls _ _ _ wx (After fun v1 w1 => App (E := 5) wx base dv (l ++ (hd 16 (bs nm) ++ i32 n)) v1 w1)) at HC
  rw [← hl9] at HC ⊢
  have hB0 : Below W.heap.size W (W.alloc (.cells #[.int .i64 16, .string text, .string more, .int .i64 n, .int .u64 bits, .int .u64 high, .slice A b.length c, .slice K' kids.length dd] 45)) := balloc (Below.refl _ _) (Nat.le_refl _) _
  obtain ⟨xb, hxb⟩ : ∃ x, x = b.length := ⟨_, rfl⟩
  obtain ⟨xk, hxk⟩ : ∃ x, x = kids.length := ⟨_, rfl⟩
  rw [← hxb, ← hxk] at hB0 ⊢
  clear hl9 hdv hs hsW hsep hne R o1 o2 o3 o4 o5 o6 o7 o8 o9 hv0 hE hw hr HO hbl hlen hl hxb hxk hp
  go_enter Tryz.func82, Tryz.ntmps82
  go_wp2_with fail
  refine (HC.out _ hB0).mono ?_
  rintro e w1 ⟨v1, rfl, h⟩
  have HE := Lib.hid (h.pre hB0)
  clear h HC
  go_wp2_with fail
  go_ret
  exact ⟨v1, rfl, HE.out⟩
set_option maxHeartbeats 1600000 in
theorem elK17 (N : Nat) (hE : ElUpto N) (nm : ByteArray) (hp : plainB nm.data.toList = true) (text more : ByteArray) (n bits high : Int) (b : List UInt8) (kids : List (ByteArray × Val)) (cs : List Value) (deep : Int) (w0 W : World) (base : Nat) (dv : Value) (l : List UInt8) (hw : wt (.mk 17 text more n bits high b kids) < N + 1) (hok : okv (.mk 17 text more n bits high b kids)) (hr : right (.mk 17 text more n bits high b kids) deep = true)
    (hlen : (docElemOf nm (.mk 17 text more n bits high b kids)).length ≤ 900000) (hv : RV w0 (.mk 17 text more n bits high b kids) cs) (hbl : Below w0.heap.size w0 W) (hle : w0.heap.size ≤ base) (HO : OB 5 W base dv l) (hbase : base ≤ W.heap.size) (hl : l.length + (docElemOf nm (.mk 17 text more n bits high b kids)).length ≤ 80000000) :
    Calls Tryz.prog 82 #[dv, .string nm, .agg cs.toArray] W (After fun v1 w1 => App (E := 5) W base dv (l ++ docElemOf nm (.mk 17 text more n bits high b kids)) v1 w1) := by
  have hv0 := hv
  simp only [RV] at hv
  obtain ⟨A, c, K', dd, rfl, hs, hd, hd2, hk⟩ := hv
  clear hd hd2 hk
  obtain ⟨o1, o2, o3, o4, o5, o6, o7, o8, o9⟩ := hok
  have R := right_facts hr
  have hsW := hs.keep hbl
  have hsep := sep_old HO hs hle
  have hne : some W.heap.size ≠ dv.ownBlock := fun e => by have := (HO.lt _ e.symm).2; omega

  have hdv : docElemOf nm (.mk 17 text more n bits high b kids) = hd 17 (bs nm) ++ (i32 (bits % 4294967296) ++ i32 (bits / 4294967296)) := by
    have e : docValue (.mk 17 text more n bits high b kids) = (i32 (bits % 4294967296) ++ i32 (bits / 4294967296)) := by rw [← time_eq bits o7.1 o7.2]; simp [docValue]
    show hd 17 (bs nm) ++ docValue (.mk 17 text more n bits high b kids) = _
    rw [e]
  rw [hdv] at hlen hl ⊢
  rw [List.length_append] at hlen hl
  have hs0 : nm.size ≤ 1000000 := by have := hd_len 17 nm; unfold bs at hlen; omega
  have HC := Lib.hid (fun wx (hx : Below W.heap.size W wx) => eTime wx base dv l nm hp hs0 (bits / 4294967296) (bits % 4294967296) (by omega) (by omega) (by omega) (by omega) (HO.keep hx) (by have := hx.size; omega) (by omega))
  have hwt : bits / 4294967296 % 4294967296 = bits / 4294967296 := tmod o7.1 o7.2
  obtain ⟨l9, hl9⟩ : ∃ x, x = l ++ (hd 17 (bs nm) ++ (i32 (bits % 4294967296) ++ i32 (bits / 4294967296))) := ⟨_, rfl⟩
  change Hid (∀ wx : World, Below W.heap.size W wx → Calls _ _ _ wx (After fun v1 w1 => App (E := 5) wx base dv (l ++ (hd 17 (bs nm) ++ (i32 (bits % 4294967296) ++ i32 (bits / 4294967296)))) v1 w1)) at HC
  rw [← hl9] at HC ⊢
  have hB0 : Below W.heap.size W (W.alloc (.cells #[.int .i64 17, .string text, .string more, .int .i64 n, .int .u64 bits, .int .u64 high, .slice A b.length c, .slice K' kids.length dd] 45)) := balloc (Below.refl _ _) (Nat.le_refl _) _
  obtain ⟨xb, hxb⟩ : ∃ x, x = b.length := ⟨_, rfl⟩
  obtain ⟨xk, hxk⟩ : ∃ x, x = kids.length := ⟨_, rfl⟩
  rw [← hxb, ← hxk] at hB0 ⊢
  clear hl9 hdv hs hsW hsep hne R o1 o2 o3 o4 o5 o6 o7 o8 o9 hv0 hE hw hr HO hbl hlen hl hxb hxk hp
  go_enter Tryz.func82, Tryz.ntmps82
  go_wp2_with fail
  refine (HC.out _ hB0).mono ?_
  rintro e w1 ⟨v1, rfl, h⟩
  have HE := Lib.hid (h.pre hB0)
  clear h HC
  go_wp2_with fail
  go_ret
  exact ⟨v1, rfl, HE.out⟩
set_option maxHeartbeats 1600000 in
theorem elK18 (N : Nat) (hE : ElUpto N) (nm : ByteArray) (hp : plainB nm.data.toList = true) (text more : ByteArray) (n bits high : Int) (b : List UInt8) (kids : List (ByteArray × Val)) (cs : List Value) (deep : Int) (w0 W : World) (base : Nat) (dv : Value) (l : List UInt8) (hw : wt (.mk 18 text more n bits high b kids) < N + 1) (hok : okv (.mk 18 text more n bits high b kids)) (hr : right (.mk 18 text more n bits high b kids) deep = true)
    (hlen : (docElemOf nm (.mk 18 text more n bits high b kids)).length ≤ 900000) (hv : RV w0 (.mk 18 text more n bits high b kids) cs) (hbl : Below w0.heap.size w0 W) (hle : w0.heap.size ≤ base) (HO : OB 5 W base dv l) (hbase : base ≤ W.heap.size) (hl : l.length + (docElemOf nm (.mk 18 text more n bits high b kids)).length ≤ 80000000) :
    Calls Tryz.prog 82 #[dv, .string nm, .agg cs.toArray] W (After fun v1 w1 => App (E := 5) W base dv (l ++ docElemOf nm (.mk 18 text more n bits high b kids)) v1 w1) := by
  have hv0 := hv
  simp only [RV] at hv
  obtain ⟨A, c, K', dd, rfl, hs, hd, hd2, hk⟩ := hv
  clear hd hd2 hk
  obtain ⟨o1, o2, o3, o4, o5, o6, o7, o8, o9⟩ := hok
  have R := right_facts hr
  have hsW := hs.keep hbl
  have hsep := sep_old HO hs hle
  have hne : some W.heap.size ≠ dv.ownBlock := fun e => by have := (HO.lt _ e.symm).2; omega

  have hdv : docElemOf nm (.mk 18 text more n bits high b kids) = hd 18 (bs nm) ++ i64 (n % 18446744073709551616) := by
    have e : docValue (.mk 18 text more n bits high b kids) = i64 (n % 18446744073709551616) := by simp [docValue]
    show hd 18 (bs nm) ++ docValue (.mk 18 text more n bits high b kids) = _
    rw [e]
  rw [hdv] at hlen hl ⊢
  rw [List.length_append] at hlen hl
  have hs0 : nm.size ≤ 1000000 := by have := hd_len 18 nm; unfold bs at hlen; omega
  have HC := Lib.hid (fun wx (hx : Below W.heap.size W wx) => eI64 wx base dv l nm hp hs0 n o6.1 o6.2 (HO.keep hx) (by have := hx.size; omega) (by omega))
  obtain ⟨l9, hl9⟩ : ∃ x, x = l ++ (hd 18 (bs nm) ++ i64 (n % 18446744073709551616)) := ⟨_, rfl⟩
  change Hid (∀ wx : World, Below W.heap.size W wx → Calls _ _ _ wx (After fun v1 w1 => App (E := 5) wx base dv (l ++ (hd 18 (bs nm) ++ i64 (n % 18446744073709551616))) v1 w1)) at HC
  rw [← hl9] at HC ⊢
  have hB0 : Below W.heap.size W (W.alloc (.cells #[.int .i64 18, .string text, .string more, .int .i64 n, .int .u64 bits, .int .u64 high, .slice A b.length c, .slice K' kids.length dd] 45)) := balloc (Below.refl _ _) (Nat.le_refl _) _
  obtain ⟨xb, hxb⟩ : ∃ x, x = b.length := ⟨_, rfl⟩
  obtain ⟨xk, hxk⟩ : ∃ x, x = kids.length := ⟨_, rfl⟩
  rw [← hxb, ← hxk] at hB0 ⊢
  clear hl9 hdv hs hsW hsep hne R o1 o2 o3 o4 o5 o6 o7 o8 o9 hv0 hE hw hr HO hbl hlen hl hxb hxk hp
  go_enter Tryz.func82, Tryz.ntmps82
  go_wp2_with fail
  refine (HC.out _ hB0).mono ?_
  rintro e w1 ⟨v1, rfl, h⟩
  have HE := Lib.hid (h.pre hB0)
  clear h HC
  go_wp2_with fail
  go_ret
  exact ⟨v1, rfl, HE.out⟩
set_option maxHeartbeats 1600000 in
theorem elK19 (N : Nat) (hE : ElUpto N) (nm : ByteArray) (hp : plainB nm.data.toList = true) (text more : ByteArray) (n bits high : Int) (b : List UInt8) (kids : List (ByteArray × Val)) (cs : List Value) (deep : Int) (w0 W : World) (base : Nat) (dv : Value) (l : List UInt8) (hw : wt (.mk 19 text more n bits high b kids) < N + 1) (hok : okv (.mk 19 text more n bits high b kids)) (hr : right (.mk 19 text more n bits high b kids) deep = true)
    (hlen : (docElemOf nm (.mk 19 text more n bits high b kids)).length ≤ 900000) (hv : RV w0 (.mk 19 text more n bits high b kids) cs) (hbl : Below w0.heap.size w0 W) (hle : w0.heap.size ≤ base) (HO : OB 5 W base dv l) (hbase : base ≤ W.heap.size) (hl : l.length + (docElemOf nm (.mk 19 text more n bits high b kids)).length ≤ 80000000) :
    Calls Tryz.prog 82 #[dv, .string nm, .agg cs.toArray] W (After fun v1 w1 => App (E := 5) W base dv (l ++ docElemOf nm (.mk 19 text more n bits high b kids)) v1 w1) := by
  have hv0 := hv
  simp only [RV] at hv
  obtain ⟨A, c, K', dd, rfl, hs, hd, hd2, hk⟩ := hv
  clear hd hd2 hk
  obtain ⟨o1, o2, o3, o4, o5, o6, o7, o8, o9⟩ := hok
  have R := right_facts hr
  have hsW := hs.keep hbl
  have hsep := sep_old HO hs hle
  have hne : some W.heap.size ≠ dv.ownBlock := fun e => by have := (HO.lt _ e.symm).2; omega

  have hdv : docElemOf nm (.mk 19 text more n bits high b kids) = hd 19 (bs nm) ++ (i64 bits ++ i64 high) := by
    have e : docValue (.mk 19 text more n bits high b kids) = (i64 bits ++ i64 high) := by simp [docValue]
    show hd 19 (bs nm) ++ docValue (.mk 19 text more n bits high b kids) = _
    rw [e]
  rw [hdv] at hlen hl ⊢
  rw [List.length_append] at hlen hl
  have hs0 : nm.size ≤ 1000000 := by have := hd_len 19 nm; unfold bs at hlen; omega
  have HC := Lib.hid (fun wx (hx : Below W.heap.size W wx) => eDec wx base dv l nm hp hs0 high bits o8.1 o8.2 o7.1 o7.2 (HO.keep hx) (by have := hx.size; omega) (by omega))
  obtain ⟨l9, hl9⟩ : ∃ x, x = l ++ (hd 19 (bs nm) ++ (i64 bits ++ i64 high)) := ⟨_, rfl⟩
  change Hid (∀ wx : World, Below W.heap.size W wx → Calls _ _ _ wx (After fun v1 w1 => App (E := 5) wx base dv (l ++ (hd 19 (bs nm) ++ (i64 bits ++ i64 high))) v1 w1)) at HC
  rw [← hl9] at HC ⊢
  have hB0 : Below W.heap.size W (W.alloc (.cells #[.int .i64 19, .string text, .string more, .int .i64 n, .int .u64 bits, .int .u64 high, .slice A b.length c, .slice K' kids.length dd] 45)) := balloc (Below.refl _ _) (Nat.le_refl _) _
  obtain ⟨xb, hxb⟩ : ∃ x, x = b.length := ⟨_, rfl⟩
  obtain ⟨xk, hxk⟩ : ∃ x, x = kids.length := ⟨_, rfl⟩
  rw [← hxb, ← hxk] at hB0 ⊢
  clear hl9 hdv hs hsW hsep hne R o1 o2 o3 o4 o5 o6 o7 o8 o9 hv0 hE hw hr HO hbl hlen hl hxb hxk hp
  go_enter Tryz.func82, Tryz.ntmps82
  go_wp2_with fail
  refine (HC.out _ hB0).mono ?_
  rintro e w1 ⟨v1, rfl, h⟩
  have HE := Lib.hid (h.pre hB0)
  clear h HC
  go_wp2_with fail
  go_ret
  exact ⟨v1, rfl, HE.out⟩
set_option maxHeartbeats 1600000 in
theorem elK8 (N : Nat) (hE : ElUpto N) (nm : ByteArray) (hp : plainB nm.data.toList = true) (text more : ByteArray) (n bits high : Int) (b : List UInt8) (kids : List (ByteArray × Val)) (cs : List Value) (deep : Int) (w0 W : World) (base : Nat) (dv : Value) (l : List UInt8) (hw : wt (.mk 8 text more n bits high b kids) < N + 1) (hok : okv (.mk 8 text more n bits high b kids)) (hr : right (.mk 8 text more n bits high b kids) deep = true)
    (hlen : (docElemOf nm (.mk 8 text more n bits high b kids)).length ≤ 900000) (hv : RV w0 (.mk 8 text more n bits high b kids) cs) (hbl : Below w0.heap.size w0 W) (hle : w0.heap.size ≤ base) (HO : OB 5 W base dv l) (hbase : base ≤ W.heap.size) (hl : l.length + (docElemOf nm (.mk 8 text more n bits high b kids)).length ≤ 80000000) :
    Calls Tryz.prog 82 #[dv, .string nm, .agg cs.toArray] W (After fun v1 w1 => App (E := 5) W base dv (l ++ docElemOf nm (.mk 8 text more n bits high b kids)) v1 w1) := by
  have hv0 := hv
  simp only [RV] at hv
  obtain ⟨A, c, K', dd, rfl, hs, hd, hd2, hk⟩ := hv
  clear hd hd2 hk
  obtain ⟨o1, o2, o3, o4, o5, o6, o7, o8, o9⟩ := hok
  have R := right_facts hr
  have hsW := hs.keep hbl
  have hsep := sep_old HO hs hle
  have hne : some W.heap.size ≠ dv.ownBlock := fun e => by have := (HO.lt _ e.symm).2; omega

  have hdv : docElemOf nm (.mk 8 text more n bits high b kids) = hd 8 (bs nm) ++ [ub n] := by
    have e : docValue (.mk 8 text more n bits high b kids) = [ub n] := by simp [docValue]
    show hd 8 (bs nm) ++ docValue (.mk 8 text more n bits high b kids) = _
    rw [e]
  rw [hdv] at hlen hl ⊢
  rw [List.length_append] at hlen hl
  have hs0 : nm.size ≤ 1000000 := by have := hd_len 8 nm; unfold bs at hlen; omega
  have hn01 := R.r8 rfl
  have HC := Lib.hid (fun (z : Bool) wx (hx : Below W.heap.size W wx) => eBool wx base dv l nm hp hs0 z (HO.keep hx) (by have := hx.size; omega) (by omega))
  have hB0 : Below W.heap.size W (W.alloc (.cells #[.int .i64 8, .string text, .string more, .int .i64 n, .int .u64 bits, .int .u64 high, .slice A b.length c, .slice K' kids.length dd] 45)) := balloc (Below.refl _ _) (Nat.le_refl _) _
  obtain ⟨xb, hxb⟩ : ∃ x, x = b.length := ⟨_, rfl⟩
  obtain ⟨xk, hxk⟩ : ∃ x, x = kids.length := ⟨_, rfl⟩
  rw [← hxb, ← hxk] at hB0 ⊢
  clear hdv hs hsW hsep hne R o1 o2 o3 o4 o5 o6 o7 o8 o9 hv0 hE hw hr HO hbl hlen hl hxb hxk hp
  rcases hn01 with rfl | rfl
  · go_enter Tryz.func82, Tryz.ntmps82
    go_wp2_with fail
    refine (HC.out false _ hB0).mono ?_
    rintro e w1 ⟨v1, rfl, h⟩
    have HE := Lib.hid (h.pre hB0)
    clear h HC
    go_wp2_with fail
    go_ret
    exact ⟨v1, rfl, HE.out⟩
  · go_enter Tryz.func82, Tryz.ntmps82
    go_wp2_with fail
    refine (HC.out true _ hB0).mono ?_
    rintro e w1 ⟨v1, rfl, h⟩
    have HE := Lib.hid (h.pre hB0)
    clear h HC
    go_wp2_with fail
    go_ret
    exact ⟨v1, rfl, HE.out⟩
theorem sep_newer {W : World} {base : Nat} {v : Value} {l m : List UInt8} {A : Option Addr} (HO : OB 5 W base v l) (h : ∀ a, A = some a → W.heap.size ≤ a.block) : Sep v A m := fun _ a ha e => by
  have h1 := (HO.lt _ e).2
  have h2 := h a ha
  omega
set_option maxHeartbeats 1600000 in
theorem appK7 (N : Nat) (hE : ElUpto N) (text more : ByteArray) (n bits high : Int) (b : List UInt8) (kids : List (ByteArray × Val)) (cs : List Value) (deep : Int) (w0 W : World) (base : Nat) (dv : Value) (l : List UInt8) (hw : wt (.mk 7 text more n bits high b kids) < N + 1) (hok : okv (.mk 7 text more n bits high b kids)) (hr : right (.mk 7 text more n bits high b kids) deep = true)
    (hlen : (docValue (.mk 7 text more n bits high b kids)).length ≤ 900000) (hv : RV w0 (.mk 7 text more n bits high b kids) cs) (hbl : Below w0.heap.size w0 W) (hle : w0.heap.size ≤ base) (HO : OB 5 W base dv l) (hbase : base ≤ W.heap.size) (hl : l.length + (docValue (.mk 7 text more n bits high b kids)).length ≤ 80000000) :
    Calls Tryz.prog 37 #[dv, .agg cs.toArray] W (After fun v1 w1 => App (E := 5) W base dv (l ++ docValue (.mk 7 text more n bits high b kids)) v1 w1) := by
  have hv0 := hv
  simp only [RV] at hv
  obtain ⟨A, c, K', dd, rfl, hs, hd, hd2, hk⟩ := hv
  clear hd hd2 hk
  obtain ⟨o1, o2, o3, o4, o5, o6, o7, o8, o9⟩ := hok
  have R := right_facts hr
  have hsW := hs.keep hbl
  have hsep := sep_old HO hs hle
  have hne : some W.heap.size ≠ dv.ownBlock := fun e => by have := (HO.lt _ e.symm).2; omega

  have hdv : docValue (.mk 7 text more n bits high b kids) = b := by simp [docValue]
  rw [hdv] at hlen hl ⊢
  have h12 := R.r7 (.inl rfl)
  have HI := Lib.hid (fun wx (hx : Below W.heap.size W wx) => implId A c b wx (hsW.keep hx) h12)
  have HC : Hid (∀ wx : World, Below W.heap.size W wx → Calls Tryz.prog 86 #[dv, oid12 b] wx (After fun v1 w1 => App (E := 5) wx base dv (l ++ b) v1 w1)) := Lib.hid (fun wx (hx : Below W.heap.size W wx) => appOid wx base dv l b h12 (HO.keep hx) (by have := hx.size; omega) (by omega))
  obtain ⟨l9, hl9⟩ : ∃ x, x = l ++ b := ⟨_, rfl⟩
  rw [← hl9] at HC ⊢
  clear hl9
  obtain ⟨ov, hov⟩ : ∃ x, x = oid12 b := ⟨_, rfl⟩
  rw [← hov] at HI HC
  have hB0 : Below W.heap.size W (W.alloc (.cells #[.int .i64 7, .string text, .string more, .int .i64 n, .int .u64 bits, .int .u64 high, .slice A b.length c, .slice K' kids.length dd] 45)) := balloc (Below.refl _ _) (Nat.le_refl _) _
  obtain ⟨xb, hxb⟩ : ∃ x, x = b.length := ⟨_, rfl⟩
  obtain ⟨xk, hxk⟩ : ∃ x, x = kids.length := ⟨_, rfl⟩
  rw [← hxb, ← hxk] at hB0 ⊢
  rw [← hxb] at HI
  clear hdv hs hsW hsep hne R o1 o2 o3 o4 o5 o6 o7 o8 o9 hv0 hE hw hr HO hbl hlen hl hxb hxk h12 hov
  go_enter Tryz.func37, Tryz.ntmps37
  go_wp2_with fail
  refine (HI.out _ hB0).mono ?_
  rintro e w1 ⟨rfl, hb1⟩
  have HB1 := Lib.hid (bthen' hB0 hb1)
  clear hb1 HI
  go_wp2_with fail
  refine (HC.out _ HB1.out).mono ?_
  rintro e w9 ⟨v9, rfl, h⟩
  have HE := Lib.hid (h.pre HB1.out)
  clear h HC
  go_wp2_with fail
  go_ret
  exact ⟨v9, rfl, HE.out⟩
set_option maxHeartbeats 1600000 in
theorem appK12 (N : Nat) (hE : ElUpto N) (text more : ByteArray) (n bits high : Int) (b : List UInt8) (kids : List (ByteArray × Val)) (cs : List Value) (deep : Int) (w0 W : World) (base : Nat) (dv : Value) (l : List UInt8) (hw : wt (.mk 12 text more n bits high b kids) < N + 1) (hok : okv (.mk 12 text more n bits high b kids)) (hr : right (.mk 12 text more n bits high b kids) deep = true)
    (hlen : (docValue (.mk 12 text more n bits high b kids)).length ≤ 900000) (hv : RV w0 (.mk 12 text more n bits high b kids) cs) (hbl : Below w0.heap.size w0 W) (hle : w0.heap.size ≤ base) (HO : OB 5 W base dv l) (hbase : base ≤ W.heap.size) (hl : l.length + (docValue (.mk 12 text more n bits high b kids)).length ≤ 80000000) :
    Calls Tryz.prog 37 #[dv, .agg cs.toArray] W (After fun v1 w1 => App (E := 5) W base dv (l ++ docValue (.mk 12 text more n bits high b kids)) v1 w1) := by
  have hv0 := hv
  simp only [RV] at hv
  obtain ⟨A, c, K', dd, rfl, hs, hd, hd2, hk⟩ := hv
  clear hd hd2 hk
  obtain ⟨o1, o2, o3, o4, o5, o6, o7, o8, o9⟩ := hok
  have R := right_facts hr
  have hsW := hs.keep hbl
  have hsep := sep_old HO hs hle
  have hne : some W.heap.size ≠ dv.ownBlock := fun e => by have := (HO.lt _ e.symm).2; omega

  have hdv : docValue (.mk 12 text more n bits high b kids) = (txt (bs text) ++ b) := by simp [docValue]
  rw [hdv] at hlen hl ⊢
  have hts : (txt (bs text)).length = 5 + text.size := by simp [txt, i32, bs, size_data]; omega
  have h12 := R.r7 (.inr rfl)
  have htl : (txt (bs text) ++ b).length = 5 + text.size + b.length := by rw [List.length_append, hts]
  have HI := Lib.hid (fun wx (hx : Below W.heap.size W wx) => implId A c b wx (hsW.keep hx) h12)
  have HC : Hid (∀ wx : World, Below W.heap.size W wx → Calls Tryz.prog 91 #[dv, .string text, oid12 b] wx (After fun v1 w1 => App (E := 5) wx base dv (l ++ (txt (bs text) ++ b)) v1 w1)) := Lib.hid (fun wx (hx : Below W.heap.size W wx) => appDbp wx base dv l text (by omega) b h12 (HO.keep hx) (by have := hx.size; omega) (by omega))
  obtain ⟨l9, hl9⟩ : ∃ x, x = l ++ (txt (bs text) ++ b) := ⟨_, rfl⟩
  rw [← hl9] at HC ⊢
  clear hl9
  obtain ⟨ov, hov⟩ : ∃ x, x = oid12 b := ⟨_, rfl⟩
  rw [← hov] at HI HC
  have hB0 : Below W.heap.size W (W.alloc (.cells #[.int .i64 12, .string text, .string more, .int .i64 n, .int .u64 bits, .int .u64 high, .slice A b.length c, .slice K' kids.length dd] 45)) := balloc (Below.refl _ _) (Nat.le_refl _) _
  obtain ⟨xb, hxb⟩ : ∃ x, x = b.length := ⟨_, rfl⟩
  obtain ⟨xk, hxk⟩ : ∃ x, x = kids.length := ⟨_, rfl⟩
  rw [← hxb, ← hxk] at hB0 ⊢
  rw [← hxb] at HI
  clear hdv hs hsW hsep hne R o1 o2 o3 o4 o5 o6 o7 o8 o9 hv0 hE hw hr HO hbl hlen hl hxb hxk h12 hov hts htl
  go_enter Tryz.func37, Tryz.ntmps37
  go_wp2_with fail
  refine start_ (n := 8) (S := fun w' => w'.cell? ⟨W.heap.size, 1, none⟩ = some (.string text) ∧ w'.cell? ⟨W.heap.size, 6, none⟩ = some (.slice A xb c)) (ds := [6]) #[false, false, false, false, false, false, false, false] (by kernel_rfl) rfl rfl ⟨(by go_simp), (by go_simp)⟩ (fun hHeld => ?_)
  refine with_tabW R37.tab35 R37.bits35 (fun HT_ HW_ => ?_)
  refine pure_ (i := 0) (N := some 123) (v := ?_) (a' := ?_) #[true, false, false, false, false, false, false, false] rfl rfl (any_of HT_.out (by kernel_rfl)) (fun _ _ _ h => h) (Or.inl ⟨by rfl, ?_⟩) ?_ ?_
  rotate_left
  · intro w'
    go_simp
    with_reducible rfl
  rotate_left
  · simp only [Act.put, List.setIfInBounds_toArray, List.set_cons_zero, List.set_cons_succ, i64_w, i32_w]
    rfl
  refine pure_ (i := 1) (N := some 124) (v := ?_) (a' := ?_) #[true, true, false, false, false, false, false, false] rfl rfl (any_of HT_.out (by kernel_rfl)) (fun _ _ _ h => h) (Or.inl ⟨by rfl, ?_⟩) ?_ ?_
  rotate_left
  · intro w'
    go_simp
    with_reducible rfl
  rotate_left
  · simp only [Act.put, List.setIfInBounds_toArray, List.set_cons_zero, List.set_cons_succ, i64_w, i32_w]
    rfl
  refine pure_ (i := 3) (N := some 126) (v := ?_) (a' := ?_) #[true, true, false, true, false, false, false, false] rfl rfl (any_of HT_.out (by kernel_rfl)) (fun _ _ _ h => h) (Or.inl ⟨by rfl, ?_⟩) ?_ ?_
  rotate_left
  · intro w'
    go_simp
    with_reducible rfl
  rotate_left
  · simp only [Act.put, List.setIfInBounds_toArray, List.set_cons_zero, List.set_cons_succ, i64_w, i32_w]
    rfl
  refine take_ (i := 2) (N := some 125) (v := ?_) (a' := ?_) #[true, true, true, true, false, false, false, false] rfl rfl (take_ofW HT_.out HW_.out (by kernel_rfl)) (fun _ _ _ h => h) (Or.inl ⟨by rfl, ?_⟩) hHeld ?_ ?_
  rotate_left
  · rintro w' ⟨s0, s1⟩
    go_simp
    with_reducible rfl
  rotate_left
  · simp only [Act.put, List.setIfInBounds_toArray, List.set_cons_zero, List.set_cons_succ, i64_w, i32_w]
    rfl
  refine take_ (i := 4) (N := some 127) (v := ?_) (a' := ?_) #[true, true, true, true, true, false, false, false] rfl rfl (take_ofW HT_.out HW_.out (by kernel_rfl)) (fun _ _ _ h => h) (Or.inl ⟨by rfl, ?_⟩) hHeld ?_ ?_
  rotate_left
  · rintro w' ⟨s0, s1⟩
    go_simp
    with_reducible rfl
  rotate_left
  · simp only [Act.put, List.setIfInBounds_toArray, List.set_cons_zero, List.set_cons_succ, i64_w, i32_w]
    rfl
  refine one_ (i := 5) (N := some 128) #[true, true, true, true, true, true, false, false] rfl rfl (one_of HT_.out (by kernel_rfl)) (by decide) (fun K hK => ?_)
  refine goes_ Tryz.func87 (by kernel_rfl) rfl #[.slice A xb c] (by rfl) rfl rfl (by simp only [List.map_toArray, List.map_cons, List.map_nil]; rfl) ?_
  with_reducible refine (HI.out _ (by exact bdrew hB0)).mono ?_
  rintro e w3 ⟨rfl, hb3⟩
  refine ⟨_, rfl, ?_⟩
  have HB3 := Lib.hid (bthen' (bdrew hB0) hb3)
  refine hK.out _ _ ⟨((hb3.cell (World.block_lt_of_cell? _ _ hHeld.1)).trans hHeld.1), ((hb3.cell (World.block_lt_of_cell? _ _ hHeld.2)).trans hHeld.2)⟩ (fun hHeld => ?_)
  clear hK K
  refine norm_ (a' := ?_) ?_ ?_
  rotate_left
  · show Act.put _ (some 128) _ = _
    simp only [Act.put, List.setIfInBounds_toArray, List.set_cons_zero, List.set_cons_succ, i64_w, i32_w]
    rfl
  refine last_ (i := 6) (N := some 129) #[true, true, true, true, true, true, true, false] rfl rfl (one_of HT_.out (by kernel_rfl)) (by decide) (fun K hK => ?_)
  refine goes_ Tryz.func91 (by kernel_rfl) rfl #[dv, .string text, ov] (by rfl) rfl rfl (by simp only [List.map_toArray, List.map_cons, List.map_nil]; rfl) ?_
  with_reducible refine (HC.out _ HB3.out).mono ?_
  rintro e w4 ⟨v4, rfl, h4⟩
  refine ⟨_, rfl, ?_⟩
  refine hK.out _ _ ?_
  clear hK K
  refine norm_ (a' := ?_) ?_ ?_
  rotate_left
  · show Act.put _ (some 129) _ = _
    simp only [Act.put, List.setIfInBounds_toArray, List.set_cons_zero, List.set_cons_succ, i64_w, i32_w]
    rfl
  refine pure_ (i := 7) (N := some 4) (v := ?_) (a' := ?_) #[true, true, true, true, true, true, true, true] rfl rfl (any_of HT_.out (by kernel_rfl)) (fun _ _ _ h => h) (Or.inl ⟨by rfl, ?_⟩) ?_ ?_
  rotate_left
  · intro w'
    go_simp
    with_reducible rfl
  rotate_left
  · simp only [Act.put, List.setIfInBounds_toArray, List.set_cons_zero, List.set_cons_succ, i64_w, i32_w]
    rfl
  refine done_ (done_of HT_.out (by kernel_rfl)) ?_
  have HE := Lib.hid (h4.pre HB3.out)
  clear h4
  go_wp2_with fail
  go_ret
  exact ⟨v4, rfl, HE.out⟩
set_option maxHeartbeats 1600000 in
theorem appK15 (N : Nat) (hE : ElUpto N) (text more : ByteArray) (n bits high : Int) (b : List UInt8) (kids : List (ByteArray × Val)) (cs : List Value) (deep : Int) (w0 W : World) (base : Nat) (dv : Value) (l : List UInt8) (hw : wt (.mk 15 text more n bits high b kids) < N + 1) (hok : okv (.mk 15 text more n bits high b kids)) (hr : right (.mk 15 text more n bits high b kids) deep = true)
    (hlen : (docValue (.mk 15 text more n bits high b kids)).length ≤ 900000) (hv : RV w0 (.mk 15 text more n bits high b kids) cs) (hbl : Below w0.heap.size w0 W) (hle : w0.heap.size ≤ base) (HO : OB 5 W base dv l) (hbase : base ≤ W.heap.size) (hl : l.length + (docValue (.mk 15 text more n bits high b kids)).length ≤ 80000000) :
    Calls Tryz.prog 37 #[dv, .agg cs.toArray] W (After fun v1 w1 => App (E := 5) W base dv (l ++ docValue (.mk 15 text more n bits high b kids)) v1 w1) := by
  have hv0 := hv
  simp only [RV] at hv
  obtain ⟨A, c, K', dd, rfl, hs, hd, hd2, hk⟩ := hv
  clear hd hd2 hk
  obtain ⟨o1, o2, o3, o4, o5, o6, o7, o8, o9⟩ := hok
  have R := right_facts hr
  have hsW := hs.keep hbl
  have hsep := sep_old HO hs hle
  have hne : some W.heap.size ≠ dv.ownBlock := fun e => by have := (HO.lt _ e.symm).2; omega

  have hdv : docValue (.mk 15 text more n bits high b kids) = (i32 (4 + ((txt (bs text)).length : Int) + ((docBytesOf kids).length : Int)) ++ txt (bs text) ++ docBytesOf kids) := by simp [docValue, docBytesOf]
  rw [hdv] at hlen hl ⊢
  have hts : (txt (bs text)).length = 5 + text.size := by simp [txt, i32, bs, size_data]; omega
  have hbl5 : (docBytesOf kids).length = (docElems kids).length + 5 := by unfold docBytesOf; simp [i32] <;> omega
  have htl : (i32 (4 + ((txt (bs text)).length : Int) + ((docBytesOf kids).length : Int)) ++ txt (bs text) ++ docBytesOf kids).length = 4 + (5 + text.size) + ((docElems kids).length + 5) := by rw [List.length_append, List.length_append, hts, hbl5]; simp [i32]
  have HI := Lib.hid (fun wx (hx : Below W.heap.size W wx) => scopeC N hE 15 text more n bits high b kids _ 15 deep w0 wx hw o9 (R.rk (.inr (.inr rfl))) (by omega) hv0 (hbl.trans (hx.mono hbl.size)))
  have HC : Hid (∀ (wx : World) (A1 : Option Addr) (c1 : Nat), Below W.heap.size W wx → SB wx A1 c1 (docBytesOf kids) → (∀ a, A1 = some a → W.heap.size ≤ a.block) → Calls Tryz.prog 94 #[dv, .string text, .slice A1 (docBytesOf kids).length c1] wx (After fun v1 w1 => App (E := 5) wx base dv (l ++ (i32 (4 + ((txt (bs text)).length : Int) + ((docBytesOf kids).length : Int)) ++ txt (bs text) ++ docBytesOf kids)) v1 w1)) := Lib.hid (fun wx A1 c1 (hx : Below W.heap.size W wx) h1 h2 => appCws wx base dv l text (by omega) A1 c1 (docBytesOf kids) h1 (sep_newer HO h2) (by omega) (HO.keep hx) (by have := hx.size; omega) (by omega))
  obtain ⟨l9, hl9⟩ : ∃ x, x = l ++ (i32 (4 + ((txt (bs text)).length : Int) + ((docBytesOf kids).length : Int)) ++ txt (bs text) ++ docBytesOf kids) := ⟨_, rfl⟩
  rw [← hl9] at HC ⊢
  clear hl9
  obtain ⟨L, hL⟩ : ∃ x, x = docBytesOf kids := ⟨_, rfl⟩
  rw [← hL] at HI HC
  have hB0 : Below W.heap.size W (W.alloc (.cells #[.int .i64 15, .string text, .string more, .int .i64 n, .int .u64 bits, .int .u64 high, .slice A b.length c, .slice K' kids.length dd] 45)) := balloc (Below.refl _ _) (Nat.le_refl _) _
  obtain ⟨xb, hxb⟩ : ∃ x, x = b.length := ⟨_, rfl⟩
  obtain ⟨xk, hxk⟩ : ∃ x, x = kids.length := ⟨_, rfl⟩
  rw [← hxb, ← hxk] at hB0 ⊢
  rw [← hxb, ← hxk] at HI
  clear hdv hs hsW hsep hne R o1 o2 o3 o4 o5 o6 o7 o8 o9 hv0 hE hw hr HO hbl hlen hl hxb hxk hbl5 hL hts htl
  go_enter Tryz.func37, Tryz.ntmps37
  go_wp2_with fail
  refine start_ (n := 7) (S := fun w' => w'.cell? ⟨W.heap.size, 0, none⟩ = some (.int .i64 15) ∧ w'.cell? ⟨W.heap.size, 1, none⟩ = some (.string text) ∧ w'.cell? ⟨W.heap.size, 2, none⟩ = some (.string more) ∧ w'.cell? ⟨W.heap.size, 3, none⟩ = some (.int .i64 n) ∧ w'.cell? ⟨W.heap.size, 4, none⟩ = some (.int .u64 bits) ∧ w'.cell? ⟨W.heap.size, 5, none⟩ = some (.int .u64 high) ∧ w'.cell? ⟨W.heap.size, 6, none⟩ = some (.slice A xb c) ∧ w'.cell? ⟨W.heap.size, 7, none⟩ = some (.slice K' xk dd)) (ds := [5]) #[false, false, false, false, false, false, false] (by kernel_rfl) rfl rfl ⟨(by go_simp), (by go_simp), (by go_simp), (by go_simp), (by go_simp), (by go_simp), (by go_simp), (by go_simp)⟩ (fun hHeld => ?_)
  refine with_tabW R37.tab41 R37.bits41 (fun HT_ HW_ => ?_)
  refine pure_ (i := 0) (N := some 144) (v := ?_) (a' := ?_) #[true, false, false, false, false, false, false] rfl rfl (any_of HT_.out (by kernel_rfl)) (fun _ _ _ h => h) (Or.inl ⟨by rfl, ?_⟩) ?_ ?_
  rotate_left
  · intro w'
    go_simp
    with_reducible rfl
  rotate_left
  · simp only [Act.put, List.setIfInBounds_toArray, List.set_cons_zero, List.set_cons_succ, i64_w, i32_w]
    rfl
  refine pure_ (i := 1) (N := some 145) (v := ?_) (a' := ?_) #[true, true, false, false, false, false, false] rfl rfl (any_of HT_.out (by kernel_rfl)) (fun _ _ _ h => h) (Or.inl ⟨by rfl, ?_⟩) ?_ ?_
  rotate_left
  · intro w'
    go_simp
    with_reducible rfl
  rotate_left
  · simp only [Act.put, List.setIfInBounds_toArray, List.set_cons_zero, List.set_cons_succ, i64_w, i32_w]
    rfl
  refine take_ (i := 2) (N := some 146) (v := ?_) (a' := ?_) #[true, true, true, false, false, false, false] rfl rfl (take_ofW HT_.out HW_.out (by kernel_rfl)) (fun _ _ _ h => h) (Or.inl ⟨by rfl, ?_⟩) hHeld ?_ ?_
  rotate_left
  · rintro w' ⟨s0, s1, s2, s3, s4, s5, s6, s7⟩
    go_simp
    with_reducible rfl
  rotate_left
  · simp only [Act.put, List.setIfInBounds_toArray, List.set_cons_zero, List.set_cons_succ, i64_w, i32_w]
    rfl
  refine take_ (i := 3) (N := some 147) (v := ?_) (a' := ?_) #[true, true, true, true, false, false, false] rfl rfl (take_ofW HT_.out HW_.out (by kernel_rfl)) (fun _ _ _ h => h) (Or.inl ⟨by rfl, ?_⟩) hHeld ?_ ?_
  rotate_left
  · rintro w' ⟨s0, s1, s2, s3, s4, s5, s6, s7⟩
    go_simp
    with_reducible rfl
  rotate_left
  · simp only [Act.put, List.setIfInBounds_toArray, List.set_cons_zero, List.set_cons_succ, i64_w, i32_w]
    rfl
  refine one_ (i := 4) (N := some 148) #[true, true, true, true, true, false, false] rfl rfl (one_of HT_.out (by kernel_rfl)) (by decide) (fun K hK => ?_)
  refine goes_ Tryz.func95 (by kernel_rfl) rfl #[.agg #[.int .i64 15, .string text, .string more, .int .i64 n, .int .u64 bits, .int .u64 high, .slice A xb c, .slice K' xk dd]] (by rfl) rfl rfl (by simp only [List.map_toArray, List.map_cons, List.map_nil]; rfl) ?_
  with_reducible refine (HI.out _ (by exact bdrew hB0)).mono ?_
  rintro e w3 ⟨A3, c3, rfl, hs3, hn3, hb3⟩
  refine ⟨_, rfl, ?_⟩
  have HB3 := Lib.hid (bthen' (bdrew hB0) hb3)
  have HC3 := Lib.hid (HC.out w3 A3 c3 HB3.out hs3 (fun a ha => by have := hn3 a ha; simp at this; omega))
  refine hK.out _ _ ⟨((hb3.cell (World.block_lt_of_cell? _ _ hHeld.1)).trans hHeld.1), ((hb3.cell (World.block_lt_of_cell? _ _ hHeld.2.1)).trans hHeld.2.1), ((hb3.cell (World.block_lt_of_cell? _ _ hHeld.2.2.1)).trans hHeld.2.2.1), ((hb3.cell (World.block_lt_of_cell? _ _ hHeld.2.2.2.1)).trans hHeld.2.2.2.1), ((hb3.cell (World.block_lt_of_cell? _ _ hHeld.2.2.2.2.1)).trans hHeld.2.2.2.2.1), ((hb3.cell (World.block_lt_of_cell? _ _ hHeld.2.2.2.2.2.1)).trans hHeld.2.2.2.2.2.1), ((hb3.cell (World.block_lt_of_cell? _ _ hHeld.2.2.2.2.2.2.1)).trans hHeld.2.2.2.2.2.2.1), ((hb3.cell (World.block_lt_of_cell? _ _ hHeld.2.2.2.2.2.2.2)).trans hHeld.2.2.2.2.2.2.2)⟩ (fun hHeld => ?_)
  clear hK K
  refine norm_ (a' := ?_) ?_ ?_
  rotate_left
  · show Act.put _ (some 148) _ = _
    simp only [Act.put, List.setIfInBounds_toArray, List.set_cons_zero, List.set_cons_succ, i64_w, i32_w]
    rfl
  refine last_ (i := 5) (N := some 149) #[true, true, true, true, true, true, false] rfl rfl (one_of HT_.out (by kernel_rfl)) (by decide) (fun K hK => ?_)
  refine goes_ Tryz.func94 (by kernel_rfl) rfl #[dv, .string text, .slice A3 L.length c3] (by rfl) rfl rfl (by simp only [List.map_toArray, List.map_cons, List.map_nil]; rfl) ?_
  with_reducible refine (HC3.out).mono ?_
  rintro e w4 ⟨v4, rfl, h4⟩
  refine ⟨_, rfl, ?_⟩
  refine hK.out _ _ ?_
  clear hK K
  refine norm_ (a' := ?_) ?_ ?_
  rotate_left
  · show Act.put _ (some 149) _ = _
    simp only [Act.put, List.setIfInBounds_toArray, List.set_cons_zero, List.set_cons_succ, i64_w, i32_w]
    rfl
  refine pure_ (i := 6) (N := some 4) (v := ?_) (a' := ?_) #[true, true, true, true, true, true, true] rfl rfl (any_of HT_.out (by kernel_rfl)) (fun _ _ _ h => h) (Or.inl ⟨by rfl, ?_⟩) ?_ ?_
  rotate_left
  · intro w'
    go_simp
    with_reducible rfl
  rotate_left
  · simp only [Act.put, List.setIfInBounds_toArray, List.set_cons_zero, List.set_cons_succ, i64_w, i32_w]
    rfl
  refine done_ (done_of HT_.out (by kernel_rfl)) ?_
  have HE := Lib.hid (h4.pre HB3.out)
  clear h4
  go_wp2_with fail
  go_ret
  exact ⟨v4, rfl, HE.out⟩
set_option maxHeartbeats 1600000 in
theorem appK3 (N : Nat) (hE : ElUpto N) (text more : ByteArray) (n bits high : Int) (b : List UInt8) (kids : List (ByteArray × Val)) (cs : List Value) (deep : Int) (w0 W : World) (base : Nat) (dv : Value) (l : List UInt8) (hw : wt (.mk 3 text more n bits high b kids) < N + 1) (hok : okv (.mk 3 text more n bits high b kids)) (hr : right (.mk 3 text more n bits high b kids) deep = true)
    (hlen : (docValue (.mk 3 text more n bits high b kids)).length ≤ 900000) (hv : RV w0 (.mk 3 text more n bits high b kids) cs) (hbl : Below w0.heap.size w0 W) (hle : w0.heap.size ≤ base) (HO : OB 5 W base dv l) (hbase : base ≤ W.heap.size) (hl : l.length + (docValue (.mk 3 text more n bits high b kids)).length ≤ 80000000) :
    Calls Tryz.prog 37 #[dv, .agg cs.toArray] W (After fun v1 w1 => App (E := 5) W base dv (l ++ docValue (.mk 3 text more n bits high b kids)) v1 w1) := by
  have hv0 := hv
  simp only [RV] at hv
  obtain ⟨A, c, K', dd, rfl, hs, hd, hd2, hk⟩ := hv
  clear hd hd2 hk
  obtain ⟨o1, o2, o3, o4, o5, o6, o7, o8, o9⟩ := hok
  have R := right_facts hr
  have hsW := hs.keep hbl
  have hsep := sep_old HO hs hle
  have hne : some W.heap.size ≠ dv.ownBlock := fun e => by have := (HO.lt _ e.symm).2; omega

  have hdv : docValue (.mk 3 text more n bits high b kids) = docBytesOf kids := by simp [docValue, docBytesOf]
  rw [hdv] at hlen hl ⊢
  have hbl5 : (docBytesOf kids).length = (docElems kids).length + 5 := by unfold docBytesOf; simp [i32] <;> omega
  exact appKids3 N hE text more n bits high b kids _ 3 deep w0 W base dv l hw o9 (R.rk (.inl rfl)) (by omega) hv0 hbl hle HO hbase (by omega)
set_option maxHeartbeats 1600000 in
theorem appK4 (N : Nat) (hE : ElUpto N) (text more : ByteArray) (n bits high : Int) (b : List UInt8) (kids : List (ByteArray × Val)) (cs : List Value) (deep : Int) (w0 W : World) (base : Nat) (dv : Value) (l : List UInt8) (hw : wt (.mk 4 text more n bits high b kids) < N + 1) (hok : okv (.mk 4 text more n bits high b kids)) (hr : right (.mk 4 text more n bits high b kids) deep = true)
    (hlen : (docValue (.mk 4 text more n bits high b kids)).length ≤ 900000) (hv : RV w0 (.mk 4 text more n bits high b kids) cs) (hbl : Below w0.heap.size w0 W) (hle : w0.heap.size ≤ base) (HO : OB 5 W base dv l) (hbase : base ≤ W.heap.size) (hl : l.length + (docValue (.mk 4 text more n bits high b kids)).length ≤ 80000000) :
    Calls Tryz.prog 37 #[dv, .agg cs.toArray] W (After fun v1 w1 => App (E := 5) W base dv (l ++ docValue (.mk 4 text more n bits high b kids)) v1 w1) := by
  have hv0 := hv
  simp only [RV] at hv
  obtain ⟨A, c, K', dd, rfl, hs, hd, hd2, hk⟩ := hv
  clear hd hd2 hk
  obtain ⟨o1, o2, o3, o4, o5, o6, o7, o8, o9⟩ := hok
  have R := right_facts hr
  have hsW := hs.keep hbl
  have hsep := sep_old HO hs hle
  have hne : some W.heap.size ≠ dv.ownBlock := fun e => by have := (HO.lt _ e.symm).2; omega

  have hdv : docValue (.mk 4 text more n bits high b kids) = docBytesOf kids := by simp [docValue, docBytesOf]
  rw [hdv] at hlen hl ⊢
  have hbl5 : (docBytesOf kids).length = (docElems kids).length + 5 := by unfold docBytesOf; simp [i32] <;> omega
  exact appKids4 N hE text more n bits high b kids _ 4 deep w0 W base dv l hw o9 (R.rk (.inr (.inl rfl))) (by omega) hv0 hbl hle HO hbase (by omega)
set_option maxHeartbeats 1600000 in
theorem appK0 (k : Int) (N : Nat) (hE : ElUpto N) (text more : ByteArray) (n bits high : Int) (b : List UInt8) (kids : List (ByteArray × Val)) (cs : List Value) (deep : Int) (w0 W : World) (base : Nat) (dv : Value) (l : List UInt8) (hw : wt (.mk k text more n bits high b kids) < N + 1) (hok : okv (.mk k text more n bits high b kids)) (hr : right (.mk k text more n bits high b kids) deep = true) (k1 : ¬ k = 1) (k2 : ¬ k = 2) (k3 : ¬ k = 3) (k4 : ¬ k = 4) (k5 : ¬ k = 5) (k7 : ¬ k = 7) (k8 : ¬ k = 8) (k9 : ¬ k = 9) (k11 : ¬ k = 11) (k12 : ¬ k = 12) (k13 : ¬ k = 13) (k14 : ¬ k = 14) (k15 : ¬ k = 15) (k16 : ¬ k = 16) (k17 : ¬ k = 17) (k18 : ¬ k = 18) (k19 : ¬ k = 19)
    (hlen : (docValue (.mk k text more n bits high b kids)).length ≤ 900000) (hv : RV w0 (.mk k text more n bits high b kids) cs) (hbl : Below w0.heap.size w0 W) (hle : w0.heap.size ≤ base) (HO : OB 5 W base dv l) (hbase : base ≤ W.heap.size) (hl : l.length + (docValue (.mk k text more n bits high b kids)).length ≤ 80000000) :
    Calls Tryz.prog 37 #[dv, .agg cs.toArray] W (After fun v1 w1 => App (E := 5) W base dv (l ++ docValue (.mk k text more n bits high b kids)) v1 w1) := by
  have hv0 := hv
  simp only [RV] at hv
  obtain ⟨A, c, K', dd, rfl, hs, hd, hd2, hk⟩ := hv
  clear hd hd2 hk
  obtain ⟨o1, o2, o3, o4, o5, o6, o7, o8, o9⟩ := hok
  have R := right_facts hr
  have hsW := hs.keep hbl
  have hsep := sep_old HO hs hle
  have hne : some W.heap.size ≠ dv.ownBlock := fun e => by have := (HO.lt _ e.symm).2; omega

  have hdv : docValue (.mk k text more n bits high b kids) = [] := by simp [docValue, k1, k2, k3, k4, k5, k7, k8, k9, k11, k12, k13, k14, k15, k16, k17, k18, k19]
  rw [hdv] at hlen hl ⊢
  have hneq : (k == 1) = false ∧ (k == 2) = false ∧ (k == 3) = false ∧ (k == 4) = false ∧ (k == 5) = false ∧ (k == 7) = false ∧ (k == 8) = false ∧ (k == 9) = false ∧ (k == 11) = false ∧ (k == 12) = false ∧ (k == 13) = false ∧ (k == 14) = false ∧ (k == 15) = false ∧ (k == 16) = false ∧ (k == 17) = false ∧ (k == 18) = false ∧ (k == 19) = false := by simp only [beq_eq_false_iff_ne, ne_eq]; exact ⟨k1, k2, k3, k4, k5, k7, k8, k9, k11, k12, k13, k14, k15, k16, k17, k18, k19⟩
  obtain ⟨e1, e2, e3, e4, e5, e7, e8, e9, e11, e12, e13, e14, e15, e16, e17, e18, e19⟩ := hneq
  rw [List.append_nil]
  have HR := Lib.hid (App.refl HO)
  have hB0 : Below W.heap.size W (W.alloc (.cells #[.int .i64 k, .string text, .string more, .int .i64 n, .int .u64 bits, .int .u64 high, .slice A b.length c, .slice K' kids.length dd] 45)) := balloc (Below.refl _ _) (Nat.le_refl _) _
  obtain ⟨xb, hxb⟩ : ∃ x, x = b.length := ⟨_, rfl⟩
  obtain ⟨xk, hxk⟩ : ∃ x, x = kids.length := ⟨_, rfl⟩
  rw [← hxb, ← hxk] at hB0 ⊢
  clear hdv hs hsW hsep hne R o1 o2 o3 o4 o5 o6 o7 o8 o9 hv0 hE hw hr HO hbl hlen hl hxb hxk k1 k2 k3 k4 k5 k7 k8 k9 k11 k12 k13 k14 k15 k16 k17 k18 k19
  go_enter Tryz.func37, Tryz.ntmps37
  go_wp2_with fail
  go_ret
  exact ⟨dv, rfl, HR.out.post hB0⟩
set_option maxHeartbeats 1600000 in
theorem elK7 (N : Nat) (hE : ElUpto N) (nm : ByteArray) (hp : plainB nm.data.toList = true) (text more : ByteArray) (n bits high : Int) (b : List UInt8) (kids : List (ByteArray × Val)) (cs : List Value) (deep : Int) (w0 W : World) (base : Nat) (dv : Value) (l : List UInt8) (hw : wt (.mk 7 text more n bits high b kids) < N + 1) (hok : okv (.mk 7 text more n bits high b kids)) (hr : right (.mk 7 text more n bits high b kids) deep = true)
    (hlen : (docElemOf nm (.mk 7 text more n bits high b kids)).length ≤ 900000) (hv : RV w0 (.mk 7 text more n bits high b kids) cs) (hbl : Below w0.heap.size w0 W) (hle : w0.heap.size ≤ base) (HO : OB 5 W base dv l) (hbase : base ≤ W.heap.size) (hl : l.length + (docElemOf nm (.mk 7 text more n bits high b kids)).length ≤ 80000000) :
    Calls Tryz.prog 82 #[dv, .string nm, .agg cs.toArray] W (After fun v1 w1 => App (E := 5) W base dv (l ++ docElemOf nm (.mk 7 text more n bits high b kids)) v1 w1) := by
  have hv0 := hv
  simp only [RV] at hv
  obtain ⟨A, c, K', dd, rfl, hs, hd, hd2, hk⟩ := hv
  clear hd hd2 hk
  obtain ⟨o1, o2, o3, o4, o5, o6, o7, o8, o9⟩ := hok
  have R := right_facts hr
  have hsW := hs.keep hbl
  have hsep := sep_old HO hs hle
  have hne : some W.heap.size ≠ dv.ownBlock := fun e => by have := (HO.lt _ e.symm).2; omega

  have hdv : docElemOf nm (.mk 7 text more n bits high b kids) = hd 7 (bs nm) ++ b := by
    have e : docValue (.mk 7 text more n bits high b kids) = b := by simp [docValue]
    show hd 7 (bs nm) ++ docValue (.mk 7 text more n bits high b kids) = _
    rw [e]
  rw [hdv] at hlen hl ⊢
  rw [List.length_append] at hlen hl
  have hs0 : nm.size ≤ 1000000 := by have := hd_len 7 nm; unfold bs at hlen; omega
  have h12 := R.r7 (.inl rfl)
  have HI := Lib.hid (fun wx (hx : Below W.heap.size W wx) => implId A c b wx (hsW.keep hx) h12)
  have HC : Hid (∀ wx : World, Below W.heap.size W wx → Calls Tryz.prog 159 #[dv, .string nm, oid12 b] wx (After fun v1 w1 => App (E := 5) wx base dv (l ++ (hd 7 (bs nm) ++ b)) v1 w1)) := Lib.hid (fun wx (hx : Below W.heap.size W wx) => eOid wx base dv l nm hp hs0 b h12 (HO.keep hx) (by have := hx.size; omega) (by omega))
  obtain ⟨l9, hl9⟩ : ∃ x, x = l ++ (hd 7 (bs nm) ++ b) := ⟨_, rfl⟩
  rw [← hl9] at HC ⊢
  clear hl9
  obtain ⟨ov, hov⟩ : ∃ x, x = oid12 b := ⟨_, rfl⟩
  rw [← hov] at HI HC
  have hB0 : Below W.heap.size W (W.alloc (.cells #[.int .i64 7, .string text, .string more, .int .i64 n, .int .u64 bits, .int .u64 high, .slice A b.length c, .slice K' kids.length dd] 45)) := balloc (Below.refl _ _) (Nat.le_refl _) _
  obtain ⟨xb, hxb⟩ : ∃ x, x = b.length := ⟨_, rfl⟩
  obtain ⟨xk, hxk⟩ : ∃ x, x = kids.length := ⟨_, rfl⟩
  rw [← hxb, ← hxk] at hB0 ⊢
  rw [← hxb] at HI
  clear hdv hs hsW hsep hne R o1 o2 o3 o4 o5 o6 o7 o8 o9 hv0 hE hw hr HO hbl hlen hl hxb hxk h12 hov hp
  go_enter Tryz.func82, Tryz.ntmps82
  go_wp2_with fail
  refine (HI.out _ hB0).mono ?_
  rintro e w1 ⟨rfl, hb1⟩
  have HB1 := Lib.hid (bthen' hB0 hb1)
  clear hb1 HI
  go_wp2_with fail
  refine (HC.out _ HB1.out).mono ?_
  rintro e w9 ⟨v9, rfl, h⟩
  have HE := Lib.hid (h.pre HB1.out)
  clear h HC
  go_wp2_with fail
  go_ret
  exact ⟨v9, rfl, HE.out⟩
set_option maxHeartbeats 1600000 in
theorem elK12 (N : Nat) (hE : ElUpto N) (nm : ByteArray) (hp : plainB nm.data.toList = true) (text more : ByteArray) (n bits high : Int) (b : List UInt8) (kids : List (ByteArray × Val)) (cs : List Value) (deep : Int) (w0 W : World) (base : Nat) (dv : Value) (l : List UInt8) (hw : wt (.mk 12 text more n bits high b kids) < N + 1) (hok : okv (.mk 12 text more n bits high b kids)) (hr : right (.mk 12 text more n bits high b kids) deep = true)
    (hlen : (docElemOf nm (.mk 12 text more n bits high b kids)).length ≤ 900000) (hv : RV w0 (.mk 12 text more n bits high b kids) cs) (hbl : Below w0.heap.size w0 W) (hle : w0.heap.size ≤ base) (HO : OB 5 W base dv l) (hbase : base ≤ W.heap.size) (hl : l.length + (docElemOf nm (.mk 12 text more n bits high b kids)).length ≤ 80000000) :
    Calls Tryz.prog 82 #[dv, .string nm, .agg cs.toArray] W (After fun v1 w1 => App (E := 5) W base dv (l ++ docElemOf nm (.mk 12 text more n bits high b kids)) v1 w1) := by
  have hv0 := hv
  simp only [RV] at hv
  obtain ⟨A, c, K', dd, rfl, hs, hd, hd2, hk⟩ := hv
  clear hd hd2 hk
  obtain ⟨o1, o2, o3, o4, o5, o6, o7, o8, o9⟩ := hok
  have R := right_facts hr
  have hsW := hs.keep hbl
  have hsep := sep_old HO hs hle
  have hne : some W.heap.size ≠ dv.ownBlock := fun e => by have := (HO.lt _ e.symm).2; omega

  have hdv : docElemOf nm (.mk 12 text more n bits high b kids) = hd 12 (bs nm) ++ (txt (bs text) ++ b) := by
    have e : docValue (.mk 12 text more n bits high b kids) = (txt (bs text) ++ b) := by simp [docValue]
    show hd 12 (bs nm) ++ docValue (.mk 12 text more n bits high b kids) = _
    rw [e]
  rw [hdv] at hlen hl ⊢
  rw [List.length_append] at hlen hl
  have hs0 : nm.size ≤ 1000000 := by have := hd_len 12 nm; unfold bs at hlen; omega
  have hts : (txt (bs text)).length = 5 + text.size := by simp [txt, i32, bs, size_data]; omega
  have h12 := R.r7 (.inr rfl)
  have htl : (txt (bs text) ++ b).length = 5 + text.size + b.length := by rw [List.length_append, hts]
  have HI := Lib.hid (fun wx (hx : Below W.heap.size W wx) => implId A c b wx (hsW.keep hx) h12)
  have HC : Hid (∀ wx : World, Below W.heap.size W wx → Calls Tryz.prog 164 #[dv, .string nm, .string text, oid12 b] wx (After fun v1 w1 => App (E := 5) wx base dv (l ++ (hd 12 (bs nm) ++ (txt (bs text) ++ b))) v1 w1)) := Lib.hid (fun wx (hx : Below W.heap.size W wx) => eDbp wx base dv l nm hp hs0 text (by omega) b h12 (HO.keep hx) (by have := hx.size; omega) (by omega))
  obtain ⟨l9, hl9⟩ : ∃ x, x = l ++ (hd 12 (bs nm) ++ (txt (bs text) ++ b)) := ⟨_, rfl⟩
  rw [← hl9] at HC ⊢
  clear hl9
  obtain ⟨ov, hov⟩ : ∃ x, x = oid12 b := ⟨_, rfl⟩
  rw [← hov] at HI HC
  have hB0 : Below W.heap.size W (W.alloc (.cells #[.int .i64 12, .string text, .string more, .int .i64 n, .int .u64 bits, .int .u64 high, .slice A b.length c, .slice K' kids.length dd] 45)) := balloc (Below.refl _ _) (Nat.le_refl _) _
  obtain ⟨xb, hxb⟩ : ∃ x, x = b.length := ⟨_, rfl⟩
  obtain ⟨xk, hxk⟩ : ∃ x, x = kids.length := ⟨_, rfl⟩
  rw [← hxb, ← hxk] at hB0 ⊢
  rw [← hxb] at HI
  clear hdv hs hsW hsep hne R o1 o2 o3 o4 o5 o6 o7 o8 o9 hv0 hE hw hr HO hbl hlen hl hxb hxk h12 hov hts htl hp
  go_enter Tryz.func82, Tryz.ntmps82
  go_wp2_with fail
  refine start_ (n := 9) (S := fun w' => w'.cell? ⟨W.heap.size, 1, none⟩ = some (.string text) ∧ w'.cell? ⟨W.heap.size, 6, none⟩ = some (.slice A xb c)) (ds := [7]) #[false, false, false, false, false, false, false, false, false] (by kernel_rfl) rfl rfl ⟨(by go_simp), (by go_simp)⟩ (fun hHeld => ?_)
  refine with_tabW R82.tab25 R82.bits25 (fun HT_ HW_ => ?_)
  refine pure_ (i := 0) (N := some 92) (v := ?_) (a' := ?_) #[true, false, false, false, false, false, false, false, false] rfl rfl (any_of HT_.out (by kernel_rfl)) (fun _ _ _ h => h) (Or.inl ⟨by rfl, ?_⟩) ?_ ?_
  rotate_left
  · intro w'
    go_simp
    with_reducible rfl
  rotate_left
  · simp only [Act.put, List.setIfInBounds_toArray, List.set_cons_zero, List.set_cons_succ, i64_w, i32_w]
    rfl
  refine pure_ (i := 1) (N := some 93) (v := ?_) (a' := ?_) #[true, true, false, false, false, false, false, false, false] rfl rfl (any_of HT_.out (by kernel_rfl)) (fun _ _ _ h => h) (Or.inl ⟨by rfl, ?_⟩) ?_ ?_
  rotate_left
  · intro w'
    go_simp
    with_reducible rfl
  rotate_left
  · simp only [Act.put, List.setIfInBounds_toArray, List.set_cons_zero, List.set_cons_succ, i64_w, i32_w]
    rfl
  refine pure_ (i := 2) (N := some 94) (v := ?_) (a' := ?_) #[true, true, true, false, false, false, false, false, false] rfl rfl (any_of HT_.out (by kernel_rfl)) (fun _ _ _ h => h) (Or.inl ⟨by rfl, ?_⟩) ?_ ?_
  rotate_left
  · intro w'
    go_simp
    with_reducible rfl
  rotate_left
  · simp only [Act.put, List.setIfInBounds_toArray, List.set_cons_zero, List.set_cons_succ, i64_w, i32_w]
    rfl
  refine pure_ (i := 4) (N := some 96) (v := ?_) (a' := ?_) #[true, true, true, false, true, false, false, false, false] rfl rfl (any_of HT_.out (by kernel_rfl)) (fun _ _ _ h => h) (Or.inl ⟨by rfl, ?_⟩) ?_ ?_
  rotate_left
  · intro w'
    go_simp
    with_reducible rfl
  rotate_left
  · simp only [Act.put, List.setIfInBounds_toArray, List.set_cons_zero, List.set_cons_succ, i64_w, i32_w]
    rfl
  refine take_ (i := 3) (N := some 95) (v := ?_) (a' := ?_) #[true, true, true, true, true, false, false, false, false] rfl rfl (take_ofW HT_.out HW_.out (by kernel_rfl)) (fun _ _ _ h => h) (Or.inl ⟨by rfl, ?_⟩) hHeld ?_ ?_
  rotate_left
  · rintro w' ⟨s0, s1⟩
    go_simp
    with_reducible rfl
  rotate_left
  · simp only [Act.put, List.setIfInBounds_toArray, List.set_cons_zero, List.set_cons_succ, i64_w, i32_w]
    rfl
  refine take_ (i := 5) (N := some 97) (v := ?_) (a' := ?_) #[true, true, true, true, true, true, false, false, false] rfl rfl (take_ofW HT_.out HW_.out (by kernel_rfl)) (fun _ _ _ h => h) (Or.inl ⟨by rfl, ?_⟩) hHeld ?_ ?_
  rotate_left
  · rintro w' ⟨s0, s1⟩
    go_simp
    with_reducible rfl
  rotate_left
  · simp only [Act.put, List.setIfInBounds_toArray, List.set_cons_zero, List.set_cons_succ, i64_w, i32_w]
    rfl
  refine one_ (i := 6) (N := some 98) #[true, true, true, true, true, true, true, false, false] rfl rfl (one_of HT_.out (by kernel_rfl)) (by decide) (fun K hK => ?_)
  refine goes_ Tryz.func87 (by kernel_rfl) rfl #[.slice A xb c] (by rfl) rfl rfl (by simp only [List.map_toArray, List.map_cons, List.map_nil]; rfl) ?_
  with_reducible refine (HI.out _ (by exact bdrew hB0)).mono ?_
  rintro e w3 ⟨rfl, hb3⟩
  refine ⟨_, rfl, ?_⟩
  have HB3 := Lib.hid (bthen' (bdrew hB0) hb3)
  refine hK.out _ _ ⟨((hb3.cell (World.block_lt_of_cell? _ _ hHeld.1)).trans hHeld.1), ((hb3.cell (World.block_lt_of_cell? _ _ hHeld.2)).trans hHeld.2)⟩ (fun hHeld => ?_)
  clear hK K
  refine norm_ (a' := ?_) ?_ ?_
  rotate_left
  · show Act.put _ (some 98) _ = _
    simp only [Act.put, List.setIfInBounds_toArray, List.set_cons_zero, List.set_cons_succ, i64_w, i32_w]
    rfl
  refine last_ (i := 7) (N := some 99) #[true, true, true, true, true, true, true, true, false] rfl rfl (one_of HT_.out (by kernel_rfl)) (by decide) (fun K hK => ?_)
  refine goes_ Tryz.func164 (by kernel_rfl) rfl #[dv, .string nm, .string text, ov] (by rfl) rfl rfl (by simp only [List.map_toArray, List.map_cons, List.map_nil]; rfl) ?_
  with_reducible refine (HC.out _ HB3.out).mono ?_
  rintro e w4 ⟨v4, rfl, h4⟩
  refine ⟨_, rfl, ?_⟩
  refine hK.out _ _ ?_
  clear hK K
  refine norm_ (a' := ?_) ?_ ?_
  rotate_left
  · show Act.put _ (some 99) _ = _
    simp only [Act.put, List.setIfInBounds_toArray, List.set_cons_zero, List.set_cons_succ, i64_w, i32_w]
    rfl
  refine pure_ (i := 8) (N := some 6) (v := ?_) (a' := ?_) #[true, true, true, true, true, true, true, true, true] rfl rfl (any_of HT_.out (by kernel_rfl)) (fun _ _ _ h => h) (Or.inl ⟨by rfl, ?_⟩) ?_ ?_
  rotate_left
  · intro w'
    go_simp
    with_reducible rfl
  rotate_left
  · simp only [Act.put, List.setIfInBounds_toArray, List.set_cons_zero, List.set_cons_succ, i64_w, i32_w]
    rfl
  refine done_ (done_of HT_.out (by kernel_rfl)) ?_
  have HE := Lib.hid (h4.pre HB3.out)
  clear h4
  go_wp2_with fail
  go_ret
  exact ⟨v4, rfl, HE.out⟩
set_option maxHeartbeats 1600000 in
theorem elK15 (N : Nat) (hE : ElUpto N) (nm : ByteArray) (hp : plainB nm.data.toList = true) (text more : ByteArray) (n bits high : Int) (b : List UInt8) (kids : List (ByteArray × Val)) (cs : List Value) (deep : Int) (w0 W : World) (base : Nat) (dv : Value) (l : List UInt8) (hw : wt (.mk 15 text more n bits high b kids) < N + 1) (hok : okv (.mk 15 text more n bits high b kids)) (hr : right (.mk 15 text more n bits high b kids) deep = true)
    (hlen : (docElemOf nm (.mk 15 text more n bits high b kids)).length ≤ 900000) (hv : RV w0 (.mk 15 text more n bits high b kids) cs) (hbl : Below w0.heap.size w0 W) (hle : w0.heap.size ≤ base) (HO : OB 5 W base dv l) (hbase : base ≤ W.heap.size) (hl : l.length + (docElemOf nm (.mk 15 text more n bits high b kids)).length ≤ 80000000) :
    Calls Tryz.prog 82 #[dv, .string nm, .agg cs.toArray] W (After fun v1 w1 => App (E := 5) W base dv (l ++ docElemOf nm (.mk 15 text more n bits high b kids)) v1 w1) := by
  have hv0 := hv
  simp only [RV] at hv
  obtain ⟨A, c, K', dd, rfl, hs, hd, hd2, hk⟩ := hv
  clear hd hd2 hk
  obtain ⟨o1, o2, o3, o4, o5, o6, o7, o8, o9⟩ := hok
  have R := right_facts hr
  have hsW := hs.keep hbl
  have hsep := sep_old HO hs hle
  have hne : some W.heap.size ≠ dv.ownBlock := fun e => by have := (HO.lt _ e.symm).2; omega

  have hdv : docElemOf nm (.mk 15 text more n bits high b kids) = hd 15 (bs nm) ++ (i32 (4 + ((txt (bs text)).length : Int) + ((docBytesOf kids).length : Int)) ++ txt (bs text) ++ docBytesOf kids) := by
    have e : docValue (.mk 15 text more n bits high b kids) = (i32 (4 + ((txt (bs text)).length : Int) + ((docBytesOf kids).length : Int)) ++ txt (bs text) ++ docBytesOf kids) := by simp [docValue, docBytesOf]
    show hd 15 (bs nm) ++ docValue (.mk 15 text more n bits high b kids) = _
    rw [e]
  rw [hdv] at hlen hl ⊢
  rw [List.length_append] at hlen hl
  have hs0 : nm.size ≤ 1000000 := by have := hd_len 15 nm; unfold bs at hlen; omega
  have hts : (txt (bs text)).length = 5 + text.size := by simp [txt, i32, bs, size_data]; omega
  have hbl5 : (docBytesOf kids).length = (docElems kids).length + 5 := by unfold docBytesOf; simp [i32] <;> omega
  have htl : (i32 (4 + ((txt (bs text)).length : Int) + ((docBytesOf kids).length : Int)) ++ txt (bs text) ++ docBytesOf kids).length = 4 + (5 + text.size) + ((docElems kids).length + 5) := by rw [List.length_append, List.length_append, hts, hbl5]; simp [i32]
  have HI := Lib.hid (fun wx (hx : Below W.heap.size W wx) => scopeC N hE 15 text more n bits high b kids _ 15 deep w0 wx hw o9 (R.rk (.inr (.inr rfl))) (by omega) hv0 (hbl.trans (hx.mono hbl.size)))
  have HC : Hid (∀ (wx : World) (A1 : Option Addr) (c1 : Nat), Below W.heap.size W wx → SB wx A1 c1 (docBytesOf kids) → (∀ a, A1 = some a → W.heap.size ≤ a.block) → Calls Tryz.prog 167 #[dv, .string nm, .string text, .slice A1 (docBytesOf kids).length c1] wx (After fun v1 w1 => App (E := 5) wx base dv (l ++ (hd 15 (bs nm) ++ (i32 (4 + ((txt (bs text)).length : Int) + ((docBytesOf kids).length : Int)) ++ txt (bs text) ++ docBytesOf kids))) v1 w1)) := Lib.hid (fun wx A1 c1 (hx : Below W.heap.size W wx) h1 h2 => eCws wx base dv l nm hp hs0 text (by omega) A1 c1 (docBytesOf kids) h1 (sep_newer HO h2) (by omega) (HO.keep hx) (by have := hx.size; omega) (by omega))
  obtain ⟨l9, hl9⟩ : ∃ x, x = l ++ (hd 15 (bs nm) ++ (i32 (4 + ((txt (bs text)).length : Int) + ((docBytesOf kids).length : Int)) ++ txt (bs text) ++ docBytesOf kids)) := ⟨_, rfl⟩
  rw [← hl9] at HC ⊢
  clear hl9
  obtain ⟨L, hL⟩ : ∃ x, x = docBytesOf kids := ⟨_, rfl⟩
  rw [← hL] at HI HC
  have hB0 : Below W.heap.size W (W.alloc (.cells #[.int .i64 15, .string text, .string more, .int .i64 n, .int .u64 bits, .int .u64 high, .slice A b.length c, .slice K' kids.length dd] 45)) := balloc (Below.refl _ _) (Nat.le_refl _) _
  obtain ⟨xb, hxb⟩ : ∃ x, x = b.length := ⟨_, rfl⟩
  obtain ⟨xk, hxk⟩ : ∃ x, x = kids.length := ⟨_, rfl⟩
  rw [← hxb, ← hxk] at hB0 ⊢
  rw [← hxb, ← hxk] at HI
  clear hdv hs hsW hsep hne R o1 o2 o3 o4 o5 o6 o7 o8 o9 hv0 hE hw hr HO hbl hlen hl hxb hxk hbl5 hL hts htl hp
  go_enter Tryz.func82, Tryz.ntmps82
  go_wp2_with fail
  refine start_ (n := 8) (S := fun w' => w'.cell? ⟨W.heap.size, 0, none⟩ = some (.int .i64 15) ∧ w'.cell? ⟨W.heap.size, 1, none⟩ = some (.string text) ∧ w'.cell? ⟨W.heap.size, 2, none⟩ = some (.string more) ∧ w'.cell? ⟨W.heap.size, 3, none⟩ = some (.int .i64 n) ∧ w'.cell? ⟨W.heap.size, 4, none⟩ = some (.int .u64 bits) ∧ w'.cell? ⟨W.heap.size, 5, none⟩ = some (.int .u64 high) ∧ w'.cell? ⟨W.heap.size, 6, none⟩ = some (.slice A xb c) ∧ w'.cell? ⟨W.heap.size, 7, none⟩ = some (.slice K' xk dd)) (ds := [6]) #[false, false, false, false, false, false, false, false] (by kernel_rfl) rfl rfl ⟨(by go_simp), (by go_simp), (by go_simp), (by go_simp), (by go_simp), (by go_simp), (by go_simp), (by go_simp)⟩ (fun hHeld => ?_)
  refine with_tabW R82.tab31 R82.bits31 (fun HT_ HW_ => ?_)
  refine pure_ (i := 0) (N := some 116) (v := ?_) (a' := ?_) #[true, false, false, false, false, false, false, false] rfl rfl (any_of HT_.out (by kernel_rfl)) (fun _ _ _ h => h) (Or.inl ⟨by rfl, ?_⟩) ?_ ?_
  rotate_left
  · intro w'
    go_simp
    with_reducible rfl
  rotate_left
  · simp only [Act.put, List.setIfInBounds_toArray, List.set_cons_zero, List.set_cons_succ, i64_w, i32_w]
    rfl
  refine pure_ (i := 1) (N := some 117) (v := ?_) (a' := ?_) #[true, true, false, false, false, false, false, false] rfl rfl (any_of HT_.out (by kernel_rfl)) (fun _ _ _ h => h) (Or.inl ⟨by rfl, ?_⟩) ?_ ?_
  rotate_left
  · intro w'
    go_simp
    with_reducible rfl
  rotate_left
  · simp only [Act.put, List.setIfInBounds_toArray, List.set_cons_zero, List.set_cons_succ, i64_w, i32_w]
    rfl
  refine pure_ (i := 2) (N := some 118) (v := ?_) (a' := ?_) #[true, true, true, false, false, false, false, false] rfl rfl (any_of HT_.out (by kernel_rfl)) (fun _ _ _ h => h) (Or.inl ⟨by rfl, ?_⟩) ?_ ?_
  rotate_left
  · intro w'
    go_simp
    with_reducible rfl
  rotate_left
  · simp only [Act.put, List.setIfInBounds_toArray, List.set_cons_zero, List.set_cons_succ, i64_w, i32_w]
    rfl
  refine take_ (i := 3) (N := some 119) (v := ?_) (a' := ?_) #[true, true, true, true, false, false, false, false] rfl rfl (take_ofW HT_.out HW_.out (by kernel_rfl)) (fun _ _ _ h => h) (Or.inl ⟨by rfl, ?_⟩) hHeld ?_ ?_
  rotate_left
  · rintro w' ⟨s0, s1, s2, s3, s4, s5, s6, s7⟩
    go_simp
    with_reducible rfl
  rotate_left
  · simp only [Act.put, List.setIfInBounds_toArray, List.set_cons_zero, List.set_cons_succ, i64_w, i32_w]
    rfl
  refine take_ (i := 4) (N := some 120) (v := ?_) (a' := ?_) #[true, true, true, true, true, false, false, false] rfl rfl (take_ofW HT_.out HW_.out (by kernel_rfl)) (fun _ _ _ h => h) (Or.inl ⟨by rfl, ?_⟩) hHeld ?_ ?_
  rotate_left
  · rintro w' ⟨s0, s1, s2, s3, s4, s5, s6, s7⟩
    go_simp
    with_reducible rfl
  rotate_left
  · simp only [Act.put, List.setIfInBounds_toArray, List.set_cons_zero, List.set_cons_succ, i64_w, i32_w]
    rfl
  refine one_ (i := 5) (N := some 121) #[true, true, true, true, true, true, false, false] rfl rfl (one_of HT_.out (by kernel_rfl)) (by decide) (fun K hK => ?_)
  refine goes_ Tryz.func95 (by kernel_rfl) rfl #[.agg #[.int .i64 15, .string text, .string more, .int .i64 n, .int .u64 bits, .int .u64 high, .slice A xb c, .slice K' xk dd]] (by rfl) rfl rfl (by simp only [List.map_toArray, List.map_cons, List.map_nil]; rfl) ?_
  with_reducible refine (HI.out _ (by exact bdrew hB0)).mono ?_
  rintro e w3 ⟨A3, c3, rfl, hs3, hn3, hb3⟩
  refine ⟨_, rfl, ?_⟩
  have HB3 := Lib.hid (bthen' (bdrew hB0) hb3)
  have HC3 := Lib.hid (HC.out w3 A3 c3 HB3.out hs3 (fun a ha => by have := hn3 a ha; simp at this; omega))
  refine hK.out _ _ ⟨((hb3.cell (World.block_lt_of_cell? _ _ hHeld.1)).trans hHeld.1), ((hb3.cell (World.block_lt_of_cell? _ _ hHeld.2.1)).trans hHeld.2.1), ((hb3.cell (World.block_lt_of_cell? _ _ hHeld.2.2.1)).trans hHeld.2.2.1), ((hb3.cell (World.block_lt_of_cell? _ _ hHeld.2.2.2.1)).trans hHeld.2.2.2.1), ((hb3.cell (World.block_lt_of_cell? _ _ hHeld.2.2.2.2.1)).trans hHeld.2.2.2.2.1), ((hb3.cell (World.block_lt_of_cell? _ _ hHeld.2.2.2.2.2.1)).trans hHeld.2.2.2.2.2.1), ((hb3.cell (World.block_lt_of_cell? _ _ hHeld.2.2.2.2.2.2.1)).trans hHeld.2.2.2.2.2.2.1), ((hb3.cell (World.block_lt_of_cell? _ _ hHeld.2.2.2.2.2.2.2)).trans hHeld.2.2.2.2.2.2.2)⟩ (fun hHeld => ?_)
  clear hK K
  refine norm_ (a' := ?_) ?_ ?_
  rotate_left
  · show Act.put _ (some 121) _ = _
    simp only [Act.put, List.setIfInBounds_toArray, List.set_cons_zero, List.set_cons_succ, i64_w, i32_w]
    rfl
  refine last_ (i := 6) (N := some 122) #[true, true, true, true, true, true, true, false] rfl rfl (one_of HT_.out (by kernel_rfl)) (by decide) (fun K hK => ?_)
  refine goes_ Tryz.func167 (by kernel_rfl) rfl #[dv, .string nm, .string text, .slice A3 L.length c3] (by rfl) rfl rfl (by simp only [List.map_toArray, List.map_cons, List.map_nil]; rfl) ?_
  with_reducible refine (HC3.out).mono ?_
  rintro e w4 ⟨v4, rfl, h4⟩
  refine ⟨_, rfl, ?_⟩
  refine hK.out _ _ ?_
  clear hK K
  refine norm_ (a' := ?_) ?_ ?_
  rotate_left
  · show Act.put _ (some 122) _ = _
    simp only [Act.put, List.setIfInBounds_toArray, List.set_cons_zero, List.set_cons_succ, i64_w, i32_w]
    rfl
  refine pure_ (i := 7) (N := some 6) (v := ?_) (a' := ?_) #[true, true, true, true, true, true, true, true] rfl rfl (any_of HT_.out (by kernel_rfl)) (fun _ _ _ h => h) (Or.inl ⟨by rfl, ?_⟩) ?_ ?_
  rotate_left
  · intro w'
    go_simp
    with_reducible rfl
  rotate_left
  · simp only [Act.put, List.setIfInBounds_toArray, List.set_cons_zero, List.set_cons_succ, i64_w, i32_w]
    rfl
  refine done_ (done_of HT_.out (by kernel_rfl)) ?_
  have HE := Lib.hid (h4.pre HB3.out)
  clear h4
  go_wp2_with fail
  go_ret
  exact ⟨v4, rfl, HE.out⟩
set_option maxHeartbeats 1600000 in
theorem elK3 (N : Nat) (hE : ElUpto N) (nm : ByteArray) (hp : plainB nm.data.toList = true) (text more : ByteArray) (n bits high : Int) (b : List UInt8) (kids : List (ByteArray × Val)) (cs : List Value) (deep : Int) (w0 W : World) (base : Nat) (dv : Value) (l : List UInt8) (hw : wt (.mk 3 text more n bits high b kids) < N + 1) (hok : okv (.mk 3 text more n bits high b kids)) (hr : right (.mk 3 text more n bits high b kids) deep = true)
    (hlen : (docElemOf nm (.mk 3 text more n bits high b kids)).length ≤ 900000) (hv : RV w0 (.mk 3 text more n bits high b kids) cs) (hbl : Below w0.heap.size w0 W) (hle : w0.heap.size ≤ base) (HO : OB 5 W base dv l) (hbase : base ≤ W.heap.size) (hl : l.length + (docElemOf nm (.mk 3 text more n bits high b kids)).length ≤ 80000000) :
    Calls Tryz.prog 82 #[dv, .string nm, .agg cs.toArray] W (After fun v1 w1 => App (E := 5) W base dv (l ++ docElemOf nm (.mk 3 text more n bits high b kids)) v1 w1) := by
  have hv0 := hv
  simp only [RV] at hv
  obtain ⟨A, c, K', dd, rfl, hs, hd, hd2, hk⟩ := hv
  clear hd hd2 hk
  obtain ⟨o1, o2, o3, o4, o5, o6, o7, o8, o9⟩ := hok
  have R := right_facts hr
  have hsW := hs.keep hbl
  have hsep := sep_old HO hs hle
  have hne : some W.heap.size ≠ dv.ownBlock := fun e => by have := (HO.lt _ e.symm).2; omega

  have hdv : docElemOf nm (.mk 3 text more n bits high b kids) = hd 3 (bs nm) ++ docBytesOf kids := by
    have e : docValue (.mk 3 text more n bits high b kids) = docBytesOf kids := by simp [docValue, docBytesOf]
    show hd 3 (bs nm) ++ docValue (.mk 3 text more n bits high b kids) = _
    rw [e]
  rw [hdv] at hlen hl ⊢
  rw [List.length_append] at hlen hl
  have hs0 : nm.size ≤ 1000000 := by have := hd_len 3 nm; unfold bs at hlen; omega
  have hbl5 : (docBytesOf kids).length = (docElems kids).length + 5 := by unfold docBytesOf; simp [i32] <;> omega
  have HI : Hid (∀ wx : World, Below W.heap.size W wx → Calls Tryz.prog 37 #[.slice none 0 0, .agg #[.int .i64 3, .string text, .string more, .int .i64 n, .int .u64 bits, .int .u64 high, .slice A b.length c, .slice K' kids.length dd]] wx (After fun v1 w1 => App (E := 5) wx wx.heap.size (.slice none 0 0) (docBytesOf kids) v1 w1)) := Lib.hid fun wx hx => by
    have h := appKids3 N hE text more n bits high b kids _ 3 deep w0 wx wx.heap.size (.slice none 0 0) [] hw o9 (R.rk (.inl rfl)) (by omega) hv0 (hbl.trans (hx.mono hbl.size)) (by have := hbl.size; have := hx.size; omega) (OB.nil _ _) (Nat.le_refl _) (by simp; omega)
    simpa using h
  have HC : Hid (∀ (wx : World) (A1 : Option Addr) (c1 : Nat), Below W.heap.size W wx → SB wx A1 c1 (docBytesOf kids) → (∀ a, A1 = some a → W.heap.size ≤ a.block) → Calls Tryz.prog 155 #[dv, .string nm, .slice A1 (docBytesOf kids).length c1] wx (After fun v1 w1 => App (E := 5) wx base dv (l ++ (hd 3 (bs nm) ++ docBytesOf kids)) v1 w1)) := Lib.hid (fun wx A1 c1 (hx : Below W.heap.size W wx) h1 h2 => eDoc wx base dv l nm hp hs0 A1 c1 (docBytesOf kids) h1 (sep_newer HO h2) (by omega) (HO.keep hx) (by have := hx.size; omega) (by omega))
  obtain ⟨l9, hl9⟩ : ∃ x, x = l ++ (hd 3 (bs nm) ++ docBytesOf kids) := ⟨_, rfl⟩
  rw [← hl9] at HC ⊢
  clear hl9
  obtain ⟨L, hL⟩ : ∃ x, x = docBytesOf kids := ⟨_, rfl⟩
  rw [← hL] at HI HC
  have hB0 : Below W.heap.size W (W.alloc (.cells #[.int .i64 3, .string text, .string more, .int .i64 n, .int .u64 bits, .int .u64 high, .slice A b.length c, .slice K' kids.length dd] 45)) := balloc (Below.refl _ _) (Nat.le_refl _) _
  obtain ⟨xb, hxb⟩ : ∃ x, x = b.length := ⟨_, rfl⟩
  obtain ⟨xk, hxk⟩ : ∃ x, x = kids.length := ⟨_, rfl⟩
  rw [← hxb, ← hxk] at hB0 ⊢
  rw [← hxb, ← hxk] at HI
  clear hdv hs hsW hsep hne R o1 o2 o3 o4 o5 o6 o7 o8 o9 hv0 hE hw hr HO hbl hlen hl hxb hxk hbl5 hL hp
  go_enter Tryz.func82, Tryz.ntmps82
  go_wp2_with fail
  refine (HI.out _ hB0).mono ?_
  rintro e w1 ⟨v1, rfl, h⟩
  have ho := h.own
  obtain ⟨A1, c1, rfl, hs1, hn1⟩ := ho.sb
  have hb1 := bthen' hB0 h.fresh
  have HC1 := Lib.hid (HC.out w1 A1 c1 hb1 hs1 (fun a ha => by have := (hn1 a ha).1; simp at this; omega))
  have HB1 := Lib.hid hb1
  clear h ho hs1 hn1 hb1 HI HC
  go_wp2_with fail
  refine HC1.out.mono ?_
  rintro e w9 ⟨v9, rfl, h⟩
  have HE := Lib.hid (h.pre HB1.out)
  clear h HC1
  go_wp2_with fail
  go_ret
  exact ⟨v9, rfl, HE.out⟩
set_option maxHeartbeats 1600000 in
theorem elK4 (N : Nat) (hE : ElUpto N) (nm : ByteArray) (hp : plainB nm.data.toList = true) (text more : ByteArray) (n bits high : Int) (b : List UInt8) (kids : List (ByteArray × Val)) (cs : List Value) (deep : Int) (w0 W : World) (base : Nat) (dv : Value) (l : List UInt8) (hw : wt (.mk 4 text more n bits high b kids) < N + 1) (hok : okv (.mk 4 text more n bits high b kids)) (hr : right (.mk 4 text more n bits high b kids) deep = true)
    (hlen : (docElemOf nm (.mk 4 text more n bits high b kids)).length ≤ 900000) (hv : RV w0 (.mk 4 text more n bits high b kids) cs) (hbl : Below w0.heap.size w0 W) (hle : w0.heap.size ≤ base) (HO : OB 5 W base dv l) (hbase : base ≤ W.heap.size) (hl : l.length + (docElemOf nm (.mk 4 text more n bits high b kids)).length ≤ 80000000) :
    Calls Tryz.prog 82 #[dv, .string nm, .agg cs.toArray] W (After fun v1 w1 => App (E := 5) W base dv (l ++ docElemOf nm (.mk 4 text more n bits high b kids)) v1 w1) := by
  have hv0 := hv
  simp only [RV] at hv
  obtain ⟨A, c, K', dd, rfl, hs, hd, hd2, hk⟩ := hv
  clear hd hd2 hk
  obtain ⟨o1, o2, o3, o4, o5, o6, o7, o8, o9⟩ := hok
  have R := right_facts hr
  have hsW := hs.keep hbl
  have hsep := sep_old HO hs hle
  have hne : some W.heap.size ≠ dv.ownBlock := fun e => by have := (HO.lt _ e.symm).2; omega

  have hdv : docElemOf nm (.mk 4 text more n bits high b kids) = hd 4 (bs nm) ++ docBytesOf kids := by
    have e : docValue (.mk 4 text more n bits high b kids) = docBytesOf kids := by simp [docValue, docBytesOf]
    show hd 4 (bs nm) ++ docValue (.mk 4 text more n bits high b kids) = _
    rw [e]
  rw [hdv] at hlen hl ⊢
  rw [List.length_append] at hlen hl
  have hs0 : nm.size ≤ 1000000 := by have := hd_len 4 nm; unfold bs at hlen; omega
  have hbl5 : (docBytesOf kids).length = (docElems kids).length + 5 := by unfold docBytesOf; simp [i32] <;> omega
  have HI : Hid (∀ wx : World, Below W.heap.size W wx → Calls Tryz.prog 37 #[.slice none 0 0, .agg #[.int .i64 4, .string text, .string more, .int .i64 n, .int .u64 bits, .int .u64 high, .slice A b.length c, .slice K' kids.length dd]] wx (After fun v1 w1 => App (E := 5) wx wx.heap.size (.slice none 0 0) (docBytesOf kids) v1 w1)) := Lib.hid fun wx hx => by
    have h := appKids4 N hE text more n bits high b kids _ 4 deep w0 wx wx.heap.size (.slice none 0 0) [] hw o9 (R.rk (.inr (.inl rfl))) (by omega) hv0 (hbl.trans (hx.mono hbl.size)) (by have := hbl.size; have := hx.size; omega) (OB.nil _ _) (Nat.le_refl _) (by simp; omega)
    simpa using h
  have HC : Hid (∀ (wx : World) (A1 : Option Addr) (c1 : Nat), Below W.heap.size W wx → SB wx A1 c1 (docBytesOf kids) → (∀ a, A1 = some a → W.heap.size ≤ a.block) → Calls Tryz.prog 156 #[dv, .string nm, .slice A1 (docBytesOf kids).length c1] wx (After fun v1 w1 => App (E := 5) wx base dv (l ++ (hd 4 (bs nm) ++ docBytesOf kids)) v1 w1)) := Lib.hid (fun wx A1 c1 (hx : Below W.heap.size W wx) h1 h2 => eArr wx base dv l nm hp hs0 A1 c1 (docBytesOf kids) h1 (sep_newer HO h2) (by omega) (HO.keep hx) (by have := hx.size; omega) (by omega))
  obtain ⟨l9, hl9⟩ : ∃ x, x = l ++ (hd 4 (bs nm) ++ docBytesOf kids) := ⟨_, rfl⟩
  rw [← hl9] at HC ⊢
  clear hl9
  obtain ⟨L, hL⟩ : ∃ x, x = docBytesOf kids := ⟨_, rfl⟩
  rw [← hL] at HI HC
  have hB0 : Below W.heap.size W (W.alloc (.cells #[.int .i64 4, .string text, .string more, .int .i64 n, .int .u64 bits, .int .u64 high, .slice A b.length c, .slice K' kids.length dd] 45)) := balloc (Below.refl _ _) (Nat.le_refl _) _
  obtain ⟨xb, hxb⟩ : ∃ x, x = b.length := ⟨_, rfl⟩
  obtain ⟨xk, hxk⟩ : ∃ x, x = kids.length := ⟨_, rfl⟩
  rw [← hxb, ← hxk] at hB0 ⊢
  rw [← hxb, ← hxk] at HI
  clear hdv hs hsW hsep hne R o1 o2 o3 o4 o5 o6 o7 o8 o9 hv0 hE hw hr HO hbl hlen hl hxb hxk hbl5 hL hp
  go_enter Tryz.func82, Tryz.ntmps82
  go_wp2_with fail
  refine (HI.out _ hB0).mono ?_
  rintro e w1 ⟨v1, rfl, h⟩
  have ho := h.own
  obtain ⟨A1, c1, rfl, hs1, hn1⟩ := ho.sb
  have hb1 := bthen' hB0 h.fresh
  have HC1 := Lib.hid (HC.out w1 A1 c1 hb1 hs1 (fun a ha => by have := (hn1 a ha).1; simp at this; omega))
  have HB1 := Lib.hid hb1
  clear h ho hs1 hn1 hb1 HI HC
  go_wp2_with fail
  refine HC1.out.mono ?_
  rintro e w9 ⟨v9, rfl, h⟩
  have HE := Lib.hid (h.pre HB1.out)
  clear h HC1
  go_wp2_with fail
  go_ret
  exact ⟨v9, rfl, HE.out⟩
set_option maxHeartbeats 1600000 in
theorem elK6 (N : Nat) (hE : ElUpto N) (nm : ByteArray) (hp : plainB nm.data.toList = true) (text more : ByteArray) (n bits high : Int) (b : List UInt8) (kids : List (ByteArray × Val)) (cs : List Value) (deep : Int) (w0 W : World) (base : Nat) (dv : Value) (l : List UInt8) (hw : wt (.mk 6 text more n bits high b kids) < N + 1) (hok : okv (.mk 6 text more n bits high b kids)) (hr : right (.mk 6 text more n bits high b kids) deep = true)
    (hlen : (docElemOf nm (.mk 6 text more n bits high b kids)).length ≤ 900000) (hv : RV w0 (.mk 6 text more n bits high b kids) cs) (hbl : Below w0.heap.size w0 W) (hle : w0.heap.size ≤ base) (HO : OB 5 W base dv l) (hbase : base ≤ W.heap.size) (hl : l.length + (docElemOf nm (.mk 6 text more n bits high b kids)).length ≤ 80000000) :
    Calls Tryz.prog 82 #[dv, .string nm, .agg cs.toArray] W (After fun v1 w1 => App (E := 5) W base dv (l ++ docElemOf nm (.mk 6 text more n bits high b kids)) v1 w1) := by
  have hv0 := hv
  simp only [RV] at hv
  obtain ⟨A, c, K', dd, rfl, hs, hd, hd2, hk⟩ := hv
  clear hd hd2 hk
  obtain ⟨o1, o2, o3, o4, o5, o6, o7, o8, o9⟩ := hok
  have R := right_facts hr
  have hsW := hs.keep hbl
  have hsep := sep_old HO hs hle
  have hne : some W.heap.size ≠ dv.ownBlock := fun e => by have := (HO.lt _ e.symm).2; omega

  have hdv : docElemOf nm (.mk 6 text more n bits high b kids) = hd 6 (bs nm) ++ [] := by
    have e : docValue (.mk 6 text more n bits high b kids) = [] := by simp [docValue]
    show hd 6 (bs nm) ++ docValue (.mk 6 text more n bits high b kids) = _
    rw [e]
  rw [hdv] at hlen hl ⊢
  rw [List.length_append] at hlen hl
  have hs0 : nm.size ≤ 1000000 := by have := hd_len 6 nm; unfold bs at hlen; omega
  have HC : Hid (∀ wx : World, Below W.heap.size W wx → Calls Tryz.prog 158 #[dv, .string nm] wx (After fun v1 w1 => App (E := 5) wx base dv (l ++ (hd 6 (bs nm) ++ [])) v1 w1)) := Lib.hid (fun wx (hx : Below W.heap.size W wx) => by rw [List.append_nil]; exact eUnd wx base dv l nm hp hs0 (HO.keep hx) (by have := hx.size; omega) (by omega))
  obtain ⟨l9, hl9⟩ : ∃ x, x = l ++ (hd 6 (bs nm) ++ []) := ⟨_, rfl⟩
  rw [← hl9] at HC ⊢
  clear hl9
  have hB0 : Below W.heap.size W (W.alloc (.cells #[.int .i64 6, .string text, .string more, .int .i64 n, .int .u64 bits, .int .u64 high, .slice A b.length c, .slice K' kids.length dd] 45)) := balloc (Below.refl _ _) (Nat.le_refl _) _
  obtain ⟨xb, hxb⟩ : ∃ x, x = b.length := ⟨_, rfl⟩
  obtain ⟨xk, hxk⟩ : ∃ x, x = kids.length := ⟨_, rfl⟩
  rw [← hxb, ← hxk] at hB0 ⊢
  clear hdv hs hsW hsep hne R o1 o2 o3 o4 o5 o6 o7 o8 o9 hv0 hE hw hr HO hbl hlen hl hxb hxk hp
  go_enter Tryz.func82, Tryz.ntmps82
  go_wp2_with fail
  refine (HC.out _ hB0).mono ?_
  rintro e w1 ⟨v1, rfl, h⟩
  have HE := Lib.hid (h.pre hB0)
  clear h HC
  go_wp2_with fail
  go_ret
  exact ⟨v1, rfl, HE.out⟩
set_option maxHeartbeats 1600000 in
theorem elK10 (N : Nat) (hE : ElUpto N) (nm : ByteArray) (hp : plainB nm.data.toList = true) (text more : ByteArray) (n bits high : Int) (b : List UInt8) (kids : List (ByteArray × Val)) (cs : List Value) (deep : Int) (w0 W : World) (base : Nat) (dv : Value) (l : List UInt8) (hw : wt (.mk 10 text more n bits high b kids) < N + 1) (hok : okv (.mk 10 text more n bits high b kids)) (hr : right (.mk 10 text more n bits high b kids) deep = true)
    (hlen : (docElemOf nm (.mk 10 text more n bits high b kids)).length ≤ 900000) (hv : RV w0 (.mk 10 text more n bits high b kids) cs) (hbl : Below w0.heap.size w0 W) (hle : w0.heap.size ≤ base) (HO : OB 5 W base dv l) (hbase : base ≤ W.heap.size) (hl : l.length + (docElemOf nm (.mk 10 text more n bits high b kids)).length ≤ 80000000) :
    Calls Tryz.prog 82 #[dv, .string nm, .agg cs.toArray] W (After fun v1 w1 => App (E := 5) W base dv (l ++ docElemOf nm (.mk 10 text more n bits high b kids)) v1 w1) := by
  have hv0 := hv
  simp only [RV] at hv
  obtain ⟨A, c, K', dd, rfl, hs, hd, hd2, hk⟩ := hv
  clear hd hd2 hk
  obtain ⟨o1, o2, o3, o4, o5, o6, o7, o8, o9⟩ := hok
  have R := right_facts hr
  have hsW := hs.keep hbl
  have hsep := sep_old HO hs hle
  have hne : some W.heap.size ≠ dv.ownBlock := fun e => by have := (HO.lt _ e.symm).2; omega

  have hdv : docElemOf nm (.mk 10 text more n bits high b kids) = hd 10 (bs nm) ++ [] := by
    have e : docValue (.mk 10 text more n bits high b kids) = [] := by simp [docValue]
    show hd 10 (bs nm) ++ docValue (.mk 10 text more n bits high b kids) = _
    rw [e]
  rw [hdv] at hlen hl ⊢
  rw [List.length_append] at hlen hl
  have hs0 : nm.size ≤ 1000000 := by have := hd_len 10 nm; unfold bs at hlen; omega
  have HC : Hid (∀ wx : World, Below W.heap.size W wx → Calls Tryz.prog 162 #[dv, .string nm] wx (After fun v1 w1 => App (E := 5) wx base dv (l ++ (hd 10 (bs nm) ++ [])) v1 w1)) := Lib.hid (fun wx (hx : Below W.heap.size W wx) => by rw [List.append_nil]; exact eNull wx base dv l nm hp hs0 (HO.keep hx) (by have := hx.size; omega) (by omega))
  obtain ⟨l9, hl9⟩ : ∃ x, x = l ++ (hd 10 (bs nm) ++ []) := ⟨_, rfl⟩
  rw [← hl9] at HC ⊢
  clear hl9
  have hB0 : Below W.heap.size W (W.alloc (.cells #[.int .i64 10, .string text, .string more, .int .i64 n, .int .u64 bits, .int .u64 high, .slice A b.length c, .slice K' kids.length dd] 45)) := balloc (Below.refl _ _) (Nat.le_refl _) _
  obtain ⟨xb, hxb⟩ : ∃ x, x = b.length := ⟨_, rfl⟩
  obtain ⟨xk, hxk⟩ : ∃ x, x = kids.length := ⟨_, rfl⟩
  rw [← hxb, ← hxk] at hB0 ⊢
  clear hdv hs hsW hsep hne R o1 o2 o3 o4 o5 o6 o7 o8 o9 hv0 hE hw hr HO hbl hlen hl hxb hxk hp
  go_enter Tryz.func82, Tryz.ntmps82
  go_wp2_with fail
  refine (HC.out _ hB0).mono ?_
  rintro e w1 ⟨v1, rfl, h⟩
  have HE := Lib.hid (h.pre hB0)
  clear h HC
  go_wp2_with fail
  go_ret
  exact ⟨v1, rfl, HE.out⟩
set_option maxHeartbeats 1600000 in
theorem elK127 (N : Nat) (hE : ElUpto N) (nm : ByteArray) (hp : plainB nm.data.toList = true) (text more : ByteArray) (n bits high : Int) (b : List UInt8) (kids : List (ByteArray × Val)) (cs : List Value) (deep : Int) (w0 W : World) (base : Nat) (dv : Value) (l : List UInt8) (hw : wt (.mk 127 text more n bits high b kids) < N + 1) (hok : okv (.mk 127 text more n bits high b kids)) (hr : right (.mk 127 text more n bits high b kids) deep = true)
    (hlen : (docElemOf nm (.mk 127 text more n bits high b kids)).length ≤ 900000) (hv : RV w0 (.mk 127 text more n bits high b kids) cs) (hbl : Below w0.heap.size w0 W) (hle : w0.heap.size ≤ base) (HO : OB 5 W base dv l) (hbase : base ≤ W.heap.size) (hl : l.length + (docElemOf nm (.mk 127 text more n bits high b kids)).length ≤ 80000000) :
    Calls Tryz.prog 82 #[dv, .string nm, .agg cs.toArray] W (After fun v1 w1 => App (E := 5) W base dv (l ++ docElemOf nm (.mk 127 text more n bits high b kids)) v1 w1) := by
  have hv0 := hv
  simp only [RV] at hv
  obtain ⟨A, c, K', dd, rfl, hs, hd, hd2, hk⟩ := hv
  clear hd hd2 hk
  obtain ⟨o1, o2, o3, o4, o5, o6, o7, o8, o9⟩ := hok
  have R := right_facts hr
  have hsW := hs.keep hbl
  have hsep := sep_old HO hs hle
  have hne : some W.heap.size ≠ dv.ownBlock := fun e => by have := (HO.lt _ e.symm).2; omega

  have hdv : docElemOf nm (.mk 127 text more n bits high b kids) = hd 127 (bs nm) ++ [] := by
    have e : docValue (.mk 127 text more n bits high b kids) = [] := by simp [docValue]
    show hd 127 (bs nm) ++ docValue (.mk 127 text more n bits high b kids) = _
    rw [e]
  rw [hdv] at hlen hl ⊢
  rw [List.length_append] at hlen hl
  have hs0 : nm.size ≤ 1000000 := by have := hd_len 127 nm; unfold bs at hlen; omega
  have HC : Hid (∀ wx : World, Below W.heap.size W wx → Calls Tryz.prog 172 #[dv, .string nm] wx (After fun v1 w1 => App (E := 5) wx base dv (l ++ (hd 127 (bs nm) ++ [])) v1 w1)) := Lib.hid (fun wx (hx : Below W.heap.size W wx) => by rw [List.append_nil]; exact eMax wx base dv l nm hp hs0 (HO.keep hx) (by have := hx.size; omega) (by omega))
  obtain ⟨l9, hl9⟩ : ∃ x, x = l ++ (hd 127 (bs nm) ++ []) := ⟨_, rfl⟩
  rw [← hl9] at HC ⊢
  clear hl9
  have hB0 : Below W.heap.size W (W.alloc (.cells #[.int .i64 127, .string text, .string more, .int .i64 n, .int .u64 bits, .int .u64 high, .slice A b.length c, .slice K' kids.length dd] 45)) := balloc (Below.refl _ _) (Nat.le_refl _) _
  obtain ⟨xb, hxb⟩ : ∃ x, x = b.length := ⟨_, rfl⟩
  obtain ⟨xk, hxk⟩ : ∃ x, x = kids.length := ⟨_, rfl⟩
  rw [← hxb, ← hxk] at hB0 ⊢
  clear hdv hs hsW hsep hne R o1 o2 o3 o4 o5 o6 o7 o8 o9 hv0 hE hw hr HO hbl hlen hl hxb hxk hp
  go_enter Tryz.func82, Tryz.ntmps82
  go_wp2_with fail
  refine (HC.out _ hB0).mono ?_
  rintro e w1 ⟨v1, rfl, h⟩
  have HE := Lib.hid (h.pre hB0)
  clear h HC
  go_wp2_with fail
  go_ret
  exact ⟨v1, rfl, HE.out⟩
set_option maxHeartbeats 1600000 in
theorem elK255 (N : Nat) (hE : ElUpto N) (nm : ByteArray) (hp : plainB nm.data.toList = true) (text more : ByteArray) (n bits high : Int) (b : List UInt8) (kids : List (ByteArray × Val)) (cs : List Value) (deep : Int) (w0 W : World) (base : Nat) (dv : Value) (l : List UInt8) (hw : wt (.mk 255 text more n bits high b kids) < N + 1) (hok : okv (.mk 255 text more n bits high b kids)) (hr : right (.mk 255 text more n bits high b kids) deep = true)
    (hlen : (docElemOf nm (.mk 255 text more n bits high b kids)).length ≤ 900000) (hv : RV w0 (.mk 255 text more n bits high b kids) cs) (hbl : Below w0.heap.size w0 W) (hle : w0.heap.size ≤ base) (HO : OB 5 W base dv l) (hbase : base ≤ W.heap.size) (hl : l.length + (docElemOf nm (.mk 255 text more n bits high b kids)).length ≤ 80000000) :
    Calls Tryz.prog 82 #[dv, .string nm, .agg cs.toArray] W (After fun v1 w1 => App (E := 5) W base dv (l ++ docElemOf nm (.mk 255 text more n bits high b kids)) v1 w1) := by
  have hv0 := hv
  simp only [RV] at hv
  obtain ⟨A, c, K', dd, rfl, hs, hd, hd2, hk⟩ := hv
  clear hd hd2 hk
  obtain ⟨o1, o2, o3, o4, o5, o6, o7, o8, o9⟩ := hok
  have R := right_facts hr
  have hsW := hs.keep hbl
  have hsep := sep_old HO hs hle
  have hne : some W.heap.size ≠ dv.ownBlock := fun e => by have := (HO.lt _ e.symm).2; omega

  have hdv : docElemOf nm (.mk 255 text more n bits high b kids) = hd 255 (bs nm) ++ [] := by
    have e : docValue (.mk 255 text more n bits high b kids) = [] := by simp [docValue]
    show hd 255 (bs nm) ++ docValue (.mk 255 text more n bits high b kids) = _
    rw [e]
  rw [hdv] at hlen hl ⊢
  rw [List.length_append] at hlen hl
  have hs0 : nm.size ≤ 1000000 := by have := hd_len 255 nm; unfold bs at hlen; omega
  have HC : Hid (∀ wx : World, Below W.heap.size W wx → Calls Tryz.prog 173 #[dv, .string nm] wx (After fun v1 w1 => App (E := 5) wx base dv (l ++ (hd 255 (bs nm) ++ [])) v1 w1)) := Lib.hid (fun wx (hx : Below W.heap.size W wx) => by rw [List.append_nil]; exact eMin wx base dv l nm hp hs0 (HO.keep hx) (by have := hx.size; omega) (by omega))
  obtain ⟨l9, hl9⟩ : ∃ x, x = l ++ (hd 255 (bs nm) ++ []) := ⟨_, rfl⟩
  rw [← hl9] at HC ⊢
  clear hl9
  have hB0 : Below W.heap.size W (W.alloc (.cells #[.int .i64 255, .string text, .string more, .int .i64 n, .int .u64 bits, .int .u64 high, .slice A b.length c, .slice K' kids.length dd] 45)) := balloc (Below.refl _ _) (Nat.le_refl _) _
  obtain ⟨xb, hxb⟩ : ∃ x, x = b.length := ⟨_, rfl⟩
  obtain ⟨xk, hxk⟩ : ∃ x, x = kids.length := ⟨_, rfl⟩
  rw [← hxb, ← hxk] at hB0 ⊢
  clear hdv hs hsW hsep hne R o1 o2 o3 o4 o5 o6 o7 o8 o9 hv0 hE hw hr HO hbl hlen hl hxb hxk hp
  go_enter Tryz.func82, Tryz.ntmps82
  go_wp2_with fail
  refine (HC.out _ hB0).mono ?_
  rintro e w1 ⟨v1, rfl, h⟩
  have HE := Lib.hid (h.pre hB0)
  clear h HC
  go_wp2_with fail
  go_ret
  exact ⟨v1, rfl, HE.out⟩
theorem appStep (N : Nat) (hE : ElUpto N) : AppUpto (N + 1) := by
  intro v cs deep w0 W base dv l hw hok hr hlen hv hbl hle HO hbase hl
  obtain ⟨k, text, more, n, bits, high, b, kids⟩ := v
  by_cases k1 : k = 1
  · subst k1
    exact appK1 N hE text more n bits high b kids cs deep w0 W base dv l hw hok hr hlen hv hbl hle HO hbase hl
  by_cases k2 : k = 2
  · subst k2
    exact appK2 N hE text more n bits high b kids cs deep w0 W base dv l hw hok hr hlen hv hbl hle HO hbase hl
  by_cases k3 : k = 3
  · subst k3
    exact appK3 N hE text more n bits high b kids cs deep w0 W base dv l hw hok hr hlen hv hbl hle HO hbase hl
  by_cases k4 : k = 4
  · subst k4
    exact appK4 N hE text more n bits high b kids cs deep w0 W base dv l hw hok hr hlen hv hbl hle HO hbase hl
  by_cases k5 : k = 5
  · subst k5
    exact appK5 N hE text more n bits high b kids cs deep w0 W base dv l hw hok hr hlen hv hbl hle HO hbase hl
  by_cases k7 : k = 7
  · subst k7
    exact appK7 N hE text more n bits high b kids cs deep w0 W base dv l hw hok hr hlen hv hbl hle HO hbase hl
  by_cases k8 : k = 8
  · subst k8
    exact appK8 N hE text more n bits high b kids cs deep w0 W base dv l hw hok hr hlen hv hbl hle HO hbase hl
  by_cases k9 : k = 9
  · subst k9
    exact appK9 N hE text more n bits high b kids cs deep w0 W base dv l hw hok hr hlen hv hbl hle HO hbase hl
  by_cases k11 : k = 11
  · subst k11
    exact appK11 N hE text more n bits high b kids cs deep w0 W base dv l hw hok hr hlen hv hbl hle HO hbase hl
  by_cases k12 : k = 12
  · subst k12
    exact appK12 N hE text more n bits high b kids cs deep w0 W base dv l hw hok hr hlen hv hbl hle HO hbase hl
  by_cases k13 : k = 13
  · subst k13
    exact appK13 N hE text more n bits high b kids cs deep w0 W base dv l hw hok hr hlen hv hbl hle HO hbase hl
  by_cases k14 : k = 14
  · subst k14
    exact appK14 N hE text more n bits high b kids cs deep w0 W base dv l hw hok hr hlen hv hbl hle HO hbase hl
  by_cases k15 : k = 15
  · subst k15
    exact appK15 N hE text more n bits high b kids cs deep w0 W base dv l hw hok hr hlen hv hbl hle HO hbase hl
  by_cases k16 : k = 16
  · subst k16
    exact appK16 N hE text more n bits high b kids cs deep w0 W base dv l hw hok hr hlen hv hbl hle HO hbase hl
  by_cases k17 : k = 17
  · subst k17
    exact appK17 N hE text more n bits high b kids cs deep w0 W base dv l hw hok hr hlen hv hbl hle HO hbase hl
  by_cases k18 : k = 18
  · subst k18
    exact appK18 N hE text more n bits high b kids cs deep w0 W base dv l hw hok hr hlen hv hbl hle HO hbase hl
  by_cases k19 : k = 19
  · subst k19
    exact appK19 N hE text more n bits high b kids cs deep w0 W base dv l hw hok hr hlen hv hbl hle HO hbase hl
  exact appK0 k N hE text more n bits high b kids cs deep w0 W base dv l hw hok hr k1 k2 k3 k4 k5 k7 k8 k9 k11 k12 k13 k14 k15 k16 k17 k18 k19 hlen hv hbl hle HO hbase hl
theorem elStep (N : Nat) (hE : ElUpto N) : ElUpto (N + 1) := by
  intro nm v cs deep w0 W base dv l hw hp hok hr hlen hv hbl hle HO hbase hl
  obtain ⟨k, text, more, n, bits, high, b, kids⟩ := v
  by_cases k1 : k = 1
  · subst k1
    exact elK1 N hE nm hp text more n bits high b kids cs deep w0 W base dv l hw hok hr hlen hv hbl hle HO hbase hl
  by_cases k2 : k = 2
  · subst k2
    exact elK2 N hE nm hp text more n bits high b kids cs deep w0 W base dv l hw hok hr hlen hv hbl hle HO hbase hl
  by_cases k3 : k = 3
  · subst k3
    exact elK3 N hE nm hp text more n bits high b kids cs deep w0 W base dv l hw hok hr hlen hv hbl hle HO hbase hl
  by_cases k4 : k = 4
  · subst k4
    exact elK4 N hE nm hp text more n bits high b kids cs deep w0 W base dv l hw hok hr hlen hv hbl hle HO hbase hl
  by_cases k5 : k = 5
  · subst k5
    exact elK5 N hE nm hp text more n bits high b kids cs deep w0 W base dv l hw hok hr hlen hv hbl hle HO hbase hl
  by_cases k7 : k = 7
  · subst k7
    exact elK7 N hE nm hp text more n bits high b kids cs deep w0 W base dv l hw hok hr hlen hv hbl hle HO hbase hl
  by_cases k8 : k = 8
  · subst k8
    exact elK8 N hE nm hp text more n bits high b kids cs deep w0 W base dv l hw hok hr hlen hv hbl hle HO hbase hl
  by_cases k9 : k = 9
  · subst k9
    exact elK9 N hE nm hp text more n bits high b kids cs deep w0 W base dv l hw hok hr hlen hv hbl hle HO hbase hl
  by_cases k11 : k = 11
  · subst k11
    exact elK11 N hE nm hp text more n bits high b kids cs deep w0 W base dv l hw hok hr hlen hv hbl hle HO hbase hl
  by_cases k12 : k = 12
  · subst k12
    exact elK12 N hE nm hp text more n bits high b kids cs deep w0 W base dv l hw hok hr hlen hv hbl hle HO hbase hl
  by_cases k13 : k = 13
  · subst k13
    exact elK13 N hE nm hp text more n bits high b kids cs deep w0 W base dv l hw hok hr hlen hv hbl hle HO hbase hl
  by_cases k14 : k = 14
  · subst k14
    exact elK14 N hE nm hp text more n bits high b kids cs deep w0 W base dv l hw hok hr hlen hv hbl hle HO hbase hl
  by_cases k15 : k = 15
  · subst k15
    exact elK15 N hE nm hp text more n bits high b kids cs deep w0 W base dv l hw hok hr hlen hv hbl hle HO hbase hl
  by_cases k16 : k = 16
  · subst k16
    exact elK16 N hE nm hp text more n bits high b kids cs deep w0 W base dv l hw hok hr hlen hv hbl hle HO hbase hl
  by_cases k17 : k = 17
  · subst k17
    exact elK17 N hE nm hp text more n bits high b kids cs deep w0 W base dv l hw hok hr hlen hv hbl hle HO hbase hl
  by_cases k18 : k = 18
  · subst k18
    exact elK18 N hE nm hp text more n bits high b kids cs deep w0 W base dv l hw hok hr hlen hv hbl hle HO hbase hl
  by_cases k19 : k = 19
  · subst k19
    exact elK19 N hE nm hp text more n bits high b kids cs deep w0 W base dv l hw hok hr hlen hv hbl hle HO hbase hl
  by_cases k6 : k = 6
  · subst k6
    exact elK6 N hE nm hp text more n bits high b kids cs deep w0 W base dv l hw hok hr hlen hv hbl hle HO hbase hl
  by_cases k10 : k = 10
  · subst k10
    exact elK10 N hE nm hp text more n bits high b kids cs deep w0 W base dv l hw hok hr hlen hv hbl hle HO hbase hl
  by_cases k127 : k = 127
  · subst k127
    exact elK127 N hE nm hp text more n bits high b kids cs deep w0 W base dv l hw hok hr hlen hv hbl hle HO hbase hl
  by_cases k255 : k = 255
  · subst k255
    exact elK255 N hE nm hp text more n bits high b kids cs deep w0 W base dv l hw hok hr hlen hv hbl hle HO hbase hl
  exfalso
  have := (right_facts hr).kn
  omega
theorem elAll (N : Nat) : ElUpto N := by
  induction N with
  | zero => exact fun nm v cs deep w0 W base dv l hw => absurd hw (Nat.not_lt_zero _)
  | succ N ih => exact elStep N ih
/-- appended: a right value behind bytes of the call's own. -/
theorem appendedC (v : Val) (cs : List Value) (deep : Int) (w0 W : World) (base : Nat) (dv : Value) (l : List UInt8) (hok : okv v) (hr : right v deep = true) (hlen : (docValue v).length ≤ 900000) (hv : RV w0 v cs) (hbl : Below w0.heap.size w0 W) (hle : w0.heap.size ≤ base)
    (HO : OB 5 W base dv l) (hbase : base ≤ W.heap.size) (hl : l.length + (docValue v).length ≤ 80000000) : Calls Tryz.prog 37 #[dv, .agg cs.toArray] W (After fun v1 w1 => App (E := 5) W base dv (l ++ docValue v) v1 w1) :=
  appStep (wt v) (elAll _) v cs deep w0 W base dv l (Nat.lt_succ_self _) hok hr hlen hv hbl hle HO hbase hl
end Ap
end Go.Proofs.YtohfgfbfohkkkaaGreatDoor.X
