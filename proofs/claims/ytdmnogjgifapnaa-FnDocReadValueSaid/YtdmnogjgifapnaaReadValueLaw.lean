/- Walk of the law FnDocReadValue. -/
import Derived.Test.YtdmnogjgifapnaaImplRv
import Derived.Test.YtdmnogjgifapnaaValLen
import Derived.Test.YtdmnogjgifapnaaOpen
set_option linter.unusedVariables false
set_option linter.unusedSimpArgs false
namespace Go.Proofs.Ytdmnogjgifapnaa.X
open Go.RowKit Go.Proofs.YtdmnogjgifapnaaW.PrintLast
def R4.T6 : Bool × List (List Nat × List Nat) := (true, [([], []), ([0], [0]), ([], []), ([2], [2]), ([], []), ([3, 4, 3], [3, 4]), ([1, 5, 5], [1, 5]), ([6], [6]), ([7], [7]), ([7], [7]), ([7], [7]), ([], []), ([11, 8, 6, 0, 1, 2, 3, 4, 5, 6, 7, 8, 11], [8, 11]), ([9, 12, 0, 1, 2, 3, 4, 5, 6, 7, 8, 9, 11, 12], [9]), ([10, 13, 0, 1, 2, 3, 4, 5, 6, 7, 8, 9, 10, 11, 12, 13], [10])])
def R4.B6 : List Nat := [0, 1, 0, 4, 0, 28, 63, 127, 255, 255, 255, 0, 2559, 7167, 16383]
theorem R4.tab6 : rtab .any (opsOf Try.f4 6) = R4.T6 := by kernel_rfl
theorem R4.bits6 : waitsOk R4.T6.2 R4.B6 = true := by kernel_rfl
def R4.T9 : Bool × List (List Nat × List Nat) := (true, [([], []), ([0], [0]), ([], []), ([1, 2, 1], [1, 2]), ([], []), ([4], [4]), ([3, 5, 3], [3, 5]), ([6], [6]), ([7], [7]), ([7], [7]), ([8, 6, 0, 1, 2, 3, 4, 5, 6, 7, 8], [8]), ([9, 10, 0, 1, 2, 3, 4, 5, 6, 7, 8, 9, 10], [9])])
def R4.B9 : List Nat := [0, 1, 0, 7, 0, 16, 63, 127, 255, 255, 511, 2047]
theorem R4.tab9 : rtab .any (opsOf Try.f4 9) = R4.T9 := by kernel_rfl
theorem R4.bits9 : waitsOk R4.T9.2 R4.B9 = true := by kernel_rfl
theorem fits_some (v : Val) (cs : List Value) (wx : World) (hv : RV wx v cs) : ∃ q : Bool, Calls Try.prog 6 #[.agg cs.toArray] wx fun e w' => e = .returned (.bool q) ∧ Below wx.heap.size wx w' := by
  by_cases h : v.text.size ≤ 2147483647 ∧ v.more.size ≤ 2147483647 ∧ v.b.length ≤ 2147483647 ∧ v.kids.length ≤ 2147483647
  · exact ⟨true, zzFits1 v _ wx hv h⟩
  · exact ⟨false, zzFits1_not v _ wx hv h⟩
/-- What a value and what is left are, read into variables one of which was laid in between. -/
structure Rf (wR : World) (bl rest : List UInt8) (A1 : Option Addr) (c1 : Nat) (A2 : Option Addr) (c2 g : Nat) (w' : World) : Prop where
  s1 : SB w' A1 c1 bl
  s2 : SB w' A2 c2 rest
  n1 : 0 < bl.length → ∀ a, A1 = some a → a.block ≠ g
  n2 : 0 < rest.length → ∀ a, A2 = some a → a.block ≠ g
  c0 : w'.cell? ⟨g, 0, none⟩ = some (.int .i64 0)
  k1 : w'.cell? ⟨g, 1, none⟩ = some (.slice none 0 0)
  f0 : w'.frozen? ⟨g, 0, none⟩ = false
  f1 : w'.frozen? ⟨g, 1, none⟩ = false
  ge : wR.heap.size ≤ g
  lt : g < w'.heap.size
  below : Below wR.heap.size wR w'
theorem Rf.of_block {wR w' : World} {g : Nat} {bl rest : List UInt8} {A1 A2 : Option Addr} {c1 c2 : Nat} {T : TypeId} (hblk : w'.heap[g]? = some (.cells #[.int .i64 0, .slice none 0 0] T (0, 0))) (hge : wR.heap.size ≤ g) (hb : Below wR.heap.size wR w') (h1 : SB w' A1 c1 bl) (h2 : SB w' A2 c2 rest)
    (hn1 : 0 < bl.length → ∀ a, A1 = some a → a.block ≠ g) (hn2 : 0 < rest.length → ∀ a, A2 = some a → a.block ≠ g) : Rf wR bl rest A1 c1 A2 c2 g w' where
  s1 := h1
  s2 := h2
  n1 := hn1
  n2 := hn2
  c0 := by simp [World.cell?, hblk]
  k1 := by simp [World.cell?, hblk]
  f0 := by simp [World.frozen?, hblk]
  f1 := by simp [World.frozen?, hblk]
  ge := hge
  lt := (Array.getElem?_eq_some_iff.1 hblk).1
  below := hb

theorem Rf.stored {wR w' : World} {g : Nat} {bl rest : List UInt8} {A1 A2 : Option Addr} {c1 c2 : Nat} (h : Rf wR bl rest A1 c1 A2 c2 g w') (x y : Value) (w7 : World) (hw : w7 = (w'.setCell ⟨g, 0, none⟩ x).setCell ⟨g, 1, none⟩ y) :
    w7.cell? ⟨g, 0, none⟩ = some x ∧ w7.cell? ⟨g, 1, none⟩ = some y ∧ SB w7 A1 c1 bl ∧ SB w7 A2 c2 rest ∧ g < w7.heap.size ∧ Below wR.heap.size wR w7 := by
  subst hw
  have e : (⟨g, 0, none⟩ : Addr) ≠ ⟨g, 1, none⟩ := by simp
  have e' : (⟨g, 1, none⟩ : Addr) ≠ ⟨g, 0, none⟩ := by simp
  refine ⟨?_, ?_, (h.s1.far2 h.n1 _).far2 h.n1 _, (h.s2.far2 h.n2 _).far2 h.n2 _, ?_, (h.below.setCell h.ge _).setCell h.ge _⟩
  · rw [World.cell?_setCell_other _ _ _ _ e']; exact World.cell?_setCell_same _ _ _ h.c0
  · exact World.cell?_setCell_same (u := .slice none 0 0) _ _ _ (by rw [World.cell?_setCell_other _ _ _ _ e]; exact h.k1)
  · simpa [World.setCell] using h.lt

set_option maxRecDepth 100000 in
set_option maxHeartbeats 32000000 in
theorem fnDocReadValue_walk (name : ByteArray) (v : Val) (cs : List Value) (B : Option Addr) (e0 : Nat) (rest : List UInt8) (w : World) (hn1 : name.size ≤ 140737488351232) (hok : okv v) (hv : RV w v cs) (ht : SB w B e0 rest) (hm : rest.length ≤ 140737488351232) :
    Calls Try.prog 4 #[.string name, .agg cs.toArray, .slice B rest.length e0] w fun e w' => e = .returned (.bool true) ∧ Below w.heap.size w w' := by
  have HV := Lib.hid hv
  obtain ⟨v0, hv00⟩ : ∃ x, x = v := ⟨_, rfl⟩
  rw [← hv00] at HV hok
  obtain ⟨k, text, more, n, bits, high, b, kids⟩ := v
  simp only [RV] at hv
  obtain ⟨A, c, K', d, rfl, hs, hdd, hd2, hk⟩ := hv
  have ek : v0.kind = k := by rw [hv00]; rfl
  clear hk hv00 hs
  have HF : Hid (∀ wx : World, Below w.heap.size w wx → ∃ q : Bool, Calls Try.prog 6 #[.agg #[.int .i64 k, .string text, .string more, .int .i64 n, .int .u64 bits, .int .u64 high, .slice A b.length c, .slice K' kids.length d]] wx fun e w' => e = .returned (.bool q) ∧ Below wx.heap.size wx w') := Lib.hid fun wx hb => fits_some v0 _ wx (HV.out.keep hb)
  have HR : Hid (∀ wx : World, Below w.heap.size w wx → Calls Try.prog 8 #[.agg #[.int .i64 k, .string text, .string more, .int .i64 n, .int .u64 bits, .int .u64 high, .slice A b.length c, .slice K' kids.length d]] wx fun e w' => e = .returned (.bool (fine v0 300 5000)) ∧ Below wx.heap.size wx w') := Lib.hid fun wx hb => docFine v0 _ wx hok (HV.out.keep hb)
  have HT := Lib.hid ht
  clear ht hok
  have hB0 : Below w.heap.size w (w.alloc (.cells #[.int .i64 k, .string text, .string more, .int .i64 n, .int .u64 bits, .int .u64 high, .slice A b.length c, .slice K' kids.length d] 29)) := balloc (Below.refl _ _) (Nat.le_refl _) _
  obtain ⟨f, hf⟩ : ∃ f, fine v0 300 5000 = f := ⟨_, rfl⟩
  rw [hf] at HR
  obtain ⟨p1, hp1⟩ : ∃ f, plainB name.data.toList = f := ⟨_, rfl⟩
  by_cases a1 : (name.size : Int) > 2147483647
  · skip
    go_enter Try.func4, Try.ntmps4
    go_wp2_with fail
    go_ret
    exact ⟨rfl, hB0⟩
  obtain ⟨q, hq⟩ := HF.out _ hB0
  cases q with
  | false =>
    go_enter Try.func4, Try.ntmps4
    go_wp2_with fail
    refine hq.mono ?_
    rintro e w1 ⟨rfl, hb1⟩
    replace hb1 := hb1.mono (B' := w.heap.size + 1) (by simp)
    have hz1 := boxs hb1
    have q0 := boxc hb1 0
    have q1 := boxc hb1 1
    have q2 := boxc hb1 2
    have q3 := boxc hb1 3
    have q4 := boxc hb1 4
    have q5 := boxc hb1 5
    have q6 := boxc hb1 6
    have q7 := boxc hb1 7
    simp only [List.getElem?_cons_succ, List.getElem?_cons_zero] at q0 q1 q2 q3 q4 q5 q6 q7
    go_wp2_with fail
    go_ret
    exact ⟨rfl, boxb hb1⟩
  | true =>
  by_cases a2 : (rest.length : Int) > 2147483647
  · skip
    go_enter Try.func4, Try.ntmps4
    go_wp2_with fail
    refine hq.mono ?_
    rintro e w1 ⟨rfl, hb1⟩
    replace hb1 := hb1.mono (B' := w.heap.size + 1) (by simp)
    have hz1 := boxs hb1
    have q0 := boxc hb1 0
    have q1 := boxc hb1 1
    have q2 := boxc hb1 2
    have q3 := boxc hb1 3
    have q4 := boxc hb1 4
    have q5 := boxc hb1 5
    have q6 := boxc hb1 6
    have q7 := boxc hb1 7
    simp only [List.getElem?_cons_succ, List.getElem?_cons_zero] at q0 q1 q2 q3 q4 q5 q6 q7
    go_wp2_with fail
    go_ret
    exact ⟨rfl, boxb hb1⟩
  by_cases a3 : (rest.length : Int) > 1000
  · skip
    go_enter Try.func4, Try.ntmps4
    go_wp2_with fail
    refine hq.mono ?_
    rintro e w1 ⟨rfl, hb1⟩
    replace hb1 := hb1.mono (B' := w.heap.size + 1) (by simp)
    have hz1 := boxs hb1
    have q0 := boxc hb1 0
    have q1 := boxc hb1 1
    have q2 := boxc hb1 2
    have q3 := boxc hb1 3
    have q4 := boxc hb1 4
    have q5 := boxc hb1 5
    have q6 := boxc hb1 6
    have q7 := boxc hb1 7
    simp only [List.getElem?_cons_succ, List.getElem?_cons_zero] at q0 q1 q2 q3 q4 q5 q6 q7
    go_wp2_with fail
    go_ret
    exact ⟨rfl, boxb hb1⟩
  by_cases a4 : (name.size : Int) > 200
  · skip
    go_enter Try.func4, Try.ntmps4
    go_wp2_with fail
    refine hq.mono ?_
    rintro e w1 ⟨rfl, hb1⟩
    replace hb1 := hb1.mono (B' := w.heap.size + 1) (by simp)
    have hz1 := boxs hb1
    have q0 := boxc hb1 0
    have q1 := boxc hb1 1
    have q2 := boxc hb1 2
    have q3 := boxc hb1 3
    have q4 := boxc hb1 4
    have q5 := boxc hb1 5
    have q6 := boxc hb1 6
    have q7 := boxc hb1 7
    simp only [List.getElem?_cons_succ, List.getElem?_cons_zero] at q0 q1 q2 q3 q4 q5 q6 q7
    go_wp2_with fail
    go_ret
    exact ⟨rfl, boxb hb1⟩
  cases p1 with
  | false =>
    go_enter Try.func4, Try.ntmps4
    go_wp2_with fail
    refine hq.mono ?_
    rintro e w1 ⟨rfl, hb1⟩
    replace hb1 := hb1.mono (B' := w.heap.size + 1) (by simp)
    have hz1 := boxs hb1
    have q0 := boxc hb1 0
    have q1 := boxc hb1 1
    have q2 := boxc hb1 2
    have q3 := boxc hb1 3
    have q4 := boxc hb1 4
    have q5 := boxc hb1 5
    have q6 := boxc hb1 6
    have q7 := boxc hb1 7
    simp only [List.getElem?_cons_succ, List.getElem?_cons_zero] at q0 q1 q2 q3 q4 q5 q6 q7
    go_wp2_with fail
    refine (docPlain name _ (by omega)).mono ?_
    rintro e w2 ⟨rfl, rfl⟩
    rw [hp1]
    go_wp2_with fail
    go_ret
    exact ⟨rfl, boxb hb1⟩
  | true =>
  cases f with
  | false =>
    go_enter Try.func4, Try.ntmps4
    go_wp2_with fail
    refine hq.mono ?_
    rintro e w1 ⟨rfl, hb1⟩
    replace hb1 := hb1.mono (B' := w.heap.size + 1) (by simp)
    have hz1 := boxs hb1
    have q0 := boxc hb1 0
    have q1 := boxc hb1 1
    have q2 := boxc hb1 2
    have q3 := boxc hb1 3
    have q4 := boxc hb1 4
    have q5 := boxc hb1 5
    have q6 := boxc hb1 6
    have q7 := boxc hb1 7
    simp only [List.getElem?_cons_succ, List.getElem?_cons_zero] at q0 q1 q2 q3 q4 q5 q6 q7
    go_wp2_with fail
    refine (docPlain name _ (by omega)).mono ?_
    rintro e w2 ⟨rfl, rfl⟩
    rw [hp1]
    go_wp2_with fail
    refine (HR.out _ (boxb hb1)).mono ?_
    rintro e w3 ⟨rfl, hb3⟩
    replace hb3 := bstep hb1 hz1 hb3
    have hz3 := boxs hb3
    have p0 := boxc hb3 0
    have p1 := boxc hb3 1
    have p2 := boxc hb3 2
    have p3 := boxc hb3 3
    have p4 := boxc hb3 4
    have p5 := boxc hb3 5
    have p6 := boxc hb3 6
    have p7 := boxc hb3 7
    simp only [List.getElem?_cons_succ, List.getElem?_cons_zero] at p0 p1 p2 p3 p4 p5 p6 p7
    go_wp2_with fail
    go_ret
    exact ⟨rfl, boxb hb3⟩
  | true =>
    obtain ⟨bl, hbl⟩ : ∃ x, x = docValue v0 := ⟨_, rfl⟩
    obtain ⟨el, hel⟩ : ∃ x, x = docElemOf name v0 := ⟨_, rfl⟩
    have hfl := fine_value hf (by omega) (by omega) (by omega)
    have hright := (fine_len hf (by omega)).2.2
    have hkk : 0 ≤ k ∧ k ≤ 255 := by
      obtain ⟨k9, t9, m9, n9, bi9, hi9, b9, ks9⟩ := v0
      have hk9 : known k9 = true := by simp only [right, Bool.and_eq_true] at hright; exact hright.1.1.1
      simp only [known, decide_eq_true_eq] at hk9
      have : k9 = k := ek
      omega
    have hnl : name.data.toList.length = name.size := by rw [Array.length_toList]; rfl
    have e1 : el = ub k :: (name.data.toList ++ 0 :: bl) := by rw [hel, hbl]; simp [docElemOf, hd, bs, ek]
    have hvl : ∀ r, valLen k (bl ++ r) = ((bl.length : Int), true) := fun r => by rw [hbl, ← ek]; exact valLen_doc v0 200 hright (by omega) r
    have hblen : bl.length ≤ 3205000 := by rw [hbl]; omega
    have hkub : ((ub k).toNat : Int) = k := by rw [ub_toNat]; omega
    have hellen : el.length = name.size + 2 + bl.length := by rw [e1]; simp [hnl]; omega
    have helb : el.length ≤ 3300000 := by omega
    have HEL : Hid (∀ wx : World, Below w.heap.size w wx → Calls Try.prog 12 #[.agg #[.string name, .int .i64 k, .string text, .string more, .int .i64 n, .int .u64 bits, .int .u64 high, .slice A b.length c, .slice K' kids.length d]] wx fun e w' => ∃ A1 c1, e = .returned (.slice A1 el.length c1) ∧ SB w' A1 c1 el ∧ Below wx.heap.size wx w') := Lib.hid fun wx hb => by
      refine (docElem_calls name v0 _ _ _ _ _ _ _ _ wx (by rw [← hel]; omega) (HV.out.keep hb)).mono ?_
      rintro e w' ⟨v1, rfl, ho, hb1⟩
      rw [← hel] at ho
      obtain ⟨A1, c1, rfl, hs1, -⟩ := ho.sb
      exact ⟨A1, c1, rfl, hs1, hb1⟩
    have HVA : Hid (∀ wx : World, Below w.heap.size w wx → Calls Try.prog 9 #[.agg #[.int .i64 k, .string text, .string more, .int .i64 n, .int .u64 bits, .int .u64 high, .slice A b.length c, .slice K' kids.length d]] wx fun e w' => ∃ A1 c1, e = .returned (.slice A1 bl.length c1) ∧ SB w' A1 c1 bl ∧ Below wx.heap.size wx w') := Lib.hid fun wx hb => by
      refine (docValue_calls v0 _ wx (by omega) (HV.out.keep hb)).mono ?_
      rintro e w' ⟨v1, rfl, ho, hb1⟩
      rw [← hbl] at ho
      obtain ⟨A1, c1, rfl, hs1, -⟩ := ho.sb
      exact ⟨A1, c1, rfl, hs1, hb1⟩
    have HCP : ∀ (l : List UInt8), l.length ≤ 4000000 → ∀ A c wx, SB wx A c l → Calls Try.prog 11 #[.slice A l.length c] wx fun e w' => ∃ v1, e = .returned v1 ∧ OB 5 w' wx.heap.size v1 l ∧ Below wx.heap.size wx w' := fun l hl A c wx h => docCopy A c l wx h (by omega)
    have HCB := Lib.hid (HCP bl (by omega))
    have HCE := Lib.hid (HCP el (by omega))
    obtain ⟨q, hq2⟩ : ∃ q, q = (bl ++ rest).length := ⟨_, rfl⟩
    obtain ⟨q2, hq3⟩ : ∃ q, q = (el ++ rest).length := ⟨_, rfl⟩
    have HIV : Hid (∀ A c wx, SB wx A c (bl ++ rest) → Calls Try.prog 10 #[.int .i64 k, .slice A q c] wx fun e w' => ∃ A1 c1 A2 c2, e = .returned (.tuple #[.agg #[.int .i64 k, .slice A1 bl.length c1], .slice A2 rest.length c2, .bool true]) ∧ SB w' A1 c1 bl ∧ SB w' A2 c2 rest ∧ (∀ a, A1 = some a → wx.heap.size ≤ a.block) ∧ (∀ a, A2 = some a → wx.heap.size ≤ a.block) ∧ Below wx.heap.size wx w') := Lib.hid fun A c wx h => by
      have hh := implReadValue A c (bl ++ rest) k bl.length wx h hkk.1 hkk.2 (hvl rest) (by simp) (by simp; omega)
      rw [← hq2, List.take_left, List.drop_left, show q - bl.length = rest.length from by rw [hq2]; simp] at hh
      exact hh
    have HVL : Hid (∀ A c wx, SB wx A c (bl ++ rest) → Calls Try.prog 14 #[.slice A q c, .int .i64 k] wx fun e w' => e = .returned (.tuple #[.int .i64 (bl.length : Int), .bool true]) ∧ Below wx.heap.size wx w') := Lib.hid fun A c wx h => by
      have hh := implValueLength A c (bl ++ rest) k bl.length wx h hkk.1 hkk.2 (hvl rest)
      rw [← hq2] at hh
      exact hh
    have HIE : Hid (∀ A c wx, SB wx A c (el ++ rest) → Calls Try.prog 13 #[.slice A q2 c] wx fun e w' => ∃ A1 c1 A2 c2, e = .returned (.tuple #[.slice A1 el.length c1, .slice A2 rest.length c2, .bool true]) ∧ SB w' A1 c1 el ∧ SB w' A2 c2 rest ∧ Below wx.heap.size wx w') := Lib.hid fun A c wx h => by
      have e2 : el ++ rest = ub k :: (name.data.toList ++ 0 :: (bl ++ rest)) := by rw [e1]; simp
      rw [e2] at h
      have hh := implReadElement A c (ub k) name.data.toList (bl ++ rest) bl.length wx h (plain_ne hp1) (by rw [hkub]; exact hvl rest) (by simp) (by simp [hnl]; omega)
      rw [← e2, ← hq3, List.take_left, List.drop_left, ← e1, hnl, ← hellen, show (bl ++ rest).length - bl.length = rest.length from by simp] at hh
      exact hh
    have HSR : Hid (∀ (A B : Option Addr) (c d : Nat) (wx : World), SB wx A c bl → SB wx B d bl → Calls Try.prog 15 #[.agg #[.int .i64 k, .slice A bl.length c], .int .i64 k, .slice B bl.length d] wx fun e w' => e = .returned (.bool true) ∧ Below wx.heap.size wx w') := Lib.hid fun A B c d wx h1 h2 => docSameRaw_same A B c d bl k wx h1 h2
    have HQ2 := Lib.hid hq2
    have HQ3 := Lib.hid hq3
    clear hq2 hq3 HV hbl hel hfl hright hkk e1 hvl hkub hnl HCP hellen hf ek
    go_enter Try.func4, Try.ntmps4
    go_wp2_with fail
    refine hq.mono ?_
    rintro e w1 ⟨rfl, hb1⟩
    replace hb1 := hb1.mono (B' := w.heap.size + 1) (by simp)
    have hz1 := boxs hb1
    have q0 := boxc hb1 0
    have q1 := boxc hb1 1
    have q2 := boxc hb1 2
    have q3 := boxc hb1 3
    have q4 := boxc hb1 4
    have q5 := boxc hb1 5
    have q6 := boxc hb1 6
    have q7 := boxc hb1 7
    simp only [List.getElem?_cons_succ, List.getElem?_cons_zero] at q0 q1 q2 q3 q4 q5 q6 q7
    go_wp2_with fail
    refine (docPlain name _ (by omega)).mono ?_
    rintro e w2 ⟨rfl, rfl⟩
    rw [hp1]
    go_wp2_with fail
    refine (HR.out _ (boxb hb1)).mono ?_
    rintro e w3 ⟨rfl, hb3⟩
    replace hb3 := bstep hb1 hz1 hb3
    have hz3 := boxs hb3
    have p0 := boxc hb3 0
    have p1 := boxc hb3 1
    have p2 := boxc hb3 2
    have p3 := boxc hb3 3
    have p4 := boxc hb3 4
    have p5 := boxc hb3 5
    have p6 := boxc hb3 6
    have p7 := boxc hb3 7
    simp only [List.getElem?_cons_succ, List.getElem?_cons_zero] at p0 p1 p2 p3 p4 p5 p6 p7
    go_wp2_with fail
    refine (HVA.out _ (boxb hb3)).mono ?_
    rintro e w4 ⟨A3, c3, rfl, hs3, hb4⟩
    have hb4' := bstep hb3 hz3 hb4
    have hz4 := boxs hb4'
    have HB4 := Lib.hid (boxb hb4')
    have HS3 := Lib.hid hs3
    have r0 := boxc hb4' 0
    have r1 := boxc hb4' 1
    have r2 := boxc hb4' 2
    have r3 := boxc hb4' 3
    have r4 := boxc hb4' 4
    have r5 := boxc hb4' 5
    have r6 := boxc hb4' 6
    have r7 := boxc hb4' 7
    simp only [List.getElem?_cons_succ, List.getElem?_cons_zero] at r0 r1 r2 r3 r4 r5 r6 r7
    have HX4 := Lib.hid hb4'
    clear hb1 hz1 hb3 hb4 hb4' hs3 hq hB0 HF HR HVA q0 p0 q1 p1 q2 p2 q3 p3 q4 p4 q5 p5 q6 p6 q7 p7 hz3
    go_wp2_with fail
    refine start_ (n := 15) (S := fun w' => w'.cell? ⟨w.heap.size, 0, none⟩ = some (.int .i64 k)) (ds := [12]) #[false, false, false, false, false, false, false, false, false, false, false, false, false, false, false] (by kernel_rfl) rfl rfl ((by go_simp)) (fun hHeld => ?_)
    refine with_tabW R4.tab6 R4.bits6 (fun HT_ HW_ => ?_)
    refine pure_ (i := 0) (N := some 51) (v := ?_) (a' := ?_) #[true, false, false, false, false, false, false, false, false, false, false, false, false, false, false] rfl rfl (any_of HT_.out (by kernel_rfl)) (fun _ _ _ h => h) (Or.inl ⟨by rfl, ?_⟩) ?_ ?_
    rotate_left
    · intro w'
      go_simp
      with_reducible rfl
    rotate_left
    · simp only [Act.put, List.setIfInBounds_toArray, List.set_cons_zero, List.set_cons_succ, i64_w, i32_w]
      rfl
    refine pure_ (i := 2) (N := some 53) (v := ?_) (a' := ?_) #[true, false, true, false, false, false, false, false, false, false, false, false, false, false, false] rfl rfl (any_of HT_.out (by kernel_rfl)) (fun _ _ _ h => h) (Or.inl ⟨by rfl, ?_⟩) ?_ ?_
    rotate_left
    · intro w'
      go_simp
      with_reducible rfl
    rotate_left
    · simp only [Act.put, List.setIfInBounds_toArray, List.set_cons_zero, List.set_cons_succ, i64_w, i32_w]
      rfl
    refine pure_ (i := 4) (N := some 55) (v := ?_) (a' := ?_) #[true, false, true, false, true, false, false, false, false, false, false, false, false, false, false] rfl rfl (any_of HT_.out (by kernel_rfl)) (fun _ _ _ h => h) (Or.inl ⟨by rfl, ?_⟩) ?_ ?_
    rotate_left
    · intro w'
      go_simp
      with_reducible rfl
    rotate_left
    · simp only [Act.put, List.setIfInBounds_toArray, List.set_cons_zero, List.set_cons_succ, i64_w, i32_w]
      rfl
    refine take_ (i := 1) (N := some 52) (v := ?_) (a' := ?_) #[true, true, true, false, true, false, false, false, false, false, false, false, false, false, false] rfl rfl (take_ofW HT_.out HW_.out (by kernel_rfl)) (fun _ _ _ h => h) (Or.inl ⟨by rfl, ?_⟩) hHeld ?_ ?_
    rotate_left
    · intro w' s0
      go_simp
      with_reducible rfl
    rotate_left
    · simp only [Act.put, List.setIfInBounds_toArray, List.set_cons_zero, List.set_cons_succ, i64_w, i32_w]
      rfl
    refine join_ (σ := Value × Value × Option Addr × Nat × Option Addr × Nat × Nat) 3 #[true, true, true, true, true, true, true, true, true, true, true, true, false, false, false] (fun s => [(54, s.1), (56, s.2.1), (57, .tuple #[.agg #[.int .i64 k, .slice s.2.2.1 bl.length s.2.2.2.1], .slice s.2.2.2.2.1 rest.length s.2.2.2.2.2.1, .bool true]), (50, .tuple #[.agg #[.int .i64 k, .slice s.2.2.1 bl.length s.2.2.2.1], .slice s.2.2.2.2.1 rest.length s.2.2.2.2.2.1, .bool true]), (58, .agg #[.int .i64 k, .slice s.2.2.1 bl.length s.2.2.2.1]), (59, .slice s.2.2.2.2.1 rest.length s.2.2.2.2.2.1), (60, .bool true), (8, .pointer (some ⟨s.2.2.2.2.2.2, 0, none⟩))]) (fun s w' => Rf w4 bl rest s.2.2.1 s.2.2.2.1 s.2.2.2.2.1 s.2.2.2.2.2.1 s.2.2.2.2.2.2 w' ∧ w'.cell? ⟨w.heap.size, 0, none⟩ = some (.int .i64 k)) ?_ ?_
    rotate_left
    · intro hCont
      refine two_ (i := 3) (j := 11) (Ni := some 54) (Nj := some 8) #[true, true, true, true, true, false, false, false, false, false, false, false, false, false, false] #[true, true, true, false, true, false, false, false, false, false, false, true, false, false, false] rfl rfl rfl rfl (two_of HT_.out (by kernel_rfl)) (by decide) (by decide) (fun K hK => ?_) (fun K hK => ?_)
      · skip
        refine goes_ Try.func11 (by kernel_rfl) rfl #[.slice A3 bl.length c3] (by rfl) rfl rfl (by simp only [List.map_toArray, List.map_cons, List.map_nil]; rfl) ?_
        with_reducible refine (HCB.out A3 c3 _ (HS3.out.drew)).mono ?_
        rintro e wA ⟨va, rfl, hoa, hba⟩
        refine ⟨_, rfl, ?_⟩
        have hsA : w4.heap.size ≤ wA.heap.size := by have := hba.size; simp at this; omega
        have hBA : Below w4.heap.size w4 wA := (bdrew (Below.refl _ _)).trans (hba.mono (by simp))
        refine hK.out _ _ ((hba.cell (World.block_lt_of_cell? _ _ hHeld)).trans hHeld) (fun hHeld => ?_)
        clear hK K
        refine norm_ (a' := ?_) ?_ ?_
        rotate_left
        · show Act.put _ (some 54) _ = _
          simp only [Act.put, List.setIfInBounds_toArray, List.set_cons_zero, List.set_cons_succ, i64_w, i32_w]
          rfl
        refine two_ (i := 5) (j := 11) (Ni := some 56) (Nj := some 8) #[true, true, true, true, true, true, false, false, false, false, false, false, false, false, false] #[true, true, true, true, true, false, false, false, false, false, false, true, false, false, false] rfl rfl rfl rfl (two_of HT_.out (by kernel_rfl)) (by decide) (by decide) (fun K hK => ?_) (fun K hK => ?_)
        · skip
          refine app_step (.tmp 54) (.tmp 55) 26 (by rfl) rfl rfl infoB Try.underlying26 _ _ va bl B e0 rest rfl rfl (hoa) (HT.out.keep (HB4.out.trans (hBA.mono (by omega)))) (by have := hba.size; simp at this ⊢; omega) (by omega) ?_
          intro vb wB hB
          have hkB := hB.kept (hoa) (by have := hba.size; simp at this ⊢; omega)
          have hsB := hB.size
          have hlB : ∀ k, va.ownBlock = some k → k < wA.heap.size := fun k hk => (hoa.lt k hk).2
          have hgr := hB.grown
          obtain ⟨Ab, cb, hvb, hsb, -⟩ := hB.own.sb
          rw [← HQ2.out] at hvb
          subst hvb
          have hBB : Below w4.heap.size w4 wB := hBA.trans (hkB.mono (by simp))
          refine hK.out _ _ ((hkB.cell (p := ⟨w.heap.size, 0, none⟩) (by simp; omega)).trans hHeld) (fun hHeld => ?_)
          clear hK K
          refine norm_ (a' := ?_) ?_ ?_
          rotate_left
          · show Act.put _ (some 56) _ = _
            simp only [Act.put, List.setIfInBounds_toArray, List.set_cons_zero, List.set_cons_succ, i64_w, i32_w]
            rfl
          refine two_ (i := 6) (j := 11) (Ni := some 57) (Nj := some 8) #[true, true, true, true, true, true, true, false, false, false, false, false, false, false, false] #[true, true, true, true, true, true, false, false, false, false, false, true, false, false, false] rfl rfl rfl rfl (two_of HT_.out (by kernel_rfl)) (by decide) (by decide) (fun K hK => ?_) (fun K hK => ?_)
          · skip
            refine goes_ Try.func10 (by kernel_rfl) rfl #[.int .i64 k, .slice Ab q cb] (by rfl) rfl rfl (by simp only [List.map_toArray, List.map_cons, List.map_nil]; rfl) ?_
            with_reducible refine (HIV.out Ab cb _ (hsb)).mono ?_
            rintro e wC ⟨A1, c1, A2, c2, rfl, hs1, hs2, hn1, hn2, hbC⟩
            refine ⟨_, rfl, ?_⟩
            have hsC := hbC.size
            refine hK.out _ _ ((hbC.cell (World.block_lt_of_cell? _ _ hHeld)).trans hHeld) (fun hHeld => ?_)
            clear hK K
            refine norm_ (a' := ?_) ?_ ?_
            rotate_left
            · show Act.put _ (some 57) _ = _
              simp only [Act.put, List.setIfInBounds_toArray, List.set_cons_zero, List.set_cons_succ, i64_w, i32_w]
              rfl
            refine pure_ (i := 7) (N := some 50) (v := ?_) (a' := ?_) #[true, true, true, true, true, true, true, true, false, false, false, false, false, false, false] rfl rfl (any_of HT_.out (by kernel_rfl)) (fun _ _ _ h => h) (Or.inl ⟨by rfl, ?_⟩) ?_ ?_
            rotate_left
            · intro w'
              go_simp
              with_reducible rfl
            rotate_left
            · simp only [Act.put, List.setIfInBounds_toArray, List.set_cons_zero, List.set_cons_succ, i64_w, i32_w]
              rfl
            refine pure_ (i := 8) (N := some 58) (v := ?_) (a' := ?_) #[true, true, true, true, true, true, true, true, true, false, false, false, false, false, false] rfl rfl (any_of HT_.out (by kernel_rfl)) (fun _ _ _ h => h) (Or.inl ⟨by rfl, ?_⟩) ?_ ?_
            rotate_left
            · intro w'
              go_simp
              with_reducible rfl
            rotate_left
            · simp only [Act.put, List.setIfInBounds_toArray, List.set_cons_zero, List.set_cons_succ, i64_w, i32_w]
              rfl
            refine pure_ (i := 9) (N := some 59) (v := ?_) (a' := ?_) #[true, true, true, true, true, true, true, true, true, true, false, false, false, false, false] rfl rfl (any_of HT_.out (by kernel_rfl)) (fun _ _ _ h => h) (Or.inl ⟨by rfl, ?_⟩) ?_ ?_
            rotate_left
            · intro w'
              go_simp
              with_reducible rfl
            rotate_left
            · simp only [Act.put, List.setIfInBounds_toArray, List.set_cons_zero, List.set_cons_succ, i64_w, i32_w]
              rfl
            refine pure_ (i := 10) (N := some 60) (v := ?_) (a' := ?_) #[true, true, true, true, true, true, true, true, true, true, true, false, false, false, false] rfl rfl (any_of HT_.out (by kernel_rfl)) (fun _ _ _ h => h) (Or.inl ⟨by rfl, ?_⟩) ?_ ?_
            rotate_left
            · intro w'
              go_simp
              with_reducible rfl
            rotate_left
            · simp only [Act.put, List.setIfInBounds_toArray, List.set_cons_zero, List.set_cons_succ, i64_w, i32_w]
              rfl
            refine one_ (i := 11) (N := some 8) #[true, true, true, true, true, true, true, true, true, true, true, true, false, false, false] rfl rfl (one_of HT_.out (by kernel_rfl)) (by decide) (fun K hK => ?_)
            refine value_ (w1 := ?_) (v := ?_) (by rfl) rfl ?_ ?_
            rotate_left 2
            · go_simp
              constructor
              · rfl
              · rfl
            refine hK.out _ _ (((balloc (Below.refl _ _) (Nat.le_refl _) _).cell (World.block_lt_of_cell? _ _ hHeld)).trans hHeld) (fun hHeld => ?_)
            clear hK K
            refine norm_ (a' := ?_) ?_ ?_
            rotate_left
            · show Act.put _ (some 8) _ = _
              simp only [Act.put, List.setIfInBounds_toArray, List.set_cons_zero, List.set_cons_succ, i64_w, i32_w]
              rfl
            exact norm_ (by simp only [putAll, Act.put, List.setIfInBounds_toArray, List.set_cons_zero, List.set_cons_succ]) (hCont (va, .slice Ab q cb, A1, c1, A2, c2, wC.heap.size) _ ⟨Rf.of_block (by exact heap_alloc_new wC _) (by show w4.heap.size ≤ wC.heap.size; first | omega | (simp at hsB; omega) | (simp at *; omega)) (balloc (hBB.trans (hbC.mono (by first | omega | (simp at hsB; omega) | (simp at *; omega)))) (by first | omega | (simp at hsB; omega) | (simp at *; omega)) _) (hs1.alloc _) (hs2.alloc _) (fun hl a ha => by have := hs1.block hl a ha; show a.block ≠ wC.heap.size; omega) (fun hl a ha => by have := hs2.block hl a ha; show a.block ≠ wC.heap.size; omega), hHeld⟩)
          · skip
            refine value_ (w1 := ?_) (v := ?_) (by rfl) rfl ?_ ?_
            rotate_left 2
            · go_simp
              constructor
              · rfl
              · rfl
            refine hK.out _ _ (((balloc (Below.refl _ _) (Nat.le_refl _) _).cell (World.block_lt_of_cell? _ _ hHeld)).trans hHeld) (fun hHeld => ?_)
            clear hK K
            refine norm_ (a' := ?_) ?_ ?_
            rotate_left
            · show Act.put _ (some 8) _ = _
              simp only [Act.put, List.setIfInBounds_toArray, List.set_cons_zero, List.set_cons_succ, i64_w, i32_w]
              rfl
            refine one_ (i := 6) (N := some 57) #[true, true, true, true, true, true, true, false, false, false, false, true, false, false, false] rfl rfl (one_of HT_.out (by kernel_rfl)) (by decide) (fun K hK => ?_)
            refine goes_ Try.func10 (by kernel_rfl) rfl #[.int .i64 k, .slice Ab q cb] (by rfl) rfl rfl (by simp only [List.map_toArray, List.map_cons, List.map_nil]; rfl) ?_
            with_reducible refine (HIV.out Ab cb _ (hsb.alloc _)).mono ?_
            rintro e wC ⟨A1, c1, A2, c2, rfl, hs1, hs2, hn1, hn2, hbC⟩
            refine ⟨_, rfl, ?_⟩
            have hsC := hbC.size
            refine hK.out _ _ ((hbC.cell (World.block_lt_of_cell? _ _ hHeld)).trans hHeld) (fun hHeld => ?_)
            clear hK K
            refine norm_ (a' := ?_) ?_ ?_
            rotate_left
            · show Act.put _ (some 57) _ = _
              simp only [Act.put, List.setIfInBounds_toArray, List.set_cons_zero, List.set_cons_succ, i64_w, i32_w]
              rfl
            refine pure_ (i := 7) (N := some 50) (v := ?_) (a' := ?_) #[true, true, true, true, true, true, true, true, false, false, false, true, false, false, false] rfl rfl (any_of HT_.out (by kernel_rfl)) (fun _ _ _ h => h) (Or.inl ⟨by rfl, ?_⟩) ?_ ?_
            rotate_left
            · intro w'
              go_simp
              with_reducible rfl
            rotate_left
            · simp only [Act.put, List.setIfInBounds_toArray, List.set_cons_zero, List.set_cons_succ, i64_w, i32_w]
              rfl
            refine pure_ (i := 8) (N := some 58) (v := ?_) (a' := ?_) #[true, true, true, true, true, true, true, true, true, false, false, true, false, false, false] rfl rfl (any_of HT_.out (by kernel_rfl)) (fun _ _ _ h => h) (Or.inl ⟨by rfl, ?_⟩) ?_ ?_
            rotate_left
            · intro w'
              go_simp
              with_reducible rfl
            rotate_left
            · simp only [Act.put, List.setIfInBounds_toArray, List.set_cons_zero, List.set_cons_succ, i64_w, i32_w]
              rfl
            refine pure_ (i := 9) (N := some 59) (v := ?_) (a' := ?_) #[true, true, true, true, true, true, true, true, true, true, false, true, false, false, false] rfl rfl (any_of HT_.out (by kernel_rfl)) (fun _ _ _ h => h) (Or.inl ⟨by rfl, ?_⟩) ?_ ?_
            rotate_left
            · intro w'
              go_simp
              with_reducible rfl
            rotate_left
            · simp only [Act.put, List.setIfInBounds_toArray, List.set_cons_zero, List.set_cons_succ, i64_w, i32_w]
              rfl
            refine pure_ (i := 10) (N := some 60) (v := ?_) (a' := ?_) #[true, true, true, true, true, true, true, true, true, true, true, true, false, false, false] rfl rfl (any_of HT_.out (by kernel_rfl)) (fun _ _ _ h => h) (Or.inl ⟨by rfl, ?_⟩) ?_ ?_
            rotate_left
            · intro w'
              go_simp
              with_reducible rfl
            rotate_left
            · simp only [Act.put, List.setIfInBounds_toArray, List.set_cons_zero, List.set_cons_succ, i64_w, i32_w]
              rfl
            exact norm_ (by simp only [putAll, Act.put, List.setIfInBounds_toArray, List.set_cons_zero, List.set_cons_succ]) (hCont (va, .slice Ab q cb, A1, c1, A2, c2, wB.heap.size) _ ⟨Rf.of_block (by rw [hbC.block _ (by simp)]; exact heap_alloc_new wB _) (by show w4.heap.size ≤ wB.heap.size; first | omega | (simp at hsB; omega) | (simp at *; omega)) ((balloc hBB (by first | omega | (simp at hsB; omega) | (simp at *; omega)) _).trans (hbC.mono (by first | omega | (simp at hsB ⊢; omega) | (simp at *; omega)))) (hs1) (hs2) (fun _ a ha => by show a.block ≠ wB.heap.size; have := hn1 a ha; have := hba.size; have h9 := hba.size; first | omega | (simp at *; omega)) (fun _ a ha => by show a.block ≠ wB.heap.size; have := hn2 a ha; have := hba.size; have h9 := hba.size; first | omega | (simp at *; omega)), hHeld⟩)
        · skip
          refine value_ (w1 := ?_) (v := ?_) (by rfl) rfl ?_ ?_
          rotate_left 2
          · go_simp
            constructor
            · rfl
            · rfl
          refine hK.out _ _ (((balloc (Below.refl _ _) (Nat.le_refl _) _).cell (World.block_lt_of_cell? _ _ hHeld)).trans hHeld) (fun hHeld => ?_)
          clear hK K
          refine norm_ (a' := ?_) ?_ ?_
          rotate_left
          · show Act.put _ (some 8) _ = _
            simp only [Act.put, List.setIfInBounds_toArray, List.set_cons_zero, List.set_cons_succ, i64_w, i32_w]
            rfl
          refine one_ (i := 5) (N := some 56) #[true, true, true, true, true, true, false, false, false, false, false, true, false, false, false] rfl rfl (one_of HT_.out (by kernel_rfl)) (by decide) (fun K hK => ?_)
          refine app_step (.tmp 54) (.tmp 55) 26 (by rfl) rfl rfl infoB Try.underlying26 _ _ va bl B e0 rest rfl rfl (hoa.alloc _) (HT.out.keep (HB4.out.trans ((balloc hBA hsA _).mono (by omega)))) (by have := hba.size; simp at this ⊢; omega) (by omega) ?_
          intro vb wB hB
          have hkB := hB.kept (hoa.alloc _) (by have := hba.size; simp at this ⊢; omega)
          have hsB := hB.size
          have hlB : ∀ k, va.ownBlock = some k → k < wA.heap.size := fun k hk => (hoa.lt k hk).2
          have hgr := hB.grown
          obtain ⟨Ab, cb, hvb, hsb, -⟩ := hB.own.sb
          rw [← HQ2.out] at hvb
          subst hvb
          have hBB : Below w4.heap.size w4 wB := (balloc hBA hsA _).trans (hkB.mono (by simp))
          refine hK.out _ _ ((hkB.cell (p := ⟨w.heap.size, 0, none⟩) (by simp; omega)).trans hHeld) (fun hHeld => ?_)
          clear hK K
          refine norm_ (a' := ?_) ?_ ?_
          rotate_left
          · show Act.put _ (some 56) _ = _
            simp only [Act.put, List.setIfInBounds_toArray, List.set_cons_zero, List.set_cons_succ, i64_w, i32_w]
            rfl
          refine one_ (i := 6) (N := some 57) #[true, true, true, true, true, true, true, false, false, false, false, true, false, false, false] rfl rfl (one_of HT_.out (by kernel_rfl)) (by decide) (fun K hK => ?_)
          refine goes_ Try.func10 (by kernel_rfl) rfl #[.int .i64 k, .slice Ab q cb] (by rfl) rfl rfl (by simp only [List.map_toArray, List.map_cons, List.map_nil]; rfl) ?_
          with_reducible refine (HIV.out Ab cb _ (hsb)).mono ?_
          rintro e wC ⟨A1, c1, A2, c2, rfl, hs1, hs2, hn1, hn2, hbC⟩
          refine ⟨_, rfl, ?_⟩
          have hsC := hbC.size
          refine hK.out _ _ ((hbC.cell (World.block_lt_of_cell? _ _ hHeld)).trans hHeld) (fun hHeld => ?_)
          clear hK K
          refine norm_ (a' := ?_) ?_ ?_
          rotate_left
          · show Act.put _ (some 57) _ = _
            simp only [Act.put, List.setIfInBounds_toArray, List.set_cons_zero, List.set_cons_succ, i64_w, i32_w]
            rfl
          refine pure_ (i := 7) (N := some 50) (v := ?_) (a' := ?_) #[true, true, true, true, true, true, true, true, false, false, false, true, false, false, false] rfl rfl (any_of HT_.out (by kernel_rfl)) (fun _ _ _ h => h) (Or.inl ⟨by rfl, ?_⟩) ?_ ?_
          rotate_left
          · intro w'
            go_simp
            with_reducible rfl
          rotate_left
          · simp only [Act.put, List.setIfInBounds_toArray, List.set_cons_zero, List.set_cons_succ, i64_w, i32_w]
            rfl
          refine pure_ (i := 8) (N := some 58) (v := ?_) (a' := ?_) #[true, true, true, true, true, true, true, true, true, false, false, true, false, false, false] rfl rfl (any_of HT_.out (by kernel_rfl)) (fun _ _ _ h => h) (Or.inl ⟨by rfl, ?_⟩) ?_ ?_
          rotate_left
          · intro w'
            go_simp
            with_reducible rfl
          rotate_left
          · simp only [Act.put, List.setIfInBounds_toArray, List.set_cons_zero, List.set_cons_succ, i64_w, i32_w]
            rfl
          refine pure_ (i := 9) (N := some 59) (v := ?_) (a' := ?_) #[true, true, true, true, true, true, true, true, true, true, false, true, false, false, false] rfl rfl (any_of HT_.out (by kernel_rfl)) (fun _ _ _ h => h) (Or.inl ⟨by rfl, ?_⟩) ?_ ?_
          rotate_left
          · intro w'
            go_simp
            with_reducible rfl
          rotate_left
          · simp only [Act.put, List.setIfInBounds_toArray, List.set_cons_zero, List.set_cons_succ, i64_w, i32_w]
            rfl
          refine pure_ (i := 10) (N := some 60) (v := ?_) (a' := ?_) #[true, true, true, true, true, true, true, true, true, true, true, true, false, false, false] rfl rfl (any_of HT_.out (by kernel_rfl)) (fun _ _ _ h => h) (Or.inl ⟨by rfl, ?_⟩) ?_ ?_
          rotate_left
          · intro w'
            go_simp
            with_reducible rfl
          rotate_left
          · simp only [Act.put, List.setIfInBounds_toArray, List.set_cons_zero, List.set_cons_succ, i64_w, i32_w]
            rfl
          exact norm_ (by simp only [putAll, Act.put, List.setIfInBounds_toArray, List.set_cons_zero, List.set_cons_succ]) (hCont (va, .slice Ab q cb, A1, c1, A2, c2, wA.heap.size) _ ⟨Rf.of_block (by rw [hbC.block _ (by first | omega | (simp at hsB; omega) | (simp at *; omega)), hgr.block _ (by simp) (fun e => absurd (hlB _ e.symm) (Nat.lt_irrefl _))]; exact heap_alloc_new wA _) (by show w4.heap.size ≤ wA.heap.size; first | omega | (simp at hsB; omega) | (simp at *; omega)) (hBB.trans (hbC.mono (by first | omega | (simp at hsB ⊢; omega) | (simp at *; omega)))) (hs1) (hs2) (fun _ a ha => by show a.block ≠ wA.heap.size; have := hn1 a ha; have := hba.size; have h9 := hba.size; first | omega | (simp at *; omega)) (fun _ a ha => by show a.block ≠ wA.heap.size; have := hn2 a ha; have := hba.size; have h9 := hba.size; first | omega | (simp at *; omega)), hHeld⟩)
      · skip
        refine value_ (w1 := ?_) (v := ?_) (by rfl) rfl ?_ ?_
        rotate_left 2
        · go_simp
          constructor
          · rfl
          · rfl
        refine hK.out _ _ (((balloc (Below.refl _ _) (Nat.le_refl _) _).cell (World.block_lt_of_cell? _ _ hHeld)).trans hHeld) (fun hHeld => ?_)
        clear hK K
        refine norm_ (a' := ?_) ?_ ?_
        rotate_left
        · show Act.put _ (some 8) _ = _
          simp only [Act.put, List.setIfInBounds_toArray, List.set_cons_zero, List.set_cons_succ, i64_w, i32_w]
          rfl
        refine one_ (i := 3) (N := some 54) #[true, true, true, true, true, false, false, false, false, false, false, true, false, false, false] rfl rfl (one_of HT_.out (by kernel_rfl)) (by decide) (fun K hK => ?_)
        refine goes_ Try.func11 (by kernel_rfl) rfl #[.slice A3 bl.length c3] (by rfl) rfl rfl (by simp only [List.map_toArray, List.map_cons, List.map_nil]; rfl) ?_
        with_reducible refine (HCB.out A3 c3 _ ((HS3.out.alloc _).drew)).mono ?_
        rintro e wA ⟨va, rfl, hoa, hba⟩
        refine ⟨_, rfl, ?_⟩
        have hsA : w4.heap.size ≤ wA.heap.size := by have := hba.size; simp at this; omega
        have hBA : Below w4.heap.size w4 wA := (bdrew (balloc (Below.refl _ _) (Nat.le_refl _) _)).trans (hba.mono (by simp))
        refine hK.out _ _ ((hba.cell (World.block_lt_of_cell? _ _ hHeld)).trans hHeld) (fun hHeld => ?_)
        clear hK K
        refine norm_ (a' := ?_) ?_ ?_
        rotate_left
        · show Act.put _ (some 54) _ = _
          simp only [Act.put, List.setIfInBounds_toArray, List.set_cons_zero, List.set_cons_succ, i64_w, i32_w]
          rfl
        refine one_ (i := 5) (N := some 56) #[true, true, true, true, true, true, false, false, false, false, false, true, false, false, false] rfl rfl (one_of HT_.out (by kernel_rfl)) (by decide) (fun K hK => ?_)
        refine app_step (.tmp 54) (.tmp 55) 26 (by rfl) rfl rfl infoB Try.underlying26 _ _ va bl B e0 rest rfl rfl (hoa) (HT.out.keep (HB4.out.trans (hBA.mono (by omega)))) (by have := hba.size; simp at this ⊢; omega) (by omega) ?_
        intro vb wB hB
        have hkB := hB.kept (hoa) (by have := hba.size; simp at this ⊢; omega)
        have hsB := hB.size
        have hlB : ∀ k, va.ownBlock = some k → k < wA.heap.size := fun k hk => (hoa.lt k hk).2
        have hgr := hB.grown
        obtain ⟨Ab, cb, hvb, hsb, -⟩ := hB.own.sb
        rw [← HQ2.out] at hvb
        subst hvb
        have hBB : Below w4.heap.size w4 wB := hBA.trans (hkB.mono (by simp))
        refine hK.out _ _ ((hkB.cell (p := ⟨w.heap.size, 0, none⟩) (by simp; omega)).trans hHeld) (fun hHeld => ?_)
        clear hK K
        refine norm_ (a' := ?_) ?_ ?_
        rotate_left
        · show Act.put _ (some 56) _ = _
          simp only [Act.put, List.setIfInBounds_toArray, List.set_cons_zero, List.set_cons_succ, i64_w, i32_w]
          rfl
        refine one_ (i := 6) (N := some 57) #[true, true, true, true, true, true, true, false, false, false, false, true, false, false, false] rfl rfl (one_of HT_.out (by kernel_rfl)) (by decide) (fun K hK => ?_)
        refine goes_ Try.func10 (by kernel_rfl) rfl #[.int .i64 k, .slice Ab q cb] (by rfl) rfl rfl (by simp only [List.map_toArray, List.map_cons, List.map_nil]; rfl) ?_
        with_reducible refine (HIV.out Ab cb _ (hsb)).mono ?_
        rintro e wC ⟨A1, c1, A2, c2, rfl, hs1, hs2, hn1, hn2, hbC⟩
        refine ⟨_, rfl, ?_⟩
        have hsC := hbC.size
        refine hK.out _ _ ((hbC.cell (World.block_lt_of_cell? _ _ hHeld)).trans hHeld) (fun hHeld => ?_)
        clear hK K
        refine norm_ (a' := ?_) ?_ ?_
        rotate_left
        · show Act.put _ (some 57) _ = _
          simp only [Act.put, List.setIfInBounds_toArray, List.set_cons_zero, List.set_cons_succ, i64_w, i32_w]
          rfl
        refine pure_ (i := 7) (N := some 50) (v := ?_) (a' := ?_) #[true, true, true, true, true, true, true, true, false, false, false, true, false, false, false] rfl rfl (any_of HT_.out (by kernel_rfl)) (fun _ _ _ h => h) (Or.inl ⟨by rfl, ?_⟩) ?_ ?_
        rotate_left
        · intro w'
          go_simp
          with_reducible rfl
        rotate_left
        · simp only [Act.put, List.setIfInBounds_toArray, List.set_cons_zero, List.set_cons_succ, i64_w, i32_w]
          rfl
        refine pure_ (i := 8) (N := some 58) (v := ?_) (a' := ?_) #[true, true, true, true, true, true, true, true, true, false, false, true, false, false, false] rfl rfl (any_of HT_.out (by kernel_rfl)) (fun _ _ _ h => h) (Or.inl ⟨by rfl, ?_⟩) ?_ ?_
        rotate_left
        · intro w'
          go_simp
          with_reducible rfl
        rotate_left
        · simp only [Act.put, List.setIfInBounds_toArray, List.set_cons_zero, List.set_cons_succ, i64_w, i32_w]
          rfl
        refine pure_ (i := 9) (N := some 59) (v := ?_) (a' := ?_) #[true, true, true, true, true, true, true, true, true, true, false, true, false, false, false] rfl rfl (any_of HT_.out (by kernel_rfl)) (fun _ _ _ h => h) (Or.inl ⟨by rfl, ?_⟩) ?_ ?_
        rotate_left
        · intro w'
          go_simp
          with_reducible rfl
        rotate_left
        · simp only [Act.put, List.setIfInBounds_toArray, List.set_cons_zero, List.set_cons_succ, i64_w, i32_w]
          rfl
        refine pure_ (i := 10) (N := some 60) (v := ?_) (a' := ?_) #[true, true, true, true, true, true, true, true, true, true, true, true, false, false, false] rfl rfl (any_of HT_.out (by kernel_rfl)) (fun _ _ _ h => h) (Or.inl ⟨by rfl, ?_⟩) ?_ ?_
        rotate_left
        · intro w'
          go_simp
          with_reducible rfl
        rotate_left
        · simp only [Act.put, List.setIfInBounds_toArray, List.set_cons_zero, List.set_cons_succ, i64_w, i32_w]
          rfl
        exact norm_ (by simp only [putAll, Act.put, List.setIfInBounds_toArray, List.set_cons_zero, List.set_cons_succ]) (hCont (va, .slice Ab q cb, A1, c1, A2, c2, w4.heap.size) _ ⟨Rf.of_block (by rw [hbC.block _ (by have := hba.size; first | omega | (simp at this; omega) | (simp at *; omega)), hgr.block _ (by have := hba.size; first | omega | (simp at this; omega) | (simp at *; omega)) (fun e => by have := (hoa.lt _ e.symm).1; first | omega | (simp at this; omega)), hba.block _ (by simp)]; exact heap_alloc_new w4 _) (by show w4.heap.size ≤ w4.heap.size; first | omega | (simp at hsB; omega) | (simp at *; omega)) (hBB.trans (hbC.mono (by first | omega | (simp at hsB ⊢; omega) | (simp at *; omega)))) (hs1) (hs2) (fun _ a ha => by show a.block ≠ w4.heap.size; have := hn1 a ha; have := hba.size; have h9 := hba.size; first | omega | (simp at *; omega)) (fun _ a ha => by show a.block ≠ w4.heap.size; have := hn2 a ha; have := hba.size; have h9 := hba.size; first | omega | (simp at *; omega)), hHeld⟩)
    rintro ⟨va, vb, A1, c1, A2, c2, g⟩ w6 ⟨hRf, hHeld⟩
    have RC0 := hRf.c0
    have RC1 := hRf.k1
    have RF0 := hRf.f0
    have RF1 := hRf.f1
    have HRF := Lib.hid hRf
    clear hRf
    refine norm_ (a' := ?_) ?_ ?_
    rotate_left
    · simp only [putAll, Act.put, List.setIfInBounds_toArray, List.set_cons_zero, List.set_cons_succ]
      rfl
    refine last_ (i := 12) (N := none) #[true, true, true, true, true, true, true, true, true, true, true, true, true, false, false] rfl rfl (one_of HT_.out (by kernel_rfl)) (by decide) (fun K hK => ?_)
    refine skip_ (w1 := ?_) (by rfl) rfl ?_ ?_
    rotate_left
    · go_simp
      rfl
    refine hK.out _ _ ?_
    clear hK K
    refine pure_ (i := 13) (N := some 9) (v := ?_) (a' := ?_) #[true, true, true, true, true, true, true, true, true, true, true, true, true, true, false] rfl rfl (any_of HT_.out (by kernel_rfl)) (fun _ _ _ h => h) (Or.inl ⟨by rfl, ?_⟩) ?_ ?_
    rotate_left
    · intro w'
      go_simp
      with_reducible rfl
    rotate_left
    · simp only [Act.put, List.setIfInBounds_toArray, List.set_cons_zero, List.set_cons_succ, i64_w, i32_w]
      rfl
    refine pure_ (i := 14) (N := some 10) (v := ?_) (a' := ?_) #[true, true, true, true, true, true, true, true, true, true, true, true, true, true, true] rfl rfl (any_of HT_.out (by kernel_rfl)) (fun _ _ _ h => h) (Or.inl ⟨by rfl, ?_⟩) ?_ ?_
    rotate_left
    · intro w'
      go_simp
      with_reducible rfl
    rotate_left
    · simp only [Act.put, List.setIfInBounds_toArray, List.set_cons_zero, List.set_cons_succ, i64_w, i32_w]
      rfl
    refine done_ (done_of HT_.out (by kernel_rfl)) ?_
    obtain ⟨w7, hw7⟩ : ∃ x, x = (w6.setCell ⟨g, 0, none⟩ (.int .i64 k)).setCell ⟨g, 1, none⟩ (.slice A1 bl.length c1) := ⟨_, rfl⟩
    obtain ⟨g0, g1, hs1, hs2, hgl, hb7⟩ := HRF.out.stored _ _ w7 hw7
    rw [← hw7]
    have HX7 := HX4.out.trans (hb7.mono hz4)
    have HS1 := Lib.hid hs1
    have HS2 := Lib.hid hs2
    have HSB7 := Lib.hid (HS3.out.keep hb7)
    have HB7 := Lib.hid (boxb HX7)
    clear HRF RC0 RC1 RF0 RF1 hw7 hs1 hs2 hb7 HX4 HS3 HIV r0 r1 r2 r3 r4 r5 r6 r7
    have t0 := boxc HX7 0
    have t1 := boxc HX7 1
    have t2 := boxc HX7 2
    have t3 := boxc HX7 3
    have t4 := boxc HX7 4
    have t5 := boxc HX7 5
    have t6 := boxc HX7 6
    have t7 := boxc HX7 7
    simp only [List.getElem?_cons_succ, List.getElem?_cons_zero] at t0 t1 t2 t3 t4 t5 t6 t7
    go_wp2_with fail
    refine (HEL.out _ HB7.out).mono ?_
    rintro e w8 ⟨A8, c8, rfl, hs8, hb8⟩
    have hz8 := hb8.size
    have HX8 := HX7.trans (hb8.mono (boxs HX7))
    have hg0 := (hb8.cell (World.block_lt_of_cell? _ _ g0)).trans g0
    have hg1 := (hb8.cell (World.block_lt_of_cell? _ _ g1)).trans g1
    have HS81 := Lib.hid (HS1.out.keep hb8)
    have HS82 := Lib.hid (HS2.out.keep hb8)
    have HSB8 := Lib.hid (HSB7.out.keep hb8)
    have HS8 := Lib.hid hs8
    have HB8 := Lib.hid (boxb HX8)
    clear HS1 HS2 HSB7 hs8 hb8 g0 g1 HEL HX7 HB7 t0 t1 t2 t3 t4 t5 t6 t7
    go_wp2_with fail
    refine (HCE.out A8 c8 _ HS8.out).mono ?_
    rintro e w9 ⟨v9, rfl, ho9, hb9⟩
    obtain ⟨A9, c9, hv9, -, -⟩ := ho9.sb
    rw [hv9] at ho9 ⊢
    clear hv9
    have hz9 := hb9.size
    have hT9 := HT.out.keep (HB8.out.trans (hb9.mono HB8.out.size))
    go_wp2_with (first | (refine wp_app (.tmp 67) (.tmp 68) 26 rfl rfl infoB Try.underlying26 _ w8.heap.size _ el B e0 rest rfl rfl ho9 hT9 hz9 (by omega) ?_; intro v10 w10 hap10) | fail)
    have hb10 : Below w8.heap.size w8 w10 := hb9.trans (hap10.kept ho9 hz9)
    obtain ⟨A10, c10, hv10, hs10, -⟩ := hap10.own.sb
    rw [← HQ3.out] at hv10
    rw [hv10]
    have HS10 := Lib.hid hs10
    clear hap10 ho9 hb9 hz9 hT9 hv10 hs10
    go_wp2_with fail
    refine (HIE.out A10 c10 _ HS10.out).mono ?_
    rintro e w11 ⟨A11, c11, A12, c12, rfl, hs11, hs12, hb11⟩
    have hb11' : Below w8.heap.size w8 w11 := bthen hb10 hb11
    have HX11 := HX8.trans (hb11'.mono (boxs HX8))
    have j0 := (hb11'.cell (World.block_lt_of_cell? _ _ hg0)).trans hg0
    have j1 := (hb11'.cell (World.block_lt_of_cell? _ _ hg1)).trans hg1
    have HS111 := Lib.hid (HS81.out.keep hb11')
    have HS112 := Lib.hid (HS82.out.keep hb11')
    have HSB11 := Lib.hid (HSB8.out.keep hb11')
    have HSE11 := Lib.hid (HS8.out.keep hb11')
    have HS11 := Lib.hid hs11
    have HS12 := Lib.hid hs12
    have HB11 := Lib.hid (boxb HX11)
    have hzz11 := boxs HX11
    clear HS81 HS82 HSB8 HS8 HS10 hs11 hs12 hb11 hb10 hb11' hg0 hg1 HIE HCE HX8 HB8
    have s0 := boxc HX11 0
    have s1 := boxc HX11 1
    have s2 := boxc HX11 2
    have s3 := boxc HX11 3
    have s4 := boxc HX11 4
    have s5 := boxc HX11 5
    have s6 := boxc HX11 6
    have s7 := boxc HX11 7
    simp only [List.getElem?_cons_succ, List.getElem?_cons_zero] at s0 s1 s2 s3 s4 s5 s6 s7
    have HX11' := Lib.hid HX11
    clear HX11
    go_wp2_with fail
    refine start_ (n := 12) (S := fun w' => w'.cell? ⟨w.heap.size, 0, none⟩ = some (.int .i64 k)) (ds := []) #[false, false, false, false, false, false, false, false, false, false, false, false] (by kernel_rfl) rfl rfl ((by go_simp)) (fun hHeld => ?_)
    refine with_tabW R4.tab9 R4.bits9 (fun HT_ HW_ => ?_)
    refine pure_ (i := 0) (N := some 75) (v := ?_) (a' := ?_) #[true, false, false, false, false, false, false, false, false, false, false, false] rfl rfl (any_of HT_.out (by kernel_rfl)) (fun _ _ _ h => h) (Or.inl ⟨by rfl, ?_⟩) ?_ ?_
    rotate_left
    · intro w'
      go_simp
      with_reducible rfl
    rotate_left
    · simp only [Act.put, List.setIfInBounds_toArray, List.set_cons_zero, List.set_cons_succ, i64_w, i32_w]
      rfl
    refine pure_ (i := 2) (N := some 77) (v := ?_) (a' := ?_) #[true, false, true, false, false, false, false, false, false, false, false, false] rfl rfl (any_of HT_.out (by kernel_rfl)) (fun _ _ _ h => h) (Or.inl ⟨by rfl, ?_⟩) ?_ ?_
    rotate_left
    · intro w'
      go_simp
      with_reducible rfl
    rotate_left
    · simp only [Act.put, List.setIfInBounds_toArray, List.set_cons_zero, List.set_cons_succ, i64_w, i32_w]
      rfl
    refine pure_ (i := 4) (N := some 79) (v := ?_) (a' := ?_) #[true, false, true, false, true, false, false, false, false, false, false, false] rfl rfl (any_of HT_.out (by kernel_rfl)) (fun _ _ _ h => h) (Or.inl ⟨by rfl, ?_⟩) ?_ ?_
    rotate_left
    · intro w'
      go_simp
      with_reducible rfl
    rotate_left
    · simp only [Act.put, List.setIfInBounds_toArray, List.set_cons_zero, List.set_cons_succ, i64_w, i32_w]
      rfl
    refine take_ (i := 5) (N := some 80) (v := ?_) (a' := ?_) #[true, false, true, false, true, true, false, false, false, false, false, false] rfl rfl (take_ofW HT_.out HW_.out (by kernel_rfl)) (fun _ _ _ h => h) (Or.inl ⟨by rfl, ?_⟩) hHeld ?_ ?_
    rotate_left
    · intro w' s0
      go_simp
      with_reducible rfl
    rotate_left
    · simp only [Act.put, List.setIfInBounds_toArray, List.set_cons_zero, List.set_cons_succ, i64_w, i32_w]
      rfl
    refine one_ (i := 1) (N := some 76) #[true, true, true, false, true, true, false, false, false, false, false, false] rfl rfl (one_of HT_.out (by kernel_rfl)) (by decide) (fun K hK => ?_)
    refine goes_ Try.func11 (by kernel_rfl) rfl #[.slice A3 bl.length c3] (by rfl) rfl rfl (by simp only [List.map_toArray, List.map_cons, List.map_nil]; rfl) ?_
    with_reducible refine (HCB.out A3 c3 _ HSB11.out.drew).mono ?_
    rintro e wA ⟨va, rfl, hoa, hba⟩
    refine ⟨_, rfl, ?_⟩
    have hBA : Below w11.heap.size w11 wA := bleft hba
    refine hK.out _ _ (((hba.cell (World.block_lt_of_cell? _ _ hHeld)).trans hHeld)) (fun hHeld => ?_)
    clear hK K
    refine norm_ (a' := ?_) ?_ ?_
    rotate_left
    · show Act.put _ (some 76) _ = _
      simp only [Act.put, List.setIfInBounds_toArray, List.set_cons_zero, List.set_cons_succ, i64_w, i32_w]
      rfl
    refine one_ (i := 3) (N := some 78) #[true, true, true, true, true, true, false, false, false, false, false, false] rfl rfl (one_of HT_.out (by kernel_rfl)) (by decide) (fun K hK => ?_)
    refine app_step (.tmp 76) (.tmp 77) 26 (by rfl) rfl rfl infoB Try.underlying26 _ _ va bl B e0 rest rfl rfl hoa (HT.out.keep (HB11.out.trans (hBA.mono (by omega)))) hba.size (by omega) ?_
    intro vb wB hB
    have hkB := hB.kept hoa hba.size
    obtain ⟨Ab, cb, hvb, hsb, -⟩ := hB.own.sb
    rw [← HQ2.out] at hvb
    subst hvb
    have hBB : Below w11.heap.size w11 wB := hBA.trans (hkB.mono (by exact Nat.le_refl _))
    refine hK.out _ _ ((hkB.cell (p := ⟨w.heap.size, 0, none⟩) (by simp; omega)).trans hHeld) (fun hHeld => ?_)
    clear hK K
    refine norm_ (a' := ?_) ?_ ?_
    rotate_left
    · show Act.put _ (some 78) _ = _
      simp only [Act.put, List.setIfInBounds_toArray, List.set_cons_zero, List.set_cons_succ, i64_w, i32_w]
      rfl
    refine one_ (i := 6) (N := some 81) #[true, true, true, true, true, true, true, false, false, false, false, false] rfl rfl (one_of HT_.out (by kernel_rfl)) (by decide) (fun K hK => ?_)
    refine goes_ Try.func14 (by kernel_rfl) rfl #[.slice Ab q cb, .int .i64 k] (by rfl) rfl rfl (by simp only [List.map_toArray, List.map_cons, List.map_nil]; rfl) ?_
    with_reducible refine (HVL.out Ab cb _ hsb).mono ?_
    rintro e wC ⟨rfl, hbC⟩
    refine ⟨_, rfl, ?_⟩
    have hBC : Below w11.heap.size w11 wC := bthen hBB hbC
    refine hK.out _ _ (((hbC.cell (World.block_lt_of_cell? _ _ hHeld)).trans hHeld)) (fun hHeld => ?_)
    clear hK K
    refine norm_ (a' := ?_) ?_ ?_
    rotate_left
    · show Act.put _ (some 81) _ = _
      simp only [Act.put, List.setIfInBounds_toArray, List.set_cons_zero, List.set_cons_succ, i64_w, i32_w]
      rfl
    refine pure_ (i := 7) (N := some 74) (v := ?_) (a' := ?_) #[true, true, true, true, true, true, true, true, false, false, false, false] rfl rfl (any_of HT_.out (by kernel_rfl)) (fun _ _ _ h => h) (Or.inl ⟨by rfl, ?_⟩) ?_ ?_
    rotate_left
    · intro w'
      go_simp
      with_reducible rfl
    rotate_left
    · simp only [Act.put, List.setIfInBounds_toArray, List.set_cons_zero, List.set_cons_succ, i64_w, i32_w]
      rfl
    refine pure_ (i := 8) (N := some 82) (v := ?_) (a' := ?_) #[true, true, true, true, true, true, true, true, true, false, false, false] rfl rfl (any_of HT_.out (by kernel_rfl)) (fun _ _ _ h => h) (Or.inl ⟨by rfl, ?_⟩) ?_ ?_
    rotate_left
    · intro w'
      go_simp
      with_reducible rfl
    rotate_left
    · simp only [Act.put, List.setIfInBounds_toArray, List.set_cons_zero, List.set_cons_succ, i64_w, i32_w]
      rfl
    refine pure_ (i := 9) (N := some 83) (v := ?_) (a' := ?_) #[true, true, true, true, true, true, true, true, true, true, false, false] rfl rfl (any_of HT_.out (by kernel_rfl)) (fun _ _ _ h => h) (Or.inl ⟨by rfl, ?_⟩) ?_ ?_
    rotate_left
    · intro w'
      go_simp
      with_reducible rfl
    rotate_left
    · simp only [Act.put, List.setIfInBounds_toArray, List.set_cons_zero, List.set_cons_succ, i64_w, i32_w]
      rfl
    refine pure_ (i := 10) (N := some 15) (v := ?_) (a' := ?_) #[true, true, true, true, true, true, true, true, true, true, true, false] rfl rfl (any_of HT_.out (by kernel_rfl)) (fun _ _ _ h => h) (Or.inl ⟨by rfl, ?_⟩) ?_ ?_
    rotate_left
    · intro w'
      go_simp
      with_reducible rfl
    rotate_left
    · simp only [Act.put, List.setIfInBounds_toArray, List.set_cons_zero, List.set_cons_succ, i64_w, i32_w]
      rfl
    refine pure_ (i := 11) (N := some 16) (v := ?_) (a' := ?_) #[true, true, true, true, true, true, true, true, true, true, true, true] rfl rfl (any_of HT_.out (by kernel_rfl)) (fun _ _ _ h => h) (Or.inl ⟨by rfl, ?_⟩) ?_ ?_
    rotate_left
    · intro w'
      go_simp
      with_reducible rfl
    rotate_left
    · simp only [Act.put, List.setIfInBounds_toArray, List.set_cons_zero, List.set_cons_succ, i64_w, i32_w]
      rfl
    refine done_ (done_of HT_.out (by kernel_rfl)) ?_
    have k0 := (hBC.cell (World.block_lt_of_cell? _ _ j0)).trans j0
    have k1 := (hBC.cell (World.block_lt_of_cell? _ _ j1)).trans j1
    have HXC := HX11'.out.trans (hBC.mono hzz11)
    have KB := boxc HXC 0
    simp only [List.getElem?_cons_succ, List.getElem?_cons_zero] at KB
    have HSRc := HSR.out A1 A3 c1 c3 wC (HS111.out.keep hBC) (HSB11.out.keep hBC)
    have HC1 := Lib.hid (HS112.out.keep hBC)
    have HC2 := Lib.hid (HS11.out.keep hBC)
    have HC3 := Lib.hid (HSE11.out.keep hBC)
    have HC4 := Lib.hid (HS12.out.keep hBC)
    have HC5 := Lib.hid (HT.out.keep (boxb HXC))
    have HBC := Lib.hid (boxb HXC)
    clear HS111 HSB11 HS112 HS11 HSE11 HS12 HT hBC hBB hkB hbC HXC HX11' HVL HCB HSR HB11 hBA hba hoa hsb hB j0 j1 s0 s1 s2 s3 s4 s5 s6 s7
    have HSRh := Lib.hid HSRc
    clear HSRc
    go_wp2_with fail
    refine HSRh.out.mono ?_
    rintro e wD ⟨rfl, hbD⟩
    have d1 := str_of (HC1.out.keep hbD)
    have d2 := str_of (HC2.out.keep hbD)
    have d3 := str_of (HC3.out.keep hbD)
    have d4 := str_of (HC4.out.keep hbD)
    have d5 := str_of (HC5.out.keep hbD)
    have hend := Lib.hid (HBC.out.trans (hbD.mono HBC.out.size))
    clear HC1 HC2 HC3 HC4 HC5 hbD HBC HSRh
    go_wp2_with fail
    go_ret
    exact ⟨rfl, hend.out⟩
end Go.Proofs.Ytdmnogjgifapnaa.X
