/- laws.docRaw, and impl.ValidateValue of bytes that are a value. -/
import Derived.Test.YtjbeaofnnodlcaaGreatDoorDoc8
import Derived.Test.YtjbeaofnnodlcaaGreatDoorLookup
import Derived.Test.YtjbeaofnnodlcaaGreatDoorWLast
import Derived.Test.YtjbeaofnnodlcaaGreatDoorWTab
import Derived.Deep.RegionHeld
set_option linter.unusedVariables false
set_option linter.unusedSimpArgs false
set_option maxRecDepth 100000
namespace Go.Proofs.YtjbeaofnnodlcaaGreatDoor.X
open Go.RowKit
open Go.Proofs.YtjbeaofnnodlcaaGreatDoorW.PrintLast
def R18.T1 : Bool × List (List Nat × List Nat) := (true, [([], []), ([0], [0]), ([], []), ([2], [2]), ([1, 3], [1, 3]), ([4, 3, 0, 1, 2, 3, 4], [4])])
def R18.B1 : List Nat := [0, 1, 0, 4, 15, 31]
theorem R18.tab1 : rtab .any (opsOf Tryz.f18 1) = R18.T1 := by kernel_rfl
theorem R18.bits1 : waitsOk R18.T1.2 R18.B1 = true := by kernel_rfl
theorem SB.farp {w : World} {A : Option Addr} {c : Nat} {l : List UInt8} (h : SB w A c l) (p : Addr) (v : Value) (hp : ∀ a, A = some a → p.block ≠ a.block) : SB (w.setCell p v) A c l :=
  ⟨h.le, h.cap, fun hl => by
    obtain ⟨b, off, e, hc⟩ := h.cells hl
    exact ⟨b, off, e, fun j hj => (World.cell?_setCell_far w p ⟨b, off + j, none⟩ v (by exact hp ⟨b, off, none⟩ e)).trans (hc j hj)⟩⟩

set_option maxHeartbeats 3200000 in
theorem docRaw (v : Val) (cs : List Value) (w : World) (hl : (docValue v).length ≤ 1000000000000) (hv : RV w v cs) :
    Calls Tryz.prog 18 #[.agg cs.toArray] w fun e w' => ∃ A c, e = .returned (.agg #[.int .i64 v.kind, .slice A (docValue v).length c]) ∧ SB w' A c (docValue v) ∧ Below w.heap.size w w' := by
  have HV := Lib.hid hv
  obtain ⟨v0, hv00⟩ : ∃ x, x = v := ⟨_, rfl⟩
  rw [← hv00] at HV hl ⊢
  obtain ⟨k, text, more, n, bits, high, b, kids⟩ := v
  simp only [RV] at hv
  obtain ⟨A, c, K', d, rfl, hs, hd, hd2, hk⟩ := hv
  have ek : v0.kind = k := by rw [hv00]; rfl
  rw [ek]
  clear hk hv00 hs ek
  have hcall : ∀ wx : World, Below w.heap.size w wx → Calls Tryz.prog 35 #[.agg #[.int .i64 k, .string text, .string more, .int .i64 n, .int .u64 bits, .int .u64 high, .slice A b.length c, .slice K' kids.length d]] wx (After (Made wx (docValue v0))) := fun wx hb => docValue_calls v0 [.int .i64 k, .string text, .string more, .int .i64 n, .int .u64 bits, .int .u64 high, .slice A b.length c, .slice K' kids.length d] wx hl (HV.out.keep hb)
  have HC := Lib.hid hcall
  clear hcall HV hd hd2
  obtain ⟨lv, hlv⟩ : ∃ x, x = docValue v0 := ⟨_, rfl⟩
  rw [← hlv] at HC hl ⊢
  clear hlv
  go_enter Tryz.func18, Tryz.ntmps18
  have hB1 : Below w.heap.size w (w.alloc (.cells #[.int .i64 k, .string text, .string more, .int .i64 n, .int .u64 bits, .int .u64 high, .slice A b.length c, .slice K' kids.length d] 32)) := balloc (Below.refl _ _) (Nat.le_refl _) _
  go_wp2_with fail
  refine start_ (n := 6) (S := fun w' => w'.cell? ⟨w.heap.size, 0, none⟩ = some (.int .i64 k) ∧ w'.cell? ⟨w.heap.size, 1, none⟩ = some (.string text) ∧ w'.cell? ⟨w.heap.size, 2, none⟩ = some (.string more) ∧ w'.cell? ⟨w.heap.size, 3, none⟩ = some (.int .i64 n) ∧ w'.cell? ⟨w.heap.size, 4, none⟩ = some (.int .u64 bits) ∧ w'.cell? ⟨w.heap.size, 5, none⟩ = some (.int .u64 high) ∧ w'.cell? ⟨w.heap.size, 6, none⟩ = some (.slice A b.length c) ∧ w'.cell? ⟨w.heap.size, 7, none⟩ = some (.slice K' kids.length d)) (ds := [5]) #[false, false, false, false, false, false] (by kernel_rfl) rfl rfl ⟨(by go_simp), (by go_simp), (by go_simp), (by go_simp), (by go_simp), (by go_simp), (by go_simp), (by go_simp)⟩ (fun hHeld => ?_)
  refine with_tabW R18.tab1 R18.bits1 (fun HT_ HW_ => ?_)
  refine pure_ (i := 0) (N := some 3) (v := ?_) (a' := ?_) #[true, false, false, false, false, false] rfl rfl (any_of HT_.out (by kernel_rfl)) (fun _ _ _ h => h) (Or.inl ⟨by rfl, ?_⟩) ?_ ?_
  rotate_left
  · intro w'
    go_simp
    with_reducible rfl
  rotate_left
  · simp only [Act.put, List.setIfInBounds_toArray, List.set_cons_zero, List.set_cons_succ, i64_w, i32_w]
    rfl
  refine take_ (i := 1) (N := some 4) (v := ?_) (a' := ?_) #[true, true, false, false, false, false] rfl rfl (take_ofW HT_.out HW_.out (by kernel_rfl)) (fun _ _ _ h => h) (Or.inl ⟨by rfl, ?_⟩) hHeld ?_ ?_
  rotate_left
  · rintro w' ⟨s0, s1, s2, s3, s4, s5, s6, s7⟩
    go_simp
    with_reducible rfl
  rotate_left
  · simp only [Act.put, List.setIfInBounds_toArray, List.set_cons_zero, List.set_cons_succ, i64_w, i32_w]
    rfl
  refine take_ (i := 2) (N := some 5) (v := ?_) (a' := ?_) #[true, true, true, false, false, false] rfl rfl (take_ofW HT_.out HW_.out (by kernel_rfl)) (fun _ _ _ h => h) (Or.inl ⟨by rfl, ?_⟩) hHeld ?_ ?_
  rotate_left
  · rintro w' ⟨s0, s1, s2, s3, s4, s5, s6, s7⟩
    go_simp
    with_reducible rfl
  rotate_left
  · simp only [Act.put, List.setIfInBounds_toArray, List.set_cons_zero, List.set_cons_succ, i64_w, i32_w]
    rfl
  refine one_ (i := 3) (N := some 6) #[true, true, true, true, false, false] rfl rfl (one_of HT_.out (by kernel_rfl)) (by decide) (fun K hK => ?_)
  refine goes_ Tryz.func35 (by kernel_rfl) rfl #[.agg #[.int .i64 k, .string text, .string more, .int .i64 n, .int .u64 bits, .int .u64 high, .slice A b.length c, .slice K' kids.length d]] (by rfl) rfl rfl (by simp only [List.map_toArray, List.map_cons, List.map_nil]; rfl) ?_
  with_reducible refine (HC.out _ (by exact bdrew (balloc hB1 (by simp) _))).mono ?_
  rintro e w3 ⟨v3, rfl, ho3, hb3⟩
  refine ⟨_, rfl, ?_⟩
  obtain ⟨A3, c3, rfl, hs3, hn3⟩ := ho3.sb
  have r0 : w3.cell? ⟨w.heap.size + 1, 0, none⟩ = some (.int .i64 0) := (hb3.cell (by simp)).trans (by go_simp)
  have r1 : w3.cell? ⟨w.heap.size + 1, 1, none⟩ = some (.slice none 0 0) := (hb3.cell (by simp)).trans (by go_simp)
  have f0 : w3.frozen? ⟨w.heap.size + 1, 0, none⟩ = false := (hb3.frozen (by simp)).trans (by go_simp)
  have f1 : w3.frozen? ⟨w.heap.size + 1, 1, none⟩ = false := (hb3.frozen (by simp)).trans (by go_simp)
  have hz : w.heap.size + 1 < w3.heap.size := by have := hb3.size; simp at this; omega
  refine hK.out _ _ ⟨((hb3.cell (World.block_lt_of_cell? _ _ hHeld.1)).trans hHeld.1), ((hb3.cell (World.block_lt_of_cell? _ _ hHeld.2.1)).trans hHeld.2.1), ((hb3.cell (World.block_lt_of_cell? _ _ hHeld.2.2.1)).trans hHeld.2.2.1), ((hb3.cell (World.block_lt_of_cell? _ _ hHeld.2.2.2.1)).trans hHeld.2.2.2.1), ((hb3.cell (World.block_lt_of_cell? _ _ hHeld.2.2.2.2.1)).trans hHeld.2.2.2.2.1), ((hb3.cell (World.block_lt_of_cell? _ _ hHeld.2.2.2.2.2.1)).trans hHeld.2.2.2.2.2.1), ((hb3.cell (World.block_lt_of_cell? _ _ hHeld.2.2.2.2.2.2.1)).trans hHeld.2.2.2.2.2.2.1), ((hb3.cell (World.block_lt_of_cell? _ _ hHeld.2.2.2.2.2.2.2)).trans hHeld.2.2.2.2.2.2.2)⟩ (fun hHeld => ?_)
  clear hK K
  refine norm_ (a' := ?_) ?_ ?_
  rotate_left
  · show Act.put _ (some 6) _ = _
    simp only [Act.put, List.setIfInBounds_toArray, List.set_cons_zero, List.set_cons_succ, i64_w, i32_w]
    rfl
  refine pure_ (i := 4) (N := some 7) (v := ?_) (a' := ?_) #[true, true, true, true, true, false] rfl rfl (any_of HT_.out (by kernel_rfl)) (fun _ _ _ h => h) (Or.inl ⟨by rfl, ?_⟩) ?_ ?_
  rotate_left
  · intro w'
    go_simp
    with_reducible rfl
  rotate_left
  · simp only [Act.put, List.setIfInBounds_toArray, List.set_cons_zero, List.set_cons_succ, i64_w, i32_w]
    rfl
  refine last_ (i := 5) (N := none) #[true, true, true, true, true, true] rfl rfl (one_of HT_.out (by kernel_rfl)) (by decide) (fun K hK => ?_)
  refine skip_ (w1 := ?_) (by rfl) rfl ?_ ?_
  rotate_left
  · go_simp
    rfl
  refine hK.out _ _ ?_
  clear hK K
  refine done_ (done_of HT_.out (by kernel_rfl)) ?_
  have hB3 : Below w.heap.size w w3 := (bdrew (balloc hB1 (by simp) _)).trans (hb3.mono (by simp; omega))
  have hne : ∀ a, A3 = some a → w.heap.size + 1 ≠ a.block := fun a ha => by have := (hn3 a ha).1; simp at this; omega
  clear HC hn3
  go_wp2
  exact bodyPost_ret (v := .agg #[.int .i64 k, .slice A3 lv.length c3]) (by simp [results, Tryz.results18, go_sem, r0, r1, f0, f1, hz]) rfl ⟨A3, c3, rfl, (hs3.farp _ _ hne).farp _ _ hne, (hB3.setCell (by simp) _).setCell (by simp) _⟩
theorem implCore (A : Option Addr) (n c : Nat) (k : Int) (w : World) (h0 : 0 ≤ k) (h1 : k ≤ 255) :
    Calls Tryz.prog 36 #[.agg #[.int .i64 k, .slice A n c]] w fun e w' => e = .returned (.agg #[.int .u8 k, .slice A n c]) ∧ Below w.heap.size w w' := by
  have hw : k % 256 = k := by omega
  go_enter Tryz.func36, Tryz.ntmps36
  go_wp2_with fail
  exact bodyPost_ret (v := .agg #[.int .u8 k, .slice A n c]) (by simp [results, Tryz.results36, go_sem, hw]) rfl ⟨rfl, by exact balloc (balloc (Below.refl _ _) (Nat.le_refl _) _) (by simp) _⟩
/-- ValidateValue of bytes that are a value. -/
theorem implValidateValue (A : Option Addr) (c : Nat) (l : List UInt8) (k : Int) (w : World) (hs : SB w A c l) (h0 : 0 ≤ k) (h1 : k ≤ 255) (hv : valIs k l = true) :
    Calls Tryz.prog 17 #[.agg #[.int .i64 k, .slice A l.length c]] w fun e w' => e = .returned (.int .i64 0) ∧ Below w.heap.size w w' := by
  have HC := Lib.hid (fun wx => implCore A l.length c k wx h0 h1)
  have HV : Hid (∀ wx : World, Below w.heap.size w wx → Calls Tryz.prog 37 #[.agg #[.int .u8 k, .slice A l.length c]] wx fun e w' => ∃ v, e = .returned v ∧ Al.CodeIs 0 v ∧ Below wx.heap.size wx w') := Lib.hid fun wx hb => by
    have h := Av.valueValidate A c l k wx (hs.keep hb)
    rw [hv] at h
    exact h
  obtain ⟨n, hn⟩ : ∃ n, n = l.length := ⟨_, rfl⟩
  rw [← hn] at HC HV ⊢
  clear hs hv hn
  have hB : Below w.heap.size w (w.alloc (.cells #[.int .i64 k, .slice A n c] 42)) := balloc (Below.refl _ _) (Nat.le_refl _) _
  go_enter Tryz.func17, Tryz.ntmps17
  go_wp2_with fail
  refine (HC.out _).mono ?_
  rintro e w1 ⟨rfl, hb1⟩
  have hb1' := bstep hB (by simp) hb1
  have HB1 := Lib.hid hb1'
  clear hb1 hb1' hB HC
  go_wp2_with fail
  refine (HV.out _ HB1.out).mono ?_
  rintro e w2 ⟨v, rfl, hc, hb2⟩
  have HD := Lib.hid (Al.code_ex hc w2)
  have HB2 := Lib.hid (bthen HB1.out hb2)
  clear hc hb2 HV
  go_wp2_with fail
  refine HD.out.mono ?_
  rintro e w3 ⟨rfl, hb3⟩
  have HB3 := Lib.hid (bthen HB2.out hb3)
  clear hb3 HD
  go_wp2_with fail
  go_ret
  exact ⟨rfl, HB3.out⟩
end Go.Proofs.YtjbeaofnnodlcaaGreatDoor.X
