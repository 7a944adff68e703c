/- The law FnDecInt. -/
import Derived.Test.YtjjfdamlicoeeaaDoorDecInt
set_option linter.unusedVariables false
set_option linter.unusedSimpArgs false
set_option maxRecDepth 100000
namespace Go.Proofs.YtjjfdamlicoeeaaDoor.X
open Go.RowKit Go.Deep
theorem posB_ng (h : Int) (h1 : 0 ≤ h) (h2 : h ≤ 18446744073709551615) : posB h = !(h / 9223372036854775808 == 1) := by
  have e : bits .and .u64 (h / 9223372036854775808) 1 = h / 9223372036854775808 % 2 := bits_mask .u64 64 (by decide) wraps_u64 1 (by decide) _ (by omega) (by omega)
  unfold posB
  rw [e]
  by_cases c : h / 9223372036854775808 = 1
  · rw [c]; rfl
  · have c0 : h / 9223372036854775808 = 0 := by omega
    rw [c0]; rfl
theorem decl_ne (N : Nat) (h : N ≠ 0) : decl N ≠ [48] := fun e => by
  rw [decl_step N h] at e
  by_cases h1 : N / 10 = 0
  · rw [h1, decl_zero] at e
    simp only [List.nil_append, List.cons.injEq, and_true] at e
    have h2 := ub_toNat (48 + ((N % 10 : Nat) : Int))
    rw [e] at h2
    have : ((48 : UInt8).toNat : Int) = 48 := rfl
    omega
  · rw [decl_step _ h1] at e
    have := congrArg List.length e
    simp at this
def RetT (w : World) (e : Ending) (w' : World) : Prop := e = .returned (.bool true) ∧ Below w.heap.size w w'
theorem fnDecInt_oth (h l : Int) (k : Int) (ng : Bool) (code : Int) (w : World) (hkc : k = 2 ∧ code = 1 ∨ k = 1 ∧ ng = true ∧ code = 3 ∨ k = 1 ∧ ng = false ∧ code = 2)
    (hft : ∀ wx, Calls Tryd.prog 9 #[.int .u64 h, .int .u64 l] wx (RetF wx h l))
    (hof : ∀ wx, Calls Tryd.prog 10 #[.int .u64 h, .int .u64 l] wx fun e w' => e = .returned (.agg #[.int .i64 k, .bool ng, .string ⟨#[]⟩, .int .i64 0]) ∧ Below wx.heap.size wx w')
    (hdi : ∀ wx, Below w.heap.size w wx → Calls Tryd.prog 11 #[.int .u64 h, .int .u64 l] wx fun e w' => e = .returned (.tuple #[.string ⟨#[]⟩, .int .i64 0, .int .i64 code]) ∧ Below wx.heap.size wx w') :
    Calls Tryd.prog 3 #[.int .u64 h, .int .u64 l] w (RetT w) := by
  have HF := Lib.hid hft
  have HO := Lib.hid hof
  have HD := Lib.hid hdi
  clear hft hof hdi
  rcases hkc with ⟨rfl, rfl⟩ | ⟨rfl, rfl, rfl⟩ | ⟨rfl, rfl, rfl⟩
  all_goals
    go_enter Tryd.func3, Tryd.ntmps3
    go_wp2_with fail
    refine (HF.out _).mono ?_
    rintro e w1 ⟨z, rfl, g1, hb1⟩
    have HB1 := Lib.hid hb1
    clear hb1 g1
    cases z
    · go_wp2_with fail
      go_ret
      exact ⟨rfl, HB1.out⟩
    go_wp2_with fail
    refine (HO.out _).mono ?_
    rintro e w2 ⟨rfl, hb2⟩
    have HB2 := Lib.hid (bstep HB1.out HB1.out.size hb2)
    clear hb2
    go_wp2_with fail
    refine (HD.out _ (balloc HB2.out HB2.out.size _)).mono ?_
    rintro e w3 ⟨rfl, hb3⟩
    obtain ⟨hc3, -⟩ := bcell hb3
    have hz3 := hb3.size
    simp only [World.size_alloc] at hz3 hc3
    have v0 := hc3 w2.heap.size 0 (by omega)
    have v1 := hc3 w2.heap.size 1 (by omega)
    simp [go_sem] at v0 v1
    have HB3 := Lib.hid (bstep (balloc HB2.out HB2.out.size _) (by have := HB2.out.size; simp; omega) hb3)
    clear hb3 hc3
    go_wp2_with fail
    go_ret
    exact ⟨rfl, HB3.out⟩
theorem fnDecInt_fin (h l : Int) (ng pz : Bool) (X D : ByteArray) (x : Int) (w : World)
    (hft : ∀ wx, Calls Tryd.prog 9 #[.int .u64 h, .int .u64 l] wx (RetF wx h l))
    (hof : ∀ wx, Calls Tryd.prog 10 #[.int .u64 h, .int .u64 l] wx fun e w' => e = .returned (.agg #[.int .i64 0, .bool ng, .string D, .int .i64 x]) ∧ Below wx.heap.size wx w')
    (hdi : Fits h l → ∀ wx, Below w.heap.size w wx → Calls Tryd.prog 11 #[.int .u64 h, .int .u64 l] wx fun e w' => e = .returned (.tuple #[.string X, .int .i64 x, .int .i64 0]) ∧ Below wx.heap.size wx w')
    (hDs : D.size ≤ 100) (hX : (ng = true ∧ (!D.toList == [48]) = true ∧ X = (⟨#[45]⟩ : ByteArray) ++ D) ∨ (ng = true ∧ D = ⟨#[48]⟩ ∧ X = D) ∨ (ng = false ∧ X = D)) :
    Calls Tryd.prog 3 #[.int .u64 h, .int .u64 l] w (RetT w) := by
  have HF := Lib.hid hft
  have HO := Lib.hid hof
  have HD := Lib.hid hdi
  have hsz : (9223372036854775807 < (⟨#[45]⟩ : ByteArray).size + D.size) = False := by
    have : (⟨#[45]⟩ : ByteArray).size = 1 := rfl
    simp [this]; omega
  clear hft hof hdi
  rcases hX with ⟨rfl, hne, rfl⟩ | ⟨rfl, rfl, rfl⟩ | ⟨rfl, rfl⟩
  all_goals
    go_enter Tryd.func3, Tryd.ntmps3
    go_wp2_with fail
    refine (HF.out _).mono ?_
    rintro e w1 ⟨z, rfl, g1, hb1⟩
    have HB1 := Lib.hid hb1
    have HG1 := Lib.hid g1
    clear hb1 g1
    cases z
    · go_wp2_with fail
      go_ret
      exact ⟨rfl, HB1.out⟩
    go_wp2_with fail
    refine (HO.out _).mono ?_
    rintro e w2 ⟨rfl, hb2⟩
    have HB2 := Lib.hid (bstep HB1.out HB1.out.size hb2)
    clear hb2
    go_wp2_with fail
    refine (HD.out (HG1.out rfl) _ (balloc HB2.out HB2.out.size _)).mono ?_
    rintro e w3 ⟨rfl, hb3⟩
    obtain ⟨hc3, -⟩ := bcell hb3
    have hz3 := hb3.size
    simp only [World.size_alloc] at hz3 hc3
    have v0 := hc3 w2.heap.size 0 (by omega)
    have v1 := hc3 w2.heap.size 1 (by omega)
    have v2 := hc3 w2.heap.size 2 (by omega)
    have v3 := hc3 w2.heap.size 3 (by omega)
    simp [go_sem] at v0 v1 v2 v3
    have HB3 := Lib.hid (bstep (balloc HB2.out HB2.out.size _) (by have := HB2.out.size; simp; omega) hb3)
    clear hb3 hc3
    go_wp2_with fail
    go_ret
    exact ⟨by first | rfl | simp, HB3.out⟩
theorem fnDecInt_walk (h l : Int) (w : World) (h1 : 0 ≤ h) (h2 : h ≤ 18446744073709551615) (l1 : 0 ≤ l) (l2 : l ≤ 18446744073709551615) {a0 a1 a2 : Addr} (hS : Sent w a0 a1 a2) :
    Calls Tryd.prog 3 #[.int .u64 h, .int .u64 l] w (RetT w) := by
  have hft := fun wx => decFits_any h l wx h1 h2 l1 l2
  have hof := fun wx => decOf_any h l wx h1 h2 l1 l2
  have hpn := posB_ng h h1 h2
  by_cases n30 : k5P h = 30
  · simp only [if_pos n30] at hof
    cases hp : posB h
    · rw [hp] at hpn
      have hng : (h / 9223372036854775808 == 1) = true := by simpa using hpn.symm
      rw [hng] at hof
      exact fnDecInt_oth h l 1 true 3 w (.inr (.inl ⟨rfl, rfl, rfl⟩)) hft hof (fun wx hb => decInt_ninf h l wx n30 hp (hS.keep hb))
    · rw [hp] at hpn
      have hng : (h / 9223372036854775808 == 1) = false := by simpa using hpn.symm
      rw [hng] at hof
      exact fnDecInt_oth h l 1 false 2 w (.inr (.inr ⟨rfl, rfl, rfl⟩)) hft hof (fun wx hb => decInt_inf h l wx n30 hp (hS.keep hb))
  by_cases n31 : k5P h = 31
  · simp only [if_neg n30, if_pos n31] at hof
    exact fnDecInt_oth h l 2 _ 1 w (.inl ⟨rfl, rfl⟩) hft hof (fun wx hb => decInt_nan h l wx n31 (hS.keep hb))
  simp only [if_neg n30, if_neg n31] at hof
  have hN : coP h l < 340282366920938463463374607431768211456 := by
    have hr := hiP_rng h h1 h2
    have hlo : 0 ≤ loP h l ∧ loP h l ≤ 18446744073709551615 := by unfold loP; split <;> omega
    unfold coP
    omega
  have hsz := (digs_size (coP h l) hN).2
  rw [show (hiP h * 18446744073709551616 + loP h l).toNat = coP h l from rfl] at hof
  refine fnDecInt_fin h l _ true _ _ _ w hft hof (fun hF wx hb => decInt_fin h l wx h1 h2 l1 l2 n30 n31 (hF.fin n30 n31).1 (hS.keep hb)) (by omega) ?_
  obtain ⟨ng, hng⟩ : ∃ ng, (h / 9223372036854775808 == 1) = ng := ⟨_, rfl⟩
  rw [hng] at hpn ⊢
  rw [hpn]
  by_cases h0 : coP h l = 0
  · rw [h0]
    cases ng
    · exact .inr (.inr ⟨rfl, by simp [intT, digs]⟩)
    · exact .inr (.inl ⟨rfl, by simp [digs], by simp [intT, digs]⟩)
  · cases ng
    · exact .inr (.inr ⟨rfl, by simp [intT, digs, h0]⟩)
    · refine .inl ⟨rfl, ?_, ?_⟩
      · have hx : (⟨(digs (coP h l)).toArray⟩ : ByteArray).toList ≠ [48] := by
          rw [toList_data]
          show digs (coP h l) ≠ [48]
          unfold digs
          rw [if_neg h0]
          exact decl_ne _ h0
        simpa using hx
      · refine bytes_ext _ _ ?_
        rw [toList_data, toList_data, ByteArray.data_append, Array.toList_append]
        show intT _ _ = [45] ++ digs (coP h l)
        simp [intT, digs, h0]
end Go.Proofs.YtjjfdamlicoeeaaDoor.X
