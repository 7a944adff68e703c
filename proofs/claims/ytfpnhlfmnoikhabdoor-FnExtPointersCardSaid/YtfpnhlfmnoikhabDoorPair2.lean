/- Contracts of spec.extPair and spec.ExtPointerOf. -/
import Derived.Test.YtfpnhlfmnoikhabDoorPair
set_option linter.unusedVariables false
set_option linter.unusedSimpArgs false
set_option maxRecDepth 100000
namespace Go.Proofs.YtfpnhlfmnoikhabDoor.X
open Go.RowKit Go.Proofs.YtfpnhlfmnoikhabDoorW.PrintWords
open Go.Proofs.YtfpnhlfmnoikhabDoor.PFnExtPointers
def REF : ByteArray := ⟨#[36, 114, 101, 102]⟩
def IDN : ByteArray := ⟨#[36, 105, 100]⟩
theorem toList_eq {a b : ByteArray} : a.toList = b.toList ↔ a = b := by
  constructor
  · intro h
    rw [toList_data, toList_data] at h
    exact ByteArray.ext (by simpa using congrArg List.toArray h)
  · rintro rfl; rfl
/-- The two members, by their names, in either order. -/
def pairP : List ByteArray → List ByteArray → Option (ByteArray × ByteArray)
  | [a, b], [x, y] => if a = REF ∧ b = IDN then some (x, y) else if a = IDN ∧ b = REF then some (y, x) else none
  | _, _ => none
theorem pair_f (ks ts : List ByteArray) : spec_extPair.f 2 ks ts REF IDN = some (match pairP ks ts with
    | some (x, y) => (x, y, true)
    | none => ((⟨#[]⟩ : ByteArray), (⟨#[]⟩ : ByteArray), false)) := by
  unfold spec_extPair.f
  match ks with
  | [] => simp [spec_extPair.j0, pairP]
  | [a] => simp [spec_extPair.j0, pairP]
  | a :: b :: d :: r => 
    rw [if_neg (by simp; omega)]
    simp [spec_extPair.j0, pairP]
  | [a, b] =>
    rw [if_pos (by simp)]
    match ts with
    | [] => simp [spec_extPair.j0, pairP]
    | [x] => simp [spec_extPair.j0, pairP]
    | x :: y :: z :: r =>
      have h : ((((x :: y :: z :: r).length : Nat) : Int) != 2) = true := by simp; omega
      rw [h]
      simp [spec_extPair.j0, pairP]
    | [x, y] =>
      have hne : ¬ IDN = REF := by decide
      simp only [spec_extPair.j0, spec_extPair.j1, pairP, toList_eq, rdOf, List.length_cons, List.length_nil]
      by_cases h1 : a = REF
      · subst h1
        have hne2 : ¬ REF = IDN := by decide
        by_cases h2 : b = IDN
        · subst h2; simp
        · simp [h2, hne2, toList_eq]
      · by_cases h3 : a = IDN
        · subst h3
          by_cases h4 : b = REF
          · subst h4; simp [h1]
          · simp [h1, h4]
        · simp [h1, h3]
theorem extPair (A1 A2 : Option Addr) (c1 c2 : Nat) (ks ts : List ByteArray) (w : World) (h1 : GS w A1 c1 (strv ks)) (h2 : GS w A2 c2 (strv ts)) :
    Calls Tryd.prog 15 #[.slice A1 ks.length c1, .slice A2 ts.length c2, .string REF, .string IDN] w fun e w' => ∃ r1 r2 b, (match pairP ks ts with | some (x, y) => r1 = x ∧ r2 = y ∧ b = true | none => b = false) ∧ e = .returned (.tuple #[.string r1, .string r2, .bool b]) ∧ Below w.heap.size w w' := by
  have h := pair_f ks ts
  have k1 : ks.length ≤ c1 := by have := h1.le; rwa [strv_len] at this
  have k2 : ts.length ≤ c2 := by have := h2.le; rwa [strv_len] at this
  cases hp : pairP ks ts with
  | none =>
    rw [hp] at h
    refine (spec_extPair.calls 2 A1 c1 ks A2 c2 ts _ _ _ _ _ w (kd_strs h1) k1 (kd_strs h2) k2 h).mono ?_
    rintro e w' ⟨rfl, hd⟩
    exact ⟨_, _, _, rfl, rfl, hd.below⟩
  | some q =>
    obtain ⟨x, y⟩ := q
    rw [hp] at h
    refine (spec_extPair.calls 2 A1 c1 ks A2 c2 ts _ _ _ _ _ w (kd_strs h1) k1 (kd_strs h2) k2 h).mono ?_
    rintro e w' ⟨rfl, hd⟩
    exact ⟨_, _, _, ⟨rfl, rfl, rfl⟩, rfl, hd.below⟩
/-- What the members say. -/
def pointerP (ks ts : List ByteArray) : Option (ByteArray × List UInt8) := (pairP ks ts).bind fun q => (unhex q.2).map fun b => (q.1, b)
/-- A pointer's value, as the specification gives it. -/
def valP (A : Option Addr) (n c : Nat) (s : ByteArray) : Value := .agg #[.int .i64 12, .string s, .string ⟨#[]⟩, .int .i64 0, .int .u64 0, .int .u64 0, .slice A n c, .slice none 0 0]
def PtrOut (w : World) (ks ts : List ByteArray) (e : Ending) (w' : World) : Prop := ∃ A n c s b, e = .returned (.tuple #[valP A n c s, .bool b]) ∧ (match pointerP ks ts with | some (x, l) => s = x ∧ n = l.length ∧ SB w' A c l ∧ b = true | none => b = false) ∧ Below w.heap.size w w'
theorem extPointerOf (A1 A2 : Option Addr) (c1 c2 : Nat) (ks ts : List ByteArray) (w : World) (h1 : GS w A1 c1 (strv ks)) (h2 : GS w A2 c2 (strv ts)) :
    Calls Tryd.prog 9 #[.slice A1 ks.length c1, .slice A2 ts.length c2] w (PtrOut w ks ts) := by
  have HP := Lib.hid (fun wx (g1 : GS wx A1 c1 (strv ks)) (g2 : GS wx A2 c2 (strv ts)) => extPair A1 A2 c1 c2 ks ts wx g1 g2)
  have HI := Lib.hid (fun s wx => extIDOf s wx)
  have H1 := Lib.hid h1
  have H2 := Lib.hid h2
  unfold REF IDN at HP
  clear h1 h2
  go_enter Tryd.func9, Tryd.ntmps9
  go_wp2_with fail
  refine (HP.out _ (H1.out.alloc _) (H2.out.alloc _)).mono ?_
  rintro e w1 ⟨r1, r2, b, hm, rfl, hb1⟩
  obtain ⟨hc1, hf1⟩ := bcell hb1
  have hz1 := hb1.size
  simp only [World.size_alloc] at hz1 hc1 hf1
  have R1 : w.heap.size < w1.heap.size := by omega
  have d0 := hc1 w.heap.size 0 (by omega)
  have d1 := hc1 w.heap.size 1 (by omega)
  have d2 := hc1 w.heap.size 2 (by omega)
  have d3 := hc1 w.heap.size 3 (by omega)
  have d4 := hc1 w.heap.size 4 (by omega)
  have d5 := hc1 w.heap.size 5 (by omega)
  have d6 := hc1 w.heap.size 6 (by omega)
  have d7 := hc1 w.heap.size 7 (by omega)
  simp [go_sem] at d0 d1 d2 d3 d4 d5 d6 d7
  have HE1 := Lib.hid ((balloc (Below.refl _ w) (Nat.le_refl _) _).trans (hb1.mono (by simp)))
  have HM := Lib.hid hm
  clear hm hb1 HP H1 H2
  go_wp2_with fail
  refine (HI.out _ _).mono ?_
  rintro e w2 ⟨A, c, rfl, hs2, hn2, hb2⟩
  obtain ⟨hc2, hf2⟩ := bcell hb2
  have hz2 := hb2.size
  have R2 : w.heap.size < w2.heap.size := by omega
  have f0 := (hc2 _ 0 R1).trans d0
  have f1 := (hc2 _ 1 R1).trans d1
  have f2 := (hc2 _ 2 R1).trans d2
  have f3 := (hc2 _ 3 R1).trans d3
  have f4 := (hc2 _ 4 R1).trans d4
  have f5 := (hc2 _ 5 R1).trans d5
  have f6 := (hc2 _ 6 R1).trans d6
  have f7 := (hc2 _ 7 R1).trans d7
  have HE2 := Lib.hid (bstep HE1.out (by omega) hb2)
  obtain ⟨g, hg⟩ : ∃ g, g = (unhex r2).isSome := ⟨_, rfl⟩
  obtain ⟨n, hn⟩ : ∃ n, n = ((unhex r2).getD []).length := ⟨_, rfl⟩
  rw [← hg, ← hn]
  have HG := Lib.hid hg
  have HN := Lib.hid hn
  have HNW : Hid (∀ a, A = some a → w1.heap.size ≤ a.block) := Lib.hid hn2
  have HS := Lib.hid hs2
  have hbb : w.heap.size ≤ w.heap.size := Nat.le_refl _
  clear hg hn hs2 hn2 hb2 HI HE1
  have hend : ∀ b2, (match pointerP ks ts with | some (x, l) => r1 = x ∧ n = l.length ∧ SB w2 A c l ∧ b2 = true | none => b2 = false) → PtrOut w ks ts (.returned (.tuple #[valP A n c r1, .bool b2])) ((((((((w2.setCell ⟨w.heap.size, 0, none⟩ (.int .i64 12)).setCell ⟨w.heap.size, 1, none⟩ (.string r1)).setCell ⟨w.heap.size, 2, none⟩ (.string ⟨#[]⟩)).setCell ⟨w.heap.size, 3, none⟩ (.int .i64 0)).setCell ⟨w.heap.size, 4, none⟩ (.int .u64 0)).setCell ⟨w.heap.size, 5, none⟩ (.int .u64 0)).setCell ⟨w.heap.size, 6, none⟩ (.slice A n c)).setCell ⟨w.heap.size, 7, none⟩ (.slice none 0 0)) := by
    intro b2 h
    have hne : ∀ a, A = some a → a.block ≠ w.heap.size := fun a ha => by have := HNW.out a ha; omega
    refine ⟨A, n, c, r1, b2, rfl, ?_, (((((((HE2.out.setCell hbb _).setCell hbb _).setCell hbb _).setCell hbb _).setCell hbb _).setCell hbb _).setCell hbb _).setCell hbb _⟩
    cases hp : pointerP ks ts with
    | none => rw [hp] at h; exact h
    | some q =>
      obtain ⟨x, l⟩ := q
      rw [hp] at h
      exact ⟨h.1, h.2.1, (((((((h.2.2.1.far hne _).far hne _).far hne _).far hne _).far hne _).far hne _).far hne _).far hne _, h.2.2.2⟩
  have HEND := Lib.hid hend
  clear hend HE2
  have hres : match pointerP ks ts with | some (x, l) => r1 = x ∧ n = l.length ∧ SB w2 A c l ∧ (b && g) = true | none => (b && g) = false := by
    have hm := HM.out
    have hg := HG.out
    have hn := HN.out
    have hs := HS.out
    unfold pointerP
    cases hp : pairP ks ts with
    | none => rw [hp] at hm; simp [hm]
    | some q =>
      obtain ⟨x, y⟩ := q
      rw [hp] at hm
      obtain ⟨rfl, rfl, rfl⟩ := hm
      cases hu : unhex r2 with
      | none => simp [hu, hg]
      | some l => 
        rw [hu] at hn hs hg
        simp only [Option.bind_some, hu, Option.map_some]
        exact ⟨trivial, hn, hs, by simp [hg]⟩
  have HRES := Lib.hid hres
  clear hres HM HG HS HN
  cases b
  · go_wp2_with fail
    exact bodyPost_ret (v := .tuple #[valP A n c r1, .bool false]) (by simp [results, Tryd.results9, go_sem, valP, f0, f1, f2, f3, f4, f5, f6, f7, R2]) rfl (HEND.out _ HRES.out)
  · go_wp2_with fail
    exact bodyPost_ret (v := .tuple #[valP A n c r1, .bool g]) (by simp [results, Tryd.results9, go_sem, valP, f0, f1, f2, f3, f4, f5, f6, f7, R2]) rfl (HEND.out _ (by simpa using HRES.out))
end Go.Proofs.YtfpnhlfmnoikhabDoor.X
