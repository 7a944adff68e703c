/- laws.bindDoc. -/
import Derived.Test.YtdmnogjgifapnaaDoorTexts
import Derived.Test.YtdmnogjgifapnaaDoorDoc9
set_option linter.unusedVariables false
set_option linter.unusedSimpArgs false
set_option maxRecDepth 100000
namespace Go.Proofs.YtdmnogjgifapnaaDoor.X
open Go.RowKit
set_option maxHeartbeats 800000 in
theorem bindDoc (v : Val) (cs : List Value) (w : World) (hok : okv v) (hv : RV w v cs) :
    Calls Tryd.prog 21 #[.agg cs.toArray] w fun e w' => (e = .returned (.tuple #[.slice none 0 0, .bool false]) ∨ (v.kind = 3 ∧ fine v 1000 65536 = true ∧ ∃ A c, e = .returned (.tuple #[.slice A (docBytesOf v.kids).length c, .bool true]) ∧ SB w' A c (docBytesOf v.kids))) ∧ Below w.heap.size w w' := by
  have hv0 := Lib.hid hv
  obtain ⟨v0, hv00⟩ : ∃ x, x = v := ⟨_, rfl⟩
  rw [← hv00] at hv0 hok ⊢
  obtain ⟨k, text, more, n, bits, high, b, kids⟩ := v
  have hkind : v0.kind = k := by rw [hv00]; rfl
  have hkids : v0.kids = kids := by rw [hv00]; rfl
  have HFINE : Hid (fine v0 1000 65536 = true → bytesN v0 ≤ 65536 ∧ (docElems kids).length ≤ 1000000000000) := Lib.hid fun h => by
    obtain ⟨h1, h2, h3⟩ := fine_len h (by omega)
    have := docElems_len kids
    have h4 : bytesK kids ≤ bytesN v0 := by rw [hv00]; simp only [bytesN]; omega
    have h5 : nodesK kids ≤ nodes v0 := by rw [hv00]; simp only [nodes]; omega
    exact ⟨h1, by omega⟩
  simp only [RV] at hv
  obtain ⟨A, c, K, d, rfl, hs, hd, hd2, hk⟩ := hv
  rw [hkind, hkids]
  clear hkind hkids hv00
  have HR := Lib.hid (fun wx (h : RV wx v0 _) => bindRight v0 [.int .i64 k, .string text, .string more, .int .i64 n, .int .u64 bits, .int .u64 high, .slice A b.length c, .slice K kids.length d] wx hok h)
  have HT := Lib.hid (fun wx h1 (h : RV wx v0 _) => bindTexts (wt v0 + 1) v0 [.int .i64 k, .string text, .string more, .int .i64 n, .int .u64 bits, .int .u64 high, .slice A b.length c, .slice K kids.length d] wx (by omega) h1 h)
  have HD := Lib.hid (fun (wx : World) (hx : Below w.heap.size w wx) h1 => docBytes_calls kids K d wx h1 hd hd2 (hk.imp id fun ⟨blk, off, e, h⟩ => ⟨blk, off, e, h.keep hx⟩))
  obtain ⟨z, hz⟩ : ∃ z, z = fine v0 1000 65536 := ⟨_, rfl⟩
  rw [← hz] at HR HFINE ⊢
  clear hz hk hok hs
  by_cases h3 : k = 3
  · subst h3
    cases z with
    | false =>
      go_enter Tryd.func21, Tryd.ntmps21
      go_wp2_with fail
      refine (HR.out _ (by exact hv0.out.keep (balloc (Below.refl _ _) (Nat.le_refl _) _))).mono ?_
      rintro e w1 ⟨rfl, hb1⟩
      have hb1' := bstep (balloc (Below.refl _ _) (Nat.le_refl _) _) (by simp) hb1
      go_wp2_with fail
      go_ret2
      exact ⟨.inl rfl, hb1'⟩
    | true =>
      obtain ⟨hby, hle⟩ := HFINE.out rfl
      have HBY := Lib.hid hby
      have HLE := Lib.hid hle
      clear hby hle HFINE
      go_enter Tryd.func21, Tryd.ntmps21
      go_wp2_with fail
      refine (HR.out _ (by exact hv0.out.keep (balloc (Below.refl _ _) (Nat.le_refl _) _))).mono ?_
      rintro e w1 ⟨rfl, hb1⟩
      obtain ⟨hc1, hf1⟩ := bcell hb1
      have hz1 : w.heap.size < w1.heap.size := by have := hb1.size; simp at this; omega
      have hb1' := bstep (balloc (Below.refl _ _) (Nat.le_refl _) _) (by simp) hb1
      go_wp2_with fail
      refine (HT.out _ HBY.out (by exact hv0.out.keep hb1')).mono ?_
      rintro e w2 ⟨⟨z2, rfl⟩, hb2⟩
      obtain ⟨hc2, hf2⟩ := bcell hb2
      have hz2 : w.heap.size < w2.heap.size := by have := hb2.size; omega
      have hb2' := bstep hb1' (by omega) hb2
      cases z2 with
      | false =>
        go_wp2_with fail
        go_ret2
        exact ⟨.inl rfl, hb2'⟩
      | true =>
        go_wp2_with fail
        refine (HD.out _ hb2' HLE.out).mono ?_
        rintro e w3 ⟨v3, rfl, ho3, hb3⟩
        obtain ⟨A3, c3, rfl, hs3, -⟩ := ho3.sb
        go_wp2_with fail
        go_ret2
        exact ⟨.inr ⟨trivial, trivial, _, _, rfl, hs3⟩, bstep hb2' (by omega) hb3⟩
  · have d3 : (k == 3) = false := by rw [beq_eq_false_iff_ne]; exact h3
    go_enter Tryd.func21, Tryd.ntmps21
    go_wp2_with fail
    go_ret2
    exact ⟨.inl rfl, balloc (Below.refl _ _) (Nat.le_refl _) _⟩
end Go.Proofs.YtdmnogjgifapnaaDoor.X
