/- Contracts of nat.norm, natOf, nat.divW. -/
import Derived.Test.YtjjfdamlicoeeaaDoorNatP
set_option linter.unusedVariables false
set_option linter.unusedSimpArgs false
set_option maxRecDepth 100000
namespace Go.Proofs.YtjjfdamlicoeeaaDoor.X
open Go.RowKit Go.Deep
theorem GS.pre {w : World} {A : Option Addr} {c : Nat} {l : List Value} (h : GS w A c l) (m : Nat) : GS w A c (l.take m) := ⟨by have := h.le; simp; omega, h.cap, fun hp => by
  obtain ⟨b, off, e, hc⟩ := h.cells (by simp at hp; omega)
  refine ⟨b, off, e, fun j hj => ?_⟩
  simp only [List.length_take] at hj
  rw [hc j (by omega), List.getElem_take]⟩
theorem u32v_take (l : List Nat) (m : Nat) : (u32v l).take m = u32v (l.take m) := by simp [u32v]
def NRel (A : Option Addr) (c : Nat) (l : List Nat) (s : Value) : Prop := ∃ m : Nat, m ≤ l.length ∧ s = .slice A m c ∧ nv (l.take m) = nv l
theorem norm (A : Option Addr) (c : Nat) (l : List Nat) (w : World) (hs : GS w A c (u32v l)) (hl : l.length ≤ 1000000000) (hlow : Low l) :
    Calls Tryd.prog 77 #[.slice A l.length c] w fun e w' => e = .returned (.slice A (nat32 (nv l)).length c) ∧ GS w' A c (u32v (nat32 (nv l))) ∧ w = w' := by
  have hle := hs.le
  simp only [u32v, List.length_map] at hle
  have hcap := hs.cap
  have HS := Lib.hid hs
  have HL := Lib.hid hlow
  obtain ⟨q, hq⟩ : ∃ q, q = l.length := ⟨_, rfl⟩
  rw [← hq] at hl hle ⊢
  have HQ := Lib.hid hq
  clear hs hlow hq
  go_enter Tryd.func77, Tryd.ntmps77
  go_wp2_with fail
  go_loop [0] (fun s => NRel A c l s) (fun s => match s with | .slice _ n _ => n | _ => 0)
  case atStart => exact ⟨q, by rw [HQ.out]; exact Nat.le_refl _, rfl, by rw [HQ.out, List.take_length]⟩
  case round =>
    obtain ⟨m, hm, rfl, hv⟩ := hrel
    have hend : (m = 0 ∨ ∃ h : m - 1 < l.length, l[m - 1] ≠ 0) → nat32 (nv l) = l.take m := by
      intro h
      rw [← hv]
      by_cases h0 : m = 0
      · subst h0; simp only [List.take_zero, nv]; exact nat32_zero
      · rcases h with h | ⟨h1, h2⟩
        · exact absurd h h0
        · obtain ⟨p, rfl⟩ : ∃ p, m = p + 1 := ⟨m - 1, by omega⟩
          rw [List.take_succ_eq_append_getElem (by omega)]
          refine nat32_snoc _ _ (fun x hx => HL.out x ?_) (Nat.pos_of_ne_zero h2)
          rw [← List.take_succ_eq_append_getElem (by omega)] at hx
          exact List.mem_of_mem_take hx
    have HV := Lib.hid hv
    have HE := Lib.hid hend
    have hmq : m ≤ q := by rw [HQ.out]; exact hm
    clear hv hend
    by_cases h0 : m = 0
    · subst h0
      have he := HE.out (.inl rfl)
      have HE2 := Lib.hid he
      clear he
      go_wp2_with fail
      go_ret
      exact ⟨by rw [HE2.out]; rfl, by rw [HE2.out, ← u32v_take]; exact HS.out.pre 0, rfl⟩
    · obtain ⟨p, rfl⟩ : ∃ p, m = p + 1 := ⟨m - 1, by omega⟩
      obtain ⟨b, off, rfl, hc⟩ := HS.out.cells (by simp [u32v]; omega)
      have hcp := hc p (by simp [u32v]; omega)
      obtain ⟨x, hx⟩ : ∃ x : Nat, x = l[p] := ⟨_, rfl⟩
      have hcx : w.cell? ⟨b, off + p, none⟩ = some (.int .u32 (x : Int)) := by rw [hcp, hx]; simp [u32v]
      clear hc hcp
      by_cases hz : x = 0
      · have HR : Hid (NRel (some ⟨b, off, none⟩) c l (.slice (some ⟨b, off, none⟩) p c)) := Lib.hid ⟨p, by omega, rfl, by
          rw [← HV.out, List.take_succ_eq_append_getElem (by omega), ← hx, hz, nv_snoc0]⟩
        subst hz
        clear hx
        go_wp2_with fail
        go_round
        case rel => exact HR.out
        case measure => simp
      · have he := HE.out (.inr ⟨by omega, by rw [show l[p + 1 - 1]'(by omega) = x from hx.symm]; exact hz⟩)
        have HE2 := Lib.hid he
        have hz2 : ((x : Int) == 0) = false := by rw [beq_eq_false_iff_ne]; omega
        have hlen : (l.take (p + 1)).length = p + 1 := by simp; omega
        have HLN := Lib.hid hlen
        clear he hz hx hlen
        go_wp2_with fail
        go_ret
        exact ⟨by rw [HE2.out, HLN.out]; rfl, by rw [HE2.out, ← u32v_take]; exact HS.out.pre _, rfl⟩
end Go.Proofs.YtjjfdamlicoeeaaDoor.X
