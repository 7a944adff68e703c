/- Contracts of the small functions of the reference: kinds, names, numbers in digits. -/
import Derived.Test.YtdgncemcfhocmaaGreatDoorWords
import Derived.Deep.RegionWith
import Derived.IntWalk
set_option linter.unusedVariables false
set_option linter.unusedSimpArgs false
set_option maxRecDepth 100000
namespace Go.Proofs.YtdgncemcfhocmaaGreatDoor.X
open Go.RowKit
theorem ret_bool {a b : Bool} (h : a = b) : Ending.returned (.bool a) = .returned (.bool b) := by rw [h]
theorem ret_str {a b : ByteArray} (h : a = b) : Ending.returned (.string a) = .returned (.string b) := by rw [h]

def known (k : Int) : Bool := decide (1 ≤ k ∧ k ≤ 19 ∨ k = 255 ∨ k = 127)
theorem docKnown (k : Int) (w : World) : Calls Tryz.prog 70 #[.int .i64 k] w fun e w' => e = .returned (.bool (known k)) ∧ w = w' := by
  by_cases h1 : 1 ≤ k
  · by_cases h2 : k ≤ 19
    · go_enter Tryz.func70, Tryz.ntmps70
      go_wp2
      go_ret
      exact ⟨ret_bool (by simp [known]; omega), rfl⟩
    · by_cases h3 : k = 255
      · have e3 : (k == 255) = true := by simpa using h3
        clear h3
        go_enter Tryz.func70, Tryz.ntmps70
        go_wp2
        go_ret
        exact ⟨ret_bool (by simp at e3; simp [known]; omega), rfl⟩
      · have e3 : (k == 255) = false := by simpa using h3
        go_enter Tryz.func70, Tryz.ntmps70
        go_wp2
        go_ret
        exact ⟨ret_bool (by rw [Bool.eq_iff_iff]; simp [known]; omega), rfl⟩
  · have e3 : (k == 255) = false := by simp; omega
    have e4 : (k == 127) = false := by simp; omega
    go_enter Tryz.func70, Tryz.ntmps70
    go_wp2
    go_ret
    exact ⟨ret_bool (by simp [known]; omega), rfl⟩

def plainB (s : List UInt8) : Bool := s.all fun b => decide (b.toNat ≠ 0)
theorem docPlain (s : ByteArray) (w : World) (hs : s.size ≤ 9223372036854775807) : Calls Tryz.prog 72 #[.string s] w fun e w' => e = .returned (.bool (plainB s.data.toList)) ∧ w = w' := by
  go_enter Tryz.func72, Tryz.ntmps72
  go_wp2
  go_loop [3] (fun i => ∃ k : Nat, k ≤ s.size ∧ i = .int .i64 k ∧ Hid (plainB (s.data.toList.take k) = true)) (fun i => s.size - (intOf i).toNat)
  case atStart => exact ⟨0, Nat.zero_le _, rfl, Lib.hid rfl⟩
  case round =>
    obtain ⟨k, hk, rfl, hp⟩ := hrel
    by_cases hlt : k < s.size
    · have hl : s.data.toList.length = s.size := by rw [Array.length_toList]; rfl
      have ht : s.data.toList.take (k + 1) = s.data.toList.take k ++ [s[k]] := by
        rw [List.take_succ_eq_append_getElem (by rw [hl]; exact hlt)]; rfl
      have HT := Lib.hid ht
      clear ht
      by_cases h0 : (s[k].toNat : Int) = 0
      · have e0 : ((s[k].toNat : Int) == 0) = true := by simpa using h0
        clear h0
        go_wp2
        go_ret
        refine ⟨ret_bool ?_, rfl⟩
        symm
        have hm : s[k] ∈ s.data.toList := by
          have := List.getElem_mem (l := s.data.toList) (n := k) (by rw [hl]; exact hlt)
          exact this
        simp only [plainB, List.all_eq_false]
        exact ⟨_, hm, by simp at e0 ⊢; exact e0⟩
      · have e0 : ((s[k].toNat : Int) == 0) = false := by simpa using h0
        go_wp2
        go_round
        case rel => exact ⟨k + 1, by omega, by go_num, Lib.hid (by
          rw [HT.out]
          simp only [plainB, List.all_append, Bool.and_eq_true]
          refine ⟨hp.out, ?_⟩
          simp only [List.all_cons, List.all_nil, Bool.and_true, decide_eq_true_eq]
          omega)⟩
        case measure => simp [intOf]; omega
    · go_wp2
      go_ret
      have hl : s.data.toList.length = s.size := by rw [Array.length_toList]; rfl
      exact ⟨ret_bool (by have := hp.out; rw [List.take_of_length_le (by omega)] at this; exact this.symm), rfl⟩

theorem docPlain_is (s : ByteArray) (r : Bool) (hr : plainB s.data.toList = r) (w : World) (hs : s.size ≤ 9223372036854775807) : Calls Tryz.prog 72 #[.string s] w fun e w' => e = .returned (.bool r) ∧ w = w' := by
  subst hr
  exact docPlain s w hs

/-- A natural number in decimal digits. -/
def digits (n : Nat) : List UInt8 := if h : n < 10 then [UInt8.ofNat (48 + n)] else digits (n / 10) ++ [UInt8.ofNat (48 + n % 10)]
theorem digits_len (n : Nat) : ∀ d, n < 10 ^ (d + 1) → (digits n).length ≤ d + 1 := by
  induction n using Nat.strongRecOn with
  | ind n ih =>
    intro d hd
    rw [digits]
    split
    · simp
    · rename_i h
      cases d with
      | zero => simp at hd; omega
      | succ d =>
        have := ih (n / 10) (by omega) d (by rw [Nat.pow_succ] at hd; omega)
        simp
        omega
theorem strOfNums_one (x : Int) (h0 : 0 ≤ x) (h1 : x < 256) : strOfNums [x] = ⟨[UInt8.ofNat x.toNat].toArray⟩ := rfl

set_option maxRecDepth 100000 in
set_option maxHeartbeats 800000 in
theorem docDigits (N : Nat) : ∀ (n : Int) (w : World), 0 ≤ n → n < N → n ≤ 4611686018427387904 → Calls Tryz.prog 73 #[.int .i64 n] w fun e w' => e = .returned (.string ⟨(digits n.toNat).toArray⟩) ∧ Below w.heap.size w w' := by
  induction N with
  | zero => intro n w h0 h; omega
  | succ N ih =>
    intro n w hn0 hN hn
    by_cases h : n < 10
    · have hcv := run_string_one (P := Tryz.prog) Tryz.underlying23 Tryz.underlying5 Tryz.underlying9
      go_enter Tryz.func73, Tryz.ntmps73
      go_wp2
      go_ret
      refine ⟨ret_str ?_, (Below.refl _ _).alloc (Nat.le_refl _) _⟩
      rw [digits, dif_pos (by omega)]
      congr 4
      omega
    · have hcv := run_string_one (P := Tryz.prog) Tryz.underlying23 Tryz.underlying5 Tryz.underlying9
      have hcd := run_string_one_drew (P := Tryz.prog) Tryz.underlying23 Tryz.underlying5 Tryz.underlying9
      have hq0 : n.tdiv 10 = n / 10 := Int.tdiv_eq_ediv_of_nonneg hn0
      have hr0 : n.tmod 10 = n % 10 := Int.tmod_eq_emod_of_nonneg hn0
      have hq : IntKind.i64.wrap (n / 10) = n / 10 := IntWalk.i64_in _ (by omega)
      have hr : IntKind.i64.wrap (n % 10) = n % 10 := IntWalk.i64_in _ (by omega)
      have hs : IntKind.i64.wrap (48 + n % 10) = 48 + n % 10 := IntWalk.i64_in _ (by omega)
      have hdl : (digits (n / 10).toNat).length ≤ 20 := digits_len _ 19 (by omega)
      go_enter Tryz.func73, Tryz.ntmps73
      go_wp2_with fail
      go_region_with (go_at_call 73; refine (ih (n / 10) _ (by omega) (by omega) (by omega)).mono ?_; rintro e w1 ⟨rfl, hb1⟩; (try have hcw := run_string_after (P := Tryz.prog) Tryz.underlying23 Tryz.underlying5 Tryz.underlying9 (bdrew_left hb1)))
      all_goals
        go_wp2
        go_ret
        refine ⟨ret_str ?_, ?_⟩
        · have hd : digits n.toNat = digits (n / 10).toNat ++ [UInt8.ofNat (48 + n % 10).toNat] := by
            rw [digits, dif_neg (by omega)]
            congr 2
            · congr 1; omega
            · congr 1; omega
          rw [hd]
          apply ByteArray.ext
          simp
        · have hz := hb1.size
          simp at hz
          first
            | exact balloc (bstep (bdrew (Below.refl _ _)) (by simp) hb1) (by omega) _
            | exact bstep (bdrew (balloc (Below.refl _ _) (Nat.le_refl _) _)) (by simp) hb1
end Go.Proofs.YtdgncemcfhocmaaGreatDoor.X
