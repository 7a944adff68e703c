/- Contracts of the reference's functions that write: numbers, texts, heads. -/
import Derived.Test.YtohfgfbfohkkkaaGreatDoorWords
set_option linter.unusedVariables false
set_option linter.unusedSimpArgs false
set_option maxRecDepth 100000
namespace Go.Proofs.YtohfgfbfohkkkaaGreatDoor.X
open Go.RowKit

theorem infoB : (Tryz.prog.info? 5).map (fun i => (i.zero, i.size, i.bytes)) = some (some (.int .u8 0), 1, 1) := by kernel_rfl

/-- Four bytes of a number, the lowest first. -/
def i32 (n : Int) : List UInt8 := [ub n, ub (n / 256), ub (n / 65536), ub (n / 16777216)]
theorem docInt32 (W : World) (base : Nat) (v : Value) (l : List UInt8) (n : Int) (HO : OB 5 W base v l) (hbase : base ≤ W.heap.size) (hl : l.length ≤ 100000000000000) :
    Calls Tryz.prog 41 #[v, .int .i64 n] W (After fun v1 w1 => App (E := 5) W base v (l ++ i32 n) v1 w1) := by
  go_enter Tryz.func41, Tryz.ntmps41
  go_wp2_with (refine wp_app (.tmp 5) (.tmp 17) 22 rfl rfl infoB Tryz.underlying22 _ base v l _ _ (i32 n) rfl rfl (HO.alloc _) (SB.lit_ _ _ _ ?h1 (by simp [i32]) _ rfl) (by simp; omega) (by simp [i32]; omega) ?_; (case h1 => simp [byv, i32, ub_toNat]); intro v1 w1 hap)
  go_wp2
  go_ret
  exact ⟨_, rfl, hap.pre (balloc (Below.refl _ _) (Nat.le_refl _) _)⟩

/-- Eight bytes of a number, the lowest first. -/
def i64 (n : Int) : List UInt8 := (List.range 8).map fun k => ub (n / 2 ^ (8 * k))
theorem i64_len (n : Int) : (i64 n).length = 8 := by simp [i64]
theorem i64_take (n : Int) (k : Nat) (h : k < 8) : (i64 n).take (k + 1) = (i64 n).take k ++ [ub (n / 2 ^ (8 * k))] := by
  rw [List.take_succ_eq_append_getElem (by rw [i64_len]; exact h)]
  simp [i64]
theorem docInt64 (W : World) (base : Nat) (v : Value) (l : List UInt8) (n : Int) (HO : OB 5 W base v l) (hbase : base ≤ W.heap.size) (hl : l.length ≤ 100000000000000) :
    Calls Tryz.prog 38 #[v, .int .u64 n] W (After fun v1 w1 => App (E := 5) W base v (l ++ i64 n) v1 w1) := by
  go_enter Tryz.func38, Tryz.ntmps38
  go_wp2
  go_loopw [0, 5] (fun u i wr => ∃ k : Nat, k ≤ 8 ∧ i = .int .i64 (8 * k) ∧ App (E := 5) W base v (l ++ (i64 n).take k) u wr) (fun _ i _ => 64 - (intOf i).toNat)
  case atStart => exact ⟨0, by omega, by simp, by simpa using App.refl HO⟩
  case round =>
    obtain ⟨k, hk, rfl, ho⟩ := hrel
    have hz := ho.size
    by_cases hlt : k < 8
    · go_wp2_with (refine wp_app (.tmp 10) (.tmp 15) 22 rfl rfl infoB Tryz.underlying22 _ base _ (l ++ (i64 n).take k) _ _ [ub (n / 2 ^ (8 * k))] rfl rfl (ho.own.alloc _) (SB.lit_ _ _ _ ?h1 (by simp) _ rfl) (by simp; omega) (by simp [i64_len]; omega) ?_; (case h1 => simp [byv, ub_toNat]); intro v1 w1 hap)
      go_wp2
      go_roundw
      case rel => exact ⟨k + 1, by omega, by go_num, by rw [i64_take n k hlt, ← List.append_assoc]; exact ho.trans (hap.pre (balloc (Below.refl _ _) (Nat.le_refl _) _))⟩
      case measure => simp [intOf]; omega
    · have e : k = 8 := by omega
      subst e
      go_wp2
      go_ret
      refine ⟨_, rfl, ?_⟩
      have := ho
      rwa [List.take_of_length_le (by rw [i64_len]; omega)] at this

/-- A text with its length ahead and a byte 0 behind. -/
def txt (s : List UInt8) : List UInt8 := i32 ((s.length : Int) + 1) ++ s ++ [0]
theorem size_data (s : ByteArray) : s.data.toList.length = s.size := by rw [Array.length_toList]; rfl
theorem docText (W : World) (base : Nat) (v : Value) (l : List UInt8) (s : ByteArray) (HO : OB 5 W base v l) (hbase : base ≤ W.heap.size) (hl : l.length ≤ 10000000000000) (hs : s.size ≤ 10000000000000) :
    Calls Tryz.prog 39 #[v, .string s] W (After fun v1 w1 => App (E := 5) W base v (l ++ txt s.data.toList) v1 w1) := by
  have hsd := size_data s
  have HSD := Lib.hid hsd
  clear hsd
  go_enter Tryz.func39, Tryz.ntmps39
  go_wp2_with fail
  refine (docInt32 W base v l ((s.size : Int) + 1) HO hbase (by omega)).mono ?_
  rintro e w1 ⟨v1, rfl, h1⟩
  have hz1 := h1.size
  go_wp2_with (first | (refine wp_app_str (.tmp 10) (.tmp 11) 22 9 rfl rfl infoB Tryz.underlying22 Tryz.underlying9 _ base _ (l ++ i32 ((s.size : Int) + 1)) s rfl rfl h1.own (by omega) (by simp [i32]; omega) ?_; intro v2 w2 h2; have hz2 := h2.size) | (refine wp_app (.tmp 13) (.tmp 14) 22 rfl rfl infoB Tryz.underlying22 _ base _ (l ++ i32 ((s.size : Int) + 1) ++ s.data.toList) _ _ [0] rfl rfl (h2.own.alloc _) (SB.lit_ _ _ _ ?h1 (by simp) _ rfl) (by simp; omega) (by have := HSD.out; simp [i32]; omega) ?_; (case h1 => simp [byv]); intro v3 w3 h3))
  go_ret
  refine ⟨v3, rfl, ?_⟩
  have := (h1.trans h2).trans (h3.pre (balloc (Below.refl _ _) (Nat.le_refl _) _))
  simp only [txt, HSD.out]
  simpa only [List.append_assoc] using this

/-- The kind and the name ahead of a value. -/
def hd (k : Int) (nm : List UInt8) : List UInt8 := ub k :: nm ++ [0]
theorem docHead (W : World) (k : Int) (s : ByteArray) (hs : s.size ≤ 10000000000000) :
    Calls Tryz.prog 180 #[.int .i64 k, .string s] W (After fun v1 w1 => OB 5 w1 W.heap.size v1 (hd k s.data.toList) ∧ Below W.heap.size W w1) := by
  have hsd := size_data s
  have HSD := Lib.hid hsd
  clear hsd
  go_enter Tryz.func180, Tryz.ntmps180
  go_wp2_with (first | (refine wp_app_str (.tmp 8) (.tmp 9) 22 9 rfl rfl infoB Tryz.underlying22 Tryz.underlying9 _ W.heap.size _ [ub k] s rfl rfl (OB.lit_ _ _ (Nat.le_refl _) [ub k] _ ?h0 (by simp) _ rfl) (by simp) (by simp; omega) ?_; (case h0 => simp [byv, ub_toNat]); intro v2 w2 h2; have hz2 := h2.size; simp at hz2) | (refine wp_app (.tmp 11) (.tmp 12) 22 rfl rfl infoB Tryz.underlying22 _ W.heap.size _ ([ub k] ++ s.data.toList) _ _ [0] rfl rfl (h2.own.alloc _) (SB.lit_ _ _ _ ?h1 (by simp) _ rfl) (by simp; omega) (by have := HSD.out; simp; omega) ?_; (case h1 => simp [byv]); intro v3 w3 h3))
  go_ret
  refine ⟨_, rfl, by simpa [hd] using h3.own, ?_⟩
  have hx : ∀ k, (Value.slice (some ⟨W.heap.size, 0, none⟩) 1 1).ownBlock = some k → W.heap.size ≤ k := by
    intro k hk; simp [Value.ownBlock] at hk; omega
  exact bgrown (balloc (bgrown (balloc (Below.refl _ _) (Nat.le_refl _) _) (by simp) h2.grown hx) (by omega) _) (by simp; omega) h3.grown (fun k hk => (h2.own.lt k hk).1)
end Go.Proofs.YtohfgfbfohkkkaaGreatDoor.X
