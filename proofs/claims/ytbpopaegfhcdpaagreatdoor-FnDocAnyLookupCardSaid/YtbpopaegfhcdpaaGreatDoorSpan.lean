/- spec.DocSpan, over the printed text: plain law and contract. -/
import Derived.Test.YtbpopaegfhcdpaaGreatDoorSpanP
import Derived.Test.YtbpopaegfhcdpaaGreatDoorPSpec
set_option linter.unusedVariables false
set_option linter.unusedSimpArgs false
set_option maxRecDepth 100000
namespace Go.Proofs.YtbpopaegfhcdpaaGreatDoor.X
open Go.RowKit Go.Proofs.YtbpopaegfhcdpaaGreatDoorW.PrintWords
open Go.Proofs.YtbpopaegfhcdpaaGreatDoor.PFnDocAnyLookup
namespace Sp
def ints (l : List UInt8) : List Int := l.map fun b => (b.toNat : Int)
theorem ints_len (l : List UInt8) : (ints l).length = l.length := by simp [ints]
theorem ints_rd (l : List UInt8) (j : Nat) (hj : j < l.length) : rd (ints l) (j : Int) = (l[j].toNat : Int) := by
  unfold rd ints
  simp [List.getD_eq_getElem?_getD, hj]
theorem kd_bytes {w : World} {A : Option Addr} {c : Nat} {l : List UInt8} (h : SB w A c l) : Kd.C (Kd.int .u8) w A (ints l).length (ints l) := by
  have hlen := ints_len l
  refine ⟨rfl, by have h1 := h.le; have h2 := h.cap; omega, fun hp => ?_⟩
  obtain ⟨b, off, rfl, hc⟩ := h.cells (by omega)
  refine ⟨_, rfl, fun j p hj => ⟨[.int .u8 p], rfl, rfl, fun i u hi => ?_⟩⟩
  match i, hi with
  | 0, hi =>
    obtain rfl : Value.int .u8 p = u := by simpa using hi
    have hj2 : j < l.length := by
      have := (List.getElem?_eq_some_iff.1 hj).1
      omega
    have e : p = (l[j].toNat : Int) := by
      have : (ints l)[j]? = some (l[j].toNat : Int) := by simp [ints, hj2]
      rw [this] at hj
      exact (Option.some.inj hj).symm
    subst e
    have hadd : (⟨b, off, none⟩ : Addr).add j = ⟨b, off + j, none⟩ := by unfold Addr.add; split <;> simp_all
    have := hc j hj2
    simpa [Kd.int, Kd.scalar, hadd] using this
  | i + 1, hi => simp at hi
theorem u32_in (n : Int) (h0 : 0 ≤ n) (h1 : n < 4294967296) : IntKind.u32.wrap n = n := by
  unfold IntKind.wrap
  simp [IntKind.bits, IntKind.signed]
  omega
theorem or4_u32 (b0 b1 b2 b3 : Nat) (y0 y1 y2 y3 : Int) (h0 : b0 < 256) (h1 : b1 < 256) (h2 : b2 < 256) (h3 : b3 < 256)
    (e0 : y0 % 4294967296 = (b0 : Nat)) (e1 : y1 % 4294967296 = (b1 * 256 : Nat)) (e2 : y2 % 4294967296 = (b2 * 65536 : Nat)) (e3 : y3 % 4294967296 = (b3 * 16777216 : Nat)) :
    bits .or .u32 (bits .or .u32 (bits .or .u32 y0 y1) y2) y3 = ((b0 + b1 * 256 + b2 * 65536 + b3 * 16777216 : Nat) : Int) := by
  have s1 := or_mod .u32 y0 y1 b0 b1 8 (by omega) (by simp [IntKind.bits]; omega) (by simpa [IntKind.bits] using e0) (by simpa [IntKind.bits] using e1)
  have s2 := or_mod .u32 _ y2 _ b2 16 (by omega) (by simp [IntKind.bits]; omega) s1 (by simpa [IntKind.bits] using e2)
  have s3 := or_join .u32 _ y3 _ b3 24 (by omega) (by simp [IntKind.bits]; omega) s2 (by simpa [IntKind.bits] using e3)
  rw [s3]
  exact u32_in _ (by omega) (by omega)
theorem w64_32 (n : Int) : wrap64 (wrap32 n) = wrap32 n := by
  have := wrap32_bd n
  generalize wrap32 n = m at this ⊢
  unfold wrap64
  omega
theorem num_f (l : List UInt8) : spec_DocNumber.f (ints l) = some (numOf l) := by
  unfold spec_DocNumber.f
  rw [ints_len]
  by_cases h4 : l.length < 4
  · rw [if_pos (by omega), num_short l h4]
  · rw [if_neg (by omega), if_pos (by omega), if_pos (by omega), if_pos (by omega), if_pos (by omega)]
    match l, h4 with
    | b0 :: b1 :: b2 :: b3 :: r, _ =>
      have r0 : rd (ints (b0 :: b1 :: b2 :: b3 :: r)) 0 = (b0.toNat : Int) := rfl
      have r1 : rd (ints (b0 :: b1 :: b2 :: b3 :: r)) 1 = (b1.toNat : Int) := rfl
      have r2 : rd (ints (b0 :: b1 :: b2 :: b3 :: r)) 2 = (b2.toNat : Int) := rfl
      have r3 : rd (ints (b0 :: b1 :: b2 :: b3 :: r)) 3 = (b3.toNat : Int) := rfl
      rw [r0, r1, r2, r3]
      have h0 := b0.toNat_lt
      have h1 := b1.toNat_lt
      have h2 := b2.toNat_lt
      have h3 := b3.toNat_lt
      rw [or4_u32 b0.toNat b1.toNat b2.toNat b3.toNat _ _ _ _ h0 h1 h2 h3 (by omega) (by omega) (by omega) (by omega), w64_32]
      show some (_, true) = some (wrap32 (leI [b0, b1, b2, b3]), true)
      have e : ((b0.toNat + b1.toNat * 256 + b2.toNat * 65536 + b3.toNat * 16777216 : Nat) : Int) = leI [b0, b1, b2, b3] := by
        simp only [leI]
        omega
      rw [e]
    | [], h => exact absurd (by simp) h
    | [_], h => exact absurd (by simp) h
    | [_, _], h => exact absurd (by simp) h
    | [_, _, _], h => exact absurd (by simp) h
theorem idx_none : ∀ (l : List UInt8), (∀ j (h : j < l.length), l[j] ≠ 0) → Lib.indexByte l 0 = -1
  | [], _ => rfl
  | x :: r, h => by
    have h0 : x ≠ 0 := h 0 (by simp)
    have h1 := idx_none r (fun j hj => h (j + 1) (by simpa using hj))
    unfold Lib.indexByte
    rw [h1]
    simp [h0]
theorem idx_at : ∀ (l : List UInt8) (k : Nat) (hk : k < l.length), (∀ j (h : j < l.length), j < k → l[j] ≠ 0) → l[k] = 0 → Lib.indexByte l 0 = k
  | [], k, hk, _, _ => absurd hk (by simp)
  | x :: r, 0, hk, _, h => by
    have : x = 0 := h
    unfold Lib.indexByte
    simp [this]
  | x :: r, k + 1, hk, hn, h => by
    have h0 : x ≠ 0 := hn 0 (by simp) (by omega)
    have h1 := idx_at r k (by simpa using hk) (fun j hj hjk => hn (j + 1) (by simpa using hj) (by omega)) h
    unfold Lib.indexByte
    rw [h1]
    simp [h0] <;> omega
theorem w64_in (n : Int) (h0 : -9223372036854775808 ≤ n) (h1 : n ≤ 9223372036854775807) : wrap64 n = n := by unfold wrap64; omega
theorem toNat_zero (x : UInt8) (h : (x.toNat : Int) = 0) : x = 0 := by
  apply UInt8.toNat_inj.1
  simpa using h
theorem name_loop (l : List UInt8) (hl : l.length ≤ 1000000) : ∀ m i : Nat, i ≤ l.length → l.length - i = m → (∀ j (h : j < l.length), j < i → l[j] ≠ 0) → ∃ k s, spec_DocName.l0 k (ints l) (i : Int) = some (s, nmOf l) := by
  intro m
  induction m with
  | zero =>
    intro i hi hm hn
    refine ⟨1, ⟨#[]⟩, ?_⟩
    rw [spec_DocName.l0, ints_len, if_neg (by omega)]
    have : nmOf l = (0, false) := by unfold nmOf; rw [idx_none l (fun j hj => hn j hj (by omega))]; rfl
    rw [this]
  | succ m ih =>
    intro i hi hm hn
    have hlt : i < l.length := by omega
    by_cases h0 : l[i] = 0
    · refine ⟨1, strOfNums ((ints l).take i), ?_⟩
      rw [spec_DocName.l0, ints_len, if_pos (by omega), if_pos (by omega), ints_rd l i hlt, if_pos (by rw [h0]; rfl), if_pos (by omega), w64_in _ (by omega) (by omega)]
      have : nmOf l = ((i : Int) + 1, true) := by unfold nmOf; rw [idx_at l i hlt hn h0, if_neg (by omega)]
      rw [this]
      rfl
    · obtain ⟨k, s, h⟩ := ih (i + 1) (by omega) (by omega) (fun j hj hjk => by
        by_cases e : j = i
        · subst e; exact h0
        · exact hn j hj (by omega))
      refine ⟨k + 1, s, ?_⟩
      rw [spec_DocName.l0, ints_len, if_pos (by omega), if_pos (by omega), ints_rd l i hlt, if_neg (fun e => h0 (toNat_zero _ e)), w64_in _ (by omega) (by omega)]
      rw [show ((i + 1 : Nat) : Int) = (i : Int) + 1 from by omega] at h
      exact h
theorem name_f (l : List UInt8) (hl : l.length ≤ 1000000) : ∃ k s, spec_DocName.f k (ints l) = some (s, nmOf l) := name_loop l hl _ 0 (Nat.zero_le _) rfl (fun j h hj => absurd hj (by omega))
theorem name_up (l : List Int) (r : ByteArray × Int × Bool) (k : Nat) (h : spec_DocName.f k l = some r) : ∀ n, spec_DocName.f (k + n) l = some r
  | 0 => h
  | n + 1 => spec_DocName.mono l (k + n) r (name_up l r k h n)
/-- What DocSpan says: whether a value begins the bytes, and how long it is. -/
def SpanAt (k : Int) (l : List UInt8) (r : Int × Bool) : Prop := r.2 = valIs k l ∧ (valIs k l = true → r.1 = (valLen k l).1)
theorem chain_num (b : Bool) (n c : Int) (len : Nat) (hn : -2147483648 ≤ n ∧ n ≤ 2147483647) (c0 : 0 ≤ c) (c1 : c ≤ 16) :
    (if b = true then (if n ≥ 0 then (some (wrap64 (c + n), decide ((len : Int) ≥ wrap64 (c + n)))) else (some (wrap64 (c + n), false))) else (some (wrap64 (c + n), false))) = some (n + c, b && (decide (0 ≤ n) && decide (n + c ≤ (len : Int)))) := by
  have hw : wrap64 (c + n) = n + c := by rw [w64_in _ (by omega) (by omega)]; omega
  rw [hw]
  cases b with
  | false => simp
  | true =>
    by_cases h : 0 ≤ n
    · simp [h]
    · simp [h]
theorem chain_num0 (b : Bool) (n : Int) (len : Nat) :
    (if b = true then (if n ≥ 0 then (some (n, decide ((len : Int) ≥ n))) else (some (n, false))) else (some (n, false))) = some (n, b && (decide (0 ≤ n) && decide (n ≤ (len : Int)))) := by
  cases b with
  | false => simp
  | true =>
    by_cases h : 0 ≤ n
    · simp [h]
    · simp [h]
theorem span_num (k : Int) (l : List UInt8) (hl : l.length ≤ 5000) (c : Int) (c0 : 0 ≤ c) (c1 : c ≤ 16) (hk : valBase k l = (wrap32 ((readLen l).1 + c), (readLen l).2)) :
    SpanAt k l ((numOf l).1 + c, (numOf l).2 && (decide (0 ≤ (numOf l).1) && decide ((numOf l).1 + c ≤ (l.length : Int)))) := by
  obtain ⟨e1, e2⟩ := val_num l c c0 c1 hl k hk
  exact ⟨e1.symm, fun h => (e2 h).symm⟩
theorem span_num0 (k : Int) (l : List UInt8) (hk : valBase k l = readLen l) :
    SpanAt k l ((numOf l).1, (numOf l).2 && (decide (0 ≤ (numOf l).1) && decide ((numOf l).1 ≤ (l.length : Int)))) := by
  obtain ⟨e1, e2⟩ := val_num0 l k hk
  exact ⟨e1.symm, fun _ => e2.symm⟩
theorem span_fix (k : Int) (l : List UInt8) (n : Nat) (hk : valBase k l = ((n : Int), true)) : SpanAt k l ((n : Int), decide (n ≤ l.length)) := by
  obtain ⟨e1, e2⟩ := val_fix l k n hk
  exact ⟨e1.symm, fun _ => e2.symm⟩
theorem span_text (fu : Nat) (k : Int) (l : List UInt8) (hk : k = 2 ∨ k = 13 ∨ k = 14) : spec_DocSpan.f (fu + 1) k (ints l) = some ((numOf l).1 + 4, (numOf l).2 && (decide (0 ≤ (numOf l).1) && decide ((numOf l).1 + 4 ≤ (l.length : Int)))) := by
  rw [← chain_num (numOf l).2 (numOf l).1 4 l.length (num_bd l) (by omega) (by omega)]
  rcases hk with rfl | rfl | rfl
  all_goals
    simp only [spec_DocSpan.f, spec_DocSpan.j0, num_f, Option.bind_some, ints_len]
    rfl
theorem span_doc (fu : Nat) (k : Int) (l : List UInt8) (hk : k = 3 ∨ k = 4 ∨ k = 15) : spec_DocSpan.f (fu + 2) k (ints l) = some ((numOf l).1, (numOf l).2 && (decide (0 ≤ (numOf l).1) && decide ((numOf l).1 ≤ (l.length : Int)))) := by
  rw [← chain_num0 (numOf l).2 (numOf l).1 l.length]
  rcases hk with rfl | rfl | rfl
  all_goals
    simp only [spec_DocSpan.f, spec_DocSpan.j0, spec_DocSpan.j1, num_f, Option.bind_some, ints_len]
    rfl
theorem span_ptr (fu : Nat) (l : List UInt8) : spec_DocSpan.f (fu + 2) 12 (ints l) = some ((numOf l).1 + 16, (numOf l).2 && (decide (0 ≤ (numOf l).1) && decide ((numOf l).1 + 16 ≤ (l.length : Int)))) := by
  rw [← chain_num (numOf l).2 (numOf l).1 16 l.length (num_bd l) (by omega) (by omega)]
  simp only [spec_DocSpan.f, spec_DocSpan.j0, spec_DocSpan.j1, num_f, Option.bind_some, ints_len]
  rfl
theorem span_else (fu : Nat) (k : Int) (l : List UInt8) (r : Int × Bool) (h2 : k ≠ 2) (h13 : k ≠ 13) (h14 : k ≠ 14) (h3 : k ≠ 3) (h4 : k ≠ 4) (h15 : k ≠ 15) (h12 : k ≠ 12) (h : spec_DocLen.f fu k (ints l) = some r) : spec_DocSpan.f (fu + 2) k (ints l) = some r := by
  have e14 : (k == 14) = false := by simpa using h14
  have e15 : (k == 15) = false := by simpa using h15
  have e1 : ∀ g, spec_DocLen.f fu k (ints l) = some r → spec_DocLen.f (fu + g) k (ints l) = some r := by
    intro g h
    induction g with
    | zero => exact h
    | succ g ih => exact spec_DocLen.mono k (ints l) (fu + g) r ih
  have e0 := e1 0 h
  simp only [spec_DocSpan.f, spec_DocSpan.j0, spec_DocSpan.j1, num_f, Option.bind_some, if_neg h2, if_neg h13, if_neg h3, if_neg h4, if_neg h12, e14, e15, h, Bool.false_eq_true, if_false]
theorem span_else' (fu : Nat) (k : Int) (l : List UInt8) (r : Int × Bool) (hk : k ≠ 2 ∧ k ≠ 13 ∧ k ≠ 14 ∧ k ≠ 3 ∧ k ≠ 4 ∧ k ≠ 15 ∧ k ≠ 12) (h : spec_DocLen.f fu k (ints l) = some r) : spec_DocSpan.f (fu + 2) k (ints l) = some r :=
  span_else fu k l r hk.1 hk.2.1 hk.2.2.1 hk.2.2.2.1 hk.2.2.2.2.1 hk.2.2.2.2.2.1 hk.2.2.2.2.2.2 h
theorem len_6 (l : List UInt8) : spec_DocLen.f 5 6 (ints l) = some (((0 : Nat) : Int), decide (0 ≤ l.length)) := by
  simp only [spec_DocLen.f, spec_DocLen.j0, spec_DocLen.j1, spec_DocLen.j2, spec_DocLen.j3, num_f, Option.bind_some, ints_len]
  first | (simp; done) | (simp; omega)
theorem len_10 (l : List UInt8) : spec_DocLen.f 5 10 (ints l) = some (((0 : Nat) : Int), decide (0 ≤ l.length)) := by
  simp only [spec_DocLen.f, spec_DocLen.j0, spec_DocLen.j1, spec_DocLen.j2, spec_DocLen.j3, num_f, Option.bind_some, ints_len]
  first | (simp; done) | (simp; omega)
theorem len_255 (l : List UInt8) : spec_DocLen.f 5 255 (ints l) = some (((0 : Nat) : Int), decide (0 ≤ l.length)) := by
  simp only [spec_DocLen.f, spec_DocLen.j0, spec_DocLen.j1, spec_DocLen.j2, spec_DocLen.j3, num_f, Option.bind_some, ints_len]
  first | (simp; done) | (simp; omega)
theorem len_127 (l : List UInt8) : spec_DocLen.f 5 127 (ints l) = some (((0 : Nat) : Int), decide (0 ≤ l.length)) := by
  simp only [spec_DocLen.f, spec_DocLen.j0, spec_DocLen.j1, spec_DocLen.j2, spec_DocLen.j3, num_f, Option.bind_some, ints_len]
  first | (simp; done) | (simp; omega)
theorem len_8 (l : List UInt8) : spec_DocLen.f 5 8 (ints l) = some (((1 : Nat) : Int), decide (1 ≤ l.length)) := by
  simp only [spec_DocLen.f, spec_DocLen.j0, spec_DocLen.j1, spec_DocLen.j2, spec_DocLen.j3, num_f, Option.bind_some, ints_len]
  first | (simp; done) | (simp; omega)
theorem len_16 (l : List UInt8) : spec_DocLen.f 5 16 (ints l) = some (((4 : Nat) : Int), decide (4 ≤ l.length)) := by
  simp only [spec_DocLen.f, spec_DocLen.j0, spec_DocLen.j1, spec_DocLen.j2, spec_DocLen.j3, num_f, Option.bind_some, ints_len]
  have e : (numOf l).2 = decide (4 ≤ l.length) := by
    rw [Bool.eq_iff_iff]
    constructor
    · intro h; exact decide_eq_true (num_long l h)
    · intro h; exact num_is l (of_decide_eq_true h)
  rw [← e]
  rfl
theorem len_1 (l : List UInt8) : spec_DocLen.f 5 1 (ints l) = some (((8 : Nat) : Int), decide (8 ≤ l.length)) := by
  simp only [spec_DocLen.f, spec_DocLen.j0, spec_DocLen.j1, spec_DocLen.j2, spec_DocLen.j3, num_f, Option.bind_some, ints_len]
  first | (simp; done) | (simp; omega)
theorem len_9 (l : List UInt8) : spec_DocLen.f 5 9 (ints l) = some (((8 : Nat) : Int), decide (8 ≤ l.length)) := by
  simp only [spec_DocLen.f, spec_DocLen.j0, spec_DocLen.j1, spec_DocLen.j2, spec_DocLen.j3, num_f, Option.bind_some, ints_len]
  first | (simp; done) | (simp; omega)
theorem len_18 (l : List UInt8) : spec_DocLen.f 5 18 (ints l) = some (((8 : Nat) : Int), decide (8 ≤ l.length)) := by
  simp only [spec_DocLen.f, spec_DocLen.j0, spec_DocLen.j1, spec_DocLen.j2, spec_DocLen.j3, num_f, Option.bind_some, ints_len]
  first | (simp; done) | (simp; omega)
theorem len_17 (l : List UInt8) : spec_DocLen.f 5 17 (ints l) = some (((8 : Nat) : Int), decide (8 ≤ l.length)) := by
  simp only [spec_DocLen.f, spec_DocLen.j0, spec_DocLen.j1, spec_DocLen.j2, spec_DocLen.j3, num_f, Option.bind_some, ints_len]
  first | (simp; done) | (simp; omega)
theorem len_7 (l : List UInt8) : spec_DocLen.f 5 7 (ints l) = some (((12 : Nat) : Int), decide (12 ≤ l.length)) := by
  simp only [spec_DocLen.f, spec_DocLen.j0, spec_DocLen.j1, spec_DocLen.j2, spec_DocLen.j3, num_f, Option.bind_some, ints_len]
  first | (simp; done) | (simp; omega)
theorem len_19 (l : List UInt8) : spec_DocLen.f 5 19 (ints l) = some (((16 : Nat) : Int), decide (16 ≤ l.length)) := by
  simp only [spec_DocLen.f, spec_DocLen.j0, spec_DocLen.j1, spec_DocLen.j2, spec_DocLen.j3, num_f, Option.bind_some, ints_len]
  first | (simp; done) | (simp; omega)
theorem len_5 (l : List UInt8) : spec_DocLen.f 5 5 (ints l) = some ((numOf l).1 + 5, (numOf l).2 && (decide (0 ≤ (numOf l).1) && decide ((numOf l).1 + 5 ≤ (l.length : Int)))) := by
  rw [← chain_num (numOf l).2 (numOf l).1 5 l.length (num_bd l) (by omega) (by omega)]
  simp only [spec_DocLen.f, spec_DocLen.j0, spec_DocLen.j1, spec_DocLen.j2, spec_DocLen.j3, num_f, Option.bind_some, ints_len]
  rfl
theorem nm_bd (l : List UInt8) : 0 ≤ (nmOf l).1 ∧ (nmOf l).1 ≤ (l.length : Int) ∨ l = [] := by
  have h := idx_bd l
  unfold nmOf
  rcases idx_lt l 0 with h2 | h2
  · left; split <;> simp <;> omega
  · exact .inr h2
theorem nm_bd' (l : List UInt8) : 0 ≤ (nmOf l).1 ∧ (nmOf l).1 ≤ (l.length : Int) := by
  rcases nm_bd l with h | h
  · exact h
  · subst h; exact ⟨by decide, by decide⟩
theorem ints_drop (l : List UInt8) (n : Nat) : (ints l).drop n = ints (l.drop n) := by simp [ints, List.map_drop]
theorem len_11 (l : List UInt8) (hl : l.length ≤ 5000) : ∃ fu, spec_DocLen.f (fu + 5) 11 (ints l) = some ((nmOf l).1 + (nmOf (l.drop (nmOf l).1.toNat)).1, (nmOf l).2 && (nmOf (l.drop (nmOf l).1.toNat)).2) := by
  obtain ⟨k1, s1, h1⟩ := name_f l (by omega)
  obtain ⟨k2, s2, h2⟩ := name_f (l.drop (nmOf l).1.toNat) (by rw [List.length_drop]; omega)
  have b1 := nm_bd' l
  have b2 := nm_bd' (l.drop (nmOf l).1.toNat)
  rw [List.length_drop] at b2
  refine ⟨k1 + k2, ?_⟩
  have g1 := name_up _ _ k1 h1 (k2 + 1)
  have g2 := name_up _ _ k2 h2 (k1 + 1)
  rw [show k1 + (k2 + 1) = k1 + k2 + 1 from by omega] at g1
  rw [show k2 + (k1 + 1) = k1 + k2 + 1 from by omega] at g2
  have hs : spec_DocLen.j3 (k1 + k2 + 2) (ints l) (numOf l).1 (numOf l).2 11 false = some ((nmOf l).1 + (nmOf (l.drop (nmOf l).1.toNat)).1, (nmOf l).2 && (nmOf (l.drop (nmOf l).1.toNat)).2) := by
    rw [spec_DocLen.j3, g1]
    simp only [Option.bind_some, Bool.false_eq_true, if_false, ints_len, ints_drop]
    rw [if_neg (by omega), if_neg (by omega)]
    first | rw [if_pos b1.1, if_pos b1.2, g2] | rw [if_pos (rfl : (11 : Int) = 11), if_pos b1.1, if_pos b1.2, g2]
    simp only [Option.bind_some]
    rw [w64_in _ (by omega) (by omega)]
    cases (nmOf l).2 <;> rfl
  rw [show k1 + k2 + 5 = k1 + k2 + 2 + 1 + 1 + 1 from by omega]
  rw [spec_DocLen.f, num_f]
  simp only [Option.bind_some]
  rw [if_neg (by omega), if_neg (by omega), if_neg (by omega), spec_DocLen.j0]
  rw [if_neg (by decide), if_neg (by omega), if_neg (by omega), if_neg (by omega), if_neg (by omega), if_neg (by omega), spec_DocLen.j1]
  rw [if_neg (by decide), if_neg (by omega), if_neg (by omega), if_neg (by omega), if_neg (by omega), spec_DocLen.j2]
  rw [if_neg (by decide), if_neg (by omega), if_neg (by omega)]
  exact hs
theorem len_no (k : Int) (l : List UInt8) (h : k ≠ 6 ∧ k ≠ 10 ∧ k ≠ 255 ∧ k ≠ 127 ∧ k ≠ 8 ∧ k ≠ 16 ∧ k ≠ 1 ∧ k ≠ 9 ∧ k ≠ 18 ∧ k ≠ 17 ∧ k ≠ 7 ∧ k ≠ 19 ∧ k ≠ 2 ∧ k ≠ 13 ∧ k ≠ 14 ∧ k ≠ 3 ∧ k ≠ 4 ∧ k ≠ 15 ∧ k ≠ 5 ∧ k ≠ 12 ∧ k ≠ 11) : spec_DocLen.f 5 k (ints l) = some (0, false) := by
  obtain ⟨h1, h2, h3, h4, h5, h6, h7, h8, h9, h10, h11, h12, h13, h14, h15, h16, h17, h18, h19, h20, h21⟩ := h
  simp [spec_DocLen.f, spec_DocLen.j0, spec_DocLen.j1, spec_DocLen.j2, spec_DocLen.j3, num_f, h1, h2, h3, h4, h5, h6, h7, h8, h9, h10, h11, h12, h13, h14, h15, h16, h17, h18, h19, h20, h21]
theorem span_f (k : Int) (l : List UInt8) (hl : l.length ≤ 5000) : ∃ fu r, spec_DocSpan.f fu k (ints l) = some r ∧ SpanAt k l r := by
  by_cases k2 : k = 2
  · subst k2
    exact ⟨1, _, span_text 0 _ l (by omega), span_num _ l hl 4 (by omega) (by omega) (by simp [valBase])⟩
  by_cases k13 : k = 13
  · subst k13
    exact ⟨1, _, span_text 0 _ l (by omega), span_num _ l hl 4 (by omega) (by omega) (by simp [valBase])⟩
  by_cases k14 : k = 14
  · subst k14
    exact ⟨1, _, span_text 0 _ l (by omega), span_num _ l hl 4 (by omega) (by omega) (by simp [valBase])⟩
  by_cases k3 : k = 3
  · subst k3
    exact ⟨2, _, span_doc 0 _ l (by omega), span_num0 _ l (by simp [valBase])⟩
  by_cases k4 : k = 4
  · subst k4
    exact ⟨2, _, span_doc 0 _ l (by omega), span_num0 _ l (by simp [valBase])⟩
  by_cases k15 : k = 15
  · subst k15
    exact ⟨2, _, span_doc 0 _ l (by omega), span_num0 _ l (by simp [valBase])⟩
  by_cases k12 : k = 12
  · subst k12
    exact ⟨2, _, span_ptr 0 l, span_num _ l hl 16 (by omega) (by omega) (by simp [valBase])⟩
  have HE : k ≠ 2 ∧ k ≠ 13 ∧ k ≠ 14 ∧ k ≠ 3 ∧ k ≠ 4 ∧ k ≠ 15 ∧ k ≠ 12 := ⟨k2, k13, k14, k3, k4, k15, k12⟩
  by_cases k6 : k = 6
  · subst k6
    exact ⟨7, _, span_else' 5 _ l _ HE (len_6 l), span_fix _ l 0 (by simp [valBase])⟩
  by_cases k10 : k = 10
  · subst k10
    exact ⟨7, _, span_else' 5 _ l _ HE (len_10 l), span_fix _ l 0 (by simp [valBase])⟩
  by_cases k255 : k = 255
  · subst k255
    exact ⟨7, _, span_else' 5 _ l _ HE (len_255 l), span_fix _ l 0 (by simp [valBase])⟩
  by_cases k127 : k = 127
  · subst k127
    exact ⟨7, _, span_else' 5 _ l _ HE (len_127 l), span_fix _ l 0 (by simp [valBase])⟩
  by_cases k8 : k = 8
  · subst k8
    exact ⟨7, _, span_else' 5 _ l _ HE (len_8 l), span_fix _ l 1 (by simp [valBase])⟩
  by_cases k16 : k = 16
  · subst k16
    exact ⟨7, _, span_else' 5 _ l _ HE (len_16 l), span_fix _ l 4 (by simp [valBase])⟩
  by_cases k1 : k = 1
  · subst k1
    exact ⟨7, _, span_else' 5 _ l _ HE (len_1 l), span_fix _ l 8 (by simp [valBase])⟩
  by_cases k9 : k = 9
  · subst k9
    exact ⟨7, _, span_else' 5 _ l _ HE (len_9 l), span_fix _ l 8 (by simp [valBase])⟩
  by_cases k18 : k = 18
  · subst k18
    exact ⟨7, _, span_else' 5 _ l _ HE (len_18 l), span_fix _ l 8 (by simp [valBase])⟩
  by_cases k17 : k = 17
  · subst k17
    exact ⟨7, _, span_else' 5 _ l _ HE (len_17 l), span_fix _ l 8 (by simp [valBase])⟩
  by_cases k7 : k = 7
  · subst k7
    exact ⟨7, _, span_else' 5 _ l _ HE (len_7 l), span_fix _ l 12 (by simp [valBase])⟩
  by_cases k19 : k = 19
  · subst k19
    exact ⟨7, _, span_else' 5 _ l _ HE (len_19 l), span_fix _ l 16 (by simp [valBase])⟩
  by_cases k5 : k = 5
  · subst k5
    exact ⟨7, _, span_else' 5 _ l _ HE (len_5 l), span_num _ l hl 5 (by omega) (by omega) (by simp [valBase])⟩
  by_cases k11 : k = 11
  · subst k11
    obtain ⟨fu, h⟩ := len_11 l hl
    obtain ⟨e1, e2⟩ := val_regex l hl
    exact ⟨fu + 5 + 2, _, span_else' (fu + 5) _ l _ HE h, e1.symm, fun h => (e2 h).symm⟩
  refine ⟨7, (0, false), span_else' 5 _ l _ HE (len_no k l ⟨k6, k10, k255, k127, k8, k16, k1, k9, k18, k17, k7, k19, k2, k13, k14, k3, k4, k15, k5, k12, k11⟩), ?_, ?_⟩
  · rw [val_none l k (by simp [valBase, k6, k10, k255, k127, k8, k16, k1, k9, k18, k17, k7, k19, k2, k13, k14, k3, k4, k15, k5, k12, k11])]
  · intro h
    rw [val_none l k (by simp [valBase, k6, k10, k255, k127, k8, k16, k1, k9, k18, k17, k7, k19, k2, k13, k14, k3, k4, k15, k5, k12, k11])] at h
    cases h
theorem docSpan (A : Option Addr) (c : Nat) (l : List UInt8) (k : Int) (w : World) (hs : SB w A c l) (hl : l.length ≤ 5000) :
    Calls Tryz.prog 126 #[.int .i64 k, .slice A l.length c] w fun e w' => ∃ n b, e = .returned (.tuple #[.int .i64 n, .bool b]) ∧ b = valIs k l ∧ (valIs k l = true → n = (valLen k l).1) ∧ Below w.heap.size w w' := by
  obtain ⟨fu, ⟨n, b⟩, h1, h2, h3⟩ := span_f k l hl
  have h := spec_DocSpan.calls fu k A c (ints l) n b w (kd_bytes hs) (by rw [ints_len]; exact hs.le) h1
  rw [ints_len] at h
  refine h.mono ?_
  rintro e w' ⟨rfl, hd⟩
  exact ⟨n, b, rfl, h2, h3, hd.below⟩
end Sp
end Go.Proofs.YtbpopaegfhcdpaaGreatDoor.X
