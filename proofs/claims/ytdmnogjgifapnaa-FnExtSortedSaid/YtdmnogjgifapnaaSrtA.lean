/- Words for the sort of a text's characters. No conditions: plain lemmas. -/
import Derived.Test.YtdmnogjgifapnaaWords
import Derived.Shelf.GgSortMore.SortSort
import Derived.Shelf.Lay
import Derived.Laws.IdiomStrings
import Derived.Laws.Cover4
import Derived.Laws.RangeString
import Derived.Laws.Rows
import Derived.Deep.QuietTactic
import Derived.BigQuiet
import Derived.RegionTactic
import Derived.Ground.GgtProg
import Derived.LoopTactic
set_option linter.unusedVariables false
set_option linter.unusedSimpArgs false
namespace Go.Proofs.Ytdmnogjgifapnaa.X
open Go.RowKit Go.Sort
def Asc (l : List UInt8) : Prop := ∀ b ∈ l, b.toNat < 128
theorem runesFrom_asc (s : ByteArray) (h : Asc s.data.toList) : ∀ bound i acc, i + bound = s.size → Conv.runesFrom s bound i acc = acc ++ ((s.data.toList.drop i).map fun b => Value.int .i32 (b.toNat : Int)).toArray
  | 0, i, acc, hi => by
    have : s.data.toList.drop i = [] := List.drop_eq_nil_of_le (by have hln : s.data.toList.length = s.size := Array.length_toList; omega)
    simp [Conv.runesFrom, this]
  | bound + 1, i, acc, hi => by
    have hlt : i < s.size := by omega
    have hl : i < s.data.toList.length := by have hln : s.data.toList.length = s.size := Array.length_toList; omega
    have hb : (s[i]'hlt).toNat < 128 := h _ (by show s.data[i] ∈ s.data.toList; simp)
    rw [Conv.runesFrom, if_pos hlt, decode_ascii s i hlt hb]
    simp only
    rw [runesFrom_asc s h bound (i + 1) _ (by omega), List.drop_eq_getElem_cons hl]
    simp only [List.map_cons]
    rw [← Array.toList_inj]
    simp
    rfl
theorem enc_all : ∀ x : Fin 128, Utf8.encode ((x.val : Nat) : Int) = ⟨#[UInt8.ofNat x.val]⟩ := by decide +kernel
theorem encode_asc (n : Nat) (h : n < 128) : Utf8.encode (n : Int) = ⟨#[UInt8.ofNat n]⟩ := enc_all ⟨n, h⟩
theorem runesBytes_asc (l : List UInt8) (h : Asc l) : runesBytes (l.map fun b => (b.toNat : Int)) = ⟨l.toArray⟩ := by
  have key : ∀ (l : List UInt8) (s : ByteArray), Asc l → (l.map fun b => (b.toNat : Int)).foldl (fun r n => r ++ Utf8.encode n) s = ⟨(s.data.toList ++ l).toArray⟩ := by
    intro l
    induction l with
    | nil => intro s _; simp
    | cons b r ih =>
      intro s h
      simp only [List.map_cons, List.foldl_cons]
      rw [ih _ fun x hx => h x (List.mem_cons_of_mem _ hx), encode_asc _ (h b (List.mem_cons_self ..))]
      congr 1
      simp [ByteArray.data_append]
  have := key l ByteArray.empty h
  unfold runesBytes
  rw [this]
  rfl
/-! ### the world behind a sort -/
theorem below_sorted {α : Type} [Inhabited α] {w : World} {B blk off n : Nat} {os : Array Obj} (enc : α → Value) (d : Array α) (hB : B ≤ blk) (hw : B ≤ w.heap.size) : Below B w (grow (putRow enc (Sort.ahead w n) blk off d) os) := by
  refine ⟨rfl, rfl, rfl, ?_, fun k hk => ?_⟩
  · rw [size_grow]
    simp [putRow, mapBlock, Sort.ahead]
  · rw [heap_grow_old _ _ (by simp [putRow, mapBlock, Sort.ahead]; omega)]
    simp only [putRow, mapBlock, Sort.ahead, Array.getElem?_modify]
    rw [if_neg (by omega)]
theorem cell_sorted {α : Type} [Inhabited α] {w : World} {blk n : Nat} {os : Array Obj} (enc : α → Value) (d0 d : Array α) (h0 : Holds enc w blk 0 d0) (hs : d.size = d0.size) (hb : blk < w.heap.size) (j : Nat) (hj : j < d.size) : (grow (putRow enc (Sort.ahead w n) blk 0 d) os).cell? ⟨blk, j, none⟩ = some (enc d[j]!) := by
  rw [cell?_grow _ _ _ (by simp [putRow, mapBlock, Sort.ahead]; exact hb)]
  have h := holds_putRow enc (Sort.ahead w n) blk 0 d0 d h0 hs
  have h2 := (h j hj).1
  rwa [Nat.zero_add] at h2
/-! ### sorted texts -/
theorem sorted_le (d : Array Int) (h : SortedIn ltInt 0 d.size d) (i j : Nat) (hij : i < j) (hj : j < d.size) : d[i]! ≤ d[j]! := by
  have := h i j (Nat.zero_le _) hij hj
  simp only [ltInt, decide_eq_false_iff_not] at this
  omega
def cntL (l : List UInt8) (c : Nat) : Nat := l.countP fun b => b.toNat == c
theorem cntL_perm {l m : List UInt8} (h : l.Perm m) (c : Nat) : cntL l c = cntL m c := h.countP_eq _
theorem cntL_take (l : List UInt8) (k : Nat) (h : k < l.length) (c : Nat) : cntL (l.take (k + 1)) c = cntL (l.take k) c + if l[k].toNat = c then 1 else 0 := by
  rw [List.take_succ_eq_append_getElem h]
  simp only [cntL, List.countP_append, List.countP_singleton]
  congr 1
  by_cases hc : l[k].toNat = c <;> simp [hc]
/-- The text is the other one with its characters in order. -/
structure Sorted (l m : List UInt8) : Prop where
  perm : m.Perm l
  le : ∀ i j, (hi : i < j) → (hj : j < m.length) → (m[i]'(by omega)).toNat ≤ m[j].toNat
theorem Sorted.len {l m : List UInt8} (h : Sorted l m) : m.length = l.length := h.perm.length_eq
theorem Sorted.asc {l m : List UInt8} (h : Sorted l m) (ha : Asc l) : Asc m := fun b hb => ha b (h.perm.mem_iff.1 hb)
theorem sorted_ab (m : List UInt8) (h : Sorted [98, 97] m) : m = [97, 98] := by
  have hl := h.len
  match m, hl with
  | [x, y], _ =>
    have hx : x = 98 ∨ x = 97 := by have := h.perm.mem_iff (a := x); simp at this; exact this
    have hy : y = 98 ∨ y = 97 := by have := h.perm.mem_iff (a := y); simp at this; exact this
    have hc := cntL_perm h.perm 97
    have hle := h.le 0 1 (by omega) (by simp)
    simp only [List.getElem_cons_zero, List.getElem_cons_succ] at hle
    rcases hx with rfl | rfl <;> rcases hy with rfl | rfl
    · simp [cntL] at hc
    · exact absurd hle (by decide)
    · rfl
    · simp [cntL] at hc
end Go.Proofs.Ytdmnogjgifapnaa.X
