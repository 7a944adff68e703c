/- Plain law: what right elements are written as is valid, as a document and as an array. No program. -/
import Derived.Test.YtjbeaofnnodlcaaGreatDoorCode9
import Derived.Test.YtjbeaofnnodlcaaGreatDoorElemPl
import Derived.Test.YtjbeaofnnodlcaaGreatDoorDoc9
set_option linter.unusedVariables false
set_option linter.unusedSimpArgs false
set_option maxRecDepth 100000
namespace Go.Proofs.YtjbeaofnnodlcaaGreatDoor.X
open Go.RowKit
namespace Ck
open Sp Al Av Aw
theorem dec_dig (i : Nat) : Lib.decDigits i = digits i := by
  induction i using Nat.strongRecOn with
  | ind n ih =>
    rw [Lib.decDigits, digits]
    split
    · rfl
    · rename_i h
      rw [ih (n / 10) (by omega)]
theorem itoa_dig (i : Nat) : Lib.itoa (i : Int) = digits i := by rw [Lib.itoa_nonneg, dec_dig]
theorem right_kind {v : Val} {deep : Int} (h : right v deep = true) : ((ub v.kind).toNat : Int) = v.kind := by
  obtain ⟨k, t, m, n, bi, hi, b, ks⟩ := v
  simp only [right, Bool.and_eq_true] at h
  have h1 := h.1.1.1
  simp only [known, decide_eq_true_eq] at h1
  show ((ub k).toNat : Int) = k
  rw [ub_toNat]; omega
theorem head_idx (nm r : List UInt8) (h : plainB nm = true) : nmOf (nm ++ 0 :: r) = ((nm.length : Int) + 1, true) := by
  have hi : Lib.indexByte (nm ++ 0 :: r) 0 = nm.length := index_plain nm r h
  unfold nmOf
  rw [hi, if_neg (by omega)]
theorem head_drop (nm r : List UInt8) : (nm ++ 0 :: r).drop (nm.length + 1) = r := by
  rw [List.drop_append, List.drop_of_length_le (by omega), show nm.length + 1 - nm.length = 1 from by omega]
  rfl
/-- An element that is right, ahead of other bytes. -/
theorem elem_first (nm : ByteArray) (v : Val) (deep : Int) (hn : plainB nm.data.toList = true) (hr : right v deep = true) (hl : (docValue v).length ≤ 2000000000) (rest : List UInt8) :
    firstN (docElemOf nm v ++ rest) = some (docElemOf nm v).length ∧ elemCode (docElemOf nm v) = 0 ∧ elName (docElemOf nm v ++ rest) = bs nm := by
  have hk := right_kind hr
  have hv := valLen_doc v deep hr hl rest
  have hv0 := valLen_doc v deep hr hl []
  rw [List.append_nil] at hv0
  have e : docElemOf nm v ++ rest = ub v.kind :: (bs nm ++ 0 :: (docValue v ++ rest)) := by simp [docElemOf, hd]
  have e0 : docElemOf nm v = ub v.kind :: (bs nm ++ 0 :: docValue v) := by simp [docElemOf, hd]
  have hn' : plainB (bs nm) = true := hn
  have h1 := head_idx (bs nm) (docValue v ++ rest) hn'
  have ht : ((bs nm).length + 1 : Int).toNat = (bs nm).length + 1 := by omega
  refine ⟨?_, ?_, ?_⟩
  · have hlen : (docElemOf nm v).length = (bs nm).length + 2 + (docValue v).length := by rw [e0]; simp; omega
    have hvi : valIs v.kind (docValue v ++ rest) = true := by unfold valIs; rw [hv]; simp; omega
    rw [e, hlen]
    simp only [firstN, h1, ht, head_drop, hk, hv, hvi, if_true]
    congr 1
    omega
  · rw [e0]
    have hi : Lib.indexByte (bs nm ++ 0 :: docValue v) ((0 : Int).toNat.toUInt8) = (bs nm).length := index_plain (bs nm) (docValue v) hn'
    unfold elemCode
    rw [if_pos (by simp)]
    have e1 : (ub v.kind :: (bs nm ++ 0 :: docValue v)).drop 1 = bs nm ++ 0 :: docValue v := rfl
    rw [e1, hi, if_pos (by omega)]
    have e3 : (ub v.kind :: (bs nm ++ 0 :: docValue v)).drop (((bs nm).length : Int) + 2).toNat = docValue v := by
      rw [show (((bs nm).length : Int) + 2).toNat = (bs nm).length + 1 + 1 from by omega, List.drop_succ_cons, head_drop]
    have e4 : (ub v.kind :: (bs nm ++ 0 :: docValue v)).headD 0 = ub v.kind := rfl
    rw [e3, e4, hk, if_pos (valIs_whole hv0)]
  · rw [e]
    unfold elName
    have e1 : (ub v.kind :: (bs nm ++ 0 :: (docValue v ++ rest))).drop 1 = bs nm ++ 0 :: (docValue v ++ rest) := rfl
    rw [e1, h1]
    show (bs nm ++ 0 :: (docValue v ++ rest)).take (((bs nm).length + 1 : Int).toNat - 1) = bs nm
    rw [ht, Nat.add_sub_cancel, List.take_left]
theorem docElems_ge : ∀ ks : List (ByteArray × Val), 2 * ks.length ≤ (docElems ks).length
  | [] => by simp
  | (nm, v) :: r => by
    have := docElems_ge r
    simp only [docElems, List.length_append, List.length_cons, hd]
    simp
    omega
theorem elems_cons (nm : ByteArray) (v : Val) (r : List (ByteArray × Val)) : docElems ((nm, v) :: r) = docElemOf nm v ++ docElems r := by
  simp only [docElems, docElemOf]
theorem elem_pos (nm : ByteArray) (v : Val) : 2 ≤ (docElemOf nm v).length := by simp [docElemOf, hd]; omega
theorem value_le (nm : ByteArray) (v : Val) : (docValue v).length ≤ (docElemOf nm v).length := by simp [docElemOf]
theorem chk_right (k : Int) : ∀ (ks : List (ByteArray × Val)) (i : Nat) (deep : Int) (f : Nat), rightK k ks i deep = true → (docElems ks).length ≤ 2000000000 → ks.length < f → chk f (((docElems ks).length : Int) + 1) (docElems ks ++ [0]) = 0
  | [], i, deep, f + 1, h, hl, hf => by
    rw [chk_end _ _ _ (by simp [docElems])]
    simp [docElems]
  | (nm, v) :: r, i, deep, f + 1, h, hl, hf => by
    simp only [rightK, Bool.and_eq_true] at h
    obtain ⟨⟨⟨h1, h2⟩, h3⟩, h4⟩ := h
    rw [elems_cons] at hl ⊢
    rw [List.length_append] at hl ⊢
    have hp := elem_pos nm v
    have hq := value_le nm v
    obtain ⟨e1, e2, e3⟩ := elem_first nm v (deep - 1) h1 h3 (by omega) (docElems r ++ [0])
    rw [List.append_assoc, chk_step f _ _ _ (by omega) e1 (by rw [List.take_left]; exact e2), List.drop_left]
    rw [show (((docElemOf nm v).length + (docElems r).length : Nat) : Int) + 1 - (docElemOf nm v).length = ((docElems r).length : Int) + 1 from by omega]
    exact chk_right k r (i + 1) deep f h4 (by omega) (by simpa using hf)
theorem chkA_right : ∀ (ks : List (ByteArray × Val)) (i : Nat) (deep : Int) (f : Nat), rightK 4 ks i deep = true → (docElems ks).length ≤ 2000000000 → ks.length < f → chkA f (((docElems ks).length : Int) + 1) (docElems ks ++ [0]) i = 0
  | [], i, deep, f + 1, h, hl, hf => by
    rw [chkA_end _ _ _ _ (by simp [docElems])]
    simp [docElems]
  | (nm, v) :: r, i, deep, f + 1, h, hl, hf => by
    simp only [rightK, Bool.and_eq_true, Bool.or_eq_true, decide_eq_true_eq] at h
    obtain ⟨⟨⟨h1, h2⟩, h3⟩, h4⟩ := h
    have h2' : nm.data.toList = digits i := h2.resolve_left (fun h => h rfl)
    rw [elems_cons] at hl ⊢
    rw [List.length_append] at hl ⊢
    have hp := elem_pos nm v
    have hq := value_le nm v
    obtain ⟨e1, e2, e3⟩ := elem_first nm v (deep - 1) h1 h3 (by omega) (docElems r ++ [0])
    rw [List.append_assoc, chkA_step f _ _ _ i (by omega) e1 (by rw [List.take_left]; exact e2) (by rw [e3, itoa_dig]; exact h2'), List.drop_left]
    rw [show (((docElemOf nm v).length + (docElems r).length : Nat) : Int) + 1 - (docElemOf nm v).length = ((docElems r).length : Int) + 1 from by omega]
    exact chkA_right r (i + 1) deep f h4 (by omega) (by simpa using hf)
theorem bytes_read (ks : List (ByteArray × Val)) (hl : (docElems ks).length ≤ 1000000000) : readLen (docBytesOf ks) = (((docElems ks).length : Int) + 5, true) ∧ (docBytesOf ks).length = (docElems ks).length + 5 ∧ (docBytesOf ks).getD ((docElems ks).length + 4) 0 = 0 ∧ (docBytesOf ks).drop 4 = docElems ks ++ [0] := by
  have e : docBytesOf ks = i32 (((docElems ks).length : Int) + 5) ++ (docElems ks ++ [0]) := by unfold docBytesOf; rw [List.append_assoc]
  rw [e]
  refine ⟨readLen_i32 _ (by omega) (by omega) _, by simp [i32_len]; omega, ?_, List.drop_left' (i32_len _)⟩
  rw [List.getD_eq_getElem?_getD, List.getElem?_append_right (by rw [i32_len]; omega), i32_len, List.getElem?_append_right (by omega)]
  rw [show (docElems ks).length + 4 - 4 - (docElems ks).length = 0 from by omega]
  rfl
/-- A document of right elements is valid. -/
theorem docCode_right (k : Int) (ks : List (ByteArray × Val)) (deep : Int) (h : rightK k ks 0 deep = true) (hl : (docElems ks).length ≤ 1000000000) : docCode (docBytesOf ks) = 0 := by
  obtain ⟨h1, h2, h3, h4⟩ := bytes_read ks hl
  have hg := docElems_ge ks
  unfold docCode
  rw [h1]
  show (if true = true then _ else _) = _
  rw [if_pos rfl, h2, if_neg (by omega), if_neg (by omega), show (((docElems ks).length : Int) + 5 - 1).toNat = (docElems ks).length + 4 from by omega, h3, if_pos rfl, h4, show ((docElems ks).length : Int) + 5 - 4 = ((docElems ks).length : Int) + 1 from by omega]
  exact chk_right k ks 0 deep _ h (by omega) (by omega)
/-- An array of right elements with their numbers is valid. -/
theorem arrTold_right (ks : List (ByteArray × Val)) (deep : Int) (h : rightK 4 ks 0 deep = true) (hl : (docElems ks).length ≤ 1000000000) : arrTold (docBytesOf ks) = 0 := by
  obtain ⟨h1, h2, h3, h4⟩ := bytes_read ks hl
  have hg := docElems_ge ks
  have hA : arrCode (docBytesOf ks) = 0 := by
    unfold arrCode
    rw [h1]
    show (if true = true then _ else _) = _
    rw [if_pos rfl, h2, if_neg (by omega), if_neg (by omega), show (((docElems ks).length : Int) + 5 - 1).toNat = (docElems ks).length + 4 from by omega, h3, if_pos rfl, h4, show ((docElems ks).length : Int) + 5 - 4 = ((docElems ks).length : Int) + 1 from by omega]
    exact chkA_right ks 0 deep _ h (by omega) (by omega)
  unfold arrTold
  rw [hA]
  rfl
/-- What a right document's elements are. -/
theorem fine_kids {k : Int} {ks : List (ByteArray × Val)} (hk : k = 3 ∨ k = 4) (h : fine (.mk k ⟨#[]⟩ ⟨#[]⟩ 0 0 0 [] ks) 300 5000 = true) : rightK k ks 0 200 = true ∧ (docElems ks).length ≤ 14600 := by
  obtain ⟨h1, h2, h3⟩ := fine_len h (by omega)
  have h4 := docElems_len ks
  simp only [bytesN, nodes] at h1 h2
  constructor
  · simp only [right, Bool.and_eq_true] at h3
    rcases hk with rfl | rfl <;> simpa using h3.2
  · omega
/-- One element of a right list. -/
theorem rightK_get (k : Int) : ∀ (ks : List (ByteArray × Val)) (i : Nat) (deep : Int), rightK k ks i deep = true → ∀ j (hj : j < ks.length), plainB (ks[j]).1.data.toList = true ∧ right (ks[j]).2 (deep - 1) = true
  | (nm, v) :: r, i, deep, h, 0, _ => by
    simp only [rightK, Bool.and_eq_true] at h
    exact ⟨h.1.1.1, h.1.2⟩
  | (nm, v) :: r, i, deep, h, j + 1, hj => by
    simp only [rightK, Bool.and_eq_true] at h
    exact rightK_get k r (i + 1) deep h.2 j (by simpa using hj)
theorem elem_le : ∀ (ks : List (ByteArray × Val)) (j : Nat) (hj : j < ks.length), (docElemOf (ks[j]).1 (ks[j]).2).length ≤ (docElems ks).length
  | (nm, v) :: r, 0, _ => by rw [elems_cons]; simp
  | (nm, v) :: r, j + 1, hj => by
    have := elem_le r j (by simpa using hj)
    rw [elems_cons, List.length_append]
    simp only [List.getElem_cons_succ]
    omega
/-- One element of a right document: the element and its value are valid. -/
theorem elem_valid {ks : List (ByteArray × Val)} {deep : Int} {k : Int} (h : rightK k ks 0 deep = true) (hl : (docElems ks).length ≤ 14600) (j : Nat) (hj : j < ks.length) :
    elemCode (docElemOf (ks[j]).1 (ks[j]).2) = 0 ∧ (docElemOf (ks[j]).1 (ks[j]).2).length ≤ 14600 ∧ valIs (ks[j]).2.kind (docValue (ks[j]).2) = true ∧ (0 ≤ (ks[j]).2.kind ∧ (ks[j]).2.kind ≤ 255) ∧ (docValue (ks[j]).2).length ≤ 14600 := by
  obtain ⟨h1, h2⟩ := rightK_get k ks 0 deep h j hj
  have hle := elem_le ks j hj
  have hq := value_le (ks[j]).1 (ks[j]).2
  obtain ⟨-, e2, -⟩ := elem_first _ _ _ h1 h2 (by omega) []
  have hk := right_kind h2
  have hv := valLen_doc _ _ h2 (by omega) []
  rw [List.append_nil] at hv
  refine ⟨e2, by omega, valIs_whole hv, ?_, by omega⟩
  rw [← hk]
  have := (ub (ks[j]).2.kind).toNat_lt
  omega
end Ck
end Go.Proofs.YtjbeaofnnodlcaaGreatDoor.X
