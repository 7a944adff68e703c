/- How long what is written of a right value says that it is. A plain law. -/
import Derived.Test.YtjbeaofnnodlcaaGreatDoorLen
import Derived.Test.YtjbeaofnnodlcaaGreatDoorDoc9
set_option linter.unusedVariables false
set_option linter.unusedSimpArgs false
set_option maxRecDepth 100000
namespace Go.Proofs.YtjbeaofnnodlcaaGreatDoor.X
open Go.RowKit
theorem readLen_i32 (n : Int) (h0 : 0 ≤ n) (h1 : n ≤ 2147483647) (r : List UInt8) : readLen (i32 n ++ r) = (n, true) := by
  have e : wrap32 (leI [ub n, ub (n / 256), ub (n / 65536), ub (n / 16777216)]) = n := by
    simp only [leI, ub_toNat]
    unfold wrap32
    omega
  show (wrap32 (leI [ub n, ub (n / 256), ub (n / 65536), ub (n / 16777216)]), decide (0 ≤ wrap32 (leI [ub n, ub (n / 256), ub (n / 65536), ub (n / 16777216)]))) = _
  rw [e]
  simp [h0]
theorem indexByte_plain : ∀ (l r : List UInt8), (∀ x ∈ l, x ≠ 0) → Lib.indexByte (l ++ 0 :: r) 0 = l.length
  | [], r, _ => by simp [Lib.indexByte]
  | b :: l, r, h => by
    have hb : b ≠ 0 := h b List.mem_cons_self
    have ih := indexByte_plain l r (fun x hx => h x (List.mem_cons_of_mem _ hx))
    simp only [List.cons_append, Lib.indexByte, ih]
    rw [if_neg (by simpa using hb), if_neg (by simp <;> omega)]
    simp
theorem wrap32_in (n : Int) (h0 : -2147483648 ≤ n) (h1 : n ≤ 2147483647) : wrap32 n = n := by unfold wrap32; omega
theorem valLen_of {k n : Int} {l : List UInt8} {m : Nat} (h : valBase k l = (n, true)) (hn : n = m) : valLen k l = ((m : Int), true) := by
  unfold valLen
  rw [h, hn]
  simp
theorem vb_3 (l : List UInt8) : valBase 3 l = readLen l := by simp [valBase]
theorem vb_4 (l : List UInt8) : valBase 4 l = readLen l := by simp [valBase]
theorem vb_15 (l : List UInt8) : valBase 15 l = readLen l := by simp [valBase]
theorem vb_5 (l : List UInt8) : valBase 5 l = (wrap32 ((readLen l).1 + 5), (readLen l).2) := by simp [valBase]
theorem vb_12 (l : List UInt8) : valBase 12 l = (wrap32 ((readLen l).1 + 16), (readLen l).2) := by simp [valBase]
theorem vb_13 (l : List UInt8) : valBase 13 l = (wrap32 ((readLen l).1 + 4), (readLen l).2) := by simp [valBase]
theorem vb_2 (l : List UInt8) : valBase 2 l = (wrap32 ((readLen l).1 + 4), (readLen l).2) := by simp [valBase]
theorem vb_14 (l : List UInt8) : valBase 14 l = (wrap32 ((readLen l).1 + 4), (readLen l).2) := by simp [valBase]
theorem vb_8 (l : List UInt8) : valBase 8 l = (1, true) := by simp [valBase]
theorem vb_9 (l : List UInt8) : valBase 9 l = (8, true) := by simp [valBase]
theorem vb_1 (l : List UInt8) : valBase 1 l = (8, true) := by simp [valBase]
theorem vb_18 (l : List UInt8) : valBase 18 l = (8, true) := by simp [valBase]
theorem vb_17 (l : List UInt8) : valBase 17 l = (8, true) := by simp [valBase]
theorem vb_19 (l : List UInt8) : valBase 19 l = (16, true) := by simp [valBase]
theorem vb_16 (l : List UInt8) : valBase 16 l = (4, true) := by simp [valBase]
theorem vb_127 (l : List UInt8) : valBase 127 l = (0, true) := by simp [valBase]
theorem vb_255 (l : List UInt8) : valBase 255 l = (0, true) := by simp [valBase]
theorem vb_10 (l : List UInt8) : valBase 10 l = (0, true) := by simp [valBase]
theorem vb_6 (l : List UInt8) : valBase 6 l = (0, true) := by simp [valBase]
theorem vb_7 (l : List UInt8) : valBase 7 l = (12, true) := by simp [valBase]
theorem plain_ne {l : List UInt8} (h : plainB l = true) : ∀ x ∈ l, x ≠ 0 := by
  intro x hx h0
  have := List.all_eq_true.1 h x hx
  subst h0
  simp at this
theorem vb_11 (l m r : List UInt8) (hl : plainB l = true) (hm : plainB m = true) : valBase 11 (l ++ [0] ++ m ++ [0] ++ r) = (wrap32 ((l.length : Int) + 1 + m.length + 1), true) := by
  have e1 : l ++ [0] ++ m ++ [0] ++ r = l ++ 0 :: (m ++ 0 :: r) := by simp
  have i1 := indexByte_plain l (m ++ 0 :: r) (plain_ne hl)
  have i2 := indexByte_plain m r (plain_ne hm)
  have e2 : (l ++ 0 :: (m ++ 0 :: r)).drop (((l.length : Int) + 1).toNat) = m ++ 0 :: r := by
    rw [show ((l.length : Int) + 1).toNat = (l ++ [0]).length from by simp, show l ++ 0 :: (m ++ 0 :: r) = (l ++ [0]) ++ (m ++ 0 :: r) from by simp, List.drop_left]
  have e3 : valBase 11 (l ++ 0 :: (m ++ 0 :: r)) = (if Lib.indexByte (l ++ 0 :: (m ++ 0 :: r)) 0 < 0 then (0, false) else if Lib.indexByte ((l ++ 0 :: (m ++ 0 :: r)).drop (Lib.indexByte (l ++ 0 :: (m ++ 0 :: r)) 0 + 1).toNat) 0 < 0 then (0, false) else (wrap32 (Lib.indexByte (l ++ 0 :: (m ++ 0 :: r)) 0 + 1 + Lib.indexByte ((l ++ 0 :: (m ++ 0 :: r)).drop (Lib.indexByte (l ++ 0 :: (m ++ 0 :: r)) 0 + 1).toNat) 0 + 1), true)) := by
    simp [valBase]
  rw [e1, e3, i1, e2, i2, if_neg (by omega), if_neg (by omega)]
theorem i32_len (n : Int) : (i32 n).length = 4 := rfl
theorem txt_len (l : List UInt8) : (txt l).length = 5 + l.length := by simp [txt, i32_len]; omega
theorem readLen_txt (l r : List UInt8) (h : l.length ≤ 2147483640) : readLen (txt l ++ r) = ((l.length : Int) + 1, true) := by
  unfold txt
  rw [List.append_assoc, List.append_assoc]
  exact readLen_i32 _ (by omega) (by omega) _
theorem valLen_doc (v : Val) (deep : Int) (hr : right v deep = true) (hl : (docValue v).length ≤ 2000000000) (rest : List UInt8) : valLen v.kind (docValue v ++ rest) = (((docValue v).length : Int), true) := by
  obtain ⟨k, t, m, n, bi, hi, b, ks⟩ := v
  show valLen k _ = _
  by_cases k1 : k = 1
  · subst k1
    have hd : docValue (.mk 1 t m n bi hi b ks) = i64 bi := by simp [docValue]
    rw [hd] at hl ⊢
    exact valLen_of (vb_1 _) (by rw [i64_len]; rfl)
  by_cases k17 : k = 17
  · subst k17
    have hd : docValue (.mk 17 t m n bi hi b ks) = i64 bi := by simp [docValue]
    rw [hd] at hl ⊢
    exact valLen_of (vb_17 _) (by rw [i64_len]; rfl)
  by_cases k2 : k = 2
  · subst k2
    have hd : docValue (.mk 2 t m n bi hi b ks) = txt (bs t) := by simp [docValue]
    rw [hd] at hl ⊢
    rw [txt_len] at hl
    refine valLen_of (n := ((bs t).length : Int) + 5) ?_ (by rw [txt_len]; omega)
    rw [vb_2, readLen_txt _ _ (by omega), wrap32_in _ (by simp only []; omega) (by simp only []; omega)]
    simp only [Prod.mk.injEq, and_true]
    omega
  by_cases k13 : k = 13
  · subst k13
    have hd : docValue (.mk 13 t m n bi hi b ks) = txt (bs t) := by simp [docValue]
    rw [hd] at hl ⊢
    rw [txt_len] at hl
    refine valLen_of (n := ((bs t).length : Int) + 5) ?_ (by rw [txt_len]; omega)
    rw [vb_13, readLen_txt _ _ (by omega), wrap32_in _ (by simp only []; omega) (by simp only []; omega)]
    simp only [Prod.mk.injEq, and_true]
    omega
  by_cases k14 : k = 14
  · subst k14
    have hd : docValue (.mk 14 t m n bi hi b ks) = txt (bs t) := by simp [docValue]
    rw [hd] at hl ⊢
    rw [txt_len] at hl
    refine valLen_of (n := ((bs t).length : Int) + 5) ?_ (by rw [txt_len]; omega)
    rw [vb_14, readLen_txt _ _ (by omega), wrap32_in _ (by simp only []; omega) (by simp only []; omega)]
    simp only [Prod.mk.injEq, and_true]
    omega
  by_cases k3 : k = 3
  · subst k3
    have hd : docValue (.mk 3 t m n bi hi b ks) = i32 (((docElems ks).length : Int) + 5) ++ (docElems ks ++ [0]) := by simp [docValue]
    rw [hd] at hl ⊢
    simp only [List.length_append, i32_len, List.length_singleton] at hl
    refine valLen_of (n := ((docElems ks).length : Int) + 5) ?_ (by simp only [List.length_append, i32_len, List.length_singleton]; omega)
    rw [vb_3, List.append_assoc]
    exact readLen_i32 _ (by omega) (by omega) _
  by_cases k4 : k = 4
  · subst k4
    have hd : docValue (.mk 4 t m n bi hi b ks) = i32 (((docElems ks).length : Int) + 5) ++ (docElems ks ++ [0]) := by simp [docValue]
    rw [hd] at hl ⊢
    simp only [List.length_append, i32_len, List.length_singleton] at hl
    refine valLen_of (n := ((docElems ks).length : Int) + 5) ?_ (by simp only [List.length_append, i32_len, List.length_singleton]; omega)
    rw [vb_4, List.append_assoc]
    exact readLen_i32 _ (by omega) (by omega) _
  by_cases k5 : k = 5
  · subst k5
    by_cases n2 : n = 2
    · subst n2
      have hd : docValue (.mk 5 t m 2 bi hi b ks) = i32 ((b.length : Int) + 4) ++ ([2] ++ (i32 (b.length : Int) ++ b)) := by simp [docValue]
      rw [hd] at hl ⊢
      simp only [List.length_append, i32_len, List.length_singleton] at hl
      refine valLen_of (n := (b.length : Int) + 4 + 5) ?_ (by simp only [List.length_append, i32_len, List.length_singleton]; omega)
      rw [vb_5, List.append_assoc, readLen_i32 _ (by omega) (by omega), wrap32_in _ (by simp only []; omega) (by simp only []; omega)]
    · have hd : docValue (.mk 5 t m n bi hi b ks) = i32 (b.length : Int) ++ ([ub n] ++ b) := by simp [docValue, n2]
      rw [hd] at hl ⊢
      simp only [List.length_append, i32_len, List.length_singleton] at hl
      refine valLen_of (n := (b.length : Int) + 5) ?_ (by simp only [List.length_append, i32_len, List.length_singleton]; omega)
      rw [vb_5, List.append_assoc, readLen_i32 _ (by omega) (by omega), wrap32_in _ (by simp only []; omega) (by simp only []; omega)]
  by_cases k7 : k = 7
  · subst k7
    have hb : b.length = 12 := by simp only [right, Bool.and_eq_true] at hr; simpa using hr.2
    have hd : docValue (.mk 7 t m n bi hi b ks) = b := by simp [docValue]
    rw [hd] at hl ⊢
    exact valLen_of (vb_7 _) (by rw [hb]; rfl)
  by_cases k8 : k = 8
  · subst k8
    have hd : docValue (.mk 8 t m n bi hi b ks) = [ub n] := by simp [docValue]
    rw [hd] at hl ⊢
    exact valLen_of (vb_8 _) (by rfl)
  by_cases k9 : k = 9
  · subst k9
    have hd : docValue (.mk 9 t m n bi hi b ks) = i64 (n % 18446744073709551616) := by simp [docValue]
    rw [hd] at hl ⊢
    exact valLen_of (vb_9 _) (by rw [i64_len]; rfl)
  by_cases k18 : k = 18
  · subst k18
    have hd : docValue (.mk 18 t m n bi hi b ks) = i64 (n % 18446744073709551616) := by simp [docValue]
    rw [hd] at hl ⊢
    exact valLen_of (vb_18 _) (by rw [i64_len]; rfl)
  by_cases k16 : k = 16
  · subst k16
    have hd : docValue (.mk 16 t m n bi hi b ks) = i32 n := by simp [docValue]
    rw [hd] at hl ⊢
    exact valLen_of (vb_16 _) (by rw [i32_len]; rfl)
  by_cases k11 : k = 11
  · subst k11
    obtain ⟨hpt, hpm⟩ : plainB (bs t) = true ∧ plainB (bs m) = true := by simp only [right, Bool.and_eq_true] at hr; simpa [bs] using hr.2
    have hd : docValue (.mk 11 t m n bi hi b ks) = bs t ++ [0] ++ bs m ++ [0] := by simp [docValue]
    rw [hd] at hl ⊢
    simp only [List.length_append, List.length_singleton] at hl
    refine valLen_of (n := ((bs t).length : Int) + 1 + (bs m).length + 1) ?_ (by simp only [List.length_append, List.length_singleton]; omega)
    rw [vb_11 _ _ _ hpt hpm, wrap32_in _ (by omega) (by omega)]
  by_cases k12 : k = 12
  · subst k12
    have hb : b.length = 12 := by simp only [right, Bool.and_eq_true] at hr; simpa using hr.2
    have hd : docValue (.mk 12 t m n bi hi b ks) = txt (bs t) ++ b := by simp [docValue]
    rw [hd] at hl ⊢
    rw [List.length_append, txt_len, hb] at hl
    refine valLen_of (n := ((bs t).length : Int) + 1 + 16) ?_ (by rw [List.length_append, txt_len, hb]; omega)
    rw [vb_12, List.append_assoc, readLen_txt _ _ (by omega), wrap32_in _ (by simp only []; omega) (by simp only []; omega)]
  by_cases k15 : k = 15
  · subst k15
    have hd : docValue (.mk 15 t m n bi hi b ks) = i32 (4 + ((txt (bs t)).length : Int) + ((docBytesOf ks).length : Int)) ++ (txt (bs t) ++ docBytesOf ks) := by simp [docValue, docBytesOf]
    rw [hd] at hl ⊢
    simp only [List.length_append, i32_len] at hl
    refine valLen_of (n := 4 + ((txt (bs t)).length : Int) + ((docBytesOf ks).length : Int)) ?_ (by simp only [List.length_append, i32_len]; omega)
    rw [vb_15, List.append_assoc]
    exact readLen_i32 _ (by omega) (by omega) _
  by_cases k19 : k = 19
  · subst k19
    have hd : docValue (.mk 19 t m n bi hi b ks) = i64 bi ++ i64 hi := by simp [docValue]
    rw [hd] at hl ⊢
    exact valLen_of (vb_19 _) (by rw [List.length_append, i64_len, i64_len]; rfl)
  by_cases k6 : k = 6
  · subst k6
    have hd : docValue (.mk 6 t m n bi hi b ks) = [] := by simp [docValue]
    rw [hd] at hl ⊢
    exact valLen_of (vb_6 _) (by rfl)
  by_cases k10 : k = 10
  · subst k10
    have hd : docValue (.mk 10 t m n bi hi b ks) = [] := by simp [docValue]
    rw [hd] at hl ⊢
    exact valLen_of (vb_10 _) (by rfl)
  by_cases k127 : k = 127
  · subst k127
    have hd : docValue (.mk 127 t m n bi hi b ks) = [] := by simp [docValue]
    rw [hd] at hl ⊢
    exact valLen_of (vb_127 _) (by rfl)
  by_cases k255 : k = 255
  · subst k255
    have hd : docValue (.mk 255 t m n bi hi b ks) = [] := by simp [docValue]
    rw [hd] at hl ⊢
    exact valLen_of (vb_255 _) (by rfl)
  exfalso
  have hk : known k = true := by simp only [right, Bool.and_eq_true] at hr; exact hr.1.1.1
  simp only [known, decide_eq_true_eq] at hk
  omega
end Go.Proofs.YtjbeaofnnodlcaaGreatDoor.X
