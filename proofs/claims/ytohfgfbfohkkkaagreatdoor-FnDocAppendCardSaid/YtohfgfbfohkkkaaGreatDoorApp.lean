/- bsoncore's Append functions, by kind, on bytes of the call's own. (gen_app.py) -/
import Derived.Test.YtohfgfbfohkkkaaGreatDoorHead
import Derived.Test.YtohfgfbfohkkkaaGreatDoorNum
import Derived.Test.YtohfgfbfohkkkaaGreatDoorDoc7
set_option linter.unusedVariables false
set_option linter.unusedSimpArgs false
set_option maxRecDepth 100000
namespace Go.Proofs.YtohfgfbfohkkkaaGreatDoor.X
open Go.RowKit Go.Proofs.YtohfgfbfohkkkaaGreatDoorW.PrintLast
namespace Ap
def R91.T1 : Bool × List (List Nat × List Nat) := (true, [([], []), ([], []), ([0, 1], [0, 1]), ([], []), ([2, 3, 2], [2, 3]), ([4, 4, 0, 1, 2, 3, 4], [4])])
def R91.B1 : List Nat := [0, 0, 3, 0, 15, 31]
theorem R91.tab1 : rtab .any (opsOf Tryz.f91 1) = R91.T1 := by kernel_rfl
theorem R91.bits1 : waitsOk R91.T1.2 R91.B1 = true := by kernel_rfl
/-- Bytes that do not lie in the row that is appended to. -/
def Sep (v : Value) (A : Option Addr) (m : List UInt8) : Prop := 0 < m.length → ∀ a, A = some a → v.ownBlock ≠ some a.block
theorem sb_grown {W w1 : World} {A : Option Addr} {c : Nat} {m : List UInt8} {row : Option Nat} (h : SB W A c m) (hg : W.grownBy w1 row) (hne : 0 < m.length → ∀ a, A = some a → row ≠ some a.block) : SB w1 A c m :=
  ⟨h.le, h.cap, fun hp => by
    obtain ⟨b, off, e, hc⟩ := h.cells hp
    refine ⟨b, off, e, fun j hj => ?_⟩
    have h1 := hc j hj
    have hlt : b < W.heap.size := World.block_lt_of_cell? _ _ h1
    have hb := hg.block b hlt (fun e2 => hne hp _ e e2.symm)
    rw [← h1]
    simp only [World.cell?, hb]⟩
theorem sep_next {W w1 : World} {base : Nat} {v v1 : Value} {l m : List UInt8} {A : Option Addr} {c : Nat} (hap : App (E := 5) W base v l v1 w1) (hs : SB W A c m) (hne : Sep v A m) : Sep v1 A m := fun hp a ha => by
  obtain ⟨b, off, e, hc⟩ := hs.cells hp
  have hlt : b < W.heap.size := World.block_lt_of_cell? _ _ (hc 0 hp)
  rw [e] at ha
  have hab : a.block = b := by rw [← Option.some.inj ha]
  rcases hap.at_ with h | ⟨b2, h, h2⟩
  · rw [h]; exact hne hp a (by rw [e]; exact ha)
  · rw [h, hab]
    intro e2
    have := Option.some.inj e2
    omega
theorem sb_next {W w1 : World} {base : Nat} {v v1 : Value} {l m : List UInt8} {A : Option Addr} {c : Nat} (hap : App (E := 5) W base v l v1 w1) (hs : SB W A c m) (hne : Sep v A m) : SB w1 A c m := sb_grown hs hap.grown hne
theorem w64a (k : Nat) (h : k ≤ 1000000) : wrap64 ((k : Int) + 4) = (k : Int) + 4 := by unfold wrap64; omega
theorem w32a (k : Nat) (h : k ≤ 1000000) : wrap32 ((k : Int) + 4) = (k : Int) + 4 := by unfold wrap32; omega
theorem w32b (k : Nat) (h : k ≤ 1000000) : wrap32 (k : Int) = (k : Int) := by unfold wrap32; omega
theorem w32c (k : Nat) (h : k ≤ 1000000) : wrap32 ((k : Int) + 1) = (k : Int) + 1 := by unfold wrap32; omega
theorem i64_eq (n : Int) : i64 (n % 18446744073709551616) = [ub n, ub (n / 256), ub (n / 65536), ub (n / 16777216), ub (n / 4294967296), ub (n / 1099511627776), ub (n / 281474976710656), ub (n / 72057594037927936)] := by
  have hu : ∀ a b : Int, a % 256 = b % 256 → ub a = ub b := fun a b h => by unfold ub; rw [h]
  have e8 : ∀ k, i64 k = [ub k, ub (k / 256), ub (k / 65536), ub (k / 16777216), ub (k / 4294967296), ub (k / 1099511627776), ub (k / 281474976710656), ub (k / 72057594037927936)] := fun k => by simp [i64, List.range_succ]
  rw [e8]
  simp only [List.cons.injEq, and_true]
  exact ⟨hu _ _ (by omega), hu _ _ (by omega), hu _ _ (by omega), hu _ _ (by omega), hu _ _ (by omega), hu _ _ (by omega), hu _ _ (by omega), hu _ _ (by omega)⟩
theorem putI32 (W : World) (base : Nat) (v : Value) (l : List UInt8) (n : Int) (h0 : -2147483648 ≤ n) (h1 : n ≤ 2147483647) (HO : OB 5 W base v l) (hbase : base ≤ W.heap.size) (hl : l.length ≤ 200000000) :
    Calls Tryz.prog 178 #[v, .int .i32 n] W (After fun v1 w1 => App (E := 5) W base v (l ++ i32 n) v1 w1) := by
  obtain ⟨A, c, rfl, hs, -⟩ := HO.sb
  clear hs
  go_enter Tryz.func178, Tryz.ntmps178
  go_wp2_with (first | (refine wp_app (.tmp 5) (.tmp 17) 22 rfl rfl infoB Tryz.underlying22 _ base _ l _ _ (i32 n) rfl rfl ?a1 ?a2 ?a3 ?a4 ?_) | fail)
  case a1 => exact HO.alloc _
  case a2 => refine SB.lit_ _ (i32 n) _ ?_ (by simp [i32]) _ rfl; simp [byv, i32, ub_toNat]; try omega
  case a3 => simp; omega
  case a4 => simp [i32]; omega
  intro v1 w1 hap
  go_wp2_with fail
  go_ret
  exact ⟨v1, rfl, hap.pre (balloc (Below.refl _ _) (Nat.le_refl _) _)⟩
theorem putI64 (W : World) (base : Nat) (v : Value) (l : List UInt8) (n : Int) (h0 : -9223372036854775808 ≤ n) (h1 : n ≤ 9223372036854775807) (HO : OB 5 W base v l) (hbase : base ≤ W.heap.size) (hl : l.length ≤ 200000000) :
    Calls Tryz.prog 176 #[v, .int .i64 n] W (After fun v1 w1 => App (E := 5) W base v (l ++ i64 (n % 18446744073709551616)) v1 w1) := by
  rw [i64_eq]
  obtain ⟨A, c, rfl, hs, -⟩ := HO.sb
  clear hs
  go_enter Tryz.func176, Tryz.ntmps176
  go_wp2_with (first | (refine wp_app (.tmp 5) (.tmp 29) 22 rfl rfl infoB Tryz.underlying22 _ base _ l _ _ ([ub n, ub (n / 256), ub (n / 65536), ub (n / 16777216), ub (n / 4294967296), ub (n / 1099511627776), ub (n / 281474976710656), ub (n / 72057594037927936)]) rfl rfl ?a1 ?a2 ?a3 ?a4 ?_) | fail)
  case a1 => exact HO.alloc _
  case a2 => refine SB.lit_ _ ([ub n, ub (n / 256), ub (n / 65536), ub (n / 16777216), ub (n / 4294967296), ub (n / 1099511627776), ub (n / 281474976710656), ub (n / 72057594037927936)]) _ ?_ (by simp [i32]) _ rfl; simp [byv, i32, ub_toNat]; try omega
  case a3 => simp; omega
  case a4 => simp [i32]; omega
  intro v1 w1 hap
  go_wp2_with fail
  go_ret
  exact ⟨v1, rfl, hap.pre (balloc (Below.refl _ _) (Nat.le_refl _) _)⟩
theorem appLength (W : World) (base : Nat) (v : Value) (l : List UInt8) (n : Int) (h0 : -2147483648 ≤ n) (h1 : n ≤ 2147483647) (HO : OB 5 W base v l) (hbase : base ≤ W.heap.size) (hl : l.length ≤ 200000000) :
    Calls Tryz.prog 175 #[v, .int .i32 n] W (After fun v1 w1 => App (E := 5) W base v (l ++ i32 n) v1 w1) := by
  have HC := Lib.hid (putI32 W base v l n h0 h1 HO hbase hl)
  obtain ⟨l9, hl9⟩ : ∃ x, x = l ++ i32 n := ⟨_, rfl⟩
  rw [← hl9] at HC ⊢
  clear hl9 HO h0 h1
  go_enter Tryz.func175, Tryz.ntmps175
  go_wp2_with fail
  refine HC.out.mono ?_
  rintro e w1 ⟨v1, rfl, h⟩
  have H := Lib.hid h
  clear h HC
  go_wp2_with fail
  go_ret
  exact ⟨v1, rfl, H.out⟩
theorem appStringB (W : World) (base : Nat) (v : Value) (l : List UInt8) (s : ByteArray) (hs1 : s.size ≤ 1000000) (HO : OB 5 W base v l) (hbase : base ≤ W.heap.size) (hl : l.length ≤ 100000010) :
    Calls Tryz.prog 152 #[v, .string s] W (After fun v1 w1 => App (E := 5) W base v (l ++ txt s.data.toList) v1 w1) := by
  have hw : wrap32 ((s.size : Int) + 1) = (s.size : Int) + 1 := w32c _ hs1
  have HC := Lib.hid (appLength W base v l ((s.size : Int) + 1) (by omega) (by omega) HO hbase (by omega))
  have HF : Hid (∀ v1 w1, App (E := 5) W base v (l ++ i32 ((s.size : Int) + 1) ++ s.data.toList ++ [0]) v1 w1 → App (E := 5) W base v (l ++ txt s.data.toList) v1 w1) := Lib.hid fun v1 w1 h => by
    rw [show l ++ txt s.data.toList = l ++ i32 ((s.size : Int) + 1) ++ s.data.toList ++ [0] from by simp [txt, size_data]]
    exact h
  clear HO
  go_enter Tryz.func152, Tryz.ntmps152
  go_wp2_with fail
  refine HC.out.mono ?_
  rintro e w1 ⟨v1, rfl, h⟩
  have hz1 := h.size
  have ho1 := h.own
  obtain ⟨l1, hl1⟩ : ∃ x, x = l ++ i32 ((s.size : Int) + 1) := ⟨_, rfl⟩
  rw [← hl1] at ho1 h HF
  have HQ1 : Hid (l1.length = l.length + 4) := Lib.hid (by rw [hl1]; simp [i32])
  obtain ⟨A1, c1, rfl, hs1', -⟩ := ho1.sb
  have H1 := Lib.hid h
  clear h hl1 hs1' HC
  go_wp2_with (first | (refine wp_app_str (.tmp 13) (.tmp 14) 22 9 rfl rfl infoB Tryz.underlying22 Tryz.underlying9 _ base _ l1 s rfl rfl ?b1 ?b2 ?b3 ?_) | fail)
  case b1 => exact ho1
  case b2 => omega
  case b3 => have := HQ1.out; omega
  intro v3 w3 h3
  have hz3 := h3.size
  have ho3 := h3.own
  obtain ⟨l3, hl3⟩ : ∃ x, x = l1 ++ s.data.toList := ⟨_, rfl⟩
  have HQ3 : Hid (l3.length = l1.length + s.size) := Lib.hid (by rw [hl3, List.length_append, size_data])
  rw [← hl3] at ho3 h3 HF
  obtain ⟨A3, c3, rfl, hs3, -⟩ := ho3.sb
  have H3 := Lib.hid h3
  clear hs3 h3 hl3
  go_wp2_with (first | (refine wp_app (.tmp 16) (.tmp 17) 22 rfl rfl infoB Tryz.underlying22 _ base _ l3 _ _ [0] rfl rfl ?a1 ?a2 ?a3 ?a4 ?_) | fail)
  case a1 => exact ho3.alloc _
  case a2 => exact SB.lit_ _ [0] _ (by simp [byv]) (by simp) _ rfl
  case a3 => simp; omega
  case a4 => have := HQ1.out; have := HQ3.out; simp; omega
  intro v4 w4 h4
  have h4' := h4.pre (balloc (Below.refl _ _) (Nat.le_refl _) _)
  have HE := Lib.hid (HF.out _ _ ((H1.out.trans H3.out).trans h4'))
  clear h4 h4'
  go_wp2_with fail
  go_ret
  exact ⟨v4, rfl, HE.out⟩
theorem appString (W : World) (base : Nat) (v : Value) (l : List UInt8) (s : ByteArray) (hs1 : s.size ≤ 1000000) (HO : OB 5 W base v l) (hbase : base ≤ W.heap.size) (hl : l.length ≤ 100000000) :
    Calls Tryz.prog 152 #[v, .string s] W (After fun v1 w1 => App (E := 5) W base v (l ++ txt s.data.toList) v1 w1) := appStringB W base v l s hs1 HO hbase (by omega)
theorem appStr (W : World) (base : Nat) (v : Value) (l : List UInt8) (s : ByteArray) (hs1 : s.size ≤ 1000000) (HO : OB 5 W base v l) (hbase : base ≤ W.heap.size) (hl : l.length ≤ 100000000) :
    Calls Tryz.prog 80 #[v, .string s] W (After fun v1 w1 => App (E := 5) W base v (l ++ txt s.data.toList) v1 w1) := by
  have HC := Lib.hid (appString W base v l s hs1 HO hbase hl)
  obtain ⟨l9, hl9⟩ : ∃ x, x = l ++ txt s.data.toList := ⟨_, rfl⟩
  rw [← hl9] at HC ⊢
  clear hl9 HO hs1
  go_enter Tryz.func80, Tryz.ntmps80
  go_wp2_with fail
  refine HC.out.mono ?_
  rintro e w1 ⟨v1, rfl, h⟩
  have H := Lib.hid h
  clear h HC
  go_wp2_with fail
  go_ret
  exact ⟨v1, rfl, H.out⟩
theorem appJs (W : World) (base : Nat) (v : Value) (l : List UInt8) (s : ByteArray) (hs1 : s.size ≤ 1000000) (HO : OB 5 W base v l) (hbase : base ≤ W.heap.size) (hl : l.length ≤ 100000000) :
    Calls Tryz.prog 92 #[v, .string s] W (After fun v1 w1 => App (E := 5) W base v (l ++ txt s.data.toList) v1 w1) := by
  have HC := Lib.hid (appString W base v l s hs1 HO hbase hl)
  obtain ⟨l9, hl9⟩ : ∃ x, x = l ++ txt s.data.toList := ⟨_, rfl⟩
  rw [← hl9] at HC ⊢
  clear hl9 HO hs1
  go_enter Tryz.func92, Tryz.ntmps92
  go_wp2_with fail
  refine HC.out.mono ?_
  rintro e w1 ⟨v1, rfl, h⟩
  have H := Lib.hid h
  clear h HC
  go_wp2_with fail
  go_ret
  exact ⟨v1, rfl, H.out⟩
theorem appSym (W : World) (base : Nat) (v : Value) (l : List UInt8) (s : ByteArray) (hs1 : s.size ≤ 1000000) (HO : OB 5 W base v l) (hbase : base ≤ W.heap.size) (hl : l.length ≤ 100000000) :
    Calls Tryz.prog 93 #[v, .string s] W (After fun v1 w1 => App (E := 5) W base v (l ++ txt s.data.toList) v1 w1) := by
  have HC := Lib.hid (appString W base v l s hs1 HO hbase hl)
  obtain ⟨l9, hl9⟩ : ∃ x, x = l ++ txt s.data.toList := ⟨_, rfl⟩
  rw [← hl9] at HC ⊢
  clear hl9 HO hs1
  go_enter Tryz.func93, Tryz.ntmps93
  go_wp2_with fail
  refine HC.out.mono ?_
  rintro e w1 ⟨v1, rfl, h⟩
  have H := Lib.hid h
  clear h HC
  go_wp2_with fail
  go_ret
  exact ⟨v1, rfl, H.out⟩
theorem appDate (W : World) (base : Nat) (v : Value) (l : List UInt8) (n : Int) (h0 : -9223372036854775808 ≤ n) (h1 : n ≤ 9223372036854775807) (HO : OB 5 W base v l) (hbase : base ≤ W.heap.size) (hl : l.length ≤ 100000000) :
    Calls Tryz.prog 89 #[v, .int .i64 n] W (After fun v1 w1 => App (E := 5) W base v (l ++ i64 (n % 18446744073709551616)) v1 w1) := by
  have HC := Lib.hid (putI64 W base v l n h0 h1 HO hbase (by omega))
  obtain ⟨l9, hl9⟩ : ∃ x, x = l ++ i64 (n % 18446744073709551616) := ⟨_, rfl⟩
  rw [← hl9] at HC ⊢
  clear hl9 HO h0 h1
  go_enter Tryz.func89, Tryz.ntmps89
  go_wp2_with fail
  refine HC.out.mono ?_
  rintro e w1 ⟨v1, rfl, h⟩
  have H := Lib.hid h
  clear h HC
  go_wp2_with fail
  go_ret
  exact ⟨v1, rfl, H.out⟩
theorem appI64 (W : World) (base : Nat) (v : Value) (l : List UInt8) (n : Int) (h0 : -9223372036854775808 ≤ n) (h1 : n ≤ 9223372036854775807) (HO : OB 5 W base v l) (hbase : base ≤ W.heap.size) (hl : l.length ≤ 100000000) :
    Calls Tryz.prog 98 #[v, .int .i64 n] W (After fun v1 w1 => App (E := 5) W base v (l ++ i64 (n % 18446744073709551616)) v1 w1) := by
  have HC := Lib.hid (putI64 W base v l n h0 h1 HO hbase (by omega))
  obtain ⟨l9, hl9⟩ : ∃ x, x = l ++ i64 (n % 18446744073709551616) := ⟨_, rfl⟩
  rw [← hl9] at HC ⊢
  clear hl9 HO h0 h1
  go_enter Tryz.func98, Tryz.ntmps98
  go_wp2_with fail
  refine HC.out.mono ?_
  rintro e w1 ⟨v1, rfl, h⟩
  have H := Lib.hid h
  clear h HC
  go_wp2_with fail
  go_ret
  exact ⟨v1, rfl, H.out⟩
theorem appI32 (W : World) (base : Nat) (v : Value) (l : List UInt8) (n : Int) (h0 : -2147483648 ≤ n) (h1 : n ≤ 2147483647) (HO : OB 5 W base v l) (hbase : base ≤ W.heap.size) (hl : l.length ≤ 100000000) :
    Calls Tryz.prog 96 #[v, .int .i32 n] W (After fun v1 w1 => App (E := 5) W base v (l ++ i32 n) v1 w1) := by
  have HC := Lib.hid (putI32 W base v l n h0 h1 HO hbase (by omega))
  obtain ⟨l9, hl9⟩ : ∃ x, x = l ++ i32 n := ⟨_, rfl⟩
  rw [← hl9] at HC ⊢
  clear hl9 HO h0 h1
  go_enter Tryz.func96, Tryz.ntmps96
  go_wp2_with fail
  refine HC.out.mono ?_
  rintro e w1 ⟨v1, rfl, h⟩
  have H := Lib.hid h
  clear h HC
  go_wp2_with fail
  go_ret
  exact ⟨v1, rfl, H.out⟩
theorem appTime (W : World) (base : Nat) (v : Value) (l : List UInt8) (t i : Int) (ht0 : 0 ≤ t) (ht1 : t ≤ 4294967295) (hi0 : 0 ≤ i) (hi1 : i ≤ 4294967295) (HO : OB 5 W base v l) (hbase : base ≤ W.heap.size) (hl : l.length ≤ 100000000) :
    Calls Tryz.prog 97 #[v, .int .u32 t, .int .u32 i] W (After fun v1 w1 => App (E := 5) W base v (l ++ (i32 i ++ i32 t)) v1 w1) := by
  have HC := Lib.hid (putU32 W base v l i hi0 hi1 HO hbase (by omega))
  have HD := Lib.hid (fun v1 w1 (h : App (E := 5) W base v (l ++ i32 i) v1 w1) => putU32 w1 base v1 (l ++ i32 i) t ht0 ht1 h.own (by have := h.size; omega) (by have h3 : (i32 i).length = 4 := (by simp [i32, i64]); rw [List.length_append, h3]; omega))
  rw [← List.append_assoc]
  clear HO ht0 ht1 hi0 hi1
  go_enter Tryz.func97, Tryz.ntmps97
  go_wp2_with fail
  refine HC.out.mono ?_
  rintro e w1 ⟨v1, rfl, h⟩
  have H2 := Lib.hid (HD.out v1 w1 h)
  have H1 := Lib.hid h
  clear h HC HD
  go_wp2_with fail
  refine H2.out.mono ?_
  rintro e w2 ⟨v2, rfl, h⟩
  have H3 := Lib.hid (H1.out.trans h)
  clear h H2 H1
  go_wp2_with fail
  go_ret
  exact ⟨v2, rfl, H3.out⟩
theorem appDec (W : World) (base : Nat) (v : Value) (l : List UInt8) (t i : Int) (ht0 : 0 ≤ t) (ht1 : t ≤ 18446744073709551615) (hi0 : 0 ≤ i) (hi1 : i ≤ 18446744073709551615) (HO : OB 5 W base v l) (hbase : base ≤ W.heap.size) (hl : l.length ≤ 100000000) :
    Calls Tryz.prog 99 #[v, .int .u64 t, .int .u64 i] W (After fun v1 w1 => App (E := 5) W base v (l ++ (i64 i ++ i64 t)) v1 w1) := by
  have HC := Lib.hid (putU64 W base v l i hi0 hi1 HO hbase (by omega))
  have HD := Lib.hid (fun v1 w1 (h : App (E := 5) W base v (l ++ i64 i) v1 w1) => putU64 w1 base v1 (l ++ i64 i) t ht0 ht1 h.own (by have := h.size; omega) (by have h3 : (i64 i).length = 8 := (by simp [i32, i64]); rw [List.length_append, h3]; omega))
  rw [← List.append_assoc]
  clear HO ht0 ht1 hi0 hi1
  go_enter Tryz.func99, Tryz.ntmps99
  go_wp2_with fail
  refine HC.out.mono ?_
  rintro e w1 ⟨v1, rfl, h⟩
  have H2 := Lib.hid (HD.out v1 w1 h)
  have H1 := Lib.hid h
  clear h HC HD
  go_wp2_with fail
  refine H2.out.mono ?_
  rintro e w2 ⟨v2, rfl, h⟩
  have H3 := Lib.hid (H1.out.trans h)
  clear h H2 H1
  go_wp2_with fail
  go_ret
  exact ⟨v2, rfl, H3.out⟩
theorem appBool (W : World) (base : Nat) (v : Value) (l : List UInt8) (b : Bool) (HO : OB 5 W base v l) (hbase : base ≤ W.heap.size) (hl : l.length ≤ 100000000) :
    Calls Tryz.prog 88 #[v, .bool b] W (After fun v1 w1 => App (E := 5) W base v (l ++ [if b then 1 else 0]) v1 w1) := by
  obtain ⟨A, c, rfl, hs, -⟩ := HO.sb
  clear hs
  cases b with
  | true =>
    go_enter Tryz.func88, Tryz.ntmps88
    go_wp2_with (first | (refine wp_app (.tmp 6) (.tmp 7) 22 rfl rfl infoB Tryz.underlying22 _ base _ l _ _ [1] rfl rfl ?a1 ?a2 ?a3 ?a4 ?_) | fail)
    case a1 => exact HO.alloc _
    case a2 => exact SB.lit_ _ [1] _ (by simp [byv]) (by simp) _ rfl
    case a3 => simp; omega
    case a4 => simp; omega
    intro v1 w1 hap
    go_wp2_with fail
    go_ret
    exact ⟨v1, rfl, hap.pre (balloc (Below.refl _ _) (Nat.le_refl _) _)⟩
  | false =>
    go_enter Tryz.func88, Tryz.ntmps88
    go_wp2_with (first | (refine wp_app (.tmp 9) (.tmp 10) 22 rfl rfl infoB Tryz.underlying22 _ base _ l _ _ [0] rfl rfl ?a1 ?a2 ?a3 ?a4 ?_) | fail)
    case a1 => exact HO.alloc _
    case a2 => exact SB.lit_ _ [0] _ (by simp [byv]) (by simp) _ rfl
    case a3 => simp; omega
    case a4 => simp; omega
    intro v1 w1 hap
    go_wp2_with fail
    go_ret
    exact ⟨v1, rfl, hap.pre (balloc (Below.refl _ _) (Nat.le_refl _) _)⟩
theorem appDocB (W : World) (base : Nat) (v : Value) (l : List UInt8) (A : Option Addr) (c : Nat) (m : List UInt8) (hs : SB W A c m) (hm : m.length ≤ 100000000) (HO : OB 5 W base v l) (hbase : base ≤ W.heap.size) (hl : l.length ≤ 100000000) :
    Calls Tryz.prog 189 #[v, .slice A m.length c] W (After fun v1 w1 => App (E := 5) W base v (l ++ m) v1 w1) := by
  obtain ⟨A0, c0, rfl, hs0, -⟩ := HO.sb
  clear hs0
  go_enter Tryz.func189, Tryz.ntmps189
  go_wp2_with (first | (refine wp_app (.tmp 5) (.tmp 6) 22 rfl rfl infoB Tryz.underlying22 _ base _ l _ _ m rfl rfl ?a1 ?a2 ?a3 ?a4 ?_) | fail)
  case a1 => exact HO
  case a2 => exact hs
  case a3 => omega
  case a4 => omega
  intro v1 w1 hap
  go_wp2_with fail
  go_ret
  exact ⟨v1, rfl, hap⟩
theorem appArrB (W : World) (base : Nat) (v : Value) (l : List UInt8) (A : Option Addr) (c : Nat) (m : List UInt8) (hs : SB W A c m) (hm : m.length ≤ 100000000) (HO : OB 5 W base v l) (hbase : base ≤ W.heap.size) (hl : l.length ≤ 100000000) :
    Calls Tryz.prog 181 #[v, .slice A m.length c] W (After fun v1 w1 => App (E := 5) W base v (l ++ m) v1 w1) := by
  obtain ⟨A0, c0, rfl, hs0, -⟩ := HO.sb
  clear hs0
  go_enter Tryz.func181, Tryz.ntmps181
  go_wp2_with (first | (refine wp_app (.tmp 5) (.tmp 6) 22 rfl rfl infoB Tryz.underlying22 _ base _ l _ _ m rfl rfl ?a1 ?a2 ?a3 ?a4 ?_) | fail)
  case a1 => exact HO
  case a2 => exact hs
  case a3 => omega
  case a4 => omega
  intro v1 w1 hap
  go_wp2_with fail
  go_ret
  exact ⟨v1, rfl, hap⟩
theorem appDbl (W : World) (base : Nat) (v : Value) (l : List UInt8) (n : Int) (h0 : 0 ≤ n) (h1 : n ≤ 18446744073709551615) (HO : OB 5 W base v l) (hbase : base ≤ W.heap.size) (hl : l.length ≤ 100000000) :
    Calls Tryz.prog 78 #[v, .float .f64 n.toNat] W (After fun v1 w1 => App (E := 5) W base v (l ++ i64 n) v1 w1) := by
  have HC := Lib.hid (putU64 W base v l n h0 h1 HO hbase (by omega))
  have hcb : ∀ (k : Nat) (W : World), Sem.run Tryz.prog (callFunc 50 #[.float .f64 k]) W = .ok (.value (.int .u64 k)) W := fun k W => by kernel_rfl
  have hn : ((n.toNat : Nat) : Int) = n := by omega
  obtain ⟨l9, hl9⟩ : ∃ x, x = l ++ i64 n := ⟨_, rfl⟩
  obtain ⟨k, hk⟩ : ∃ k, k = n.toNat := ⟨_, rfl⟩
  rw [← hk] at hn ⊢
  rw [← hl9] at HC ⊢
  rw [← hn] at HC
  clear hl9 HO h0 h1 hk hn
  go_enter Tryz.func78, Tryz.ntmps78
  go_wp2_with fail
  refine HC.out.mono ?_
  rintro e w1 ⟨v1, rfl, h⟩
  have H := Lib.hid h
  clear h HC
  go_wp2_with fail
  go_ret
  exact ⟨v1, rfl, H.out⟩
theorem appRegex (W : World) (base : Nat) (v : Value) (l : List UInt8) (t m : ByteArray) (ht : plainB t.data.toList = true) (hm : plainB m.data.toList = true) (ht1 : t.size ≤ 1000000) (hm1 : m.size ≤ 1000000) (HO : OB 5 W base v l) (hbase : base ≤ W.heap.size) (hl : l.length ≤ 100000000) :
    Calls Tryz.prog 90 #[v, .string t, .string m] W (After fun v1 w1 => App (E := 5) W base v (l ++ (t.data.toList ++ [0] ++ m.data.toList ++ [0])) v1 w1) := by
  have HT := Lib.hid (Hd.validN t W ht)
  have HM := Lib.hid (fun wx => Hd.validN m wx hm)
  obtain ⟨A, c, rfl, hs, -⟩ := HO.sb
  have HS : Hid ((t ++ (⟨#[0]⟩ : ByteArray) ++ m ++ ⟨#[0]⟩).size = t.size + 1 + m.size + 1) := Lib.hid (by simp [ByteArray.size_append]; rfl)
  clear hs ht hm
  go_enter Tryz.func90, Tryz.ntmps90
  go_wp2_with fail
  refine HT.out.mono ?_
  rintro e w1 ⟨rfl, hb⟩
  have HB := Lib.hid hb
  clear hb HT
  go_wp2_with fail
  refine (HM.out w1).mono ?_
  rintro e w2 ⟨rfl, hb⟩
  have HB2 := Lib.hid (bthen HB.out hb)
  have hz := HB2.out.size
  clear hb HM HB
  go_wp2_with (first | (refine wp_app_str (.tmp 16) (.tmp 21) 22 9 rfl rfl infoB Tryz.underlying22 Tryz.underlying9 _ base _ l (t ++ (⟨#[0]⟩ : ByteArray) ++ m ++ ⟨#[0]⟩) rfl rfl ?b1 ?b2 ?b3 ?_) | fail)
  case b1 => exact HO.keep HB2.out
  case b2 => omega
  case b3 => have := HS.out; omega
  intro v3 w3 h3
  have h4 : App (E := 5) w2 base (.slice A l.length c) (l ++ (t.data.toList ++ [0] ++ m.data.toList ++ [0])) v3 w3 := by simpa using h3
  have H3 := Lib.hid (h4.pre HB2.out)
  obtain ⟨A3, c3, e3, -, -⟩ := h4.own.sb
  clear h3 h4
  go_wp2_with fail
  go_ret
  exact ⟨v3, rfl, H3.out⟩
theorem appBin2 (W : World) (base : Nat) (v : Value) (l : List UInt8) (A : Option Addr) (c : Nat) (m : List UInt8) (hs : SB W A c m) (hsp : Sep v A m) (hm : m.length ≤ 1000000) (HO : OB 5 W base v l) (hbase : base ≤ W.heap.size) (hl : l.length ≤ 100000000) :
    Calls Tryz.prog 174 #[v, .int .u8 2, .slice A m.length c] W (After fun v1 w1 => App (E := 5) W base v (l ++ (i32 ((m.length : Int) + 4) ++ [2] ++ i32 (m.length : Int) ++ m)) v1 w1) := by
  have hw0 : wrap64 ((m.length : Int) + 4) = (m.length : Int) + 4 := w64a _ hm
  have hw1 : wrap32 ((m.length : Int) + 4) = (m.length : Int) + 4 := w32a _ hm
  have hw2 : wrap32 (m.length : Int) = (m.length : Int) := w32b _ hm
  have HC := Lib.hid (appLength W base v l ((m.length : Int) + 4) (by omega) (by omega) HO hbase (by omega))
  have HL : Hid (∀ l2 v1 w1, l2.length ≤ l.length + 5 → OB 5 w1 base v1 l2 → base ≤ w1.heap.size → Calls Tryz.prog 175 #[v1, .int .i32 (m.length : Int)] w1 (After fun v2 w2 => App (E := 5) w1 base v1 (l2 ++ i32 (m.length : Int)) v2 w2)) := Lib.hid fun l2 v1 w1 h1 h2 h3 => appLength w1 base v1 l2 (m.length : Int) (by omega) (by omega) h2 h3 (by omega)
  have HF : Hid (∀ v1 w1, App (E := 5) W base v (l ++ i32 ((m.length : Int) + 4) ++ [2] ++ i32 (m.length : Int) ++ m) v1 w1 → App (E := 5) W base v (l ++ (i32 ((m.length : Int) + 4) ++ [2] ++ i32 (m.length : Int) ++ m)) v1 w1) := Lib.hid fun v1 w1 h => by simpa using h
  have HSS := Lib.hid (And.intro hs hsp)
  have HM := Lib.hid hm
  clear HO hs hsp
  obtain ⟨l1, hl1⟩ : ∃ x, x = l ++ i32 ((m.length : Int) + 4) := ⟨_, rfl⟩
  have HQ1 : Hid (l1.length = l.length + 4) := Lib.hid (by rw [hl1]; simp [i32])
  rw [← hl1] at HC HF
  clear hl1 hm
  go_enter Tryz.func174, Tryz.ntmps174
  go_wp2_with fail
  refine HC.out.mono ?_
  rintro e w1 ⟨v1, rfl, h⟩
  have hz1 := h.size
  have ho1 := h.own
  have H1 := Lib.hid h
  obtain ⟨A1, c1, rfl, hs1, -⟩ := ho1.sb
  clear h HC hs1
  go_wp2_with (first | (refine wp_app (.tmp 13) (.tmp 15) 22 rfl rfl infoB Tryz.underlying22 _ base _ l1 _ _ [2] rfl rfl ?a1 ?a2 ?a3 ?a4 ?_) | fail)
  case a1 => exact ho1.alloc _
  case a2 => exact SB.lit_ _ [2] _ (by simp [byv]) (by simp) _ rfl
  case a3 => simp; omega
  case a4 => have := HQ1.out; simp; omega
  intro v2 w2 h2
  have h2' := h2.pre (balloc (Below.refl _ _) (Nat.le_refl _) _)
  have hz2 := h2'.size
  have ho2 := h2'.own
  have H2 := Lib.hid (H1.out.trans h2')
  obtain ⟨l2, hl2⟩ : ∃ x, x = l1 ++ [2] := ⟨_, rfl⟩
  have HQ2 : Hid (l2.length = l1.length + 1) := Lib.hid (by rw [hl2]; simp)
  rw [← hl2] at H2 ho2 HF
  obtain ⟨A2, c2, rfl, hs2, -⟩ := ho2.sb
  clear h2 h2' hs2 hl2 H1
  go_wp2_with fail
  refine (HL.out l2 _ w2 (by have := HQ1.out; have := HQ2.out; omega) ho2 (by omega)).mono ?_
  rintro e w3 ⟨v3, rfl, h3⟩
  have hz3 := h3.size
  have ho3 := h3.own
  have H3 := Lib.hid (H2.out.trans h3)
  obtain ⟨l3, hl3⟩ : ∃ x, x = l2 ++ i32 (m.length : Int) := ⟨_, rfl⟩
  have HQ3 : Hid (l3.length = l2.length + 4) := Lib.hid (by rw [hl3]; simp [i32])
  rw [← hl3] at H3 ho3 HF
  obtain ⟨A3, c3, rfl, hs3, -⟩ := ho3.sb
  clear h3 hs3 hl3 H2 HL
  go_wp2_with (first | (refine wp_app (.tmp 22) (.tmp 23) 22 rfl rfl infoB Tryz.underlying22 _ base _ l3 _ _ m rfl rfl ?b1 ?b2 ?b3 ?b4 ?_) | fail)
  case b1 => exact ho3
  case b2 => exact sb_next H3.out HSS.out.1 HSS.out.2
  case b3 => omega
  case b4 => have := HQ1.out; have := HQ2.out; have := HQ3.out; have := HM.out; omega
  intro v4 w4 h4
  have HE := Lib.hid (HF.out _ _ (H3.out.trans h4))
  clear h4
  go_wp2_with fail
  go_ret
  exact ⟨v4, rfl, HE.out⟩
theorem appBinN (W : World) (base : Nat) (v : Value) (l : List UInt8) (n : Int) (hn0 : 0 ≤ n) (hn1 : n ≤ 255) (hn2 : ¬ n = 2) (A : Option Addr) (c : Nat) (m : List UInt8) (hs : SB W A c m) (hsp : Sep v A m) (hm : m.length ≤ 1000000) (HO : OB 5 W base v l) (hbase : base ≤ W.heap.size) (hl : l.length ≤ 100000000) :
    Calls Tryz.prog 85 #[v, .int .u8 n, .slice A m.length c] W (After fun v1 w1 => App (E := 5) W base v (l ++ (i32 (m.length : Int) ++ [ub n] ++ m)) v1 w1) := by
  have hub : ((ub n).toNat : Int) = n := Hd.ub_small hn0 hn1
  have hn3 : (n == 2) = false := by rw [beq_eq_false_iff_ne]; exact hn2
  have hw2 : wrap32 (m.length : Int) = (m.length : Int) := w32b _ hm
  have HC := Lib.hid (appLength W base v l (m.length : Int) (by omega) (by omega) HO hbase (by omega))
  have HF : Hid (∀ v1 w1, App (E := 5) W base v (l ++ i32 (m.length : Int) ++ [ub n] ++ m) v1 w1 → App (E := 5) W base v (l ++ (i32 (m.length : Int) ++ [ub n] ++ m)) v1 w1) := Lib.hid fun v1 w1 h => by simpa using h
  have HSS := Lib.hid (And.intro hs hsp)
  have HM := Lib.hid hm
  clear HO hs hsp
  obtain ⟨l1, hl1⟩ : ∃ x, x = l ++ i32 (m.length : Int) := ⟨_, rfl⟩
  have HQ1 : Hid (l1.length = l.length + 4) := Lib.hid (by rw [hl1]; simp [i32])
  rw [← hl1] at HC HF
  clear hl1 hm hn0 hn1 hn2
  go_enter Tryz.func85, Tryz.ntmps85
  go_wp2_with fail
  refine HC.out.mono ?_
  rintro e w1 ⟨v1, rfl, h⟩
  have hz1 := h.size
  have ho1 := h.own
  have H1 := Lib.hid h
  obtain ⟨A1, c1, rfl, hs1, -⟩ := ho1.sb
  clear h HC hs1
  go_wp2_with (first | (refine wp_app (.tmp 17) (.tmp 19) 22 rfl rfl infoB Tryz.underlying22 _ base _ l1 _ _ [ub n] rfl rfl ?a1 ?a2 ?a3 ?a4 ?_) | fail)
  case a1 => exact ho1.alloc _
  case a2 => exact SB.lit_ _ [ub n] _ (by simp [byv, hub]) (by simp) _ rfl
  case a3 => simp; omega
  case a4 => have := HQ1.out; simp; omega
  intro v2 w2 h2
  have h2' := h2.pre (balloc (Below.refl _ _) (Nat.le_refl _) _)
  have hz2 := h2'.size
  have ho2 := h2'.own
  have H2 := Lib.hid (H1.out.trans h2')
  obtain ⟨l2, hl2⟩ : ∃ x, x = l1 ++ [ub n] := ⟨_, rfl⟩
  have HQ2 : Hid (l2.length = l1.length + 1) := Lib.hid (by rw [hl2]; simp)
  rw [← hl2] at H2 ho2 HF
  obtain ⟨A2, c2, rfl, hs2, -⟩ := ho2.sb
  clear h2 h2' hs2 hl2 H1
  go_wp2_with (first | (refine wp_app (.tmp 21) (.tmp 22) 22 rfl rfl infoB Tryz.underlying22 _ base _ l2 _ _ m rfl rfl ?b1 ?b2 ?b3 ?b4 ?_) | fail)
  case b1 => exact ho2
  case b2 => exact sb_next H2.out HSS.out.1 HSS.out.2
  case b3 => omega
  case b4 => have := HQ1.out; have := HQ2.out; have := HM.out; omega
  intro v4 w4 h4
  have HE := Lib.hid (HF.out _ _ (H2.out.trans h4))
  clear h4
  go_wp2_with fail
  go_ret
  exact ⟨v4, rfl, HE.out⟩
/-- Twelve bytes as an array's value. -/
def oid12 (m : List UInt8) : Value := .agg (byv m).toArray
theorem oid_split {m : List UInt8} (hm : m.length = 12) : ∃ b0 b1 b2 b3 b4 b5 b6 b7 b8 b9 b10 b11 : UInt8, m = [b0, b1, b2, b3, b4, b5, b6, b7, b8, b9, b10, b11] := by
  match m, hm with
  | [b0, b1, b2, b3, b4, b5, b6, b7, b8, b9, b10, b11], _ => exact ⟨_, _, _, _, _, _, _, _, _, _, _, _, rfl⟩
theorem appOid (W : World) (base : Nat) (v : Value) (l : List UInt8) (m : List UInt8) (hm : m.length = 12) (HO : OB 5 W base v l) (hbase : base ≤ W.heap.size) (hl : l.length ≤ 200000000) :
    Calls Tryz.prog 86 #[v, oid12 m] W (After fun v1 w1 => App (E := 5) W base v (l ++ m) v1 w1) := by
  obtain ⟨A, c, rfl, hs, -⟩ := HO.sb
  obtain ⟨b0, b1, b2, b3, b4, b5, b6, b7, b8, b9, b10, b11, rfl⟩ := oid_split hm
  show Calls Tryz.prog 86 #[.slice A l.length c, .agg #[.int .u8 b0.toNat, .int .u8 b1.toNat, .int .u8 b2.toNat, .int .u8 b3.toNat, .int .u8 b4.toNat, .int .u8 b5.toNat, .int .u8 b6.toNat, .int .u8 b7.toNat, .int .u8 b8.toNat, .int .u8 b9.toNat, .int .u8 b10.toNat, .int .u8 b11.toNat]] W _
  clear hs hm
  go_enter Tryz.func86, Tryz.ntmps86
  go_wp2_with (first | (refine wp_app (.tmp 5) (.tmp 6) 22 rfl rfl infoB Tryz.underlying22 _ base _ l (some ⟨W.heap.size, 0, none⟩) 12 [b0, b1, b2, b3, b4, b5, b6, b7, b8, b9, b10, b11] rfl rfl ?a1 ?a2 ?a3 ?a4 ?_) | fail)
  case a1 => exact HO.alloc _
  case a2 => exact SB.lit_ W [b0, b1, b2, b3, b4, b5, b6, b7, b8, b9, b10, b11] [.int .u8 b0.toNat, .int .u8 b1.toNat, .int .u8 b2.toNat, .int .u8 b3.toNat, .int .u8 b4.toNat, .int .u8 b5.toNat, .int .u8 b6.toNat, .int .u8 b7.toNat, .int .u8 b8.toNat, .int .u8 b9.toNat, .int .u8 b10.toNat, .int .u8 b11.toNat] (by simp [byv]) (by simp) 12 rfl
  case a3 => simp; omega
  case a4 => simp; omega
  intro v1 w1 hap
  have H := Lib.hid (hap.pre (balloc (Below.refl _ _) (Nat.le_refl _) _))
  clear hap
  go_wp2_with fail
  go_ret
  exact ⟨v1, rfl, H.out⟩
theorem sep_new {W : World} {base n c : Nat} {A : Option Addr} {l : List UInt8} (h : OB 5 W base (.slice A n c) l) (m : List UInt8) : Sep (.slice A n c) (some ⟨W.heap.size, 0, none⟩) m := fun _ a ha e => by
  have h1 := (h.lt _ e).2
  have h2 : a.block = W.heap.size := by rw [← Option.some.inj ha]
  omega
theorem appDbp (W : World) (base : Nat) (v : Value) (l : List UInt8) (s : ByteArray) (hs1 : s.size ≤ 1000000) (m : List UInt8) (hm : m.length = 12) (HO : OB 5 W base v l) (hbase : base ≤ W.heap.size) (hl : l.length ≤ 100000000) :
    Calls Tryz.prog 91 #[v, .string s, oid12 m] W (After fun v1 w1 => App (E := 5) W base v (l ++ (txt s.data.toList ++ m)) v1 w1) := by
  obtain ⟨A, c, rfl, hs, -⟩ := HO.sb
  obtain ⟨b0, b1, b2, b3, b4, b5, b6, b7, b8, b9, b10, b11, rfl⟩ := oid_split hm
  show Calls Tryz.prog 91 #[.slice A l.length c, .string s, .agg #[.int .u8 b0.toNat, .int .u8 b1.toNat, .int .u8 b2.toNat, .int .u8 b3.toNat, .int .u8 b4.toNat, .int .u8 b5.toNat, .int .u8 b6.toNat, .int .u8 b7.toNat, .int .u8 b8.toNat, .int .u8 b9.toNat, .int .u8 b10.toNat, .int .u8 b11.toNat]] W _
  have hB : Below W.heap.size W (W.alloc (.cells #[.int .u8 b0.toNat, .int .u8 b1.toNat, .int .u8 b2.toNat, .int .u8 b3.toNat, .int .u8 b4.toNat, .int .u8 b5.toNat, .int .u8 b6.toNat, .int .u8 b7.toNat, .int .u8 b8.toNat, .int .u8 b9.toNat, .int .u8 b10.toNat, .int .u8 b11.toNat] 113)) := balloc (Below.refl _ _) (Nat.le_refl _) _
  have HC := Lib.hid (fun wx (h : Below W.heap.size W wx) => appString wx base (.slice A l.length c) l s hs1 (HO.keep h) (by have := h.size; omega) hl)
  have HSB : Hid (SB (W.alloc (.cells #[.int .u8 b0.toNat, .int .u8 b1.toNat, .int .u8 b2.toNat, .int .u8 b3.toNat, .int .u8 b4.toNat, .int .u8 b5.toNat, .int .u8 b6.toNat, .int .u8 b7.toNat, .int .u8 b8.toNat, .int .u8 b9.toNat, .int .u8 b10.toNat, .int .u8 b11.toNat] 113)) (some ⟨W.heap.size, 0, none⟩) 12 [b0, b1, b2, b3, b4, b5, b6, b7, b8, b9, b10, b11]) := Lib.hid (SB.lit_ W [b0, b1, b2, b3, b4, b5, b6, b7, b8, b9, b10, b11] [.int .u8 b0.toNat, .int .u8 b1.toNat, .int .u8 b2.toNat, .int .u8 b3.toNat, .int .u8 b4.toNat, .int .u8 b5.toNat, .int .u8 b6.toNat, .int .u8 b7.toNat, .int .u8 b8.toNat, .int .u8 b9.toNat, .int .u8 b10.toNat, .int .u8 b11.toNat] (by simp [byv]) (by simp) 12 rfl)
  have HLT : Hid (base ≤ W.heap.size ∧ l.length ≤ 100000000 ∧ (txt s.data.toList).length ≤ 1000005) := Lib.hid ⟨hbase, hl, by simp [txt, i32, size_data]; omega⟩
  have HOO := Lib.hid HO
  rw [← List.append_assoc]
  obtain ⟨l1, hl1⟩ : ∃ x, x = l ++ txt s.data.toList := ⟨_, rfl⟩
  have HQ1 : Hid (l1.length = l.length + (txt s.data.toList).length) := Lib.hid (by rw [hl1, List.length_append])
  rw [← hl1] at HC ⊢
  clear hs hm HO hl1
  go_enter Tryz.func91, Tryz.ntmps91
  go_wp2_with fail
  refine start_ (n := 6) (S := fun w' => True) (ds := [2, 4]) #[false, false, false, false, false, false] (by kernel_rfl) rfl rfl trivial (fun hHeld => ?_)
  refine with_tabW R91.tab1 R91.bits1 (fun HT_ HW_ => ?_)
  refine pure_ (i := 0) (N := some 7) (v := ?_) (a' := ?_) #[true, false, false, false, false, false] rfl rfl (any_of HT_.out (by kernel_rfl)) (fun _ _ _ h => h) (Or.inl ⟨by rfl, ?_⟩) ?_ ?_
  rotate_left
  · intro w'
    go_simp
    with_reducible rfl
  rotate_left
  · simp only [Act.put, List.setIfInBounds_toArray, List.set_cons_zero, List.set_cons_succ, i64_w, i32_w]
    rfl
  refine pure_ (i := 1) (N := some 8) (v := ?_) (a' := ?_) #[true, true, false, false, false, false] rfl rfl (any_of HT_.out (by kernel_rfl)) (fun _ _ _ h => h) (Or.inl ⟨by rfl, ?_⟩) ?_ ?_
  rotate_left
  · intro w'
    go_simp
    with_reducible rfl
  rotate_left
  · simp only [Act.put, List.setIfInBounds_toArray, List.set_cons_zero, List.set_cons_succ, i64_w, i32_w]
    rfl
  refine pure_ (i := 3) (N := some 10) (v := ?_) (a' := ?_) #[true, true, false, true, false, false] rfl rfl (any_of HT_.out (by kernel_rfl)) (fun _ _ _ h => h) (Or.inl ⟨by rfl, ?_⟩) ?_ ?_
  rotate_left
  · intro w'
    go_simp
    with_reducible rfl
  rotate_left
  · simp only [Act.put, List.setIfInBounds_toArray, List.set_cons_zero, List.set_cons_succ, i64_w, i32_w]
    rfl
  refine last_ (i := 2) (N := some 9) #[true, true, true, true, false, false] rfl rfl (one_of HT_.out (by kernel_rfl)) (by decide) (fun K hK => ?_)
  refine goes_ Tryz.func152 (by kernel_rfl) rfl #[.slice A l.length c, .string s] (by rfl) rfl rfl (by simp only [List.map_toArray, List.map_cons, List.map_nil]; rfl) ?_
  with_reducible refine (HC.out _ (by exact bdrew hB)).mono ?_
  rintro e w3 ⟨v3, rfl, h3⟩
  refine ⟨_, rfl, ?_⟩
  have hz3 := h3.size
  have ho3 := h3.own
  have HB3 := Lib.hid (h3.pre (bdrew hB))
  have hsep := sep_new HOO.out [b0, b1, b2, b3, b4, b5, b6, b7, b8, b9, b10, b11]
  have hs3 := sb_next h3 HSB.out.drew hsep
  obtain ⟨A3, c3, rfl, -, -⟩ := ho3.sb
  refine hK.out _ _ ?_
  clear hK K
  refine norm_ (a' := ?_) ?_ ?_
  rotate_left
  · show Act.put _ (some 9) _ = _
    simp only [Act.put, List.setIfInBounds_toArray, List.set_cons_zero, List.set_cons_succ, i64_w, i32_w]
    rfl
  refine last_ (i := 4) (N := some 11) #[true, true, true, true, true, false] rfl rfl (one_of HT_.out (by kernel_rfl)) (by decide) (fun K hK => ?_)
  refine app_step (.tmp 9) (.tmp 10) 22 (by rfl) rfl rfl infoB Tryz.underlying22 _ base _ l1 (some ⟨W.heap.size, 0, none⟩) 12 [b0, b1, b2, b3, b4, b5, b6, b7, b8, b9, b10, b11] rfl rfl ho3 hs3 (by have := HLT.out.1; simp at hz3; omega) (by have := HQ1.out; have := HLT.out; simp; omega) ?_
  intro v4 w4 h4
  refine hK.out _ _ ?_
  clear hK K
  refine norm_ (a' := ?_) ?_ ?_
  rotate_left
  · show Act.put _ (some 11) _ = _
    simp only [Act.put, List.setIfInBounds_toArray, List.set_cons_zero, List.set_cons_succ, i64_w, i32_w]
    rfl
  refine pure_ (i := 5) (N := some 6) (v := ?_) (a' := ?_) #[true, true, true, true, true, true] rfl rfl (any_of HT_.out (by kernel_rfl)) (fun _ _ _ h => h) (Or.inl ⟨by rfl, ?_⟩) ?_ ?_
  rotate_left
  · intro w'
    go_simp
    with_reducible rfl
  rotate_left
  · simp only [Act.put, List.setIfInBounds_toArray, List.set_cons_zero, List.set_cons_succ, i64_w, i32_w]
    rfl
  refine done_ (done_of HT_.out (by kernel_rfl)) ?_
  have HE := Lib.hid (HB3.out.trans h4)
  clear h4
  go_wp2_with fail
  go_ret
  exact ⟨v4, rfl, HE.out⟩
theorem w64e (a b : Nat) (h : a ≤ 1000000) (h2 : b ≤ 1000000) : wrap64 (8 + (a : Int)) = 8 + (a : Int) ∧ wrap64 (8 + (a : Int) + 1) = 8 + (a : Int) + 1 ∧ wrap64 (8 + (a : Int) + 1 + (b : Int)) = 8 + (a : Int) + 1 + (b : Int) ∧ wrap32 (8 + (a : Int) + 1 + (b : Int)) = 8 + (a : Int) + 1 + (b : Int) := by unfold wrap64 wrap32; omega
theorem appCws (W : World) (base : Nat) (v : Value) (l : List UInt8) (s : ByteArray) (hs1 : s.size ≤ 1000000) (A : Option Addr) (c : Nat) (m : List UInt8) (hs : SB W A c m) (hsp : Sep v A m) (hm : m.length ≤ 1000000) (HO : OB 5 W base v l) (hbase : base ≤ W.heap.size) (hl : l.length ≤ 100000000) :
    Calls Tryz.prog 94 #[v, .string s, .slice A m.length c] W (After fun v1 w1 => App (E := 5) W base v (l ++ (i32 (4 + ((txt s.data.toList).length : Int) + (m.length : Int)) ++ txt s.data.toList ++ m)) v1 w1) := by
  obtain ⟨e1, e2, e3, e4⟩ := w64e s.size m.length hs1 hm
  have ht : 4 + ((txt s.data.toList).length : Int) + (m.length : Int) = 8 + (s.size : Int) + 1 + (m.length : Int) := by simp [txt, i32, size_data]; omega
  rw [ht]
  have HC := Lib.hid (appLength W base v l (8 + (s.size : Int) + 1 + (m.length : Int)) (by omega) (by omega) HO hbase (by omega))
  have HT : Hid (∀ l2 v1 w1, l2.length ≤ l.length + 4 → OB 5 w1 base v1 l2 → base ≤ w1.heap.size → Calls Tryz.prog 152 #[v1, .string s] w1 (After fun v2 w2 => App (E := 5) w1 base v1 (l2 ++ txt s.data.toList) v2 w2)) := Lib.hid fun l2 v1 w1 h1 h2 h3 => appStringB w1 base v1 l2 s hs1 h2 h3 (by omega)
  have HF : Hid (∀ v1 w1, App (E := 5) W base v (l ++ i32 (8 + (s.size : Int) + 1 + (m.length : Int)) ++ txt s.data.toList ++ m) v1 w1 → App (E := 5) W base v (l ++ (i32 (8 + (s.size : Int) + 1 + (m.length : Int)) ++ txt s.data.toList ++ m)) v1 w1) := Lib.hid fun v1 w1 h => by simpa using h
  have HSS := Lib.hid (And.intro hs hsp)
  have HLT : Hid ((txt s.data.toList).length ≤ 1000005) := Lib.hid (by simp [txt, i32, size_data]; omega)
  have HM := Lib.hid hm
  clear HO hs hsp ht
  obtain ⟨l1, hl1⟩ : ∃ x, x = l ++ i32 (8 + (s.size : Int) + 1 + (m.length : Int)) := ⟨_, rfl⟩
  have HQ1 : Hid (l1.length = l.length + 4) := Lib.hid (by rw [hl1]; simp [i32])
  rw [← hl1] at HC HF
  clear hl1 hm
  go_enter Tryz.func94, Tryz.ntmps94
  go_wp2_with fail
  refine HC.out.mono ?_
  rintro e w1 ⟨v1, rfl, h⟩
  have hz1 := h.size
  have HO1 := Lib.hid h.own
  have H1 := Lib.hid h
  clear h HC
  go_wp2_with fail
  refine (HT.out l1 v1 w1 (by have := HQ1.out; omega) HO1.out (by omega)).mono ?_
  rintro e w2 ⟨v2, rfl, h⟩
  have hz2 := h.size
  have ho2 := h.own
  have H2 := Lib.hid (H1.out.trans h)
  obtain ⟨l2, hl2⟩ : ∃ x, x = l1 ++ txt s.data.toList := ⟨_, rfl⟩
  have HQ2 : Hid (l2.length = l1.length + (txt s.data.toList).length) := Lib.hid (by rw [hl2, List.length_append])
  rw [← hl2] at H2 ho2 HF
  obtain ⟨A2, c2, rfl, hs2, -⟩ := ho2.sb
  clear h hs2 hl2 H1 HT
  go_wp2_with (first | (refine wp_app (.tmp 21) (.tmp 22) 22 rfl rfl infoB Tryz.underlying22 _ base _ l2 _ _ m rfl rfl ?b1 ?b2 ?b3 ?b4 ?_) | fail)
  case b1 => exact ho2
  case b2 => exact sb_next H2.out HSS.out.1 HSS.out.2
  case b3 => omega
  case b4 => have := HQ1.out; have := HQ2.out; have := HM.out; have := HLT.out; omega
  intro v4 w4 h4
  have HE := Lib.hid (HF.out _ _ (H2.out.trans h4))
  clear h4
  go_wp2_with fail
  go_ret
  exact ⟨v4, rfl, HE.out⟩
def binB (n : Int) (m : List UInt8) : List UInt8 := if n = 2 then i32 ((m.length : Int) + 4) ++ [2] ++ i32 (m.length : Int) ++ m else i32 (m.length : Int) ++ [ub n] ++ m
theorem appBin (W : World) (base : Nat) (v : Value) (l : List UInt8) (n : Int) (hn0 : 0 ≤ n) (hn1 : n ≤ 255) (A : Option Addr) (c : Nat) (m : List UInt8) (hs : SB W A c m) (hsp : Sep v A m) (hm : m.length ≤ 1000000) (HO : OB 5 W base v l) (hbase : base ≤ W.heap.size) (hl : l.length ≤ 100000000) :
    Calls Tryz.prog 85 #[v, .int .u8 n, .slice A m.length c] W (After fun v1 w1 => App (E := 5) W base v (l ++ binB n m) v1 w1) := by
  by_cases h2 : n = 2
  · subst h2
    have HC := Lib.hid (appBin2 W base v l A c m hs hsp hm HO hbase hl)
    have hb : binB 2 m = i32 ((m.length : Int) + 4) ++ [2] ++ i32 (m.length : Int) ++ m := by unfold binB; rw [if_pos rfl]
    rw [hb]
    obtain ⟨l9, hl9⟩ : ∃ x, x = l ++ (i32 ((m.length : Int) + 4) ++ [2] ++ i32 (m.length : Int) ++ m) := ⟨_, rfl⟩
    obtain ⟨q, hq⟩ : ∃ q, q = m.length := ⟨_, rfl⟩
    rw [← hl9] at HC ⊢
    rw [← hq] at HC ⊢
    clear hl9 HO hs hsp hb hq
    go_enter Tryz.func85, Tryz.ntmps85
    go_wp2_with fail
    refine HC.out.mono ?_
    rintro e w1 ⟨v1, rfl, h⟩
    have H := Lib.hid h
    clear h HC
    go_wp2_with fail
    go_ret
    exact ⟨v1, rfl, H.out⟩
  · have h := appBinN W base v l n hn0 hn1 h2 A c m hs hsp hm HO hbase hl
    have hb : binB n m = i32 (m.length : Int) ++ [ub n] ++ m := by unfold binB; rw [if_neg h2]
    rw [hb]
    exact h
end Ap
end Go.Proofs.YtohfgfbfohkkkaaGreatDoor.X
