/- Contracts of bsoncore's beginnings and ends of documents and arrays. -/
import Derived.Test.YtohfgfbfohkkkaaGreatDoorOver
import Derived.Test.YtohfgfbfohkkkaaGreatDoorNum
set_option linter.unusedVariables false
set_option linter.unusedSimpArgs false
set_option maxRecDepth 100000
namespace Go.Proofs.YtohfgfbfohkkkaaGreatDoor.X
open Go.RowKit Go.Proofs.YtohfgfbfohkkkaaGreatDoorW.PrintLast

theorem reserve (W : World) (base : Nat) (v : Value) (l : List UInt8) (HO : OB 5 W base v l) (hbase : base ≤ W.heap.size) (hl : l.length ≤ 2147483000) :
    Calls Tryz.prog 72 #[v] W fun e w1 => ∃ v1, e = .returned (.tuple #[.int .i32 (l.length : Int), v1]) ∧ App (E := 5) W base v (l ++ [0, 0, 0, 0]) v1 w1 := by
  obtain ⟨A, c, rfl, hs, -⟩ := HO.sb
  have hlc := hs.le
  have hcc := hs.cap
  clear hs
  go_enter Tryz.func72, Tryz.ntmps72
  go_wp2_with (first | (refine wp_app (.tmp 9) (.tmp 10) 22 rfl rfl infoB Tryz.underlying22 _ base _ l _ _ [0, 0, 0, 0] rfl rfl ?a1 ?a2 ?a3 ?a4 ?_) | fail)
  case a1 => exact HO.alloc _
  case a2 => exact SB.lit_ _ [0, 0, 0, 0] _ (by simp [byv]) (by simp) _ rfl
  case a3 => simp; omega
  case a4 => simp; omega
  intro v1 w1 hap
  go_wp2_with fail
  exact bodyPost_ret (v := .tuple #[.int .i32 (l.length : Int), v1]) (by simp [results, Tryz.results72, go_sem]) rfl ⟨v1, rfl, hap.pre (balloc (Below.refl _ _) (Nat.le_refl _) _)⟩
theorem docStart (W : World) (base : Nat) (v : Value) (l : List UInt8) (HO : OB 5 W base v l) (hbase : base ≤ W.heap.size) (hl : l.length ≤ 2147483000) :
    Calls Tryz.prog 81 #[v] W fun e w1 => ∃ v1, e = .returned (.tuple #[.int .i32 (l.length : Int), v1]) ∧ App (E := 5) W base v (l ++ [0, 0, 0, 0]) v1 w1 := by
  go_enter Tryz.func81, Tryz.ntmps81
  go_wp2_with fail
  refine (reserve W base v l HO hbase hl).mono ?_
  rintro e w1 ⟨v1, rfl, hap⟩
  go_wp2_with fail
  exact bodyPost_ret (v := .tuple #[.int .i32 (l.length : Int), v1]) (by simp [results, Tryz.results81, go_sem]) rfl ⟨v1, rfl, hap⟩
theorem arrStart (W : World) (base : Nat) (v : Value) (l : List UInt8) (HO : OB 5 W base v l) (hbase : base ≤ W.heap.size) (hl : l.length ≤ 2147483000) :
    Calls Tryz.prog 83 #[v] W fun e w1 => ∃ v1, e = .returned (.tuple #[.int .i32 (l.length : Int), v1]) ∧ App (E := 5) W base v (l ++ [0, 0, 0, 0]) v1 w1 := by
  go_enter Tryz.func83, Tryz.ntmps83
  go_wp2_with fail
  refine (reserve W base v l HO hbase hl).mono ?_
  rintro e w1 ⟨v1, rfl, hap⟩
  go_wp2_with fail
  exact bodyPost_ret (v := .tuple #[.int .i32 (l.length : Int), v1]) (by simp [results, Tryz.results83, go_sem]) rfl ⟨v1, rfl, hap⟩
theorem docEnd (W : World) (base : Nat) (v : Value) (pre old body : List UInt8) (HO : OB 5 W base v (pre ++ (old ++ body))) (h4 : old.length = 4) (hbase : base ≤ W.heap.size) (hl : pre.length + body.length ≤ 2147483000) :
    Calls Tryz.prog 76 #[v, .int .i32 (pre.length : Int)] W fun e w1 => ∃ v1, e = .returned (.tuple #[v1, .nilIface]) ∧ App (E := 5) W base v (pre ++ (i32 ((body.length : Int) + 5) ++ (body ++ [0]))) v1 w1 := by
  obtain ⟨A, c, rfl, hs, -⟩ := HO.sb
  have hlc := hs.le
  have hcc := hs.cap
  obtain ⟨L, hL⟩ : ∃ L, L = pre ++ (old ++ body) := ⟨_, rfl⟩
  have hLl : L.length = pre.length + 4 + body.length := by rw [hL]; simp [h4]; omega
  rw [← hL] at HO hlc ⊢
  have HL := Lib.hid hL
  have H4 := Lib.hid h4
  have HB := Lib.hid hbase
  have hLL := Lib.hid hLl
  have g1 : ¬ (pre.length : Int) > (L.length : Int) - 4 := by omega
  obtain ⟨q, hq⟩ : ∃ q, q = L.length := ⟨_, rfl⟩
  obtain ⟨m, hm⟩ : ∃ m, m = pre.length := ⟨_, rfl⟩
  rw [← hq, ← hm] at g1 hLL
  rw [← hq] at hlc HO
  rw [← hq, ← hm]
  have hq1 : q ≤ 2147483004 := by omega
  have hm1 : m + 4 ≤ q := by omega
  have HQ := Lib.hid hq
  have HM := Lib.hid hm
  clear hs hL h4 hbase hLl hl hq hm
  go_enter Tryz.func76, Tryz.ntmps76
  go_wp2_with (first | (refine wp_app (.tmp 14) (.tmp 15) 22 rfl rfl infoB Tryz.underlying22 _ base _ L _ _ [0] rfl rfl ?a1 ?a2 ?a3 ?a4 ?_) | fail)
  case a1 => exact HO.alloc _
  case a2 => exact SB.lit_ _ [0] _ (by simp [byv]) (by simp) _ rfl
  case a3 => have := HB.out; simp; omega
  case a4 => have := HQ.out; simp; omega
  intro v1 w1 hap
  have hap2 := hap.pre (balloc (Below.refl _ _) (Nat.le_refl _) _)
  have hz := hap2.size
  obtain ⟨g, c1, hv1, hlc1, hcm1, hbg, -, -⟩ := hap.own.form (by simp)
  have hq2 : (L ++ [0]).length = q + 1 := by rw [HQ.out]; simp
  rw [hq2] at hv1 hlc1
  have ho1 := hap.own
  rw [hv1] at ho1 ⊢
  have hA2 := hap2
  rw [hv1] at hA2
  have HA2 := Lib.hid hA2
  have hsl := slice_at (P := Tryz.prog) Tryz.underlying22 rfl rfl .i32 g (q + 1) c1 m (by omega) (by omega) (by omega)
  have e1 : L ++ [0] = pre ++ (old ++ (body ++ [0])) := by rw [HL.out]; simp [List.append_assoc]
  have hup : ∀ wx, wx = w1 → Calls Tryz.prog 73 #[.slice (some ⟨g, 0, none⟩) (q + 1) c1, .int .i32 (m : Int), .int .i32 ((q + 1 - m : Nat) : Int)] wx fun e w2 => ∃ v2, e = .returned v2 ∧ App (E := 5) W base (.slice A q c) (pre ++ (i32 ((body.length : Int) + 5) ++ (body ++ [0]))) v2 w2 := by
    rintro wx rfl
    have ho3 := ho1
    rw [e1] at ho3
    have hk := HQ.out
    have hk2 := hLL.out
    rw [HM.out]
    refine (updLen wx base _ pre old (body ++ [0]) (q + 1 - pre.length) ho3 H4.out (by omega) (by have := HM.out; omega) (by have := HB.out; omega)).mono ?_
    rintro e w2 ⟨v2, rfl, rfl, hx⟩
    refine ⟨_, rfl, ?_⟩
    have e5 : ((q + 1 - pre.length : Nat) : Int) = (body.length : Int) + 5 := by have := HM.out; omega
    rw [e5] at hx
    exact HA2.out.trans hx
  have HU := Lib.hid (hup w1 rfl)
  have hw0 : ((q + 1 - m : Nat) : Int) ≤ 2147483647 := by omega
  clear hap hap2 hz ho1 hA2 hup hq2 e1 hv1 HL H4 HB hLL HQ HM HO HA2
  go_wp2_with fail
  refine HU.out.mono ?_
  rintro e w2 ⟨v2, rfl, hx⟩
  have HX := Lib.hid hx
  clear hx HU hsl
  go_wp2_with fail
  exact bodyPost_ret (v := .tuple #[v2, .nilIface]) (by simp [results, Tryz.results76, go_sem]) rfl ⟨v2, rfl, HX.out⟩
theorem arrEnd (W : World) (base : Nat) (v : Value) (pre old body : List UInt8) (HO : OB 5 W base v (pre ++ (old ++ body))) (h4 : old.length = 4) (hbase : base ≤ W.heap.size) (hl : pre.length + body.length ≤ 2147483000) :
    Calls Tryz.prog 84 #[v, .int .i32 (pre.length : Int)] W fun e w1 => ∃ v1, e = .returned (.tuple #[v1, .nilIface]) ∧ App (E := 5) W base v (pre ++ (i32 ((body.length : Int) + 5) ++ (body ++ [0]))) v1 w1 := by
  go_enter Tryz.func84, Tryz.ntmps84
  go_wp2_with fail
  refine (docEnd W base v pre old body HO h4 hbase hl).mono ?_
  rintro e w1 ⟨v1, rfl, hap⟩
  go_wp2_with fail
  exact bodyPost_ret (v := .tuple #[v1, .nilIface]) (by simp [results, Tryz.results84, go_sem]) rfl ⟨v1, rfl, hap⟩
end Go.Proofs.YtohfgfbfohkkkaaGreatDoor.X
