/- Walk of the law FnDocStartEnd. -/
import Derived.Test.YtfpnhlfmnoikhabStart
set_option linter.unusedVariables false
set_option linter.unusedSimpArgs false
namespace Go.Proofs.Ytfpnhlfmnoikhab.X
open Go.RowKit
/-- Two rows of the call's own, the later one made behind the elder one, lie apart. -/
theorem apart_rows {E : TypeId} {w w' : World} {b b' : Nat} {v v' : Value} {l l' : List UInt8} (h : OB E w b v l) (h' : OB E w' b' v' l') (hle : w.heap.size ≤ b') : v'.ownBlock = none ∨ v'.ownBlock ≠ v.ownBlock := by
  cases hv' : v'.ownBlock with
  | none => exact .inl rfl
  | some k' =>
    refine .inr (fun e => ?_)
    have h1 := h'.lt k' hv'
    have h2 := h.lt k' e.symm
    omega
theorem apart_rows' {E : TypeId} {w w' : World} {b b' : Nat} {v v' : Value} {l l' : List UInt8} (h : OB E w b v l) (h' : OB E w' b' v' l') (hle : w.heap.size ≤ b') : v.ownBlock = none ∨ v.ownBlock ≠ v'.ownBlock := by
  rcases apart_rows h h' hle with e | e
  · cases hv : v.ownBlock with
    | none => exact .inl rfl
    | some k => exact .inr (by rw [e]; simp)
  · exact .inr (fun h => e h.symm)
set_option maxRecDepth 100000 in
set_option maxHeartbeats 16000000 in
theorem fnDocStartEnd_walk (A : Option Addr) (c : Nat) (dst : List UInt8) (B : Option Addr) (d : Nat) (body : List UInt8) (w : World) (hs : SB w A c dst) (ht : SB w B d body) (hl : dst.length ≤ 140737488351232) (hm : body.length ≤ 140737488351232) :
    Calls Try.prog 4 #[.slice A dst.length c, .slice B body.length d] w fun e w' => e = .returned (.bool true) ∧ Below w.heap.size w w' := by
  by_cases a1 : (dst.length : Int) > 2147483647
  · go_enter Try.func4, Try.ntmps4
    go_wp2_with fail
    go_ret
    exact ⟨rfl, Below.refl _ _⟩
  by_cases a2 : (body.length : Int) > 2147483647
  · go_enter Try.func4, Try.ntmps4
    go_wp2_with fail
    go_ret
    exact ⟨rfl, Below.refl _ _⟩
  by_cases a3 : (dst.length : Int) > 1000
  · go_enter Try.func4, Try.ntmps4
    go_wp2_with fail
    go_ret
    exact ⟨rfl, Below.refl _ _⟩
  by_cases a4 : (body.length : Int) > 5000
  · go_enter Try.func4, Try.ntmps4
    go_wp2_with fail
    go_ret
    exact ⟨rfl, Below.refl _ _⟩
  have HS := Lib.hid hs
  have HT := Lib.hid ht
  clear hs ht
  obtain ⟨X, hX⟩ : ∃ X, X = dst ++ (i32 ((body.length : Int) + 5) ++ (body ++ ([0] : List UInt8))) := ⟨_, rfl⟩
  have HX := Lib.hid hX
  clear hX
  go_enter Try.func4, Try.ntmps4
  go_wp2_with fail
  refine (fresh_of (docCopy A c dst _ HS.out (by omega))).mono ?_
  rintro e w1 ⟨A1, c1, rfl, hs1, -, hb1⟩
  go_wp2_with fail
  refine (implDocStart A1 c1 dst w1 hs1 (by omega)).mono ?_
  rw [show (dst ++ ([0, 0, 0, 0] : List UInt8)).length = dst.length + 4 from by simp]
  rintro e w2 ⟨A2, c2, rfl, hs2, ho2, hb2⟩
  have hB2 : Below w.heap.size w w2 := bthen hb1 hb2
  have HO2 := Lib.hid ho2
  have hC1 : w.heap.size ≤ w1.heap.size := hb1.size
  have hC2 : w1.heap.size ≤ w2.heap.size := hb2.size
  clear hs1 hs2 ho2 hb1 hb2
  go_wp2_with fail
  refine (fresh_of (docCopy A c dst _ (HS.out.keep hB2) (by omega))).mono ?_
  rintro e w3 ⟨A3, c3, rfl, hs3, -, hb3⟩
  go_wp2_with fail
  refine (implArrStart A3 c3 dst w3 hs3 (by omega)).mono ?_
  rw [show (dst ++ ([0, 0, 0, 0] : List UInt8)).length = dst.length + 4 from by simp]
  rintro e w4 ⟨A4, c4, rfl, hs4, ho4, hb4⟩
  have hB4 : Below w.heap.size w w4 := bthen (bthen hB2 hb3) hb4
  have hD4 : Below w2.heap.size w2 w4 := bthen hb3 hb4
  have HO4 := Lib.hid ho4
  have hC3 : w2.heap.size ≤ w3.heap.size := hb3.size
  have hC4 : w3.heap.size ≤ w4.heap.size := hb4.size
  clear hs3 hs4 ho4 hb3 hb4 hB2
  have ht4 := HT.out.keep hB4
  have ho24 := HO2.out.keep hD4
  go_wp2_with (first | (refine wp_app (.tmp 67) (.tmp 68) 25 rfl rfl infoB Try.underlying25 _ w1.heap.size _ (dst ++ [0, 0, 0, 0]) B d body rfl rfl ho24 ht4 (by omega) (by simp; omega) ?_; intro v5 w5 hap5) | fail)
  have hQ5 : Below w1.heap.size w4 w5 := hap5.kept ho24 (by omega)
  have HO45 : Hid (OB 5 w5 w3.heap.size (.slice A4 (dst.length + 4) c4) (dst ++ [0, 0, 0, 0])) := Lib.hid (HO4.out.other hap5.grown (apart_rows HO2.out HO4.out hC3))
  have hC5 : w4.heap.size ≤ w5.heap.size := hap5.size
  obtain ⟨A5, c5, hv5, hs5, -⟩ := hap5.own.sb
  rw [show dst ++ ([0, 0, 0, 0] : List UInt8) ++ body = dst ++ (([0, 0, 0, 0] : List UInt8) ++ body) from by simp] at hs5 hv5
  rw [hv5]
  have he5 := implDocEnd A5 c5 dst [0, 0, 0, 0] body w5 hs5 rfl (by omega)
  rw [← HX.out] at he5
  have HE5 := Lib.hid he5
  clear he5
  have hB5 : Below w.heap.size w w5 := hB4.trans (hQ5.mono (by omega))
  clear hap5 ho24 ht4 hs5 hv5 hQ5 hD4 HO2 hB4
  go_wp2_with fail
  refine HE5.out.mono ?_
  rintro e w6 ⟨A6, c6, rfl, hs6, ho6, hb6⟩
  have hB6 : Below w.heap.size w w6 := bthen hB5 hb6
  have HO6 := Lib.hid ho6
  have ho46 := HO45.out.keep hb6
  have HO46 := Lib.hid ho46
  have hC6 : w5.heap.size ≤ w6.heap.size := hb6.size
  have ht6 := HT.out.keep hB6
  clear hs6 ho6 hb6 HE5 HO45 hB5
  go_wp2_with (first | (refine wp_app (.tmp 75) (.tmp 76) 25 rfl rfl infoB Try.underlying25 _ w3.heap.size _ (dst ++ [0, 0, 0, 0]) B d body rfl rfl ho46 ht6 (by omega) (by simp; omega) ?_; intro v7 w7 hap7) | fail)
  have hQ7 : Below w3.heap.size w6 w7 := hap7.kept ho46 (by omega)
  have ho67 := HO6.out.other hap7.grown (apart_rows HO4.out HO6.out hC5)
  have HO67 := Lib.hid ho67
  have hC7 : w6.heap.size ≤ w7.heap.size := hap7.size
  obtain ⟨A7, c7, hv7, hs7, -⟩ := hap7.own.sb
  rw [show dst ++ ([0, 0, 0, 0] : List UInt8) ++ body = dst ++ (([0, 0, 0, 0] : List UInt8) ++ body) from by simp] at hs7 hv7
  rw [hv7]
  have he7 := implArrEnd A7 c7 dst [0, 0, 0, 0] body w7 hs7 rfl (by omega)
  rw [← HX.out] at he7
  have HE7 := Lib.hid he7
  clear he7
  have hB7 : Below w.heap.size w w7 := hB6.trans (hQ7.mono (by omega))
  clear hap7 ho46 ht6 hs7 hv7 hQ7 HO4 hB6 HO46 HO6 ho67
  go_wp2_with fail
  refine HE7.out.mono ?_
  rintro e w8 ⟨A8, c8, rfl, hs8, ho8, hb8⟩
  have hB8 : Below w.heap.size w w8 := bthen hB7 hb8
  have HS68 : Hid (SB w8 A6 c6 X) := Lib.hid (by obtain ⟨A', c', e', h', -⟩ := (HO67.out.keep hb8).sb; injection e' with e1 e2 e3; subst e1 e3; exact h')
  have HS8 := Lib.hid hs8
  clear hs8 ho8 hb8 HE7 HO67 hB7
  go_wp2_with fail
  refine (docCopy A c dst _ (HS.out.keep hB8) (by omega)).mono ?_
  rintro e w9 ⟨v9, rfl, ho9, hb9⟩
  have hC9 : w8.heap.size ≤ w9.heap.size := hb9.size
  go_wp2_with fail
  refine (docInt32 w9 w8.heap.size v9 dst ((body.length : Int) + 5) ho9 hC9 (by omega)).mono ?_
  rintro e w10 ⟨v10, rfl, hap10⟩
  have hX10 : Below w8.heap.size w8 w10 := hb9.trans (hap10.kept ho9 hC9)
  have ho10 := hap10.own
  have ht10 := HT.out.keep (bthen hB8 hX10)
  have hC10 : w8.heap.size ≤ w10.heap.size := hX10.size
  clear hap10 hb9 ho9
  have HZ : Hid (∀ v11 w11, App (E := 5) w10 w8.heap.size v10 (dst ++ i32 ((body.length : Int) + 5) ++ body) v11 w11 → ∃ A11 c11 n11, v11 = .slice A11 n11 c11 ∧ n11 ≤ 100000000 ∧ OB 5 w11 w8.heap.size (.slice A11 n11 c11) (dst ++ i32 ((body.length : Int) + 5) ++ body) ∧ Below w8.heap.size w8 w11 ∧ w8.heap.size ≤ w11.heap.size) := Lib.hid fun v11 w11 hap11 => by
    obtain ⟨A11, c11, hv11, -, -⟩ := hap11.own.sb
    have hx := hX10.trans (hap11.kept ho10 hC10)
    have ho11 := hap11.own
    rw [hv11] at ho11
    exact ⟨A11, c11, _, hv11, by simp [i32]; omega, ho11, hx, hx.size⟩
  clear hX10
  go_wp2_with (first | (refine wp_app (.tmp 87) (.tmp 88) 25 rfl rfl infoB Try.underlying25 _ w8.heap.size _ (dst ++ i32 ((body.length : Int) + 5)) B d body rfl rfl ho10 ht10 (by omega) (by simp [i32]; omega) ?_; intro v11 w11 hap11; obtain ⟨A11, c11, n11, hv11, hl11, ho11, hX11, hC11⟩ := HZ.out v11 w11 hap11; rw [hv11]; clear hap11 hv11) | (refine wp_app (.tmp 90) (.tmp 91) 25 rfl rfl infoB Try.underlying25 _ w8.heap.size _ (dst ++ i32 ((body.length : Int) + 5) ++ body) _ _ [0] rfl rfl ?a1 ?a2 ?a3 ?a4 ?_) | fail)
  case a1 => exact ho11.alloc _
  case a2 => exact SB.lit_ _ [0] _ (by simp [byv]) (by simp) _ rfl
  case a3 => simp; omega
  case a4 => simp [i32]; omega
  intro v12 w12 hap12
  have hX12 : Below w8.heap.size w8 w12 := (balloc hX11 hC11 _).trans (hap12.kept (ho11.alloc _) (by simp; omega))
  obtain ⟨A12, c12, hv12, hs12, -⟩ := hap12.own.sb
  have e12 : ∀ z, z = dst ++ (i32 ((body.length : Int) + 5) ++ (body ++ ([0] : List UInt8))) → SB w12 A12 c12 z → SB w12 A12 c12 X := fun z hz h => by rw [HX.out]; exact hz ▸ h
  replace hs12 := e12 _ (by simp) hs12
  clear e12
  have hv13 : v12 = .slice A12 X.length c12 := by rw [HX.out]; first | (rw [hv12]; done) | (rw [hv12]; simp)
  rw [hv13]
  obtain ⟨sr, hsr⟩ : ∃ x, x = (⟨X.toArray⟩ : ByteArray) := ⟨_, rfl⟩
  have k1 := str_of (HS68.out.keep hX12)
  have k2 := str_of (HS8.out.keep hX12)
  have k3 := str_of hs12
  rw [← hsr] at k1 k2 k3
  have hend : Below w.heap.size w w12 := bthen hB8 hX12
  clear hap12 ho11 hX11 hX12 hs12 hv12 hv13 hsr HS68 HS8 hB8 HS HT
  go_wp2_with fail
  go_ret
  exact ⟨rfl, hend⟩
end Go.Proofs.Ytfpnhlfmnoikhab.X

