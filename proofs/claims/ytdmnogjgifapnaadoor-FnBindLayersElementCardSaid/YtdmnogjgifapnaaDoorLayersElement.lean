/- Walk of the law FnBindLayersElement. -/
import Derived.Test.YtdmnogjgifapnaaDoorLook2
import Derived.Test.YtdmnogjgifapnaaDoorAllV
set_option linter.unusedVariables false
set_option linter.unusedSimpArgs false
set_option maxRecDepth 100000
namespace Go.Proofs.YtdmnogjgifapnaaDoor.X
open Go.RowKit Go.Proofs.YtdmnogjgifapnaaDoorW.PrintLast
open Al A2
set_option maxHeartbeats 4000000 in
theorem fnBindLayersElement_walk (A : Option Addr) (c : Nat) (l : List UInt8) (w : World) (hs : SB w A c l) (hm : l.length ≤ 140737488351232) :
    Calls Tryd.prog 6 #[.slice A l.length c] w fun e w' => e = .returned (.bool true) ∧ Below w.heap.size w w' := by
  obtain ⟨s, nk, hke⟩ := kerr_ex l (by omega)
  obtain ⟨kk, lst, nv, h0, h1, hlst, hve⟩ := verr_ex l (by omega)
  have R1 := Lib.hid (fun wx (h : Below w.heap.size w wx) => implRawKeyA hke A c wx (hs.keep h))
  have R2 := Lib.hid (fun wx (h : Below w.heap.size w wx) => implElementKeyA hke A c wx (hs.keep h))
  have V1 := Lib.hid (fun wx (h : Below w.heap.size w wx) => implElemValueA hve h0 h1 hlst A c wx (hs.keep h))
  have V2 := Lib.hid (fun wx (h : Below w.heap.size w wx) => implElementValueA hve h0 h1 hlst A c wx (hs.keep h))
  have X1 := Lib.hid (fun wx (h : Below w.heap.size w wx) => Av.implElemValidate A c l wx (hs.keep h) (by omega))
  have X2 := Lib.hid (fun wx (h : Below w.heap.size w wx) => Av.implValidateElement A c l wx (hs.keep h) (by omega))
  have HBS : Hid (∀ (A B : Option Addr) (c d : Nat) (wx : World), SB wx A c lst → SB wx B d lst → Calls Tryd.prog 18 #[.agg #[.int .i64 kk, .slice A lst.length c], .agg #[.int .i64 kk, .slice B lst.length d]] wx fun e w' => e = .returned (.bool true) ∧ Below wx.heap.size wx w') := Lib.hid fun A B c d wx h1 h2 => bindSame_same A B c d lst kk wx h1 h2
  obtain ⟨p, hp⟩ : ∃ p, p = l.length := ⟨_, rfl⟩
  obtain ⟨q, hq⟩ : ∃ q, q = lst.length := ⟨_, rfl⟩
  obtain ⟨ce, hce⟩ : ∃ n, n = Av.elemCode l := ⟨_, rfl⟩
  rw [← hp] at R1 R2 X1 X2 V1 V2 ⊢
  rw [← hq] at V1 V2 HBS
  rw [← hce] at X1 X2
  clear hs hm hke hve h0 h1 hlst hp hq hce
  by_cases a1 : (p : Int) > 2147483647
  · go_enter Tryd.func6, Tryd.ntmps6
    go_wp2
    go_ret
    exact ⟨rfl, Below.refl _ _⟩
  by_cases a2 : (p : Int) > 5000
  · go_enter Tryd.func6, Tryd.ntmps6
    go_wp2
    go_ret
    exact ⟨rfl, Below.refl _ _⟩
  go_enter Tryd.func6, Tryd.ntmps6
  go_wp2_with fail
  refine (R1.out _ (Below.refl _ _)).mono ?_
  rintro e w1 ⟨rfl, hb1⟩
  have HB1 := Lib.hid hb1
  clear hb1 R1
  go_wp2_with fail
  refine (R2.out _ HB1.out).mono ?_
  rintro e w2 ⟨rfl, hb2⟩
  have HB2 := Lib.hid (bthen HB1.out hb2)
  clear hb2 HB1 R2
  go_wp2_with fail
  refine (V1.out _ HB2.out).mono ?_
  rintro e w3 ⟨A3, c3, rfl, hs3, hb3⟩
  have HB3 := Lib.hid (bthen HB2.out hb3)
  have HS3 := Lib.hid hs3
  clear hb3 HB2 hs3 V1
  go_wp2_with fail
  refine (V2.out _ (balloc HB3.out HB3.out.size _)).mono ?_
  rintro e w4 ⟨A4, c4, rfl, hs4, hb4⟩
  have hbx : Below (w3.heap.size + 1) (w3.alloc (.cells #[.int .i64 kk, .slice A3 q c3] 42)) w4 := by simpa using hb4
  have q0 := boxc hbx 0
  have q1 := boxc hbx 1
  simp only [List.getElem?_cons_succ, List.getElem?_cons_zero] at q0 q1
  have hz := boxs hbx
  have hlt : w3.heap.size < w4.heap.size := by omega
  have hb34 := boxb hbx
  have HS3' := Lib.hid (HS3.out.keep hb34)
  have HS4 := Lib.hid hs4
  have HB4 := Lib.hid (HB3.out.trans (hb34.mono HB3.out.size))
  clear hs4 hb4 hbx hb34 HB3 HS3 V2
  go_wp2_with fail
  refine (HBS.out A3 A4 c3 c4 _ (HS3'.out.alloc _) (HS4.out.alloc _)).mono ?_
  rintro e w5 ⟨rfl, hb5⟩
  have HB5 := Lib.hid ((balloc HB4.out HB4.out.size _).trans (hb5.mono (by have := HB4.out.size; simp; omega)))
  clear hb5 HB4 q0 q1 HS3' HS4 HBS
  go_wp2_with fail
  refine (X1.out _ HB5.out).mono ?_
  rintro e w6 ⟨rfl, hb6⟩
  have HB6 := Lib.hid (bthen HB5.out hb6)
  clear hb6 HB5 X1
  go_wp2_with fail
  refine (X2.out _ HB6.out).mono ?_
  rintro e w7 ⟨rfl, hb7⟩
  have HB7 := Lib.hid (bthen HB6.out hb7)
  clear hb7 HB6 X2
  go_wp2_with fail
  refine (Lo.bindStands _).mono ?_
  rintro e w8 ⟨rfl, hb8⟩
  have HB8 := Lib.hid (bthen HB7.out hb8)
  clear hb8 HB7
  go_wp2_with fail
  go_ret
  exact ⟨rfl, HB8.out⟩
end Go.Proofs.YtdmnogjgifapnaaDoor.X
