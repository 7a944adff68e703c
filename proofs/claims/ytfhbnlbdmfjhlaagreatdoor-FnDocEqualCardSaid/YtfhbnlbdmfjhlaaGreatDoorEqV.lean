/- impl.EqualValue. -/
import Derived.Test.YtfhbnlbdmfjhlaaGreatDoorRv
import Derived.Test.YtfhbnlbdmfjhlaaGreatDoorBytes
import Derived.Test.YtfhbnlbdmfjhlaaGreatDoorElem
import Derived.Outline
set_option linter.unusedVariables false
set_option linter.unusedSimpArgs false
set_option maxRecDepth 100000
namespace Go.Proofs.YtfhbnlbdmfjhlaaGreatDoor.X
open Go.RowKit
namespace Eq2
/-- Whether the values that begin some bytes are the same. -/
def alike (k k' : Int) (l m : List UInt8) : Bool := decide (k = k') && (valIs k l && (valIs k' m && decide (l.take (valLen k l).1.toNat = m.take (valLen k' m).1.toNat)))
theorem coreEqualValue (A B : Option Addr) (c d : Nat) (l m : List UInt8) (k k' : Int) (w : World) (hs : SB w A c l) (ht : SB w B d m) :
    Calls Tryz.prog 23 #[.int .u8 k, .int .u8 k', .slice A l.length c, .slice B m.length d] w fun e w' => e = .returned (.bool (alike k k' l m)) ∧ Below w.heap.size w w' := by
  by_cases hk : k = k'
  · subst hk
    have e1 : (k != k) = false := by simp
    cases hl : valIs k l with
    | false =>
      have hz : alike k k l m = false := by simp [alike, hl]
      rw [hz]
      have HV := Lib.hid (readValue_no A c l k w hs hl)
      obtain ⟨p, hp⟩ : ∃ p, p = l.length := ⟨_, rfl⟩
      rw [← hp] at HV ⊢
      clear hs ht hl hz hp
      go_enter Tryz.func23, Tryz.ntmps23
      go_wp2_with fail
      refine HV.out.mono ?_
      rintro e w1 ⟨rfl, hb⟩
      go_wp2_with fail
      go_ret
      exact ⟨rfl, hb⟩
    | true =>
      obtain ⟨n, hn, hn2⟩ := valLen_of_is hl
      have HV := Lib.hid (readValue_ok A c l k n w hs hn hn2)
      cases hm : valIs k m with
      | false =>
        have hz : alike k k l m = false := by simp [alike, hm]
        rw [hz]
        have HW := Lib.hid (fun wx (h : Below w.heap.size w wx) => readValue_no B d m k wx (ht.keep h) hm)
        obtain ⟨p, hp⟩ : ∃ p, p = l.length := ⟨_, rfl⟩
        obtain ⟨q, hq⟩ : ∃ p, p = m.length := ⟨_, rfl⟩
        rw [← hp] at HV
        rw [← hq] at HW
        rw [← hp, ← hq]
        clear hs ht hl hz hp hq hm hn hn2
        go_enter Tryz.func23, Tryz.ntmps23
        go_wp2_with fail
        refine HV.out.mono ?_
        rintro e w1 ⟨A1, c1, A2, c2, rfl, -, hb⟩
        go_wp2_with fail
        refine (HW.out w1 hb).mono ?_
        rintro e w2 ⟨rfl, hb2⟩
        have HB := Lib.hid (bthen hb hb2)
        clear hb2
        go_wp2_with fail
        go_ret
        exact ⟨rfl, HB.out⟩
      | true =>
        obtain ⟨n', hn', hn2'⟩ := valLen_of_is hm
        have hz : alike k k l m = decide (l.take n = m.take n') := by simp [alike, hl, hm, hn, hn']
        rw [hz]
        have HS := Lib.hid hs
        have HW := Lib.hid (fun wx (h : Below w.heap.size w wx) => readValue_ok B d m k n' wx (ht.keep h) hn' hn2')
        have HQ : Hid (∀ wx A1 c1 B1 d1, SB wx A1 c1 (l.take n) → SB wx B1 d1 (m.take n') → Calls Tryz.prog 56 #[.slice A1 n c1, .slice B1 n' d1] wx fun e w' => e = .returned (.bool (decide (l.take n = m.take n'))) ∧ wx = w') := Lib.hid fun wx A1 c1 B1 d1 h1 h2 => by
          have h := bytesEqual A1 c1 _ B1 d1 _ wx h1 h2
          rw [List.length_take, List.length_take, Nat.min_eq_left hn2, Nat.min_eq_left hn2'] at h
          exact h
        have HT := Lib.hid ht
        obtain ⟨z, hzz⟩ : ∃ z, z = decide (l.take n = m.take n') := ⟨_, rfl⟩
        obtain ⟨p, hp⟩ : ∃ p, p = l.length := ⟨_, rfl⟩
        obtain ⟨q, hq⟩ : ∃ p, p = m.length := ⟨_, rfl⟩
        rw [← hp] at HV
        rw [← hq] at HW
        rw [← hzz] at HQ
        rw [← hp, ← hq, ← hzz]
        clear hs ht hl hz hp hq hm hn hn2 hzz hn' hn2'
        go_enter Tryz.func23, Tryz.ntmps23
        go_wp2_with fail
        refine HV.out.mono ?_
        rintro e w1 ⟨A1, c1, A2, c2, rfl, hss, hb⟩
        have HSS := Lib.hid hss
        clear hss
        go_wp2_with fail
        refine (HW.out w1 hb).mono ?_
        rintro e w2 ⟨B1, d1, B2, d2, rfl, htt, hb2⟩
        have HB := Lib.hid (bthen hb hb2)
        have HX := Lib.hid (HQ.out w2 A1 c1 B1 d1 (HSS.out w2 (HS.out.keep HB.out)).1 (htt w2 (HT.out.keep HB.out)).1)
        clear hb2 htt hb
        go_wp2_with fail
        refine HX.out.mono ?_
        rintro e w3 ⟨rfl, rfl⟩
        go_wp2_with fail
        go_ret
        exact ⟨rfl, HB.out⟩
  · have e1 : (k != k') = true := by simpa using hk
    have hz : alike k k' l m = false := by simp [alike, hk]
    rw [hz]
    obtain ⟨p, hp⟩ : ∃ p, p = l.length := ⟨_, rfl⟩
    obtain ⟨q, hq⟩ : ∃ p, p = m.length := ⟨_, rfl⟩
    rw [← hp, ← hq]
    clear hs ht hz hk hp hq
    go_enter Tryz.func23, Tryz.ntmps23
    go_wp2_with fail
    go_ret
    exact ⟨rfl, Below.refl _ _⟩
theorem implEqualValue (A B : Option Addr) (c d : Nat) (l m : List UInt8) (k k' : Int) (w : World) (hs : SB w A c l) (ht : SB w B d m) (h0 : 0 ≤ k) (h1 : k ≤ 255) (h2 : 0 ≤ k') (h3 : k' ≤ 255) :
    Calls Tryz.prog 11 #[.int .i64 k, .int .i64 k', .slice A l.length c, .slice B m.length d] w fun e w' => e = .returned (.bool (alike k k' l m)) ∧ Below w.heap.size w w' := by
  have HC := Lib.hid (coreEqualValue A B c d l m k k' w hs ht)
  obtain ⟨z, hz⟩ : ∃ z, z = alike k k' l m := ⟨_, rfl⟩
  obtain ⟨p, hp⟩ : ∃ p, p = l.length := ⟨_, rfl⟩
  obtain ⟨q, hq⟩ : ∃ p, p = m.length := ⟨_, rfl⟩
  rw [← hz, ← hp, ← hq] at HC ⊢
  have e1 : k % 256 = k := by omega
  have e2 : k' % 256 = k' := by omega
  clear hs ht h0 h1 h2 h3 hz hp hq
  go_enter Tryz.func11, Tryz.ntmps11
  go_wp2_with fail
  refine HC.out.mono ?_
  rintro e w1 ⟨rfl, hb⟩
  go_wp2_with fail
  go_ret
  exact ⟨rfl, hb⟩
end Eq2
end Go.Proofs.YtfhbnlbdmfjhlaaGreatDoor.X
