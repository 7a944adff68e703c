/- Contract of bsoncore.ReadElement, where no element begins the bytes. -/
import Derived.Test.YtbpopaegfhcdpaaGreatDoorRe
import Derived.Test.YtbpopaegfhcdpaaGreatDoorLookup
set_option linter.unusedVariables false
set_option linter.unusedSimpArgs false
set_option maxRecDepth 100000
namespace Go.Proofs.YtbpopaegfhcdpaaGreatDoor.X
open Go.RowKit Go.Proofs.YtbpopaegfhcdpaaGreatDoorW.PrintLast
theorem readElement_nil (A : Option Addr) (c : Nat) (w : World) :
    Calls Tryz.prog 128 #[.slice A 0 c] w fun e w' => e = .returned (.tuple #[.slice none 0 0, .slice A 0 c, .bool false]) ∧ Below w.heap.size w w' := by
  go_enter Tryz.func128, Tryz.ntmps128
  go_wp2_with fail
  go_ret3
  exact ⟨rfl, Below.refl _ _⟩
theorem readElement_noname (A : Option Addr) (c : Nat) (t : UInt8) (r : List UInt8) (w : World) (hs : SB w A c (t :: r)) (hnm : ∀ x ∈ r, x ≠ 0) (hmax : (t :: r).length ≤ 140737488355328) :
    Calls Tryz.prog 128 #[.slice A (t :: r).length c] w fun e w' => e = .returned (.tuple #[.slice none 0 0, .slice A (t :: r).length c, .bool false]) ∧ Below w.heap.size w w' := by
  obtain ⟨b, off, rfl, hc⟩ := hs.cells (by simp)
  have hc0 : w.cell? ⟨b, off, none⟩ = some (.int .u8 (t.toNat : Int)) := by have h := hc 0 (by simp); simpa using h
  have HCm : Hid (∀ m, m < r.length → ∃ x : Int, w.cell? ⟨b, off + (m + 1), none⟩ = some (.int .u8 x) ∧ (x == 0) = false) := Lib.hid fun m hm => by
    refine ⟨_, hc (m + 1) (by simp; omega), ?_⟩
    have h0 := hnm r[m] (List.getElem_mem hm)
    rw [beq_eq_false_iff_ne, List.getElem_cons_succ]
    intro h
    exact h0 (UInt8.toNat_inj.1 (by simpa using h))
  obtain ⟨tt, htt⟩ : ∃ tt : Int, tt = (t.toNat : Int) := ⟨_, rfl⟩
  rw [← htt] at hc0
  obtain ⟨q, hq⟩ : ∃ q, q = (t :: r).length := ⟨_, rfl⟩
  obtain ⟨p, hp⟩ : ∃ p, p = r.length := ⟨_, rfl⟩
  have hqp : q = p + 1 := by rw [hq, hp]; rfl
  rw [← hq] at hmax ⊢
  rw [← hp] at HCm
  have HQP := Lib.hid hqp
  have hq1 : (1 : Int) ≤ q := by omega
  have hpq : p < q := by omega
  clear hq hp htt hs hc hnm hqp
  go_enter Tryz.func128, Tryz.ntmps128
  go_wp2
  go_loop [6] (fun i => ∃ m : Nat, m ≤ p ∧ i = .int .i64 ((m : Int) + 1)) (fun i => p + 1 - (intOf i).toNat)
  case atStart => exact ⟨0, Nat.zero_le _, rfl⟩
  case round =>
    obtain ⟨m, hm, rfl⟩ := hrel
    by_cases hlt : m < p
    · obtain ⟨x, hx, hx0⟩ := HCm.out m hlt
      have g1 : (m : Int) + 1 < q := by have := HQP.out; omega
      have g2 : ((m : Int) + 1).toNat = m + 1 := by omega
      go_wp2
      go_round
      case rel => exact ⟨m + 1, by omega, by go_num⟩
      case measure => simp [intOf]; omega
    · obtain rfl : m = p := by omega
      have g1 : ¬ (m : Int) + 1 < q := by have := HQP.out; omega
      have g3 : decide ((m : Int) + 1 < q) = false := by simpa using g1
      have g4 : decide ((q : Int) ≤ (m : Int) + 1) = true := by simp; omega
      clear HCm hlt
      go_wp2_with fail
      go_ret3
      exact ⟨rfl, Below.refl _ _⟩
set_option maxRecDepth 100000 in
set_option maxHeartbeats 4000000 in
theorem readElement_novalue (A : Option Addr) (c : Nat) (t : UInt8) (nm rest : List UInt8) (w : World) (hs : SB w A c (t :: (nm ++ 0 :: rest))) (hnm : ∀ x ∈ nm, x ≠ 0) (hv : valIs t.toNat rest = false) (hmax : (t :: (nm ++ 0 :: rest)).length ≤ 140737488355328) :
    Calls Tryz.prog 128 #[.slice A (t :: (nm ++ 0 :: rest)).length c] w fun e w' => e = .returned (.tuple #[.slice none 0 0, .slice A (t :: (nm ++ 0 :: rest)).length c, .bool false]) ∧ Below w.heap.size w w' := by
  have hlc := hs.le
  have hcc := hs.cap
  have hbd := valLen_bd t.toNat rest
  have hcs : (valLen t.toNat rest).2 = false ∨ ((valLen t.toNat rest).2 = true ∧ (rest.length : Int) < (valLen t.toNat rest).1) := by
    unfold valIs at hv
    cases h2 : (valLen t.toNat rest).2
    · exact .inl rfl
    · rw [h2] at hv
      simp at hv
      exact .inr ⟨rfl, hv⟩
  obtain ⟨L, hL⟩ : ∃ L, L = t :: (nm ++ 0 :: rest) := ⟨_, rfl⟩
  have hLl : L.length = nm.length + 2 + rest.length := by rw [hL]; simp; omega
  rw [← hL] at hs hlc hmax ⊢
  have hd1 : L.drop (nm.length + 2) = rest := by rw [hL]; simp
  obtain ⟨A0, e0, s0⟩ := SB.from_ (P := Tryz.prog) Tryz.underlying22 rfl rfl .i64 A c L (nm.length + 2) (by omega) hlc
  rw [hd1] at s0
  have HV := Lib.hid (fun wx (h : Below w.heap.size w wx) => valueLength A0 (c - (nm.length + 2)) rest t.toNat wx (s0 wx (hs.keep h)))
  obtain ⟨b, off, rfl, hc⟩ := hs.cells (by omega)
  have hc0 : w.cell? ⟨b, off, none⟩ = some (.int .u8 (t.toNat : Int)) := by have h := hc 0 (by omega); simpa [hL] using h
  have HCm : Hid (∀ m, m < nm.length → ∃ x : Int, w.cell? ⟨b, off + (m + 1), none⟩ = some (.int .u8 x) ∧ (x == 0) = false) := Lib.hid fun m hm => by
    refine ⟨_, hc (m + 1) (by omega), ?_⟩
    have hx : L[m + 1]'(by omega) = nm[m] := by simp only [hL, List.getElem_cons_succ]; rw [List.getElem_append_left hm]
    have h0 := hnm nm[m] (List.getElem_mem hm)
    rw [beq_eq_false_iff_ne, hx]
    intro h
    exact h0 (UInt8.toNat_inj.1 (by simpa using h))
  have HCz : Hid (w.cell? ⟨b, off + (nm.length + 1), none⟩ = some (.int .u8 0)) := Lib.hid (by
    have h := hc (nm.length + 1) (by omega)
    have hx : L[nm.length + 1]'(by omega) = 0 := by simp only [hL, List.getElem_cons_succ]; rw [List.getElem_append_right (by omega)]; simp
    rw [hx] at h
    exact h)
  obtain ⟨n, hn⟩ : ∃ n, n = (valLen t.toNat rest).1 := ⟨_, rfl⟩
  obtain ⟨ok, hok⟩ : ∃ ok, ok = (valLen t.toNat rest).2 := ⟨_, rfl⟩
  have hnn : ok = true → 0 ≤ n := fun h => by rw [hn]; exact valLen_nn (by rw [← hok]; exact h)
  rw [← hn, ← hok] at HV hcs
  rw [← hn] at hbd
  obtain ⟨tt, htt⟩ : ∃ tt : Int, tt = (t.toNat : Int) := ⟨_, rfl⟩
  rw [← htt] at hc0 HV
  have hq0 : L.length - (nm.length + 2) = rest.length := by omega
  rw [hq0] at e0
  obtain ⟨q, hq⟩ : ∃ q, q = L.length := ⟨_, rfl⟩
  obtain ⟨p, hp⟩ : ∃ p, p = nm.length := ⟨_, rfl⟩
  obtain ⟨r, hr⟩ : ∃ r, r = rest.length := ⟨_, rfl⟩
  rw [← hq] at e0 hmax hlc hLl ⊢
  rw [← hp] at e0 HV HCm HCz hLl
  rw [← hr] at e0 HV hLl hcs
  have e0' : ∀ W : World, (Instr.slice 22 (.slice (some ⟨b, off, none⟩) q c) (some (.int .i64 ((p : Int) + 1 + 1))) none none).run Tryz.prog W = .ok (.slice A0 r (c - (p + 2))) W := fun W => by have h := e0 W; rw [show ((p + 2 : Nat) : Int) = (p : Int) + 1 + 1 from by omega] at h; exact h
  have HLl := Lib.hid hLl
  clear hs s0 e0 hd1 hL hq hp hr htt hq0 hv hnm hc hn hok
  have hq1 : (1 : Int) ≤ q := by omega
  have hpq : p + 2 ≤ q := by omega
  have hqr : q = p + 2 + r := hLl
  have HQR := Lib.hid hqr
  clear hLl hqr
  have hcc2 : ok = false ∨ (ok = true ∧ ((r : Int) < n ∧ 0 ≤ n)) := hcs.imp id fun h => ⟨h.1, h.2, hnn h.1⟩
  clear hcs hnn
  rcases hcc2 with rfl | ⟨rfl, hb2⟩
  · go_enter Tryz.func128, Tryz.ntmps128
    go_wp2
    go_loop [6] (fun i => ∃ m : Nat, m ≤ p ∧ i = .int .i64 ((m : Int) + 1)) (fun i => p + 1 - (intOf i).toNat)
    case atStart => exact ⟨0, Nat.zero_le _, rfl⟩
    case round =>
      obtain ⟨m, hm, rfl⟩ := hrel
      by_cases hlt : m < p
      · obtain ⟨x, hx, hx0⟩ := HCm.out m hlt
        have g1 : (m : Int) + 1 < q := by omega
        have g2 : ((m : Int) + 1).toNat = m + 1 := by omega
        go_wp2
        go_round
        case rel => exact ⟨m + 1, by omega, by go_num⟩
        case measure => simp [intOf]; omega
      · obtain rfl : m = p := by omega
        have hz := HCz.out
        have g1 : (m : Int) + 1 < q := by omega
        have g2 : ((m : Int) + 1).toNat = m + 1 := by omega
        clear HCm HCz hlt
        go_wp2_with fail
        refine (HV.out _ (Below.refl _ _)).mono ?_
        rintro e w1 ⟨rfl, hb⟩
        have HB := Lib.hid hb
        have hlast : (r : Int) < n → (q : Int) < (m : Int) + 1 + 1 + n := fun h => by have := HQR.out; omega
        have HLAST := Lib.hid hlast
        clear hb HV hlast
        go_wp2_with fail
        go_ret3
        exact ⟨rfl, HB.out⟩
  · have HBG := Lib.hid hb2
    clear hb2
    go_enter Tryz.func128, Tryz.ntmps128
    go_wp2
    go_loop [6] (fun i => ∃ m : Nat, m ≤ p ∧ i = .int .i64 ((m : Int) + 1)) (fun i => p + 1 - (intOf i).toNat)
    case atStart => exact ⟨0, Nat.zero_le _, rfl⟩
    case round =>
      obtain ⟨m, hm, rfl⟩ := hrel
      by_cases hlt : m < p
      · obtain ⟨x, hx, hx0⟩ := HCm.out m hlt
        have g1 : (m : Int) + 1 < q := by omega
        have g2 : ((m : Int) + 1).toNat = m + 1 := by omega
        go_wp2
        go_round
        case rel => exact ⟨m + 1, by omega, by go_num⟩
        case measure => simp [intOf]; omega
      · obtain rfl : m = p := by omega
        have hz := HCz.out
        have g1 : (m : Int) + 1 < q := by omega
        have g2 : ((m : Int) + 1).toNat = m + 1 := by omega
        clear HCm HCz hlt
        go_wp2_with fail
        refine (HV.out _ (Below.refl _ _)).mono ?_
        rintro e w1 ⟨rfl, hb⟩
        have HB := Lib.hid hb
        have hlast : (r : Int) < n → (q : Int) < (m : Int) + 1 + 1 + n := fun h => by have := HQR.out; omega
        have HLAST := Lib.hid hlast
        clear hb HV hlast
        have g6 := HLAST.out HBG.out.1
        have g7 : 0 ≤ n := HBG.out.2
        go_wp2_with fail
        go_ret3
        exact ⟨rfl, HB.out⟩
end Go.Proofs.YtbpopaegfhcdpaaGreatDoor.X
