/- Document.Validate of a right document, and what follows it. -/
import Derived.Test.YtdmnogjgifapnaaDoorElemPl
import Derived.Test.YtdmnogjgifapnaaDoorRe
import Derived.Outline
set_option linter.unusedVariables false
set_option linter.unusedSimpArgs false
set_option maxRecDepth 100000
namespace Go.Proofs.YtdmnogjgifapnaaDoor.X
open Go.RowKit Go.Proofs.YtdmnogjgifapnaaDoorW.PrintLast
namespace Dv
abbrev El := UInt8 × List UInt8 × List UInt8
def elOf (e : El) : List UInt8 := e.1 :: (e.2.1 ++ 0 :: e.2.2)
def fl : List El → List UInt8
  | [] => []
  | e :: r => elOf e ++ fl r
def okEl (e : El) : Prop := plainB e.2.1 = true ∧ ∀ r, valLen (e.1.toNat : Int) (e.2.2 ++ r) = ((e.2.2.length : Int), true)
def Lf (els : List El) (i : Nat) : Nat := (fl (els.drop i)).length
theorem fl_at (els : List El) (i : Nat) (h : i < els.length) : fl (els.drop i) = elOf els[i] ++ fl (els.drop (i + 1)) := by
  rw [List.drop_eq_getElem_cons h]; rfl
theorem elOf_len (e : El) : (elOf e).length = e.2.1.length + 2 + e.2.2.length := by simp [elOf]; omega
theorem Lf_at (els : List El) (i : Nat) (h : i < els.length) : Lf els i = (elOf els[i]).length + Lf els (i + 1) := by
  unfold Lf; rw [fl_at els i h, List.length_append]
theorem Lf_end (els : List El) : Lf els els.length = 0 := by simp [Lf, fl]
theorem rnd {a a2 k L0 p mm : Nat} (z1 : a ≤ L0) (z2 : a2 ≤ L0) (z3 : p = L0 + 5 + mm) (z4 : p ≤ 2000000000) (hk : k + a2 = a) : wrap32 (k : Int) = k ∧ wrap32 ((a : Int) + 1 - k) = (a2 : Int) + 1 := by
  constructor <;> (unfold wrap32; omega)
theorem meas {a a2 k : Nat} (hk : k + a2 = a) (h2 : 2 ≤ k) : ((a2 : Int) + 1).toNat < ((a : Int) + 1).toNat := by omega
set_option maxHeartbeats 400000 in
theorem docValidate (A : Option Addr) (c : Nat) (els : List El) (more l : List UInt8) (w : World) (hl : l = i32 ((Lf els 0 : Int) + 5) ++ (fl els ++ 0 :: more)) (hok : ∀ e ∈ els, okEl e) (hmax : l.length ≤ 2000000000) (hs : SB w A c l) :
    Calls Tryd.prog 62 #[.slice A l.length c] w fun e w' => e = .returned .nilIface ∧ Below w.heap.size w w' := by
  obtain ⟨mm, hmm⟩ : ∃ m, m = more.length := ⟨_, rfl⟩
  have hf0 : fl (els.drop 0) = fl els := rfl
  have hll : l.length = Lf els 0 + 5 + mm := by rw [hl, hmm]; simp [i32_len, Lf]; omega
  have hrl : readLen l = ((Lf els 0 : Int) + 5, true) := by rw [hl]; exact readLen_i32 _ (by omega) (by omega) _
  have hd4 : l.drop 4 = fl (els.drop 0) ++ 0 :: more := by
    rw [hl, hf0]
    exact List.drop_left' (i32_len _)
  have HL : Hid (∀ wx : World, Below w.heap.size w wx → Calls Tryd.prog 79 #[.slice A l.length c] wx fun e w' => ∃ A1 c1, e = .returned (.tuple #[.int .i32 ((Lf els 0 : Int) + 5), .slice A1 (Lf els 0 + 1 + mm) c1, .bool true]) ∧ SB w' A1 c1 (fl (els.drop 0) ++ 0 :: more) ∧ Below wx.heap.size wx w') := Lib.hid fun wx h => by
    refine (readLength A c l wx (hs.keep h)).mono ?_
    rintro e w' ⟨A1, n1, c1, rfl, h4, -, hb⟩
    obtain ⟨rfl, rfl, h5⟩ := h4 (by omega)
    rw [hd4] at h5
    exact ⟨A1, _, by rw [hrl, hll, show Lf els 0 + 5 + mm - 4 = Lf els 0 + 1 + mm from by omega], h5, hb⟩
  have HR : Hid (∀ i, i < els.length → ∀ A1 c1 (wx : World), SB wx A1 c1 (fl (els.drop i) ++ 0 :: more) → Calls Tryd.prog 81 #[.slice A1 (Lf els i + 1 + mm) c1] wx fun e w' => ∃ A2 c2 A3 c3 k, e = .returned (.tuple #[.slice A2 k c2, .slice A3 (Lf els (i + 1) + 1 + mm) c3, .bool true]) ∧ k + Lf els (i + 1) = Lf els i ∧ 2 ≤ k ∧ Hid (∀ wy, Below w'.heap.size w' wy → Calls Tryd.prog 50 #[.slice A2 k c2] wy fun e w2 => e = .returned .nilIface ∧ Below wy.heap.size wy w2) ∧ SB w' A3 c3 (fl (els.drop (i + 1)) ++ 0 :: more) ∧ Below wx.heap.size wx w') := Lib.hid fun i hi A1 c1 wx h => by
    obtain ⟨hp, hv⟩ := hok els[i] (List.getElem_mem hi)
    have hLi := Lf_at els i hi
    have hel := elOf_len els[i]
    have hLle : Lf els i ≤ Lf els 0 := by
      have : ∀ j, j ≤ els.length → Lf els j ≤ Lf els 0 := by
        intro j
        induction j with
        | zero => intro _; exact Nat.le_refl _
        | succ j ih => intro hj; have := ih (by omega); have := Lf_at els j (by omega); omega
      exact this i (by omega)
    have e1 : fl (els.drop i) ++ 0 :: more = els[i].1 :: (els[i].2.1 ++ 0 :: (els[i].2.2 ++ (fl (els.drop (i + 1)) ++ 0 :: more))) := by
      rw [fl_at els i hi]; simp [elOf]
    rw [e1] at h
    have hlen : (els[i].1 :: (els[i].2.1 ++ 0 :: (els[i].2.2 ++ (fl (els.drop (i + 1)) ++ 0 :: more)))).length = Lf els i + 1 + mm := by
      rw [← e1, hmm]; simp [Lf]; omega
    have hh := readElement_ok A1 c1 els[i].1 els[i].2.1 (els[i].2.2 ++ (fl (els.drop (i + 1)) ++ 0 :: more)) els[i].2.2.length wx h (plain_ne hp) (hv _) (by simp) (by rw [hlen]; omega)
    rw [hlen] at hh
    refine hh.mono ?_
    rintro e w' ⟨A2, c2, A3, c3, rfl, hss, hb⟩
    obtain ⟨s2, s3⟩ := hss w' (h.keep hb)
    rw [List.take_left] at s2
    rw [List.drop_left] at s3
    have s2' : SB w' A2 c2 (elOf els[i]) := s2
    refine ⟨A2, c2, A3, c3, (elOf els[i]).length, ?_, by omega, by omega, Lib.hid fun wy hy => ?_, s3, hb⟩
    · rw [hel, show (els[i].2.2 ++ (fl (els.drop (i + 1)) ++ 0 :: more)).length - els[i].2.2.length = Lf els (i + 1) + 1 + mm from by rw [hmm]; simp [Lf]; omega]
    · refine (elemValidate A2 c2 (elOf els[i]) wy (s2'.keep hy) (by omega)).mono ?_
      rintro e w2 ⟨v, rfl, hv2, hb2⟩
      have hr := elemIs_right els[i].1 els[i].2.1 els[i].2.2 hp (by simpa using hv [])
      have : v = .nilIface := by
        have h9 : ErrIs (elemIs (elOf els[i])) v := hv2
        rw [show elemIs (elOf els[i]) = true from hr] at h9
        simpa [ErrIs] using h9
      exact ⟨by rw [this], hb2⟩
  obtain ⟨b, off, rfl, hc⟩ := hs.cells (by omega)
  have hz : w.cell? ⟨b, off + (Lf els 0 + 4), none⟩ = some (.int .u8 0) := by
    have h := hc (Lf els 0 + 4) (by omega)
    have hx : l[Lf els 0 + 4]'(by omega) = 0 := by
      simp only [hl]
      rw [List.getElem_append_right (by simp [i32_len])]
      simp only [i32_len]
      rw [List.getElem_append_right (by show (fl els).length ≤ _; have : Lf els 0 = (fl els).length := rfl; omega)]
      have : Lf els 0 + 4 - 4 - (fl els).length = 0 := by have : Lf els 0 = (fl els).length := rfl; omega
      have e9 : ∀ (j : Nat) (hj : j < (0 :: more).length), j = 0 → (0 :: more)[j] = 0 := by
        intro j hj h; subst h; rfl
      exact e9 _ _ this
    rw [hx] at h
    exact h
  have HEND : Hid (∀ A1 c1 (wx : World), SB wx A1 c1 (fl (els.drop els.length) ++ 0 :: more) → ∃ b1 o1, A1 = some ⟨b1, o1, none⟩ ∧ wx.cell? ⟨b1, o1, none⟩ = some (.int .u8 0)) := Lib.hid fun A1 c1 wx h => by
    rw [List.drop_length] at h
    obtain ⟨b1, o1, e1, hc1⟩ := h.cells (by simp [fl])
    have := hc1 0 (by simp [fl])
    exact ⟨b1, o1, e1, by simpa [fl] using this⟩
  have HLE : Hid (∀ i, i ≤ els.length → Lf els i ≤ Lf els 0) := Lib.hid fun i hi => by
    have : ∀ j, j ≤ els.length → Lf els j ≤ Lf els 0 := by
      intro j
      induction j with
      | zero => intro _; exact Nat.le_refl _
      | succ j ih => intro hj; have := ih (by omega); have := Lf_at els j (by omega); omega
    exact this i hi
  have HPOS : Hid (∀ i, i < els.length → 2 ≤ Lf els i) := Lib.hid fun i hi => by
    have h1 := Lf_at els i hi
    have h2 := elOf_len els[i]
    omega
  have HE0 := Lib.hid (Lf_end els)
  obtain ⟨P, hP⟩ : ∃ P : Nat → Option Addr → Nat → World → Prop, P = fun i A1 c1 wx => SB wx A1 c1 (fl (els.drop i) ++ 0 :: more) := ⟨_, rfl⟩
  have HK : Hid (∀ i A1 c1 (w1 w2 : World), P i A1 c1 w1 → Below w1.heap.size w1 w2 → P i A1 c1 w2) := Lib.hid fun i A1 c1 w1 w2 h hb => by subst hP; exact SB.keep h hb
  have HL2 : Hid (∀ wx : World, Below w.heap.size w wx → Calls Tryd.prog 79 #[.slice (some ⟨b, off, none⟩) l.length c] wx fun e w' => ∃ A1 c1, e = .returned (.tuple #[.int .i32 ((Lf els 0 : Int) + 5), .slice A1 (Lf els 0 + 1 + mm) c1, .bool true]) ∧ P 0 A1 c1 w' ∧ Below wx.heap.size wx w') := Lib.hid (by subst hP; exact HL.out)
  have HR2 : Hid (∀ i, i < els.length → ∀ A1 c1 (wx : World), P i A1 c1 wx → Calls Tryd.prog 81 #[.slice A1 (Lf els i + 1 + mm) c1] wx fun e w' => ∃ A2 c2 A3 c3 k, e = .returned (.tuple #[.slice A2 k c2, .slice A3 (Lf els (i + 1) + 1 + mm) c3, .bool true]) ∧ k + Lf els (i + 1) = Lf els i ∧ 2 ≤ k ∧ Hid (∀ wy, Below w'.heap.size w' wy → Calls Tryd.prog 50 #[.slice A2 k c2] wy fun e w2 => e = .returned .nilIface ∧ Below wy.heap.size wy w2) ∧ P (i + 1) A3 c3 w' ∧ Below wx.heap.size wx w') := Lib.hid (by subst hP; exact HR.out)
  have HEND2 : Hid (∀ A1 c1 (wx : World), P els.length A1 c1 wx → ∃ b1 o1, A1 = some ⟨b1, o1, none⟩ ∧ wx.cell? ⟨b1, o1, none⟩ = some (.int .u8 0)) := Lib.hid (by subst hP; exact HEND.out)
  clear HL HR HEND hP
  obtain ⟨LF, hLF⟩ : ∃ LF : Nat → Nat, LF = Lf els := ⟨_, rfl⟩
  obtain ⟨N, hN⟩ : ∃ N, N = els.length := ⟨_, rfl⟩
  rw [← hLF] at HLE HPOS HE0 HL2 HR2 hz hll
  rw [← hN] at HLE HPOS HE0 HR2 HEND2
  obtain ⟨L0, hL0⟩ : ∃ L0, L0 = LF 0 := ⟨_, rfl⟩
  rw [← hL0] at HLE HL2 hz hll
  obtain ⟨p, hp⟩ : ∃ p, p = l.length := ⟨_, rfl⟩
  rw [← hp] at HL2 hmax hll ⊢
  obtain ⟨nn, hnn⟩ : ∃ nn : Int, nn = (L0 : Int) + 5 := ⟨_, rfl⟩
  rw [← hnn] at HL2
  have i1 : wrap32 (nn - 1) = nn - 1 := by unfold wrap32; omega
  have i4 : wrap32 (nn - 4) = (L0 : Int) + 1 := by unfold wrap32; omega
  have i0 : wrap64 nn = nn := by unfold wrap64; omega
  have g0 : decide ((p : Int) < nn) = false := by simp; omega
  have g5 : decide (nn < 5) = false := by simp; omega
  have g6 : (nn - 1 < (p : Int)) = True := eq_true (by omega)
  have g7 : (0 ≤ nn - 1) = True := eq_true (by omega)
  have g8 : (nn - 1).toNat = L0 + 4 := by omega
  have HLL := Lib.hid hll
  have HNN := Lib.hid hnn
  have HMX : Hid (p ≤ 2000000000) := Lib.hid hmax
  have HL00 := Lib.hid hL0
  have hbl := World.block_lt_of_cell? _ _ hz
  clear hl hok hs hrl hd4 hc hf0 hll hnn hmm hp hN hLF hmax hL0
  go_enter Tryd.func62, Tryd.ntmps62
  go_wp2_with fail
  refine (HL2.out _ (Below.refl _ _)).mono ?_
  rintro e w1 ⟨A1, c1, rfl, hs1, hb1⟩
  have hz1 : w1.cell? ⟨b, off + (L0 + 4), none⟩ = some (.int .u8 0) := (hb1.cell hbl).trans hz
  have HB1 := Lib.hid hb1
  have HS1 := Lib.hid hs1
  clear hb1 hs1 HL2 hz
  go_wp2_with fail
  go_loopw [3, 4] (fun a b wr => ∃ (i : Nat) (A2 : Option Addr) (c2 : Nat), i ≤ N ∧ a = .int .i32 ((LF i : Int) + 1) ∧ b = .slice A2 (LF i + 1 + mm) c2 ∧ P i A2 c2 wr ∧ Below w.heap.size w wr) (fun a _ _ => (intOf a).toNat)
  case atStart =>
    have hL := HL00.out
    have hS := HS1.out
    refine ⟨0, A1, c1, Nat.zero_le _, ?_, ?_, hS, HB1.out⟩
    · rw [i4, hL]
    · rw [← hL]
  case round =>
    obtain ⟨i, A2, c2, hi, rfl, rfl, hp2, hb2⟩ := hrel
    have hL := HLL.out
    have hM := HMX.out
    have hle := HLE.out i hi
    have HP2 := Lib.hid hp2
    have HB2 := Lib.hid hb2
    clear hp2 hb2 i0 i1 i4 g0 g5 g6 g7 g8
    by_cases hlt : i < N
    · have hR := HR2.out i hlt A2 c2 wr HP2.out
      have hps := HPOS.out i hlt
      have hle1 := HLE.out (i + 1) (by omega)
      obtain ⟨a, ha⟩ : ∃ a, a = LF i := ⟨_, rfl⟩
      obtain ⟨a2, ha2⟩ : ∃ a, a = LF (i + 1) := ⟨_, rfl⟩
      rw [← ha, ← ha2] at hR
      rw [← ha] at hps hle
      rw [← ha2] at hle1
      have HA2 := Lib.hid ha2
      clear ha2
      have HRR := Lib.hid hR
      clear hR
      rw [← ha]
      clear ha
      have d1 : decide (1 < (a : Int) + 1) = true := by simp; omega
      have HSZ : Hid (a ≤ L0 ∧ a2 ≤ L0 ∧ p = L0 + 5 + mm ∧ p ≤ 2000000000) := Lib.hid ⟨hle, hle1, hL, hM⟩
      clear hL hM hle hle1 hps
      go_wp2_with fail
      refine HRR.out.mono ?_
      rintro e w2 ⟨A3, c3, A4, c4, k, rfl, hk, hk2, HV, hp3, hb3⟩
      obtain ⟨z1, z2, z3, z4⟩ := HSZ.out
      obtain ⟨e1, e2⟩ := rnd z1 z2 z3 z4 hk
      have HK2 := Lib.hid hk
      have HP3 := Lib.hid hp3
      have HB3 := Lib.hid hb3
      clear hk hp3 hb3 z1 z2 z3 z4
      go_wp2_with fail
      refine (HV.out _ (Below.refl _ _)).mono ?_
      rintro e w3 ⟨rfl, hb4⟩
      have HB4 := Lib.hid hb4
      clear hb4
      go_wp2_with fail
      go_roundw
      case rel =>
        have h3 := HB3.out
        have h4 := HB4.out
        have z2 := HB2.out.size
        have z3 := h3.size
        have r1 := HA2.out
        exact ⟨i + 1, A4, c4, hlt, by rw [r1], by rw [r1], HK.out _ _ _ _ _ HP3.out h4, bstep (bstep HB2.out z2 h3) (by omega) h4⟩
      case measure => exact meas HK2.out hk2
    · obtain rfl : i = N := by omega
      have h0 : LF i = 0 := HE0.out
      obtain ⟨b1, o1, rfl, hz2⟩ := HEND2.out A2 c2 wr HP2.out
      rw [h0]
      clear hL hM hle
      have d1 : decide ((1 : Int) < ((0 : Nat) : Int) + 1) = false := by decide
      have d2 : ((0 + 1 + mm : Nat) : Int) = (mm : Int) + 1 := by omega
      go_wp2_with fail
      go_ret
      exact ⟨rfl, HB2.out⟩
end Dv
end Go.Proofs.YtdmnogjgifapnaaDoor.X
