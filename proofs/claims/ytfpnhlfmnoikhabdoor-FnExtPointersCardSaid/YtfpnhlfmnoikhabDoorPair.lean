/- Contracts of spec.ExtIDOf, spec.extPair and spec.ExtPointerOf. -/
import Derived.Test.YtfpnhlfmnoikhabDoorStr
import Derived.Test.YtfpnhlfmnoikhabDoorOwn
import Derived.Test.YtfpnhlfmnoikhabDoorFresh
import Derived.Test.YtfpnhlfmnoikhabDoorPFnExtPointersx2
import Derived.Lib.HexFns2
set_option linter.unusedVariables false
set_option linter.unusedSimpArgs false
set_option maxRecDepth 100000
namespace Go.Proofs.YtfpnhlfmnoikhabDoor.X
open Go.RowKit Go.Proofs.YtfpnhlfmnoikhabDoorW.PrintWords
open Go.Proofs.YtfpnhlfmnoikhabDoor.PFnExtPointers
theorem add_off (b off n : Nat) : (⟨b, off, none⟩ : Addr).add n = ⟨b, off + n, none⟩ := by unfold Addr.add; split <;> simp_all
/-- A row of the call's own as the print tells it, read as bytes. -/
theorem sb_of_R {w : World} {base e : Nat} {ok : Nat → Prop} {v : Value} {xs : List Int} {l : List UInt8} (h : Kd.R (Kd.int .u8) e w base ok v xs) (hl : xs = l.map fun b : UInt8 => (b.toNat : Int)) : ∃ A c, v = .slice A l.length c ∧ SB w A c l := by
  have hlen : xs.length = l.length := by rw [hl]; simp
  rcases Nat.eq_zero_or_pos l.length with h0 | h0
  · have e0 : l = [] := List.eq_nil_of_length_eq_zero h0
    subst e0
    obtain ⟨A, c, rfl, hc, -⟩ := Kd.R_reads h
    refine ⟨A, c, by rw [hlen], ?_⟩
    obtain ⟨inner, ho⟩ := Kd.R_own h
    rcases ho.2 with ⟨he, _⟩ | ⟨g, cap, cur, he, _, _, _, hm, _⟩
    · injection he with _ _ e3
      subst e3
      exact SB.empty w A 0 (by omega)
    · injection he with _ _ e3
      subst e3
      exact SB.empty w A c (by simpa [maxLen] using hm)
  · obtain ⟨inner, ho⟩ := Kd.R_own h
    obtain ⟨A, c, hv, hc, hC⟩ := Kd.R_reads h
    refine ⟨A, c, by rw [hv, hlen], by omega, ?_, fun _ => ?_⟩
    · rcases ho.2 with ⟨he, hn⟩ | ⟨g, cap, cur, he, _, _, _, hm, _⟩
      · omega
      · rw [he] at hv
        injection hv with _ _ e3
        subst e3
        simpa [maxLen] using hm
    · obtain ⟨-, -, hh⟩ := hC
      obtain ⟨ad, hA, hcell⟩ := hh (by omega)
      subst hA
      rcases ho.2 with ⟨he, hn⟩ | ⟨g, cap, cur, he, _⟩
      · omega
      · rw [he] at hv
        injection hv with e1 _ _
        injection e1 with e1
        subst e1
        refine ⟨g, 0, rfl, fun j hj => ?_⟩
        obtain ⟨cs, hs, hr, hx⟩ := hcell j ((l[j].toNat : Nat) : Int) (by rw [hl]; simp [hj])
        have hcs : cs = [Value.int .u8 ((l[j].toNat : Nat) : Int)] := hr
        subst hcs
        have := hx 0 _ rfl
        rw [add_off] at this
        simpa [Kd.int, Kd.scalar] using this
theorem base_of_R {w : World} {base e : Nat} {ok : Nat → Prop} {v : Value} {xs : List Int} {A : Option Addr} {n c : Nat} (h : Kd.R (Kd.int .u8) e w base ok v xs) (hv : v = .slice A n c) : ∀ a, A = some a → base ≤ a.block := by
  obtain ⟨inner, ho⟩ := Kd.R_own h
  intro a ha
  subst ha
  rcases ho.2 with ⟨he, _⟩ | ⟨g, cap, cur, he, hb, _⟩
  · rw [he] at hv; injection hv with h1 _ _; cases h1
  · rw [he] at hv
    injection hv with h1 _ _
    injection h1 with h1
    subst h1
    exact hb
theorem nib_zero : ∀ n : Fin 256, spec_extNibble.f 2 (n.val : Int) = some (if Go.Lib.Hx.v (UInt8.ofNat n.val) ≤ 15 then ((Go.Lib.Hx.v (UInt8.ofNat n.val) : Int), true) else (0, false)) := by decide +kernel
theorem nib_any (k : Nat) (c : UInt8) : spec_extNibble.f (k + 2) (c.toNat : Int) = some (if Go.Lib.Hx.v c ≤ 15 then ((Go.Lib.Hx.v c : Int), true) else (0, false)) := by
  have h := nib_zero ⟨c.toNat, c.toNat_lt⟩
  simp only [UInt8.ofNat_toNat] at h
  rw [← h]
  simp only [spec_extNibble.f, spec_extNibble.j0, spec_extNibble.j1]
open Go.Lib in
theorem bt_get (s : ByteArray) (i : Nat) (h : i < s.data.toList.length) : bt s (i : Int) = ((s.data.toList[i]'h).toNat : Int) := by
  have h2 : (i : Int).toNat < s.size := by
    have : s.data.toList.length = s.size := by rw [Array.length_toList]; rfl
    omega
  rw [← bt_at s i h2]
  rfl
theorem hex_bytes : ∀ x : Fin 16, ∀ y : Fin 16, (Go.bits .or .i64 (wrap64 ((x.val : Int) * 16)) (y.val : Int)) % 256 = (((UInt8.ofNat (x.val * 16 + y.val)).toNat : Nat) : Int) := by decide +kernel
theorem hex_byte (x y : Nat) (hx : x ≤ 15) (hy : y ≤ 15) : (Go.bits .or .i64 (wrap64 ((x : Int) * 16)) (y : Int)) % 256 = (((UInt8.ofNat (x * 16 + y)).toNat : Nat) : Int) := hex_bytes ⟨x, by omega⟩ ⟨y, by omega⟩
def outOf (acc : List Int) : List UInt8 × Go.Lib.Hx.Out → List Int × Bool
  | (l, .ok) => (acc ++ l.map fun b : UInt8 => (b.toNat : Int), true)
  | _ => ([], false)
theorem unhex_loop (s : ByteArray) (hs : s.size = 24) : ∀ (m k : Nat) (acc : List Int), m ≤ 12 → acc.length ≤ 12 - m → 
    spec_ExtIDOf.l0 (k + m + 3) s acc ((24 - 2 * m : Nat) : Int) = some (outOf acc (Go.Lib.Hx.decode (s.data.toList.drop (24 - 2 * m)))) := by
  have hlen : s.data.toList.length = 24 := by rw [Array.length_toList]; exact hs
  intro m
  induction m with
  | zero =>
    intro k acc _ _
    rw [show k + 0 + 3 = (k + 2) + 1 from rfl]
    simp only [spec_ExtIDOf.l0]
    rw [if_neg (by simp), List.drop_eq_nil_of_le (by omega), Go.Lib.Hx.decode_nil]
    simp [outOf]
  | succ m ih =>
    intro k acc hm ha
    obtain ⟨i, hi⟩ : ∃ i, i = 24 - 2 * (m + 1) := ⟨_, rfl⟩
    rw [← hi]
    have hi2 : i + 2 = 24 - 2 * m := by omega
    have w1 : wrap64 ((i : Int) + 1) = ((i + 1 : Nat) : Int) := by unfold wrap64; omega
    have w2 : wrap64 ((i : Int) + 2) = ((i + 2 : Nat) : Int) := by unfold wrap64; omega
    have hd : s.data.toList.drop i = s.data.toList[i]'(by omega) :: s.data.toList[i + 1]'(by omega) :: s.data.toList.drop (i + 2) := by
      rw [List.drop_eq_getElem_cons (by omega : i < s.data.toList.length), List.drop_eq_getElem_cons (by omega : i + 1 < s.data.toList.length)]
    obtain ⟨p, hp⟩ : ∃ p, p = s.data.toList[i]'(by omega) := ⟨_, rfl⟩
    obtain ⟨q, hq⟩ : ∃ q, q = s.data.toList[i + 1]'(by omega) := ⟨_, rfl⟩
    have b1 : bt s (i : Int) = (p.toNat : Int) := by rw [bt_get s i (by omega), hp]
    have b2 : bt s ((i + 1 : Nat) : Int) = (q.toNat : Int) := by rw [bt_get s (i + 1) (by omega), hq]
    rw [← hp, ← hq] at hd
    obtain ⟨K, hK⟩ : ∃ K, K = k + m + 3 := ⟨_, rfl⟩
    have dg : ∀ c : UInt8, spec_extNibble.f K (c.toNat : Int) = some (if Go.Lib.Hx.v c ≤ 15 then ((Go.Lib.Hx.v c : Int), true) else (0, false)) := fun c => by rw [hK]; exact nib_any (k + m + 1) c
    have d1 := dg p
    have d2 := dg q
    have ihk := ih k
    rw [← hK, ← hi2] at ihk
    rw [hd, Go.Lib.Hx.decode_two, show k + (m + 1) + 3 = K + 1 from by omega]
    clear dg ih hd hp hq hi hK
    generalize hDD : Go.Lib.Hx.decode (s.data.toList.drop (i + 2)) = D at *
    generalize hvp : Go.Lib.Hx.v p = vp at *
    generalize hvq : Go.Lib.Hx.v q = vq at *
    simp only [spec_ExtIDOf.l0]
    rw [if_pos (by omega), if_pos (by omega), if_pos (by omega), b1, d1, Option.bind_some]
    rw [w1, if_pos (by omega), if_pos (by omega), b2, d2, Option.bind_some, w2]
    clear b1 b2 d1 d2 w1 w2
    by_cases hvp : 15 < vp
    · rw [if_neg (by omega : ¬ vp ≤ 15), if_neg (by simp), if_pos hvp]
      rfl
    · rw [if_pos (by omega : vp ≤ 15), if_pos rfl, if_neg hvp]
      by_cases hvq : 15 < vq
      · rw [if_neg (by omega : ¬ vq ≤ 15), if_neg (by simp), if_pos hvq]
        rfl
      · rw [if_pos (by omega : vq ≤ 15), if_pos rfl, if_neg hvq, if_pos (by omega)]
        rw [hex_byte vp vq (by omega) (by omega), ihk _ (by omega) (by simp; omega)]
        obtain ⟨D1, D2⟩ := D
        cases D2 <;> simp [outOf]
/-- The twelve bytes for which a text of 24 hexadecimal digits stands. -/
def unhex (s : ByteArray) : Option (List UInt8) :=
  if s.size = 24 then (match Go.Lib.Hx.decode s.data.toList with
    | (l, .ok) => some l
    | _ => none) else none
theorem unhex_f (s : ByteArray) : spec_ExtIDOf.f 15 s = some (match unhex s with
    | some l => (l.map fun b : UInt8 => (b.toNat : Int), true)
    | none => ([], false)) := by
  unfold spec_ExtIDOf.f unhex
  by_cases hs : s.size = 24
  · rw [if_pos (by omega), if_pos hs]
    have h := unhex_loop s hs 12 0 [] (by omega) (by simp)
    refine (show _ = _ from h).trans ?_
    rw [show s.data.toList.drop (24 - 2 * 12) = s.data.toList from rfl]
    congr 1
    generalize Go.Lib.Hx.decode s.data.toList = D
    obtain ⟨D1, D2⟩ := D
    cases D2 <;> simp [outOf]
  · rw [if_neg (by omega), if_neg hs]
theorem extIDOf (s : ByteArray) (w : World) : Calls Tryd.prog 16 #[.string s] w fun e w' => ∃ A c, e = .returned (.tuple #[.slice A ((unhex s).getD []).length c, .bool (unhex s).isSome]) ∧ SB w' A c ((unhex s).getD []) ∧ (∀ a, A = some a → w.heap.size ≤ a.block) ∧ Below w.heap.size w w' := by
  have h := unhex_f s
  cases hu : unhex s with
  | none =>
    rw [hu] at h
    refine (spec_ExtIDOf.calls 15 s _ _ w h).mono ?_
    rintro e w' ⟨v, rfl, hr, hb⟩
    obtain ⟨A, c, hv, hs⟩ := sb_of_R (l := []) hr rfl
    exact ⟨A, c, by rw [hv]; rfl, hs, base_of_R hr hv, hb⟩
  | some l =>
    rw [hu] at h
    refine (spec_ExtIDOf.calls 15 s _ _ w h).mono ?_
    rintro e w' ⟨v, rfl, hr, hb⟩
    obtain ⟨A, c, hv, hs⟩ := sb_of_R (l := l) hr rfl
    exact ⟨A, c, by rw [hv]; rfl, hs, base_of_R hr hv, hb⟩
theorem decode_len : ∀ (n : Nat) (l : List UInt8), l.length = 2 * n → ∀ b, Go.Lib.Hx.decode l = (b, .ok) → b.length = n
  | 0, [], _, b, h => by rw [Go.Lib.Hx.decode_nil] at h; cases h; rfl
  | n + 1, p :: q :: t, hl, b, h => by
    rw [Go.Lib.Hx.decode_two] at h
    split at h
    · cases h
    · split at h
      · cases h
      · obtain ⟨⟨D1, D2⟩, hD⟩ : ∃ D, Go.Lib.Hx.decode t = D := ⟨_, rfl⟩
        rw [hD] at h
        injection h with h1 h2
        subst h1 h2
        have := decode_len n t (by simp only [List.length_cons] at hl; omega) D1 hD
        simp [this]
theorem decode_even : ∀ (n : Nat) (l : List UInt8), l.length = 2 * n → ∀ b, Go.Lib.Hx.decode l ≠ (b, .odd)
  | 0, [], _, b, h => by rw [Go.Lib.Hx.decode_nil] at h; cases h
  | n + 1, p :: q :: t, hl, b, h => by
    rw [Go.Lib.Hx.decode_two] at h
    split at h
    · cases h
    · split at h
      · cases h
      · obtain ⟨⟨D1, D2⟩, hD⟩ : ∃ D, Go.Lib.Hx.decode t = D := ⟨_, rfl⟩
        rw [hD] at h
        injection h with h1 h2
        subst h2
        exact decode_even n t (by simp only [List.length_cons] at hl; omega) D1 hD
end Go.Proofs.YtfpnhlfmnoikhabDoor.X
