/- Put together: RbPl, Elems, BuildD. -/
import Derived.Test.YtohfgfbfohkkkaaGreatDoorChk
import Derived.Test.YtohfgfbfohkkkaaGreatDoorMoPl
import Derived.Test.YtohfgfbfohkkkaaGreatDoorStart2
import Derived.Test.YtohfgfbfohkkkaaGreatDoorGen
import Derived.Test.YtohfgfbfohkkkaaGreatDoorWLast
import Derived.Test.YtohfgfbfohkkkaaGreatDoorWTab
/- Plain law of FnDocRebuilt: the elements of what is valid, put behind one another. No program. -/
set_option linter.unusedVariables false
set_option linter.unusedSimpArgs false
set_option maxRecDepth 100000
namespace Go.Proofs.YtohfgfbfohkkkaaGreatDoor.X
open Go.RowKit
namespace Ck
open Sp Al Av Aw
/-- The elements that begin some bytes, each as its bytes. -/
def els : Nat → Int → List UInt8 → List (List UInt8)
  | 0, _, _ => []
  | f + 1, left, rem => if 1 < left then (match firstN rem with
      | none => []
      | some k => rem.take k :: els f (left - k) (rem.drop k)) else []
theorem els_step (f : Nat) (left : Int) (rem : List UInt8) (k : Nat) (h1 : 1 < left) (h2 : firstN rem = some k) : els (f + 1) left rem = rem.take k :: els f (left - k) (rem.drop k) := by
  rw [els, if_pos h1, h2]
theorem els_end (f : Nat) (left : Int) (rem : List UInt8) (h1 : ¬ 1 < left) : els (f + 1) left rem = [] := by rw [els, if_neg h1]
/-- An element: its kind, its name, its value. -/
structure IsEl (e : List UInt8) (t : UInt8) (nm v : List UInt8) : Prop where
  eq : e = t :: (nm ++ 0 :: v)
  plain : plainB nm = true
  val : valLen (t.toNat : Int) v = ((v.length : Int), true)
theorem elem_code_val {t : UInt8} {nm v : List UInt8} (hp : plainB nm = true) (h : elemCode (t :: (nm ++ 0 :: v)) = 0) : valIs (t.toNat : Int) v = true := by
  have hi : Lib.indexByte (nm ++ 0 :: v) ((0 : Int).toNat.toUInt8) = nm.length := index_plain nm v hp
  unfold elemCode at h
  rw [if_pos (by simp)] at h
  have e1 : (t :: (nm ++ 0 :: v)).drop 1 = nm ++ 0 :: v := rfl
  rw [e1, hi, if_pos (by omega)] at h
  have e3 : (t :: (nm ++ 0 :: v)).drop ((nm.length : Int) + 2).toNat = v := by
    rw [show ((nm.length : Int) + 2).toNat = nm.length + 1 + 1 from by omega, List.drop_succ_cons, List.drop_append, List.drop_of_length_le (by omega), show nm.length + 1 - nm.length = 1 from by omega]
    rfl
  rw [e3] at h
  have e4 : (t :: (nm ++ 0 :: v)).headD 0 = t := rfl
  rw [e4] at h
  by_cases hv : valIs (t.toNat : Int) v = true
  · exact hv
  · rw [if_neg hv] at h; cases h
theorem first_full (rem : List UInt8) (k : Nat) (h : firstN rem = some k) (h0 : elemCode (rem.take k) = 0) : (∃ t nm v, IsEl (rem.take k) t nm v) ∧ 2 ≤ k ∧ k ≤ rem.length := by
  match rem, h, h0 with
  | t :: r, h, h0 =>
    simp only [firstN] at h
    by_cases hn : (nmOf r).2 = true
    · rw [if_pos hn] at h
      obtain ⟨nm, bl, rfl, hp, e1, e2⟩ := nm_split r hn
      by_cases hv : valIs (t.toNat : Int) ((nm ++ 0 :: bl).drop (nmOf (nm ++ 0 :: bl)).1.toNat) = true
      · rw [if_pos hv, e2, e1] at h
        rw [e2] at hv
        obtain ⟨n, h1, h2⟩ := valLen_of_is hv
        rw [h1] at h
        have hk : k = nm.length + 2 + n := by
          have := Option.some.inj h
          simp only [Int.toNat_natCast] at this
          omega
        have ht : (t :: (nm ++ 0 :: bl)).take k = t :: (nm ++ 0 :: bl.take n) := by
          rw [hk, show nm.length + 2 + n = nm.length + 1 + n + 1 from by omega, List.take_succ_cons]
          congr 1
          rw [List.take_append]
          rw [List.take_of_length_le (by omega), show nm.length + 1 + n - nm.length = n + 1 from by omega, List.take_succ_cons]
        rw [ht] at h0 ⊢
        have hvi := elem_code_val hp h0
        obtain ⟨m, h3, h4⟩ := valLen_of_is hvi
        have h5 := valLen_mo (bl.drop n) (k := (t.toNat : Int)) (p := bl.take n) (by rw [h3])
        rw [List.take_append_drop, h1, h3] at h5
        have h6 : (n : Int) = m := (Prod.mk.inj h5).1
        have hl : (bl.take n).length = n := by rw [List.length_take]; omega
        exact ⟨⟨t, nm, bl.take n, ⟨rfl, hp, by rw [h3, hl, h6]⟩⟩, by omega, by simp; omega⟩
      · rw [if_neg hv] at h; cases h
    · rw [if_neg hn] at h; cases h
theorem chk_pos {f : Nat} {left : Int} {rem : List UInt8} (h1 : 1 < left) (h : chk (f + 1) left rem = 0) : ∃ k, firstN rem = some k ∧ elemCode (rem.take k) = 0 ∧ chk f (left - k) (rem.drop k) = 0 := by
  cases hf : firstN rem with
  | none => rw [chk_none f left rem h1 hf] at h; cases h
  | some k =>
    by_cases hc : elemCode (rem.take k) = 0
    · rw [chk_step f left rem k h1 hf hc] at h
      exact ⟨k, rfl, hc, h⟩
    · rw [chk_bad f left rem k _ hc h1 hf rfl] at h
      exact absurd h hc
theorem els_all : ∀ (f : Nat) (left : Int) (rem : List UInt8), chk f left rem = 0 → (∀ e ∈ els f left rem, ∃ t nm v, IsEl e t nm v) ∧ ∃ rest, rem = (els f left rem).flatten ++ rest ∧ rest.headD 1 = 0 ∧ left - ((els f left rem).flatten.length : Int) ≤ 1
  | 0, left, rem, h => by simp [chk] at h
  | f + 1, left, rem, h => by
    by_cases h1 : 1 < left
    · obtain ⟨k, hf, hc, hr⟩ := chk_pos h1 h
      obtain ⟨i1, rest, i2, i3, i4⟩ := els_all f _ _ hr
      obtain ⟨j1, j2, j3⟩ := first_full rem k hf hc
      rw [els_step f left rem k h1 hf]
      refine ⟨fun e he => ?_, rest, ?_, i3, ?_⟩
      · rcases List.mem_cons.1 he with rfl | he
        · exact j1
        · exact i1 e he
      · rw [List.flatten_cons, List.append_assoc, ← i2, List.take_append_drop]
      · rw [List.flatten_cons, List.length_append, List.length_take]
        omega
    · rw [els_end f left rem h1]
      rw [chk_end f left rem h1] at h
      refine ⟨by simp, rem, by simp, ?_, by simp; omega⟩
      by_cases hz : rem.headD 1 = 0
      · exact hz
      · rw [if_neg hz] at h; cases h
theorem els_count : ∀ (f : Nat) (left : Int) (rem : List UInt8), chk f left rem = 0 → 2 * (els f left rem).length ≤ rem.length
  | 0, left, rem, h => by simp [chk] at h
  | f + 1, left, rem, h => by
    by_cases h1 : 1 < left
    · obtain ⟨k, hf, hc, hr⟩ := chk_pos h1 h
      obtain ⟨j1, j2, j3⟩ := first_full rem k hf hc
      have := els_count f _ _ hr
      rw [els_step f left rem k h1 hf, List.length_cons]
      rw [List.length_drop] at this
      omega
    · rw [els_end f left rem h1]; simp
theorem ub_of (n : Int) (b : UInt8) (h : n % 256 = (b.toNat : Int)) : ub n = b := by
  apply UInt8.toNat_inj.1
  have h2 := ub_toNat n
  omega
theorem i32_of_read (l : List UInt8) (n : Int) (h : readLen l = (n, true)) : l.take 4 = i32 n := by
  match l, h with
  | b0 :: b1 :: b2 :: b3 :: r, h =>
    simp only [readLen, Prod.mk.injEq, decide_eq_true_eq] at h
    obtain ⟨h1, h2⟩ := h
    have a0 := b0.toNat_lt
    have a1 := b1.toNat_lt
    have a2 := b2.toNat_lt
    have a3 := b3.toNat_lt
    simp only [leI] at h1 h2
    have hn : n = (b0.toNat : Int) + 256 * ((b1.toNat : Int) + 256 * ((b2.toNat : Int) + 256 * ((b3.toNat : Int) + 256 * 0))) := by
      rw [← h1]; unfold wrap32 at h2 ⊢; omega
    show [b0, b1, b2, b3] = i32 n
    unfold i32
    rw [ub_of n b0 (by omega), ub_of (n / 256) b1 (by omega), ub_of (n / 65536) b2 (by omega), ub_of (n / 16777216) b3 (by omega)]
/-- What a valid document comes to. -/
structure Rb (l : List UInt8) (n : Int) (L : List (List UInt8)) : Prop where
  read : readLen l = (n, true)
  five : 5 ≤ n
  le : n ≤ (l.length : Int)
  isl : ∀ e ∈ L, ∃ t nm v, IsEl e t nm v
  sum : n ≤ 5 + (L.flatten.length : Int)
  all : 4 + L.flatten.length ≤ l.length
  same : 5 + (L.flatten.length : Int) = n → l.take n.toNat = i32 n ++ (L.flatten ++ [0])
theorem rb_of (l : List UInt8) (h : docCode l = 0) : ∃ n, readLen l = (n, true) ∧ 5 ≤ n ∧ n ≤ (l.length : Int) ∧ l.getD (n - 1).toNat 0 = 0 ∧ chk (l.length + 1) (n - 4) (l.drop 4) = 0 ∧ Rb l n (els (l.length + 1) (n - 4) (l.drop 4)) := by
  unfold docCode at h
  by_cases h2 : (readLen l).2 = true
  · rw [if_pos h2] at h
    obtain ⟨n, hn⟩ : ∃ n, n = (readLen l).1 := ⟨_, rfl⟩
    have hr : readLen l = (n, true) := by rw [hn]; exact Prod.ext rfl h2
    have h4 := (readLen_neg h2).2
    rw [← hn] at h
    by_cases h5 : (l.length : Int) < n
    · rw [if_pos h5] at h; cases h
    rw [if_neg h5] at h
    by_cases h6 : n < 5
    · rw [if_pos h6] at h; cases h
    rw [if_neg h6] at h
    by_cases h7 : l.getD (n - 1).toNat 0 = 0
    · rw [if_pos h7] at h
      obtain ⟨i1, rest, i2, i3, i4⟩ := els_all _ _ _ h
      refine ⟨n, hr, by omega, by omega, h7, h, hr, by omega, by omega, i1, by omega, ?_, fun hs => ?_⟩
      · have := congrArg List.length i2
        rw [List.length_drop, List.length_append] at this
        omega
      · obtain ⟨F, hF⟩ : ∃ F, F = (els (l.length + 1) (n - 4) (l.drop 4)).flatten := ⟨_, rfl⟩
        rw [← hF] at i2 hs ⊢
        have hrest : ∃ r2, rest = 0 :: r2 := by
          cases rest with
          | nil => simp at i3
          | cons a r2 =>
            have : a = 0 := i3
            exact ⟨r2, by rw [this]⟩
        obtain ⟨r2, rfl⟩ := hrest
        have e1 : l = l.take 4 ++ (F ++ 0 :: r2) := by rw [← i2, List.take_append_drop]
        have e2 : n.toNat = (l.take 4 ++ (F ++ [0])).length := by
          rw [List.length_append, List.length_take, List.length_append]
          simp only [List.length_cons, List.length_nil]
          omega
        rw [← i32_of_read l n hr]
        have e3 : l.take 4 ++ (F ++ 0 :: r2) = (l.take 4 ++ (F ++ [0])) ++ r2 := by simp
        rw [e3] at e1
        conv => lhs; rw [e1]
        rw [e2, List.take_left]
    · rw [if_neg h7] at h; cases h
  · rw [if_neg h2] at h; cases h
end Ck
end Go.Proofs.YtohfgfbfohkkkaaGreatDoor.X


/- Document.Elements and impl.Elements of what is valid. -/
set_option linter.unusedVariables false
set_option linter.unusedSimpArgs false
set_option maxRecDepth 100000
namespace Go.Proofs.YtohfgfbfohkkkaaGreatDoor.X
open Go.RowKit Go.Proofs.YtohfgfbfohkkkaaGreatDoorW.PrintLast
namespace Ck
open Sp Al Av Aw

theorem w32E {n : Int} (h0 : 5 ≤ n) (h1 : n ≤ 20000) : wrap32 (n - 4) = n - 4 := by unfold wrap32; omega
theorem bthen' {B : Nat} {w0 W w1 : World} (h : Below B w0 W) (k : Below W.heap.size W w1) (hB : B ≤ W.heap.size := by first | (simp; done) | (simp; omega) | omega) : Below B w0 w1 := h.trans (k.mono hB)
/-- A list of bytes as slices, in order. -/
def Sls (w : World) : List (List UInt8) → List Value → Prop
  | [], vs => vs = []
  | e :: r, vs => ∃ A c vs', vs = .slice A e.length c :: vs' ∧ SB w A c e ∧ Sls w r vs'
theorem Sls.keep {w w1 : World} (hb : Below w.heap.size w w1) : ∀ {L : List (List UInt8)} {vs : List Value}, Sls w L vs → Sls w1 L vs
  | [], vs, h => h
  | e :: r, vs, h => by
    obtain ⟨A, c, vs', rfl, h1, h2⟩ := h
    exact ⟨A, c, vs', rfl, h1.keep hb, Sls.keep hb h2⟩
theorem Sls.snoc {w : World} {e : List UInt8} {A : Option Addr} {c : Nat} (h : SB w A c e) : ∀ {L : List (List UInt8)} {vs : List Value}, Sls w L vs → Sls w (L ++ [e]) (vs ++ [.slice A e.length c])
  | [], vs, hp => by
    have hp' : vs = [] := hp
    subst hp'
    exact ⟨A, c, [], rfl, h, rfl⟩
  | x :: r, vs, hp => by
    obtain ⟨A1, c1, vs', rfl, h1, h2⟩ := hp
    exact ⟨A1, c1, vs' ++ [.slice A e.length c], by simp, h1, Sls.snoc h h2⟩
theorem Sls.len {w : World} : ∀ {L : List (List UInt8)} {vs : List Value}, Sls w L vs → vs.length = L.length
  | [], vs, h => by have h' : vs = [] := h; subst h'; rfl
  | e :: r, vs, h => by
    obtain ⟨A, c, vs', rfl, h1, h2⟩ := h
    simp [Sls.len h2]
theorem Sls.at {w : World} : ∀ {L : List (List UInt8)} {vs : List Value}, Sls w L vs → ∀ i (hi : i < L.length), ∃ A c, vs[i]? = some (.slice A (L[i]).length c) ∧ SB w A c L[i]
  | e :: r, vs, h, 0, _ => by
    obtain ⟨A, c, vs', rfl, h1, h2⟩ := h
    exact ⟨A, c, rfl, h1⟩
  | e :: r, vs, h, i + 1, hi => by
    obtain ⟨A, c, vs', rfl, h1, h2⟩ := h
    obtain ⟨A2, c2, h3, h4⟩ := Sls.at h2 i (by simpa using hi)
    exact ⟨A2, c2, by simpa using h3, by simpa using h4⟩
theorem Sls.one {w : World} : ∀ {L : List (List UInt8)} {vs : List Value}, Sls w L vs → ∀ u ∈ vs, u.oneCell' = true
  | [], vs, h => by have h' : vs = [] := h; subst h'; simp
  | e :: r, vs, h => by
    obtain ⟨A, c, vs', rfl, h1, h2⟩ := h
    intro u hu
    rcases List.mem_cons.1 hu with rfl | hu
    · rfl
    · exact Sls.one h2 u hu
/-- ReadElement where there is an element, its slices told at an earlier world. -/
theorem readElS (A : Option Addr) (c : Nat) (l : List UInt8) (w0 w : World) (hs0 : SB w0 A c l) (hb0 : Below w0.heap.size w0 w) (k : Nat) (hk : firstN l = some k) (hmax : l.length ≤ 140737488355328) :
    Calls Tryz.prog 46 #[.slice A l.length c] w fun e w' => ∃ A2 c2 A3 c3, e = .returned (.tuple #[.slice A2 k c2, .slice A3 (l.length - k) c3, .bool true]) ∧ SB w0 A2 c2 (l.take k) ∧ SB w0 A3 c3 (l.drop k) ∧ Below w.heap.size w w' := by
  match l, hs0, hmax, hk with
  | t :: r, hs0, hmax, hk =>
    simp only [firstN] at hk
    by_cases hn : (nmOf r).2 = true
    · rw [if_pos hn] at hk
      obtain ⟨nm, bl, rfl, hp, e1, e2⟩ := nm_split r hn
      by_cases hv : valIs (t.toNat : Int) ((nm ++ 0 :: bl).drop (nmOf (nm ++ 0 :: bl)).1.toNat) = true
      · rw [if_pos hv, e2, e1] at hk
        rw [e2] at hv
        obtain ⟨n, h1, h2⟩ := valLen_of_is hv
        rw [h1] at hk
        have hkk : k = nm.length + 2 + n := by
          have := Option.some.inj hk
          simp only [Int.toNat_natCast] at this
          omega
        refine (readElement_ok A c t nm bl n w (hs0.keep hb0) (plain_ne' hp) h1 h2 hmax).mono ?_
        rintro e w' ⟨A2, c2, A3, c3, rfl, hss, hb⟩
        obtain ⟨s2, s3⟩ := hss w0 hs0
        have ht : (t :: (nm ++ 0 :: bl)).take k = t :: (nm ++ 0 :: bl.take n) := by
          rw [hkk, show nm.length + 2 + n = nm.length + 1 + n + 1 from by omega, List.take_succ_cons]
          congr 1
          rw [List.take_append]
          rw [List.take_of_length_le (by omega), show nm.length + 1 + n - nm.length = n + 1 from by omega, List.take_succ_cons]
        have hd : (t :: (nm ++ 0 :: bl)).drop k = bl.drop n := by
          rw [hkk, show nm.length + 2 + n = nm.length + 1 + n + 1 from by omega, List.drop_succ_cons, List.drop_append]
          rw [List.drop_of_length_le (by omega), show nm.length + 1 + n - nm.length = n + 1 from by omega, List.drop_succ_cons]
          rfl
        refine ⟨A2, c2, A3, c3, ?_, by rw [ht]; exact s2, by rw [hd]; exact s3, hb⟩
        rw [hkk, show (t :: (nm ++ 0 :: bl)).length - (nm.length + 2 + n) = bl.length - n from by simp; omega]
      · rw [if_neg hv] at hk; cases hk
    · rw [if_neg hn] at hk; cases hk
theorem infoEl : (Tryz.prog.info? 64).map (fun i => (i.zero, i.size, i.bytes)) = some (some (.slice none 0 0), 1, 24) := by kernel_rfl
set_option maxHeartbeats 4000000 in
theorem docElements (A : Option Addr) (c : Nat) (l : List UInt8) (nn : Int) (w : World) (hs : SB w A c l) (hl : l.length ≤ 20000) (hr : readLen l = (nn, true)) (h5 : 5 ≤ nn) (hle : nn ≤ (l.length : Int)) (hR : chk (l.length + 1) (nn - 4) (l.drop 4) = 0) :
    Calls Tryz.prog 24 #[.slice A l.length c] w fun e w' => ∃ v vs, e = .returned (.tuple #[v, .nilIface]) ∧ OG 64 w' w.heap.size v vs ∧ Sls w' (els (l.length + 1) (nn - 4) (l.drop 4)) vs ∧ Below w.heap.size w w' := by
  obtain ⟨p, hp⟩ : ∃ p, p = l.length := ⟨_, rfl⟩
  have HL : Hid (Calls Tryz.prog 43 #[.slice A p c] w fun e w' => ∃ A1 c1, e = .returned (.tuple #[.int .i32 nn, .slice A1 (p - 4) c1, .bool true]) ∧ SB w' A1 c1 (l.drop 4) ∧ Below w.heap.size w w') := Lib.hid (by
    rw [hp]
    refine (readLength A c l w hs).mono ?_
    rintro e w' ⟨A1, n1, c1, rfl, h4, -, hb⟩
    obtain ⟨rfl, rfl, h5⟩ := h4 (by omega)
    exact ⟨A1, _, by rw [hr], h5, hb⟩)
  obtain ⟨TOT, hT⟩ : ∃ T, T = els (l.length + 1) (nn - 4) (l.drop 4) := ⟨_, rfl⟩
  have HD : Hid ((l.drop 4).length = p - 4 ∧ p ≤ 20000 ∧ nn ≤ 20000 ∧ chk (p + 1) (nn - 4) (l.drop 4) = 0 ∧ els (p + 1) (nn - 4) (l.drop 4) = TOT) := Lib.hid ⟨by rw [List.length_drop, hp], by omega, by omega, by rw [hp]; exact hR, by rw [hp, hT]⟩
  rw [← hT, ← hp]
  have i4 : wrap32 (nn - 4) = nn - 4 := w32E (by omega) (by omega)
  clear hs hl hr h5 hle hR hp hT
  go_enter Tryz.func24, Tryz.ntmps24
  go_wp2_with fail
  refine HL.out.mono ?_
  rintro e w1 ⟨A1, c1, rfl, hs1, hb1⟩
  have HB1 := Lib.hid hb1
  have HS1 := Lib.hid hs1
  clear hb1 hs1 HL
  go_wp2_with fail
  go_loopw [4, 5, 8] (fun a b u wr => ∃ (left : Int) (q : Nat) (A2 : Option Addr) (c2 : Nat), a = .int .i32 left ∧ b = .slice A2 q c2 ∧ left ≤ 20000 ∧ q ≤ 20000 ∧ Hid (∃ rem f P vs, q = rem.length ∧ SB w1 A2 c2 rem ∧ chk (f + 1) left rem = 0 ∧ rem.length ≤ f ∧ P ++ els (f + 1) left rem = TOT ∧ OG 64 wr w1.heap.size u vs ∧ Sls w1 P vs ∧ P.length + rem.length ≤ 20000) ∧ Hid (Below w1.heap.size w1 wr)) (fun a _ _ _ => (intOf a).toNat)
  case atStart =>
    have hD := HD.out
    refine ⟨nn - 4, p - 4, A1, c1, by rw [i4], rfl, by omega, by omega, Lib.hid ⟨l.drop 4, p, [], [], hD.1.symm, HS1.out, hD.2.2.2.1, by omega, by simpa using hD.2.2.2.2, OG.nil _ _, rfl, by rw [hD.1]; simp; omega⟩, Lib.hid (Below.refl _ _)⟩
  case round =>
    obtain ⟨left, q, A2, c2, rfl, rfl, hle, hq, ⟨rem, f, P, vs, hqr, hs2, hck, hf, hT, ho, hP, hPl⟩, HB2⟩ := hrel
    clear i4
    by_cases hlt : 1 < left
    · obtain ⟨k, hk, hc0, hck2⟩ := chk_pos hlt hck
      obtain ⟨j1, j2, j3⟩ := first_full rem k hk hc0
      have HR := Lib.hid (readElS A2 c2 rem w1 wr hs2 HB2.out k hk (by omega))
      rw [← hqr] at HR
      have d1 : decide (1 < left) = true := decide_eq_true hlt
      have hpl := hP.len
      obtain ⟨e1, e2⟩ := rnd1 hlt hle (by rw [hqr]; exact j3 : k ≤ q) hq
      have HX : Hid (q = rem.length ∧ chk f (left - k) (rem.drop k) = 0 ∧ rem.length ≤ f ∧ 1 < left ∧ left ≤ 20000 ∧ q ≤ 20000 ∧ P ++ rem.take k :: els f (left - k) (rem.drop k) = TOT ∧ 2 ≤ k ∧ k ≤ rem.length ∧ vs.length = P.length ∧ P.length + rem.length ≤ 20000 ∧ elemCode (rem.take k) = 0) := Lib.hid ⟨hqr, hck2, hf, hlt, hle, hq, by rw [← els_step f left rem k hlt hk]; exact hT, j2, j3, hpl, hPl, hc0⟩
      have HO := Lib.hid ho
      have HP := Lib.hid hP
      obtain ⟨Au, cu, rfl, -, -⟩ := ho.sb
      have hvl : vs.length ≤ 20000 := by omega
      have HVL := Lib.hid hvl
      clear hqr hs2 hck hf hlt hle hq hT hpl hPl hc0 hck2 j1 j2 j3 hk ho hP
      obtain ⟨nv, hnv⟩ : ∃ x, x = vs.length := ⟨_, rfl⟩
      rw [← hnv] at HO hvl HVL ⊢
      have HNV := Lib.hid hnv
      clear hnv hvl
      go_wp2_with fail
      refine HR.out.mono ?_
      rintro e w2 ⟨A3, c3, A4, c4, rfl, hs3, hs4, hb2⟩
      have hk20 : (rem.take k).length = k := by rw [List.length_take]; have := HX.out.2.2.2.2.2.2.2.2.1; omega
      have HV := Lib.hid (fun wx (h : Below w1.heap.size w1 wx) => Av.elemValidate A3 c3 (rem.take k) wx (hs3.keep h) (by rw [hk20]; have := HX.out; omega))
      rw [hk20, HX.out.2.2.2.2.2.2.2.2.2.2.2] at HV
      have HS3 := Lib.hid hs3
      have HS4 := Lib.hid hs4
      have HBB := Lib.hid (bthen' HB2.out hb2 HB2.out.size)
      have HO2 := Lib.hid (HO.out.keep hb2)
      have HK2 := Lib.hid hk20
      clear hs3 hs4 hb2 HR hk20 HO HB2
      go_wp2_with fail
      refine (HV.out _ HBB.out).mono ?_
      rintro e w3 ⟨v, rfl, hcode, hb3⟩
      have hv0 : v = .nilIface := by
        rcases hcode with ⟨h0, h⟩ | ⟨h5, -⟩ | ⟨h1, -⟩
        · exact h
        · cases h5
        · cases h1
      subst hv0
      have HB3 := Lib.hid (bthen' HBB.out hb3 HBB.out.size)
      have HO3 := Lib.hid (HO2.out.keep hb3)
      have hz3 : w1.heap.size ≤ w3.heap.size := HB3.out.size
      clear hb3 HV HBB HO2 hcode
      go_wp2_with (first | (refine wp_appG (E := 64) (.tmp 50) (.tmp 52) 61 rfl rfl (.slice none 0 0) 24 infoEl rfl Tryz.underlying61 _ w1.heap.size (.slice Au nv cu) vs (some ⟨w3.heap.size, 0, none⟩) 1 [.slice A3 k c3] rfl rfl ?a1 ?a2 ?a3 ?a4 ?a5 ?a6 ?_) | fail)
      case a1 => exact HO3.out.alloc _
      case a2 => exact GS.lit_ (E := 64) w3 [.slice A3 k c3] [.slice A3 k c3] rfl (by simp) 1 rfl
      case a3 => simp; omega
      case a4 => simp [Value.oneCell']
      case a5 => have := HVL.out; have := HNV.out; simp; omega
      case a6 => have := HVL.out; have := HNV.out; simp; omega
      intro v4 w4 h4
      have hkept := h4.kept (HO3.out.alloc (.cells #[.slice A3 k c3] 64)) (by simp; omega)
      have ho4 := h4.own
      obtain ⟨Aw, cw, rfl, -, -⟩ := ho4.sb
      have HO4 := Lib.hid ho4
      have HB4 : Hid (Below w1.heap.size w1 w4) := Lib.hid ((balloc HB3.out hz3 _).trans hkept)
      clear h4 hkept ho4
      go_wp2_with fail
      go_roundw
      case rel =>
        obtain ⟨x1, x2, x3, x4, x5, x6, x7, x8, x9, x10, x11, x12⟩ := HX.out
        obtain ⟨f', rfl⟩ : ∃ f', f = f' + 1 := ⟨f - 1, by omega⟩
        refine ⟨left - k, q - k, A4, c4, by first | rfl | simp, rfl, by omega, by omega, Lib.hid ⟨rem.drop k, f', P ++ [rem.take k], vs ++ [.slice A3 k c3], by rw [List.length_drop]; omega, HS4.out, x2, by rw [List.length_drop]; omega, by rw [← x7]; simp, HO4.out, ?_, by rw [List.length_drop, List.length_append]; simp; omega⟩, HB4⟩
        have := Sls.snoc HS3.out HP.out
        rwa [HK2.out] at this
      case measure =>
        have hm := meas1 HX.out.2.2.2.1 HX.out.2.2.2.2.2.2.2.1
        first | exact hm | simpa [intOf] using hm
    · have d1 : decide (1 < left) = false := decide_eq_false hlt
      have hTT : P = TOT := by rw [els_end f left rem hlt] at hT; simpa using hT
      have HO := Lib.hid ho
      have HP := Lib.hid (hTT ▸ hP)
      clear hqr hs2 hck hf hlt hle hq hT hPl ho hP hTT
      go_wp2_with fail
      go_ret2
      exact ⟨_, vs, rfl, HO.out.mono HB1.out.size, HP.out.keep HB2.out, HB1.out.trans (HB2.out.mono HB1.out.size)⟩
end Ck
end Go.Proofs.YtohfgfbfohkkkaaGreatDoor.X


/- bsoncore.BuildDocument of elements as bytes. -/
set_option linter.unusedVariables false
set_option linter.unusedSimpArgs false
set_option maxRecDepth 100000
namespace Go.Proofs.YtohfgfbfohkkkaaGreatDoor.X
open Go.RowKit Go.Proofs.YtohfgfbfohkkkaaGreatDoorW.PrintLast
namespace Ck
open Sp Al Av Aw

theorem measD {q n : Nat} (h : q < n) : n - (intOf (.int .i64 ((q : Int) + 1))).toNat < n - (intOf (.int .i64 (q : Int))).toNat := by simp [intOf]; omega
theorem w64D {q n : Nat} (h : q < n) (hl : n ≤ 1000000) : wrap64 ((q : Int) + 1) = (q : Int) + 1 := by unfold wrap64; omega
theorem flat_take : ∀ (L : List (List UInt8)) (i : Nat), ((L.take i).flatten).length ≤ L.flatten.length
  | [], i => by simp
  | e :: r, 0 => by simp
  | e :: r, i + 1 => by
    have := flat_take r i
    simp only [List.take_succ_cons, List.flatten_cons, List.length_append]
    omega
theorem flat_one : ∀ (L : List (List UInt8)) (i : Nat) (hi : i < L.length), (L[i]).length ≤ L.flatten.length
  | e :: r, 0, _ => by simp
  | e :: r, i + 1, hi => by
    have := flat_one r i (by simpa using hi)
    simp only [List.getElem_cons_succ, List.flatten_cons, List.length_append]
    omega
theorem w32D {q : Nat} (h : q ≤ 1000000) : wrap32 (q : Int) = (q : Int) := by unfold wrap32; omega
theorem pLt {p f : Nat} (h : p = f + 5) (h2 : f ≤ 20000) : p < 2147483648 := by omega
theorem zLt : ([] : List UInt8).length < 2147483648 := by simp
theorem e5q {p f : Nat} (h : p = f + 5) : ((p : Nat) : Int) = (f : Int) + 5 := by omega
set_option maxHeartbeats 4000000 in
theorem buildDocs (W W0 : World) (base : Nat) (v : Value) (HO : OB 5 W base v []) (hbase : base ≤ W.heap.size) (A : Option Addr) (c : Nat) (vs : List Value) (L : List (List UInt8)) (hg : GS W0 A c vs) (hS : Sls W0 L vs) (hb0 : Below W0.heap.size W0 W) (hle : W0.heap.size ≤ base) (hL1 : L.length ≤ 20000) (hL2 : L.flatten.length ≤ 20000) :
    Calls Tryz.prog 29 #[v, .slice A L.length c] W (After fun v1 w1 => App (E := 5) W base v (i32 ((L.flatten.length : Int) + 5) ++ (L.flatten ++ [0])) v1 w1) := by
  have HR := Lib.hid (reserve W base v [] HO hbase (by simp))
  have HW : Hid (∀ wr u q, App (E := 5) W base v ([0, 0, 0, 0] ++ (L.take q).flatten) u wr → Below W0.heap.size W0 wr) := Lib.hid fun wr u q h => hb0.trans ((h.kept HO hbase).mono hle)
  obtain ⟨n, hn⟩ : ∃ n, n = L.length := ⟨_, rfl⟩
  rw [← hn]
  have HN : Hid (n = L.length ∧ n ≤ 20000 ∧ L.flatten.length ≤ 20000 ∧ base ≤ W.heap.size) := Lib.hid ⟨hn, by omega, hL2, hbase⟩
  obtain ⟨F, hF⟩ : ∃ F, F = L.flatten := ⟨_, rfl⟩
  have HFF := Lib.hid hF
  rw [← hF]
  clear hF
  have HG1 := Lib.hid hg
  have HS1 := Lib.hid hS
  clear hg hS hb0 hle hL1 hL2 hn HO hbase
  go_enter Tryz.func29, Tryz.ntmps29
  go_wp2_with fail
  refine HR.out.mono ?_
  rintro e w1 ⟨v1, rfl, h⟩
  have H1 : Hid (App (E := 5) W base v [0, 0, 0, 0] v1 w1) := Lib.hid (by simpa using h)
  clear h HR
  go_wp2_with fail
  go_loopw [0, 15] (fun u i wr => ∃ q : Nat, q ≤ n ∧ i = .int .i64 q ∧ Hid (App (E := 5) W base v ([0, 0, 0, 0] ++ (L.take q).flatten) u wr)) (fun _ i _ => n - (intOf i).toNat)
  case atStart => exact ⟨0, Nat.zero_le _, rfl, Lib.hid (by simpa using H1.out)⟩
  case round =>
    obtain ⟨q, hq, rfl, HA⟩ := hrel
    by_cases hlt : q < n
    · have hqL : q < L.length := by rw [← HN.out.1]; exact hlt
      obtain ⟨A3, c3, hvq, hs3⟩ := HS1.out.at q hqL
      have hvl : vs.length = L.length := HS1.out.len
      obtain ⟨b, off, rfl, hcell⟩ := HG1.out.cells (by omega)
      have hB := HW.out _ _ _ HA.out
      have hcq : wr.cell? ⟨b, off + q, none⟩ = some (.slice A3 (L[q]).length c3) := by
        have h1 := hcell q (by omega)
        have h2 : vs[q]'(by omega) = .slice A3 (L[q]).length c3 := by
          have := hvq
          rw [List.getElem?_eq_getElem (by omega)] at this
          exact Option.some.inj this
        rw [h2] at h1
        exact (hB.cell (World.block_lt_of_cell? _ _ h1)).trans h1
      have hfl := flat_one L q hqL
      have hft := flat_take L q
      have HSR := Lib.hid (hs3.keep hB)
      have HSN : Hid (∀ v1 w1, App (E := 5) W base v ([0, 0, 0, 0] ++ (L.take q).flatten ++ L[q]) v1 w1 → App (E := 5) W base v ([0, 0, 0, 0] ++ (L.take (q + 1)).flatten) v1 w1) := Lib.hid fun v1 w1 h => by
        rw [List.take_succ_eq_append_getElem hqL, List.flatten_append]
        simpa using h
      obtain ⟨e0, he0⟩ : ∃ e0, e0 = L[q] := ⟨_, rfl⟩
      rw [← he0] at HSR HSN hcq hfl
      have hq0 : (0 : Int) ≤ (q : Int) := Int.natCast_nonneg _
      have hq1 : (q : Int) < (n : Int) := by omega
      have ho := HA.out.own
      have hz := HA.out.size
      obtain ⟨l1, hl1⟩ : ∃ l1, l1 = [0, 0, 0, 0] ++ (L.take q).flatten := ⟨_, rfl⟩
      have HQ1 : Hid (l1.length ≤ 20004 ∧ e0.length ≤ 20000) := Lib.hid ⟨by rw [hl1, List.length_append]; have := HN.out; simp only [List.length_cons, List.length_nil]; omega, by have := HN.out; omega⟩
      rw [← hl1] at ho HA HSN
      obtain ⟨Au, cu, rfl, -, -⟩ := ho.sb
      clear hvq hs3 hvl hcell hfl hft he0 hB hl1
      go_wp2_with (first | (refine wp_app (.tmp 19) (.tmp 20) 22 rfl rfl infoB Tryz.underlying22 _ base _ l1 _ _ e0 rfl rfl ?a1 ?a2 ?a3 ?a4 ?_) | fail)
      case a1 => exact ho
      case a2 => exact HSR.out
      case a3 => have := HN.out.2.2.2; omega
      case a4 => have := HQ1.out; omega
      intro v4 w4 h4
      have HE := Lib.hid (HSN.out _ _ (HA.out.trans h4))
      clear h4 ho hcq HSR HSN
      have hw64 : wrap64 ((q : Int) + 1) = (q : Int) + 1 := w64D hlt (by have := HN.out; omega)
      go_wp2_with fail
      go_roundw
      case rel => exact ⟨q + 1, by omega, by go_num, HE⟩
      case measure => first | exact measD hlt | (rw [hw64]; exact measD hlt)
    · have hqn : q = n := by omega
      subst hqn
      have HA2 : Hid (App (E := 5) W base v ([0, 0, 0, 0] ++ F) u0 wr) := Lib.hid (by
        have h := HA.out
        rwa [HN.out.1, List.take_length, ← HFF.out] at h)
      have ho := HA2.out.own
      have hz := HA2.out.size
      have HFL : Hid (F.length ≤ 20000 ∧ base ≤ W.heap.size) := Lib.hid ⟨by rw [HFF.out]; exact HN.out.2.2.1, HN.out.2.2.2⟩
      obtain ⟨l1, hl1⟩ : ∃ l1, l1 = [0, 0, 0, 0] ++ F := ⟨_, rfl⟩
      have HQ1 : Hid (l1.length = F.length + 4 ∧ l1 ++ [0] = [] ++ ([0, 0, 0, 0] ++ (F ++ [0]))) := Lib.hid ⟨by rw [hl1]; simp, by rw [hl1]; simp⟩
      rw [← hl1] at ho HA2
      obtain ⟨Au, cu, rfl, -, -⟩ := ho.sb
      clear hl1 HA
      go_wp2_with (first | (refine wp_app (.tmp 23) (.tmp 24) 22 rfl rfl infoB Tryz.underlying22 _ base _ l1 _ _ [0] rfl rfl ?b1 ?b2 ?b3 ?b4 ?_) | fail)
      case b1 => exact ho.alloc _
      case b2 => exact SB.lit_ _ [0] _ (by simp [byv]) (by simp) _ rfl
      case b3 => have := HFL.out.2; simp; omega
      case b4 => have := HFL.out; have := HQ1.out; simp; omega
      intro v4 w4 h4
      have hap2 := h4.pre (balloc (Below.refl _ _) (Nat.le_refl _) _)
      have hz4 := hap2.size
      obtain ⟨g, c1, hv1, hlc1, hcm1, hbg, -, -⟩ := h4.own.form (by simp)
      obtain ⟨p, hp⟩ : ∃ p, p = (l1 ++ [0]).length := ⟨_, rfl⟩
      have hp5 : p = F.length + 5 := by rw [hp, List.length_append, HQ1.out.1]; rfl
      have HP5 := Lib.hid hp5
      rw [← hp] at hv1 hlc1
      have ho1 := h4.own
      rw [hv1] at ho1 hap2 ⊢
      have HC4 := Lib.hid (HA2.out.trans hap2)
      have hsl := slice_at (P := Tryz.prog) Tryz.underlying22 rfl rfl .i32 g p c1 0 (by omega) (by omega) (by omega)
      have hw0 : wrap32 (p : Int) = (p : Int) := w32D (by have := HFL.out; omega)
      have HU : Hid (Calls Tryz.prog 73 #[.slice (some ⟨g, 0, none⟩) p c1, .int .i32 0, .int .i32 (p : Int)] w4 fun e w2 => ∃ v2, e = .returned v2 ∧ App (E := 5) W base v (i32 ((F.length : Int) + 5) ++ (F ++ [0])) v2 w2) := Lib.hid (by
        have ho3 := ho1
        rw [HQ1.out.2] at ho3
        have h := updLen w4 base _ [] [0, 0, 0, 0] (F ++ [0]) p ho3 rfl (pLt HP5.out HFL.out.1) zLt (Nat.le_trans HFL.out.2 (Nat.le_trans hz hz4))
        refine h.mono ?_
        rintro e w2 ⟨v2, rfl, rfl, hx⟩
        refine ⟨_, rfl, ?_⟩
        have e5 : ((p : Nat) : Int) = (F.length : Int) + 5 := e5q HP5.out
        rw [e5] at hx
        exact HC4.out.trans (by simpa using hx))
      clear h4 hap2 ho1 hv1 hp hp5 ho hz hz4 HC4 HA2
      go_wp2_with fail
      refine HU.out.mono ?_
      rintro e w2 ⟨v2, rfl, hx⟩
      have HX := Lib.hid hx
      clear hx HU hsl
      go_wp2_with fail
      go_ret
      exact ⟨v2, rfl, HX.out⟩
theorem implBuildDoc (W : World) (A : Option Addr) (c : Nat) (vs : List Value) (L : List (List UInt8)) (hg : GS W A c vs) (hS : Sls W L vs) (hL1 : L.length ≤ 20000) (hL2 : L.flatten.length ≤ 20000) :
    Calls Tryz.prog 13 #[.slice none 0 0, .slice A L.length c] W fun e w' => ∃ A1 c1, e = .returned (.slice A1 (i32 ((L.flatten.length : Int) + 5) ++ (L.flatten ++ [0])).length c1) ∧ SB w' A1 c1 (i32 ((L.flatten.length : Int) + 5) ++ (L.flatten ++ [0])) ∧ Below W.heap.size W w' := by
  have HO := Lib.hid (implOwn none 0 [] W (SB.nil W) (by simp))
  have HC := Lib.hid (fun wx u (hx : Below W.heap.size W wx) (h2 : OB 5 wx W.heap.size u []) => buildDocs wx W W.heap.size u h2 hx.size A c vs L hg hS hx (Nat.le_refl _) hL1 hL2)
  obtain ⟨R, hR⟩ : ∃ R, R = i32 ((L.flatten.length : Int) + 5) ++ (L.flatten ++ [0]) := ⟨_, rfl⟩
  obtain ⟨n, hn⟩ : ∃ n, n = L.length := ⟨_, rfl⟩
  rw [← hR, ← hn] at HC
  rw [← hR, ← hn]
  clear hg hS hL1 hL2 hR hn
  go_enter Tryz.func13, Tryz.ntmps13
  go_wp2_with fail
  refine HO.out.mono ?_
  rintro e w1 ⟨v1, rfl, ho1, hb1⟩
  have HC1 := Lib.hid (HC.out w1 v1 hb1 ho1)
  have HB1 := Lib.hid hb1
  have HO1 := Lib.hid ho1
  clear ho1 hb1 HC HO
  go_wp2_with fail
  refine HC1.out.mono ?_
  rintro e w2 ⟨v2, rfl, h⟩
  obtain ⟨A2, c2, rfl, hs2, -⟩ := h.own.sb
  have HS2 := Lib.hid hs2
  have HB2 := Lib.hid (HB1.out.trans (h.kept HO1.out HB1.out.size))
  clear h hs2 HC1
  go_wp2_with fail
  go_ret
  exact ⟨A2, c2, rfl, HS2.out, HB2.out⟩
end Ck
end Go.Proofs.YtohfgfbfohkkkaaGreatDoor.X


