/- Put together, without what nothing reaches: Doc6, Over, Num, Start, AwA, AwB, AwC, AwD, AwE, All2, Look, Look2, AwG. -/
import Derived.Test.YtbpopaegfhcdpaaGreatDoorMa
import Derived.Test.YtbpopaegfhcdpaaGreatDoorMd
import Derived.Test.YtbpopaegfhcdpaaGreatDoorWa
import Derived.Outline
/- Contracts of the reference's functions that write: numbers, texts, heads. -/
set_option linter.unusedVariables false
set_option linter.unusedSimpArgs false
set_option maxRecDepth 100000
namespace Go.Proofs.YtbpopaegfhcdpaaGreatDoor.X
open Go.RowKit

theorem infoB : (Tryz.prog.info? 5).map (fun i => (i.zero, i.size, i.bytes)) = some (some (.int .u8 0), 1, 1) := by kernel_rfl

/-- Four bytes of a number, the lowest first. -/
def i32 (n : Int) : List UInt8 := [ub n, ub (n / 256), ub (n / 65536), ub (n / 16777216)]
/-- Eight bytes of a number, the lowest first. -/
def i64 (n : Int) : List UInt8 := (List.range 8).map fun k => ub (n / 2 ^ (8 * k))
/-- The kind and the name ahead of a value. -/
def hd (k : Int) (nm : List UInt8) : List UInt8 := ub k :: nm ++ [0]
end Go.Proofs.YtbpopaegfhcdpaaGreatDoor.X


/- A row of bytes that is written over; bsoncore's beginnings and ends of documents. -/
set_option linter.unusedVariables false
set_option linter.unusedSimpArgs false
set_option maxRecDepth 100000
namespace Go.Proofs.YtbpopaegfhcdpaaGreatDoor.X
open Go.RowKit Go.Proofs.YtbpopaegfhcdpaaGreatDoorW.PrintLast
def R108.T1 : Bool × List (List Nat × List Nat) := (true, [([], []), ([], []), ([], []), ([1, 2], [1, 2]), ([], []), ([4], [4]), ([0, 3, 5], [0, 3, 5])])
def R108.B1 : List Nat := [0, 0, 0, 6, 0, 16, 63]
theorem R108.tab1 : rtab .any (opsOf Tryz.f108 1) = R108.T1 := by kernel_rfl
theorem R108.bits1 : waitsOk R108.T1.2 R108.B1 = true := by kernel_rfl
theorem over_far {g : Nat} : ∀ (vs : List Value) (o : Nat) {w : World} (k : Nat), k ≠ g → (w.setCells g o vs).heap[k]? = w.heap[k]?
  | [], _, _, _, _ => rfl
  | v :: r, o, w, k, hk => by
    rw [World.setCells, over_far r (o + 1) k hk]
    exact Below.heap_setCell w ⟨g, o, none⟩ v k hk
theorem over_same (g : Nat) : ∀ (vs : List Value) (o : Nat) (w : World), (w.setCells g o vs).os = w.os ∧ (w.setCells g o vs).tape = w.tape ∧ (w.setCells g o vs).output = w.output ∧ (w.setCells g o vs).heap.size = w.heap.size
  | [], _, _ => ⟨rfl, rfl, rfl, rfl⟩
  | v :: r, o, w => by
    obtain ⟨h1, h2, h3, h4⟩ := over_same g r (o + 1) (w.setCell ⟨g, o, none⟩ v)
    rw [World.setCells]
    exact ⟨h1, h2, h3, by rw [h4]; simp [World.setCell]⟩
theorem over_one {g : Nat} {e : TypeId} {w : World} {cur : Array Value} (h : w.heap[g]? = some (.cells cur e (0, 0))) (o : Nat) (v : Value) : (w.setCell ⟨g, o, none⟩ v).heap[g]? = some (.cells (cur.setIfInBounds o v) e (0, 0)) := by
  have hlt : g < w.heap.size := (Array.getElem?_eq_some_iff.1 h).1
  have hg : w.heap[g] = .cells cur e (0, 0) := by
    have := Array.getElem?_eq_getElem hlt
    rw [this] at h
    exact Option.some.inj h
  simp [World.setCell, Array.getElem_modify, hlt, hg]
theorem over_row {g : Nat} {e : TypeId} : ∀ (vs : List Value) (o : Nat) (w : World) (cur : Array Value), w.heap[g]? = some (.cells cur e (0, 0)) → o + vs.length ≤ cur.size →
    ∃ cur', (w.setCells g o vs).heap[g]? = some (.cells cur' e (0, 0)) ∧ cur'.size = cur.size ∧ cur'.toList = cur.toList.take o ++ vs ++ cur.toList.drop (o + vs.length)
  | [], o, w, cur, h, _ => ⟨cur, h, rfl, by simp⟩
  | v :: r, o, w, cur, h, hl => by
    have h2 := over_one h o v
    simp only [List.length_cons] at hl
    obtain ⟨cur', h3, h4, h5⟩ := over_row r (o + 1) (w.setCell ⟨g, o, none⟩ v) _ h2 (by simp; omega)
    refine ⟨cur', h3, by rw [h4]; simp, ?_⟩
    rw [h5, Array.toList_setIfInBounds]
    have ho : o < cur.toList.length := by rw [Array.length_toList]; omega
    rw [List.take_set, List.drop_set_of_lt (by omega)]
    simp only [List.length_cons]
    rw [show o + 1 + r.length = o + (r.length + 1) by omega]
    congr 1
    rw [List.take_succ_eq_append_getElem ho, List.set_append_right _ _ (by rw [List.length_take]; omega)]
    have ho' : o < cur.size := by omega
    simp [Nat.min_eq_left (Nat.le_of_lt ho')]
section
variable {E : TypeId}
/-- Some bytes of a row of the call's own are written over. -/
theorem OB.over {w : World} {base : Nat} {g n c : Nat} {pre old post : List UInt8} (h : OB E w base (.slice (some ⟨g, 0, none⟩) n c) (pre ++ (old ++ post))) (new : List UInt8) (hn : new.length = old.length) (hl : 0 < old.length) :
    App (E := E) w base (.slice (some ⟨g, 0, none⟩) n c) (pre ++ (new ++ post)) (.slice (some ⟨g, 0, none⟩) n c) (w.setCells g pre.length (byv new)) := by
  obtain ⟨⟨hlen, hr⟩, hmax⟩ := h
  obtain ⟨s1, s2, s3, s4⟩ := over_same g (byv new) pre.length w
  refine ⟨⟨⟨by simp [hn], ?_⟩, by simp [hn] at hmax ⊢; omega⟩, ⟨s1, s2, s3, by rw [s4]; exact Nat.le_refl _, fun k _ hk => over_far _ _ k (fun e => hk (by rw [e]; rfl))⟩, .inl rfl⟩
  rcases hr with ⟨hc, _⟩ | ⟨g', cap, cur, he, hb, hg, hnc, hcm, hcs, ht⟩
  · cases hc
  · injection he with e1 e2 e3
    injection e1 with e1
    injection e1 with e1 _ _
    subst e1
    have hlc : (pre ++ (old ++ post)).length ≤ cur.size := by
      rw [hcs]; omega
    simp only [List.length_append] at hlc
    obtain ⟨cur', q1, q2, q3⟩ := over_row (byv new) pre.length w cur hg (by simp; omega)
    refine .inr ⟨g, cap, cur', ?_, hb, q1, ?_, hcm, by rw [q2, hcs], ?_⟩
    · rw [e3, e2]; simp [hn]
    · simp [hn] at hnc ⊢; omega
    · have e4 : (pre ++ (new ++ post)).length * 1 = (pre ++ (old ++ post)).length * 1 := by simp [hn]
      rw [q3, e4]
      have ht2 : cur.toList = byv pre ++ (byv old ++ byv post) ++ cur.toList.drop ((pre ++ (old ++ post)).length * 1) := by
        conv => lhs; rw [← List.take_append_drop ((pre ++ (old ++ post)).length * 1) cur.toList, ht, byv_append, byv_append]
      rw [ht2]
      have p1 : (byv pre ++ (byv old ++ byv post) ++ cur.toList.drop ((pre ++ (old ++ post)).length * 1)).take pre.length = byv pre := by
        rw [List.append_assoc, List.take_left' (by simp)]
      have p2 : (byv pre ++ (byv old ++ byv post) ++ cur.toList.drop ((pre ++ (old ++ post)).length * 1)).drop (pre.length + (byv new).length) = byv post ++ cur.toList.drop ((pre ++ (old ++ post)).length * 1) := by
        have e5 : byv pre ++ (byv old ++ byv post) ++ cur.toList.drop ((pre ++ (old ++ post)).length * 1) = (byv pre ++ byv old) ++ (byv post ++ cur.toList.drop ((pre ++ (old ++ post)).length * 1)) := by simp [List.append_assoc]
        rw [e5, List.drop_left' (by simp [hn])]
      rw [p1, p2]
      have e6 : byv pre ++ byv new ++ (byv post ++ cur.toList.drop ((pre ++ (old ++ post)).length * 1)) = byv (pre ++ (new ++ post)) ++ cur.toList.drop ((pre ++ (old ++ post)).length * 1) := by simp [byv_append, List.append_assoc]
      rw [e6, List.take_left' (by simp [hn])]
end
theorem le_i32 (n : Nat) (h : n < 4294967296) : Lib.byteCells (Lib.leBytes 4 n) = byv (i32 (n : Int)) := by
  have e0 : ((n % 256 : Nat) : Int) = (n : Int) % 256 := by omega
  have e1 : ((n / 256 % 256 : Nat) : Int) = (n : Int) / 256 % 256 := by omega
  have e2 : ((n / 256 / 256 % 256 : Nat) : Int) = (n : Int) / 65536 % 256 := by omega
  have e3 : ((n / 256 / 256 / 256 % 256 : Nat) : Int) = (n : Int) / 16777216 % 256 := by omega
  simp only [Lib.byteCells, Lib.leBytes, List.map, Lib.toUInt8_mod, e0, e1, e2, e3, byv, i32, ub_toNat]
theorem slice_at {P : Program} {t e : TypeId} {i : TypeInfo} (ht : P.underlying t = some (.slice e)) (hi : P.info? e = some i) (hsz : i.size = 1) (kl : IntKind) (g len c m : Nat) (hm : m ≤ len) (hc : len ≤ c) (hlt : m < c) (W : World) :
    (Instr.slice t (.slice (some ⟨g, 0, none⟩) len c) (some (.int kl (m : Int))) none none).run P W = .ok (.slice (some ⟨g, m, none⟩) (len - m) (c - m)) W := by
  have hel : P.elem t = e := by simp [Program.elem, ht]
  have hu : P.underlying t = some (.slice (P.elem t)) := by rw [hel]; exact ht
  rw [run_slice_l (P := P) W t _ len c hu kl (m : Int) (Int.natCast_nonneg _) (by omega), hel]
  have hadd : (⟨g, 0, none⟩ : Addr).add m = ⟨g, m, none⟩ := by unfold Addr.add; split <;> simp_all
  have hne : ¬ (c = m) := by omega
  simp [sizeOf, typeInfo, hi, hsz, sliced, Result.andThen, hne, hadd]
section
variable {E : TypeId}
theorem OB.form {w : World} {base : Nat} {v : Value} {l : List UInt8} (h : OB E w base v l) (hl : 0 < l.length) : ∃ g c, v = .slice (some ⟨g, 0, none⟩) l.length c ∧ l.length ≤ c ∧ c ≤ 9223372036854775807 ∧ base ≤ g ∧ (∀ j, (hj : j < l.length) → w.cell? ⟨g, j, none⟩ = some (.int .u8 (l[j].toNat : Int))) ∧ (∀ j, w.frozen? ⟨g, j, none⟩ = false) := by
  obtain ⟨⟨hlen, hr⟩, hmax⟩ := h
  rcases hr with ⟨hc, h0⟩ | ⟨g, cap, cur, he, hb, hg, hnc, hcm, hcs, ht⟩
  · omega
  · refine ⟨g, cap, he, hnc, by simpa [maxLen] using hcm, hb, fun j hj => ?_, fun j => by simp [World.frozen?, hg]⟩
    have h1 : cur[j]? = (cur.toList)[j]? := by simp
    have h2 : (cur.toList)[j]? = (byv l)[j]? := by
      rw [← ht, List.getElem?_take]
      simp [hj]
    have h3 : w.cell? ⟨g, j, none⟩ = cur[j]? := by unfold World.cell?; rw [hg]; simp
    rw [h3, h1, h2, byv_get l j hj]
end
theorem updLen (W : World) (base : Nat) (v : Value) (pre old post : List UInt8) (n : Nat) (ho : OB 5 W base v (pre ++ (old ++ post))) (h4 : old.length = 4) (hn : n < 2147483648) (hp : pre.length < 2147483648) (hbase : base ≤ W.heap.size) :
    Calls Tryz.prog 108 #[v, .int .i32 (pre.length : Int), .int .i32 (n : Int)] W (After fun v1 w1 => v1 = v ∧ App (E := 5) W base v (pre ++ (i32 (n : Int) ++ post)) v w1) := by
  obtain ⟨g, c, rfl, hlc, hcm, hbg, hcell, hfr⟩ := ho.form (by simp; omega)
  obtain ⟨b0, b1, b2, b3, rfl⟩ : ∃ b0 b1 b2 b3, old = [b0, b1, b2, b3] := by
    match old, h4 with
    | [b0, b1, b2, b3], _ => exact ⟨b0, b1, b2, b3, rfl⟩
  have hP : ∀ wx : World, Below W.heap.size W wx → OB 5 wx base (.slice (some ⟨g, 0, none⟩) (pre ++ ([b0, b1, b2, b3] ++ post)).length c) (pre ++ ([b0, b1, b2, b3] ++ post)) → Calls Tryz.prog 162 #[.agg #[], .slice (some ⟨g, pre.length, none⟩) ((pre ++ ([b0, b1, b2, b3] ++ post)).length - pre.length) (c - pre.length), .int .u32 (n : Int)] wx fun e w' => e = .returned (.tuple #[]) ∧ App (E := 5) W base (.slice (some ⟨g, 0, none⟩) (pre ++ ([b0, b1, b2, b3] ++ post)).length c) (pre ++ (i32 (n : Int) ++ post)) (.slice (some ⟨g, 0, none⟩) (pre ++ ([b0, b1, b2, b3] ++ post)).length c) w' := by
    intro wx hb hox
    obtain ⟨g', c', he, -, -, -, hcx, hfx⟩ := hox.form (by simp; omega)
    injection he with e1 _ e3
    injection e1 with e1
    injection e1 with e1 _ _
    subst e1 e3
    refine (Any.binary_LE_PutUint32 Tryz.lePutUint32 g pre.length _ _ n (by omega) _ _ _ _ wx (by simp) (hcx pre.length (by simp)) (hcx (pre.length + 1) (by simp)) (hcx (pre.length + 2) (by simp)) (hcx (pre.length + 3) (by simp)) (hfx _) (hfx _) (hfx _) (hfx _)).mono ?_
    rintro e w' ⟨rfl, rfl⟩
    refine ⟨rfl, ?_⟩
    rw [le_i32 n (by omega)]
    exact (OB.over (hox.alloc _) (i32 (n : Int)) (by simp [i32]) (by simp)).pre (balloc hb hb.size _)
  have HP := Lib.hid hP
  have HO := Lib.hid ho
  have hsl := slice_at (P := Tryz.prog) Tryz.underlying22 rfl rfl .i32 g (pre ++ ([b0, b1, b2, b3] ++ post)).length c pre.length (by simp) hlc (by simp at hlc; omega)
  have hw1 : IntKind.u32.wrap (n : Int) = n := by rw [IntKind.wrap_u32]; omega
  obtain ⟨q, hq⟩ : ∃ q, q = (pre ++ ([b0, b1, b2, b3] ++ post)).length := ⟨_, rfl⟩
  obtain ⟨m, hm⟩ : ∃ m, m = pre.length := ⟨_, rfl⟩
  rw [← hq, ← hm] at HP hsl
  rw [← hq] at HO
  rw [← hq, ← hm]
  have hcap : q ≤ c := by rw [hq]; exact hlc
  have hmq : m + 4 ≤ q := by rw [hq, hm]; simp
  clear hP ho hq hm hcell hfr hlc hp h4
  go_enter Tryz.func108, Tryz.ntmps108
  go_wp2_with fail
  refine start_ (n := 7) (S := fun w' => True) (ds := []) #[false, false, false, false, false, false, false] (by kernel_rfl) rfl rfl trivial (fun hHeld => ?_)
  refine with_tabW R108.tab1 R108.bits1 (fun HT_ HW_ => ?_)
  refine pure_ (i := 1) (N := some 8) (v := ?_) (a' := ?_) #[false, true, false, false, false, false, false] rfl rfl (any_of HT_.out (by kernel_rfl)) (fun _ _ _ h => h) (Or.inl ⟨by rfl, ?_⟩) ?_ ?_
  rotate_left
  · intro w'
    go_simp
    with_reducible rfl
  rotate_left
  · simp only [Act.put, List.setIfInBounds_toArray, List.set_cons_zero, List.set_cons_succ, i64_w, i32_w]
    rfl
  refine pure_ (i := 2) (N := some 9) (v := ?_) (a' := ?_) #[false, true, true, false, false, false, false] rfl rfl (any_of HT_.out (by kernel_rfl)) (fun _ _ _ h => h) (Or.inl ⟨by rfl, ?_⟩) ?_ ?_
  rotate_left
  · intro w'
    go_simp
    with_reducible rfl
  rotate_left
  · simp only [Act.put, List.setIfInBounds_toArray, List.set_cons_zero, List.set_cons_succ, i64_w, i32_w]
    rfl
  refine pure_ (i := 3) (N := some 10) (v := ?_) (a' := ?_) #[false, true, true, true, false, false, false] rfl rfl (any_of HT_.out (by kernel_rfl)) (fun _ _ _ h => h) (Or.inl ⟨by rfl, ?_⟩) ?_ ?_
  rotate_left
  · intro w'
    go_simp
    with_reducible rfl
  rotate_left
  · simp only [Act.put, List.setIfInBounds_toArray, List.set_cons_zero, List.set_cons_succ, i64_w, i32_w]
    rfl
  refine pure_ (i := 4) (N := some 11) (v := ?_) (a' := ?_) #[false, true, true, true, true, false, false] rfl rfl (any_of HT_.out (by kernel_rfl)) (fun _ _ _ h => h) (Or.inl ⟨by rfl, ?_⟩) ?_ ?_
  rotate_left
  · intro w'
    go_simp
    with_reducible rfl
  rotate_left
  · simp only [Act.put, List.setIfInBounds_toArray, List.set_cons_zero, List.set_cons_succ, i64_w, i32_w]
    rfl
  refine pure_ (i := 5) (N := some 12) (v := ?_) (a' := ?_) #[false, true, true, true, true, true, false] rfl rfl (any_of HT_.out (by kernel_rfl)) (fun _ _ _ h => h) (Or.inl ⟨by rfl, ?_⟩) ?_ ?_
  rotate_left
  · intro w'
    go_simp
    with_reducible rfl
  rotate_left
  · simp only [Act.put, List.setIfInBounds_toArray, List.set_cons_zero, List.set_cons_succ, i64_w, i32_w]
    rfl
  refine take_ (i := 0) (N := some 7) (v := ?_) (a' := ?_) #[true, true, true, true, true, true, false] rfl rfl (take_ofW HT_.out HW_.out (by kernel_rfl)) (fun _ _ _ h => h) (Or.inl ⟨by rfl, ?_⟩) hHeld ?_ ?_
  rotate_left
  · intro w' _
    go_simp
    with_reducible rfl
  rotate_left
  · simp only [Act.put, List.setIfInBounds_toArray, List.set_cons_zero, List.set_cons_succ, i64_w, i32_w]
    rfl
  refine one_ (i := 6) (N := some 13) #[true, true, true, true, true, true, true] rfl rfl (one_of HT_.out (by kernel_rfl)) (by decide) (fun K hK => ?_)
  refine goes_ Tryz.func162 (by kernel_rfl) rfl #[.agg #[], .slice (some ⟨g, m, none⟩) (q - m) (c - m), .int .u32 (n : Int)] (by rfl) rfl rfl (by simp only [List.map_toArray, List.map_cons, List.map_nil]; rfl) ?_
  with_reducible refine (HP.out _ (bdrew (Below.refl _ _)) (HO.out.keep (bdrew (Below.refl _ _)))).mono ?_
  rintro e w3 ⟨rfl, hap⟩
  refine ⟨_, rfl, ?_⟩
  refine hK.out _ _ trivial (fun hHeld => ?_)
  clear hK K
  refine norm_ (a' := ?_) ?_ ?_
  rotate_left
  · show Act.put _ (some 13) _ = _
    simp only [Act.put, List.setIfInBounds_toArray, List.set_cons_zero, List.set_cons_succ, i64_w, i32_w]
    rfl
  refine done_ (done_of HT_.out (by kernel_rfl)) ?_
  have HA := Lib.hid hap
  clear hap
  go_wp2_with fail
  go_ret
  exact ⟨_, rfl, rfl, HA.out⟩
end Go.Proofs.YtbpopaegfhcdpaaGreatDoor.X


/- Contracts of docCopy and of the appenders of numbers. -/
set_option linter.unusedVariables false
set_option linter.unusedSimpArgs false
set_option maxRecDepth 100000
namespace Go.Proofs.YtbpopaegfhcdpaaGreatDoor.X
open Go.RowKit
theorem docCopy (A : Option Addr) (c : Nat) (l : List UInt8) (w : World) (hs : SB w A c l) (hl : l.length ≤ 140737488355328) :
    Calls Tryz.prog 13 #[.slice A l.length c] w (After fun v1 w1 => OB 5 w1 w.heap.size v1 l ∧ Below w.heap.size w w1) := by
  go_enter Tryz.func13, Tryz.ntmps13
  go_wp2_with (first | (refine wp_app (.tmp 3) (.tmp 4) 22 rfl rfl infoB Tryz.underlying22 _ w.heap.size _ [] A c l rfl rfl ?a1 ?a2 ?a3 ?a4 ?_) | fail)
  case a1 => exact OB.lit_ w w.heap.size (Nat.le_refl _) [] [] rfl (by simp) 0 rfl
  case a2 => exact hs.alloc _
  case a3 => simp
  case a4 => simpa using hl
  intro v2 w2 h2
  go_wp2
  go_ret
  exact ⟨v2, rfl, by simpa using h2.own, (balloc (Below.refl _ _) (Nat.le_refl _) _).trans (h2.kept (OB.lit_ w w.heap.size (Nat.le_refl _) [] [] rfl (by simp) 0 rfl) (by simp))⟩
end Go.Proofs.YtbpopaegfhcdpaaGreatDoor.X


/- Contracts of bsoncore's beginnings and ends of documents and arrays. -/
set_option linter.unusedVariables false
set_option linter.unusedSimpArgs false
set_option maxRecDepth 100000
namespace Go.Proofs.YtbpopaegfhcdpaaGreatDoor.X
open Go.RowKit Go.Proofs.YtbpopaegfhcdpaaGreatDoorW.PrintLast

theorem reserve (W : World) (base : Nat) (v : Value) (l : List UInt8) (HO : OB 5 W base v l) (hbase : base ≤ W.heap.size) (hl : l.length ≤ 2147483000) :
    Calls Tryz.prog 106 #[v] W fun e w1 => ∃ v1, e = .returned (.tuple #[.int .i32 (l.length : Int), v1]) ∧ App (E := 5) W base v (l ++ [0, 0, 0, 0]) v1 w1 := by
  obtain ⟨A, c, rfl, hs, -⟩ := HO.sb
  have hlc := hs.le
  have hcc := hs.cap
  clear hs
  go_enter Tryz.func106, Tryz.ntmps106
  go_wp2_with (first | (refine wp_app (.tmp 9) (.tmp 10) 22 rfl rfl infoB Tryz.underlying22 _ base _ l _ _ [0, 0, 0, 0] rfl rfl ?a1 ?a2 ?a3 ?a4 ?_) | fail)
  case a1 => exact HO.alloc _
  case a2 => exact SB.lit_ _ [0, 0, 0, 0] _ (by simp [byv]) (by simp) _ rfl
  case a3 => simp; omega
  case a4 => simp; omega
  intro v1 w1 hap
  go_wp2_with fail
  exact bodyPost_ret (v := .tuple #[.int .i32 (l.length : Int), v1]) (by simp [results, Tryz.results106, go_sem]) rfl ⟨v1, rfl, hap.pre (balloc (Below.refl _ _) (Nat.le_refl _) _)⟩
theorem docStart (W : World) (base : Nat) (v : Value) (l : List UInt8) (HO : OB 5 W base v l) (hbase : base ≤ W.heap.size) (hl : l.length ≤ 2147483000) :
    Calls Tryz.prog 220 #[v] W fun e w1 => ∃ v1, e = .returned (.tuple #[.int .i32 (l.length : Int), v1]) ∧ App (E := 5) W base v (l ++ [0, 0, 0, 0]) v1 w1 := by
  go_enter Tryz.func220, Tryz.ntmps220
  go_wp2_with fail
  refine (reserve W base v l HO hbase hl).mono ?_
  rintro e w1 ⟨v1, rfl, hap⟩
  go_wp2_with fail
  exact bodyPost_ret (v := .tuple #[.int .i32 (l.length : Int), v1]) (by simp [results, Tryz.results220, go_sem]) rfl ⟨v1, rfl, hap⟩
theorem docEnd (W : World) (base : Nat) (v : Value) (pre old body : List UInt8) (HO : OB 5 W base v (pre ++ (old ++ body))) (h4 : old.length = 4) (hbase : base ≤ W.heap.size) (hl : pre.length + body.length ≤ 2147483000) :
    Calls Tryz.prog 160 #[v, .int .i32 (pre.length : Int)] W fun e w1 => ∃ v1, e = .returned (.tuple #[v1, .nilIface]) ∧ App (E := 5) W base v (pre ++ (i32 ((body.length : Int) + 5) ++ (body ++ [0]))) v1 w1 := by
  obtain ⟨A, c, rfl, hs, -⟩ := HO.sb
  have hlc := hs.le
  have hcc := hs.cap
  obtain ⟨L, hL⟩ : ∃ L, L = pre ++ (old ++ body) := ⟨_, rfl⟩
  have hLl : L.length = pre.length + 4 + body.length := by rw [hL]; simp [h4]; omega
  rw [← hL] at HO hlc ⊢
  have HL := Lib.hid hL
  have H4 := Lib.hid h4
  have HB := Lib.hid hbase
  have hLL := Lib.hid hLl
  have g1 : ¬ (pre.length : Int) > (L.length : Int) - 4 := by omega
  obtain ⟨q, hq⟩ : ∃ q, q = L.length := ⟨_, rfl⟩
  obtain ⟨m, hm⟩ : ∃ m, m = pre.length := ⟨_, rfl⟩
  rw [← hq, ← hm] at g1 hLL
  rw [← hq] at hlc HO
  rw [← hq, ← hm]
  have hq1 : q ≤ 2147483004 := by omega
  have hm1 : m + 4 ≤ q := by omega
  have HQ := Lib.hid hq
  have HM := Lib.hid hm
  clear hs hL h4 hbase hLl hl hq hm
  go_enter Tryz.func160, Tryz.ntmps160
  go_wp2_with (first | (refine wp_app (.tmp 14) (.tmp 15) 22 rfl rfl infoB Tryz.underlying22 _ base _ L _ _ [0] rfl rfl ?a1 ?a2 ?a3 ?a4 ?_) | fail)
  case a1 => exact HO.alloc _
  case a2 => exact SB.lit_ _ [0] _ (by simp [byv]) (by simp) _ rfl
  case a3 => have := HB.out; simp; omega
  case a4 => have := HQ.out; simp; omega
  intro v1 w1 hap
  have hap2 := hap.pre (balloc (Below.refl _ _) (Nat.le_refl _) _)
  have hz := hap2.size
  obtain ⟨g, c1, hv1, hlc1, hcm1, hbg, -, -⟩ := hap.own.form (by simp)
  have hq2 : (L ++ [0]).length = q + 1 := by rw [HQ.out]; simp
  rw [hq2] at hv1 hlc1
  have ho1 := hap.own
  rw [hv1] at ho1 ⊢
  have hA2 := hap2
  rw [hv1] at hA2
  have HA2 := Lib.hid hA2
  have hsl := slice_at (P := Tryz.prog) Tryz.underlying22 rfl rfl .i32 g (q + 1) c1 m (by omega) (by omega) (by omega)
  have e1 : L ++ [0] = pre ++ (old ++ (body ++ [0])) := by rw [HL.out]; simp [List.append_assoc]
  have hup : ∀ wx, wx = w1 → Calls Tryz.prog 108 #[.slice (some ⟨g, 0, none⟩) (q + 1) c1, .int .i32 (m : Int), .int .i32 ((q + 1 - m : Nat) : Int)] wx fun e w2 => ∃ v2, e = .returned v2 ∧ App (E := 5) W base (.slice A q c) (pre ++ (i32 ((body.length : Int) + 5) ++ (body ++ [0]))) v2 w2 := by
    rintro wx rfl
    have ho3 := ho1
    rw [e1] at ho3
    have hk := HQ.out
    have hk2 := hLL.out
    rw [HM.out]
    refine (updLen wx base _ pre old (body ++ [0]) (q + 1 - pre.length) ho3 H4.out (by omega) (by have := HM.out; omega) (by have := HB.out; omega)).mono ?_
    rintro e w2 ⟨v2, rfl, rfl, hx⟩
    refine ⟨_, rfl, ?_⟩
    have e5 : ((q + 1 - pre.length : Nat) : Int) = (body.length : Int) + 5 := by have := HM.out; omega
    rw [e5] at hx
    exact HA2.out.trans hx
  have HU := Lib.hid (hup w1 rfl)
  have hw0 : ((q + 1 - m : Nat) : Int) ≤ 2147483647 := by omega
  clear hap hap2 hz ho1 hA2 hup hq2 e1 hv1 HL H4 HB hLL HQ HM HO HA2
  go_wp2_with fail
  refine HU.out.mono ?_
  rintro e w2 ⟨v2, rfl, hx⟩
  have HX := Lib.hid hx
  clear hx HU hsl
  go_wp2_with fail
  exact bodyPost_ret (v := .tuple #[v2, .nilIface]) (by simp [results, Tryz.results160, go_sem]) rfl ⟨v2, rfl, HX.out⟩
end Go.Proofs.YtbpopaegfhcdpaaGreatDoor.X


/- Appending one element of 32 bits to bytes of the call's own. -/
set_option linter.unusedVariables false
set_option linter.unusedSimpArgs false
set_option maxRecDepth 100000
namespace Go.Proofs.YtbpopaegfhcdpaaGreatDoor.X
open Go.RowKit Go.Proofs.YtbpopaegfhcdpaaGreatDoorW.PrintLast
namespace Aw

def isInt : Value → Nat
  | .int _ _ => 0
  | _ => 1
theorem noZero (sa : ByteArray) (w : World) (hsa : sa = ⟨#[97]⟩) :
    Calls Tryz.prog 237 #[.string sa, .int .i32 0] w fun e w' => e = .returned (.int .i64 (-1)) ∧ Below w.heap.size w w' := by
  have hn0 : ∀ ty, (Instr.next (.pointer (some ⟨w.heap.size, 0, none⟩)) true ty).run Tryz.prog (w.iter sa 0) = .ok (.tuple #[.bool true, .int .i64 0, .int .i32 97]) (w.iter sa 1) := fun ty => by
    subst hsa
    exact run_next_ascii (P := Tryz.prog) w _ 0 ty (by decide) (by decide)
  have hn1 : ∀ ty, (Instr.next (.pointer (some ⟨w.heap.size, 0, none⟩)) true ty).run Tryz.prog (w.iter sa 1) = .ok (.tuple #[.bool false]) (w.iter sa 1) := fun ty => by
    subst hsa
    exact run_next_end (P := Tryz.prog) w _ 1 ty (by decide)
  have hbe : Hid (Below w.heap.size w (w.iter sa 1)) := Lib.hid (balloc (Below.refl _ _) (Nat.le_refl _) _)
  clear hsa
  go_enter Tryz.func237, Tryz.ntmps237
  go_wp2_with fail
  go_loopw [5] (fun a wr => (a = undef ∧ wr = w.iter sa 0) ∨ (a = .int .i64 0 ∧ wr = w.iter sa 1)) (fun a _ => isInt a)
  case atStart => exact Or.inl ⟨rfl, rfl⟩
  case round =>
    rcases hrel with ⟨rfl, rfl⟩ | ⟨rfl, rfl⟩
    · go_wp2_with fail
      go_roundw
      case rel => exact Or.inr ⟨by first | rfl | trivial, by first | rfl | trivial⟩
      case measure => simp [isInt, undef]
    · go_wp2_with fail
      go_ret
      exact ⟨by first | rfl | trivial, hbe.out⟩
theorem containsNot (sa : ByteArray) (w : World) (hsa : sa = ⟨#[97]⟩) :
    Calls Tryz.prog 227 #[.string sa, .int .i32 0] w fun e w' => e = .returned (.bool false) ∧ Below w.heap.size w w' := by
  have HN := Lib.hid (noZero sa w hsa)
  clear hsa
  go_enter Tryz.func227, Tryz.ntmps227
  go_wp2_with fail
  refine HN.out.mono ?_
  rintro e w1 ⟨rfl, hb⟩
  go_wp2_with fail
  go_ret
  exact ⟨rfl, hb⟩
theorem validName (sa : ByteArray) (w : World) (hsa : sa = ⟨#[97]⟩) :
    Calls Tryz.prog 203 #[.string sa] w fun e w' => e = .returned (.bool true) ∧ Below w.heap.size w w' := by
  have HN := Lib.hid (containsNot sa w hsa)
  clear hsa
  go_enter Tryz.func203, Tryz.ntmps203
  go_wp2_with fail
  refine HN.out.mono ?_
  rintro e w1 ⟨rfl, hb⟩
  go_wp2_with fail
  go_ret
  exact ⟨rfl, hb⟩
theorem appType (W : World) (base : Nat) (v : Value) (l : List UInt8) (HO : OB 5 W base v l) (hbase : base ≤ W.heap.size) (hl : l.length ≤ 2147483000) :
    Calls Tryz.prog 204 #[v, .int .u8 16] W (After fun v1 w1 => App (E := 5) W base v (l ++ [16]) v1 w1) := by
  obtain ⟨A, c, rfl, hs, -⟩ := HO.sb
  clear hs
  go_enter Tryz.func204, Tryz.ntmps204
  go_wp2_with (first | (refine wp_app (.tmp 5) (.tmp 7) 22 rfl rfl infoB Tryz.underlying22 _ base _ l _ _ [16] rfl rfl ?a1 ?a2 ?a3 ?a4 ?_) | fail)
  case a1 => exact HO.alloc _
  case a2 => exact SB.lit_ _ [16] _ (by simp [byv]) (by simp) _ rfl
  case a3 => simp; omega
  case a4 => simp; omega
  intro v1 w1 hap
  go_wp2_with fail
  go_ret
  exact ⟨v1, rfl, hap.pre (balloc (Below.refl _ _) (Nat.le_refl _) _)⟩
theorem appHeader (W : World) (base : Nat) (v : Value) (l : List UInt8) (sa : ByteArray) (hsa : sa = ⟨#[97]⟩) (HO : OB 5 W base v l) (hbase : base ≤ W.heap.size) (hl : l.length ≤ 2147482000) :
    Calls Tryz.prog 142 #[v, .int .u8 16, .string sa] W (After fun v1 w1 => App (E := 5) W base v (l ++ [16, 97, 0]) v1 w1) := by
  obtain ⟨A, c, rfl, hs, -⟩ := HO.sb
  clear hs
  have HV := Lib.hid (validName sa W hsa)
  have HSA : Hid (sa.size = 1 ∧ sa.data.toList = [97]) := Lib.hid (by subst hsa; exact ⟨rfl, rfl⟩)
  clear hsa
  go_enter Tryz.func142, Tryz.ntmps142
  go_wp2_with fail
  refine HV.out.mono ?_
  rintro e w1 ⟨rfl, hb⟩
  have hz1 := hb.size
  have HO1 := HO.keep hb
  have HB := Lib.hid hb
  clear hb
  go_wp2_with fail
  refine (appType w1 base _ l HO1 (by omega) (by omega)).mono ?_
  rintro e w2 ⟨v2, rfl, hap⟩
  have hz2 := hap.size
  have ho2 := hap.own
  obtain ⟨A2, c2, rfl, hs2, -⟩ := ho2.sb
  obtain ⟨q, hq⟩ : ∃ q, q = (l ++ [16]).length := ⟨_, rfl⟩
  have hq2 : q ≤ l.length + 1 := by rw [hq]; simp
  rw [← hq] at ho2 hap ⊢
  have HAP := Lib.hid hap
  clear hs2 hap hq
  go_wp2_with (first | (refine wp_app_str (.tmp 14) (.tmp 15) 22 9 rfl rfl infoB Tryz.underlying22 Tryz.underlying9 _ base _ (l ++ [16]) sa rfl rfl ?b1 ?b2 ?b3 ?_) | fail)
  case b1 => exact ho2
  case b2 => omega
  case b3 => have := HSA.out.1; simp; omega
  intro v3 w3 h3
  have hz3 := h3.size
  have ho3 := h3.own
  rw [HSA.out.2] at ho3 h3
  obtain ⟨A3, c3, rfl, hs3, -⟩ := ho3.sb
  obtain ⟨q3, hq3⟩ : ∃ q, q = (l ++ [16, 97]).length := ⟨_, rfl⟩
  have hq4 : q3 ≤ l.length + 2 := by rw [hq3]; simp
  rw [← hq3] at ho3 h3 ⊢
  have H3 := Lib.hid h3
  clear hs3 h3 hq3
  go_wp2_with (first | (refine wp_app (.tmp 17) (.tmp 18) 22 rfl rfl infoB Tryz.underlying22 _ base _ (l ++ [16, 97]) _ _ [0] rfl rfl ?a1 ?a2 ?a3 ?a4 ?_) | fail)
  case a1 => exact ho3.alloc _
  case a2 => exact SB.lit_ _ [0] _ (by simp [byv]) (by simp) _ rfl
  case a3 => simp; omega
  case a4 => simp; omega
  intro v4 w4 h4
  have h4' := h4.pre (balloc (Below.refl _ _) (Nat.le_refl _) _)
  have hend := ((HAP.out.pre HB.out).trans H3.out).trans h4'
  have HE := Lib.hid hend
  clear h4 h4' hend
  go_wp2_with fail
  go_ret
  exact ⟨v4, rfl, HE.out⟩
theorem put7 (W : World) (base : Nat) (v : Value) (l : List UInt8) (HO : OB 5 W base v l) (hbase : base ≤ W.heap.size) (hl : l.length ≤ 2147483000) :
    Calls Tryz.prog 231 #[v, .int .i32 7] W (After fun v1 w1 => App (E := 5) W base v (l ++ [7, 0, 0, 0]) v1 w1) := by
  obtain ⟨A, c, rfl, hs, -⟩ := HO.sb
  clear hs
  go_enter Tryz.func231, Tryz.ntmps231
  go_wp2_with (first | (refine wp_app (.tmp 5) (.tmp 17) 22 rfl rfl infoB Tryz.underlying22 _ base _ l _ _ [7, 0, 0, 0] rfl rfl ?a1 ?a2 ?a3 ?a4 ?_) | fail)
  case a1 => exact HO.alloc _
  case a2 => exact SB.lit_ _ [7, 0, 0, 0] _ (by simp [byv]) (by simp) _ rfl
  case a3 => simp; omega
  case a4 => simp; omega
  intro v1 w1 hap
  go_wp2_with fail
  go_ret
  exact ⟨v1, rfl, hap.pre (balloc (Below.refl _ _) (Nat.le_refl _) _)⟩
theorem appInt7 (W : World) (base : Nat) (v : Value) (l : List UInt8) (HO : OB 5 W base v l) (hbase : base ≤ W.heap.size) (hl : l.length ≤ 2147483000) :
    Calls Tryz.prog 214 #[v, .int .i32 7] W (After fun v1 w1 => App (E := 5) W base v (l ++ [7, 0, 0, 0]) v1 w1) := by
  go_enter Tryz.func214, Tryz.ntmps214
  go_wp2_with fail
  refine (put7 W base v l HO hbase hl).mono ?_
  rintro e w1 ⟨v1, rfl, h⟩
  go_wp2_with fail
  go_ret
  exact ⟨v1, rfl, h⟩
theorem appElem7 (W : World) (base : Nat) (v : Value) (l : List UInt8) (sa : ByteArray) (hsa : sa = ⟨#[97]⟩) (HO : OB 5 W base v l) (hbase : base ≤ W.heap.size) (hl : l.length ≤ 2147482000) :
    Calls Tryz.prog 154 #[v, .string sa, .int .i32 7] W (After fun v1 w1 => App (E := 5) W base v (l ++ [16, 97, 0, 7, 0, 0, 0]) v1 w1) := by
  have HH := Lib.hid (appHeader W base v l sa hsa HO hbase hl)
  clear hsa
  go_enter Tryz.func154, Tryz.ntmps154
  go_wp2_with fail
  refine HH.out.mono ?_
  rintro e w1 ⟨v1, rfl, h⟩
  have hz := h.size
  go_wp2_with fail
  refine (appInt7 w1 base v1 _ h.own (by omega) (by simp; omega)).mono ?_
  rintro e w2 ⟨v2, rfl, h2⟩
  have h3 := h.trans h2
  rw [List.append_assoc] at h3
  have HE := Lib.hid h3
  clear h h2 h3
  go_wp2_with fail
  go_ret
  exact ⟨v2, rfl, HE.out⟩
end Aw
end Go.Proofs.YtbpopaegfhcdpaaGreatDoor.X


/- The builder of documents, with one element of 32 bits. -/
set_option linter.unusedVariables false
set_option linter.unusedSimpArgs false
set_option maxRecDepth 100000
namespace Go.Proofs.YtbpopaegfhcdpaaGreatDoor.X
open Go.RowKit Go.Proofs.YtbpopaegfhcdpaaGreatDoorW.PrintLast
namespace Aw

theorem infoI : (Tryz.prog.info? 21).map (fun i => (i.zero, i.size, i.bytes)) = some (some (.int .i32 0), 1, 4) := by kernel_rfl
theorem set_grown (w : World) (b o : Nat) (x : Value) : w.grownBy (w.setCell ⟨b, o, none⟩ x) (some b) := by
  have h := (Below.refl 0 w).setCell (p := ⟨b, o, none⟩) (Nat.zero_le _) x
  exact ⟨h.os, h.tape, h.output, h.size, fun i hi hne => heap_setCell_other w ⟨b, o, none⟩ i x (fun e => hne (by rw [e]))⟩
theorem OB.far {w : World} {base : Nat} {v : Value} {l : List UInt8} {E : TypeId} (h : OB E w base v l) {b o : Nat} (hb : b < base) (x : Value) : OB E (w.setCell ⟨b, o, none⟩ x) base v l :=
  h.other (set_grown w b o x) (by
    cases e : v.ownBlock with
    | none => exact .inl rfl
    | some k =>
      refine .inr fun e2 => ?_
      injection e2 with e2
      have := (h.lt k e).1
      omega)
theorem OG.far {w : World} {base : Nat} {v : Value} {l : List Value} {E : TypeId} (h : OG E w base v l) {b o : Nat} (hb : b < base) (x : Value) : OG E (w.setCell ⟨b, o, none⟩ x) base v l :=
  h.other (set_grown w b o x) (by
    cases e : v.ownBlock with
    | none => exact .inl rfl
    | some k =>
      refine .inr fun e2 => ?_
      injection e2 with e2
      have := (h.lt k e).1
      omega)
/-- Rows of two kinds of elements lie apart. -/
theorem apart {E E' : TypeId} {w : World} {b b' : Nat} {v v' : Value} {l : List UInt8} {l' : List Value} (hE : E ≠ E') (h : OB E w b v l) (h' : OG E' w b' v' l') : v'.ownBlock = none ∨ v'.ownBlock ≠ v.ownBlock := by
  rcases h'.1.2 with ⟨rfl, -⟩ | ⟨g', cap', cur', rfl, -, hg', -⟩
  · exact .inl rfl
  · refine .inr ?_
    rcases h.1.2 with ⟨rfl, -⟩ | ⟨g, cap, cur, rfl, -, hg, -⟩
    · simp [Value.ownBlock]
    · intro e
      have e' : g' = g := by simpa [Value.ownBlock] using e
      subst e'
      rw [hg] at hg'
      simp at hg'
      exact hE hg'.2
/-- A builder with its bytes, whose document begins at 0. -/
def Bld (w : World) (base B : Nat) (l : List UInt8) : Prop :=
  ∃ A c Ai ci, w.heap[B]? = some (.cells #[.slice A l.length c, .slice Ai 1 ci] 219 (0, 0)) ∧ OB 5 w base (.slice A l.length c) l ∧ OG 21 w base (.slice Ai 1 ci) [.int .i32 0]
theorem newBuilder (w : World) :
    Calls Tryz.prog 120 #[] w fun e w' => e = .returned (.pointer (some ⟨w.heap.size, 0, none⟩)) ∧ Bld w' (w.heap.size + 1) w.heap.size [0, 0, 0, 0] ∧ Below w.heap.size w w' := by
  have HD : Hid (∀ W : World, w.heap.size + 1 ≤ W.heap.size → Calls Tryz.prog 220 #[.slice none 0 0] W fun e w1 => ∃ v1, e = .returned (.tuple #[.int .i32 0, v1]) ∧ App (E := 5) W (w.heap.size + 1) (.slice none 0 0) [0, 0, 0, 0] v1 w1) := Lib.hid fun W h => docStart W _ _ [] (OB.nil _ _) h (by simp)
  have HB : Hid (Below w.heap.size w (w.alloc (.cells #[.slice none 0 0, .slice none 0 0] 219))) := Lib.hid (balloc (Below.refl _ _) (Nat.le_refl _) _)
  go_enter Tryz.func120, Tryz.ntmps120
  go_wp2_with fail
  have hstart : Calls Tryz.prog 170 #[.pointer (some ⟨w.heap.size, 0, none⟩)] (w.alloc (.cells #[.slice none 0 0, .slice none 0 0] 219)) fun e w' => e = .returned (.pointer (some ⟨w.heap.size, 0, none⟩)) ∧ Bld w' (w.heap.size + 1) w.heap.size [0, 0, 0, 0] ∧ Below w.heap.size w w' := by
    go_enter Tryz.func170, Tryz.ntmps170
    go_wp2_with fail
    refine (HD.out _ (by simp)).mono ?_
    rintro e w2 ⟨v2, rfl, hap⟩
    have hb2 : Below (w.heap.size + 1) (w.alloc (.cells #[.slice none 0 0, .slice none 0 0] 219)) w2 := hap.kept (OB.nil _ _) (by simp)
    have q0 := boxc hb2 0
    have q1 := boxc hb2 1
    simp only [List.getElem?_cons_succ, List.getElem?_cons_zero] at q0 q1
    have f0 := boxf hb2 0
    have f1 := boxf hb2 1
    have hz2 := boxs hb2
    have hlt : w.heap.size < w2.heap.size := by omega
    have ho2 := hap.own
    obtain ⟨A2, c2, rfl, hs2, -⟩ := ho2.sb
    have HO2 := Lib.hid ho2
    have HB2 := Lib.hid hb2
    clear hap hb2 hs2 ho2
    go_wp2_with (first | (refine wp_appG (E := 21) (.tmp 19) (.tmp 21) 136 rfl rfl (.int .i32 0) 4 infoI rfl Tryz.underlying136 _ (w.heap.size + 1) (.slice none 0 0) [] _ _ [.int .i32 0] rfl rfl ?a1 ?a2 ?a3 ?a4 ?a5 ?a6 ?_) | fail)
    case a1 => exact OG.nil _ _
    case a2 =>
      have h := GS.lit_ (E := 21) (w2.setCell ⟨w.heap.size, 0, none⟩ (.slice A2 4 c2)) [.int .i32 0] [.int .i32 0] rfl (by simp) 1 rfl
      simpa using h
    case a3 => simp; omega
    case a4 => simp [Value.oneCell']
    case a5 => simp
    case a6 => simp
    intro v3 w3 h3
    have ho3 : OG 21 w3 (w.heap.size + 1) v3 [.int .i32 0] := h3.own
    have hfr := h3.fresh
    obtain ⟨Ai, ci, rfl, -, -⟩ := ho3.sb
    have hbx2 : w2.heap[w.heap.size]? = some (.cells #[.slice none 0 0, .slice none 0 0] 219 (0, 0)) := (HB2.out.block _ (Nat.lt_succ_self _)).trans (heap_alloc_new w _)
    have hbx3 : (w2.setCell ⟨w.heap.size, 0, none⟩ (.slice A2 4 c2)).heap[w.heap.size]? = some (.cells #[.slice A2 4 c2, .slice none 0 0] 219 (0, 0)) := by simpa using heap_setCell_same w2 w.heap.size 0 _ _ (.slice A2 4 c2) hbx2
    obtain ⟨W2, hW2⟩ : ∃ W2, W2 = w2.setCell ⟨w.heap.size, 0, none⟩ (.slice A2 4 c2) := ⟨_, rfl⟩
    have hzW : W2.heap.size = w2.heap.size := by rw [hW2]; simp
    have hoW : OB 5 W2 (w.heap.size + 1) (.slice A2 4 c2) [0, 0, 0, 0] := by rw [hW2]; exact OB.far HO2.out (Nat.lt_succ_self _) _
    have hbW : Below w.heap.size w W2 := by rw [hW2]; exact ((boxb HB2.out).setCell (Nat.le_refl _) _)
    rw [← hW2] at hfr hbx3
    have hfr2 : Below W2.heap.size W2 w3 := (balloc (Below.refl _ _) (Nat.le_refl _) _).trans (hfr.mono (by simp))
    have ho4 := hoW.keep hfr2
    have hbx4 : w3.heap[w.heap.size]? = some (.cells #[.slice A2 4 c2, .slice none 0 0] 219 (0, 0)) := (hfr2.block _ (by omega)).trans hbx3
    have hz3 := hfr2.size
    have q3 : w3.cell? ⟨w.heap.size, 1, none⟩ = some (.slice none 0 0) := by simp only [World.cell?, hbx4]; rfl
    have f3 : w3.frozen? ⟨w.heap.size, 1, none⟩ = false := by simp only [World.frozen?, hbx4]; rfl
    have hlt3 : w.heap.size < w3.heap.size := by omega
    have HX4 := Lib.hid hbx4
    have HO4 := Lib.hid ho4
    have HG3 := Lib.hid ho3
    have HB3 : Hid (Below w.heap.size w w3) := Lib.hid (hbW.trans (hfr2.mono (by omega)))
    clear q0 q1 f0 f1 hz2 hlt HO2 HB2 h3 ho3 hfr hbx2 hbx3 hzW hoW hbW hfr2 ho4 hbx4 hz3 hW2 HD HB
    go_wp2_with fail
    go_ret
    exact ⟨rfl, ⟨A2, c2, Ai, ci, by simpa using heap_setCell_same w3 w.heap.size 1 _ _ (.slice Ai 1 ci) HX4.out, OB.far HO4.out (Nat.lt_succ_self _) _, OG.far HG3.out (Nat.lt_succ_self _) _⟩, HB3.out.setCell (Nat.le_refl _) _⟩
  refine hstart.mono ?_
  rintro e w1 ⟨rfl, h1, h2⟩
  have H1 := Lib.hid h1
  have H2 := Lib.hid h2
  clear hstart h1 h2 HD HB
  go_wp2_with fail
  go_ret
  exact ⟨rfl, H1.out, H2.out⟩
end Aw
end Go.Proofs.YtbpopaegfhcdpaaGreatDoor.X


/- The builder: an element appended, and the document. -/
set_option linter.unusedVariables false
set_option linter.unusedSimpArgs false
set_option maxRecDepth 100000
namespace Go.Proofs.YtbpopaegfhcdpaaGreatDoor.X
open Go.RowKit Go.Proofs.YtbpopaegfhcdpaaGreatDoorW.PrintLast
namespace Aw
def R122.T2 : Bool × List (List Nat × List Nat) := (true, [([], []), ([], []), ([1], [1]), ([2], [2]), ([3], [3]), ([], []), ([5], [5]), ([6], [6]), ([7], [7]), ([], []), ([8, 9], [8, 9]), ([10], [10]), ([4, 11], [4, 11]), ([12], [12]), ([13], [13]), ([13], [13]), ([0, 0, 1, 2, 3, 4, 5, 6, 7, 8, 9, 10, 11, 12, 13, 14], [0]), ([16, 0, 1, 2, 3, 4, 5, 6, 7, 8, 9, 10, 11, 12, 13, 14], [16]), ([17, 14, 12, 0, 1, 2, 3, 4, 5, 6, 7, 8, 9, 10, 11, 12, 13, 14], [14, 17])])
def R122.B2 : List Nat := [0, 0, 2, 6, 14, 0, 32, 96, 224, 0, 992, 2016, 4094, 8190, 16382, 16382, 32767, 98303, 229375]
theorem R122.tab2 : rtab .any (opsOf Tryz.f122 2) = R122.T2 := by kernel_rfl
theorem R122.bits2 : waitsOk R122.T2.2 R122.B2 = true := by kernel_rfl
theorem append7 (W : World) (base B : Nat) (l : List UInt8) (sa : ByteArray) (hsa : sa = ⟨#[97]⟩) (hB : B < base) (hbase : base ≤ W.heap.size) (h : Bld W base B l) (hl : l.length ≤ 1000) :
    Calls Tryz.prog 187 #[.pointer (some ⟨B, 0, none⟩), .string sa, .int .i32 7] W fun e w' => e = .returned (.pointer (some ⟨B, 0, none⟩)) ∧ Bld w' base B (l ++ [16, 97, 0, 7, 0, 0, 0]) ∧ Below B W w' := by
  obtain ⟨A, c, Ai, ci, hbx, ho, hg⟩ := h
  have q0 : W.cell? ⟨B, 0, none⟩ = some (.slice A l.length c) := by simp only [World.cell?, hbx]; rfl
  have f0 : W.frozen? ⟨B, 0, none⟩ = false := by simp only [World.frozen?, hbx]; rfl
  have HC := Lib.hid (appElem7 W base _ l sa hsa ho hbase (by omega))
  have HBX := Lib.hid hbx
  have HO := Lib.hid ho
  have HG := Lib.hid hg
  have HH : Hid (B < base ∧ base ≤ W.heap.size) := Lib.hid ⟨hB, hbase⟩
  have hlt0 : B < W.heap.size := by omega
  obtain ⟨n, hn⟩ : ∃ n, n = l.length := ⟨_, rfl⟩
  rw [← hn] at q0 HC HBX HO
  have HN := Lib.hid hn
  clear hsa hB hbase hl hbx ho hg hn
  go_enter Tryz.func187, Tryz.ntmps187
  go_wp2_with fail
  refine HC.out.mono ?_
  rintro e w1 ⟨v1, rfl, hap⟩
  have hap2 := hap
  obtain ⟨h1, h2⟩ := HH.out
  have hne : some B ≠ (Value.slice A n c).ownBlock := by
    intro e
    have := (HO.out.lt B e.symm).1
    omega
  have hbx1 := (hap.grown.block B (by omega) hne).trans HBX.out
  have hz1 := hap.size
  have q1 : w1.cell? ⟨B, 0, none⟩ = some (.slice A n c) := by simp only [World.cell?, hbx1]; rfl
  have f1 : w1.frozen? ⟨B, 0, none⟩ = false := by simp only [World.frozen?, hbx1]; rfl
  have hlt1 : B < w1.heap.size := by omega
  have hb1 : Below B W w1 := (hap.kept HO.out h2).mono (by omega)
  have hg1 := HG.out.other hap.grown (apart (by decide) HO.out HG.out)
  have ho1 := hap.own
  obtain ⟨A1, c1, rfl, -, -⟩ := ho1.sb
  have HBX1 := Lib.hid hbx1
  have HO1 := Lib.hid ho1
  have HG1 := Lib.hid hg1
  have HB1 := Lib.hid hb1
  obtain ⟨m, hm⟩ : ∃ m, m = (l ++ [16, 97, 0, 7, 0, 0, 0]).length := ⟨_, rfl⟩
  rw [← hm] at HO1 ⊢
  have HM := Lib.hid hm
  clear hap hap2 hne hbx1 hz1 hb1 hg1 ho1 h1 h2 hm q0 f0
  go_wp2_with fail
  go_ret
  refine ⟨rfl, ⟨A1, c1, Ai, ci, ?_, ?_, ?_⟩, HB1.out.setCell (Nat.le_refl _) _⟩
  · have := heap_setCell_same w1 B 0 _ _ (.slice A1 m c1) HBX1.out
    rw [← HM.out]
    simpa using this
  · rw [← HM.out]
    exact OB.far HO1.out HH.out.1 _
  · exact OG.far HG1.out HH.out.1 _
theorem buildDoc (W : World) (base B : Nat) (body : List UInt8) (hB : B < base) (hbase : base ≤ W.heap.size) (h : Bld W base B ([0, 0, 0, 0] ++ body)) (hl : body.length ≤ 1000000) :
    Calls Tryz.prog 122 #[.pointer (some ⟨B, 0, none⟩)] W fun e w' => ∃ A c, e = .returned (.slice A (i32 ((body.length : Int) + 5) ++ (body ++ [0])).length c) ∧ SB w' A c (i32 ((body.length : Int) + 5) ++ (body ++ [0])) ∧ Below B W w' := by
  obtain ⟨A, c, Ai, ci, hbx, ho, hg⟩ := h
  have q0 : W.cell? ⟨B, 0, none⟩ = some (.slice A ([0, 0, 0, 0] ++ body).length c) := by simp only [World.cell?, hbx]; rfl
  have q1 : W.cell? ⟨B, 1, none⟩ = some (.slice Ai 1 ci) := by simp only [World.cell?, hbx]; rfl
  have f0 : W.frozen? ⟨B, 0, none⟩ = false := by simp only [World.frozen?, hbx]; rfl
  have f1 : W.frozen? ⟨B, 1, none⟩ = false := by simp only [World.frozen?, hbx]; rfl
  obtain ⟨Aj, cj, hv, hgs, -⟩ := hg.sb
  obtain ⟨gb, go, rfl, hcell⟩ := hgs.cells (by simp)
  obtain ⟨rfl, rfl⟩ : Ai = some ⟨gb, go, none⟩ ∧ ci = cj := by simpa using hv
  have qi : W.cell? ⟨gb, go, none⟩ = some (.int .i32 0) := by have h := hcell 0 (by simp); simpa using h
  have HC : Hid (∀ wx, Below W.heap.size W wx → Calls Tryz.prog 160 #[.slice A ([0, 0, 0, 0] ++ body).length c, .int .i32 0] wx fun e w1 => ∃ v1, e = .returned (.tuple #[v1, .nilIface]) ∧ App (E := 5) wx base (.slice A ([0, 0, 0, 0] ++ body).length c) (i32 ((body.length : Int) + 5) ++ (body ++ [0])) v1 w1) := Lib.hid fun wx hx =>
    docEnd wx base _ [] [0, 0, 0, 0] body (ho.keep hx) rfl (by have := hx.size; omega) (by simp; omega)
  have HBX := Lib.hid hbx
  have HO := Lib.hid ho
  have HAP : Hid (some gb ≠ (Value.slice A ([0, 0, 0, 0] ++ body).length c).ownBlock) := Lib.hid (by
    rcases apart (by decide) ho hg with e | e
    · simp [Value.ownBlock] at e
    · simpa [Value.ownBlock] using e)
  have hltg : Hid (gb < W.heap.size) := Lib.hid (World.block_lt_of_cell? _ _ qi)
  have HH : Hid (B < base ∧ base ≤ W.heap.size) := Lib.hid ⟨hB, hbase⟩
  have hlt0 : B < W.heap.size := by omega
  have hci : 1 ≤ ci := hgs.le
  have hcc := hgs.cap
  obtain ⟨LL, hLL⟩ : ∃ x, x = i32 ((body.length : Int) + 5) ++ (body ++ [0]) := ⟨_, rfl⟩
  rw [← hLL] at HC ⊢
  clear hLL
  obtain ⟨n, hn⟩ : ∃ n, n = ([0, 0, 0, 0] ++ body).length := ⟨_, rfl⟩
  rw [← hn] at q0 HC HBX HO HAP
  have HN := Lib.hid hn
  clear hB hbase hl hbx ho hg hn hv hgs hcell
  go_enter Tryz.func122, Tryz.ntmps122
  go_wp2_with fail
  refine start_ (n := 19) (S := fun w' => w'.cell? ⟨B, 0, none⟩ = some (.slice A n c) ∧ w'.cell? ⟨B, 1, none⟩ = some (.slice (some ⟨gb, go, none⟩) 1 ci) ∧ w'.cell? ⟨gb, go, none⟩ = some (.int .i32 0)) (ds := [18]) #[false, false, false, false, false, false, false, false, false, false, false, false, false, false, false, false, false, false, false] (by kernel_rfl) rfl rfl ⟨(by exact q0), (by exact q1), (by exact qi)⟩ (fun hHeld => ?_)
  refine with_tabW R122.tab2 R122.bits2 (fun HT_ HW_ => ?_)
  refine pure_ (i := 0) (N := some 11) (v := ?_) (a' := ?_) #[true, false, false, false, false, false, false, false, false, false, false, false, false, false, false, false, false, false, false] rfl rfl (any_of HT_.out (by kernel_rfl)) (fun _ _ _ h => h) (Or.inl ⟨by rfl, ?_⟩) ?_ ?_
  rotate_left
  · intro w'
    go_simp
    with_reducible rfl
  rotate_left
  · simp only [Act.put, List.setIfInBounds_toArray, List.set_cons_zero, List.set_cons_succ, i64_w, i32_w]
    rfl
  refine pure_ (i := 1) (N := some 12) (v := ?_) (a' := ?_) #[true, true, false, false, false, false, false, false, false, false, false, false, false, false, false, false, false, false, false] rfl rfl (any_of HT_.out (by kernel_rfl)) (fun _ _ _ h => h) (Or.inl ⟨by rfl, ?_⟩) ?_ ?_
  rotate_left
  · intro w'
    go_simp
    with_reducible rfl
  rotate_left
  · simp only [Act.put, List.setIfInBounds_toArray, List.set_cons_zero, List.set_cons_succ, i64_w, i32_w]
    rfl
  refine pure_ (i := 2) (N := some 13) (v := ?_) (a' := ?_) #[true, true, true, false, false, false, false, false, false, false, false, false, false, false, false, false, false, false, false] rfl rfl (any_of HT_.out (by kernel_rfl)) (fun _ _ _ h => h) (Or.inl ⟨by rfl, ?_⟩) ?_ ?_
  rotate_left
  · intro w'
    go_simp
    with_reducible rfl
  rotate_left
  · simp only [Act.put, List.setIfInBounds_toArray, List.set_cons_zero, List.set_cons_succ, i64_w, i32_w]
    rfl
  refine pure_ (i := 3) (N := some 14) (v := ?_) (a' := ?_) #[true, true, true, true, false, false, false, false, false, false, false, false, false, false, false, false, false, false, false] rfl rfl (any_of HT_.out (by kernel_rfl)) (fun _ _ _ h => h) (Or.inl ⟨by rfl, ?_⟩) ?_ ?_
  rotate_left
  · intro w'
    go_simp
    with_reducible rfl
  rotate_left
  · simp only [Act.put, List.setIfInBounds_toArray, List.set_cons_zero, List.set_cons_succ, i64_w, i32_w]
    rfl
  refine pure_ (i := 5) (N := some 16) (v := ?_) (a' := ?_) #[true, true, true, true, false, true, false, false, false, false, false, false, false, false, false, false, false, false, false] rfl rfl (any_of HT_.out (by kernel_rfl)) (fun _ _ _ h => h) (Or.inl ⟨by rfl, ?_⟩) ?_ ?_
  rotate_left
  · intro w'
    go_simp
    with_reducible rfl
  rotate_left
  · simp only [Act.put, List.setIfInBounds_toArray, List.set_cons_zero, List.set_cons_succ, i64_w, i32_w]
    rfl
  refine pure_ (i := 6) (N := some 17) (v := ?_) (a' := ?_) #[true, true, true, true, false, true, true, false, false, false, false, false, false, false, false, false, false, false, false] rfl rfl (any_of HT_.out (by kernel_rfl)) (fun _ _ _ h => h) (Or.inl ⟨by rfl, ?_⟩) ?_ ?_
  rotate_left
  · intro w'
    go_simp
    with_reducible rfl
  rotate_left
  · simp only [Act.put, List.setIfInBounds_toArray, List.set_cons_zero, List.set_cons_succ, i64_w, i32_w]
    rfl
  refine pure_ (i := 7) (N := some 18) (v := ?_) (a' := ?_) #[true, true, true, true, false, true, true, true, false, false, false, false, false, false, false, false, false, false, false] rfl rfl (any_of HT_.out (by kernel_rfl)) (fun _ _ _ h => h) (Or.inl ⟨by rfl, ?_⟩) ?_ ?_
  rotate_left
  · intro w'
    go_simp
    with_reducible rfl
  rotate_left
  · simp only [Act.put, List.setIfInBounds_toArray, List.set_cons_zero, List.set_cons_succ, i64_w, i32_w]
    rfl
  refine pure_ (i := 9) (N := some 20) (v := ?_) (a' := ?_) #[true, true, true, true, false, true, true, true, false, true, false, false, false, false, false, false, false, false, false] rfl rfl (any_of HT_.out (by kernel_rfl)) (fun _ _ _ h => h) (Or.inl ⟨by rfl, ?_⟩) ?_ ?_
  rotate_left
  · intro w'
    go_simp
    with_reducible rfl
  rotate_left
  · simp only [Act.put, List.setIfInBounds_toArray, List.set_cons_zero, List.set_cons_succ, i64_w, i32_w]
    rfl
  refine take_ (i := 4) (N := some 15) (v := ?_) (a' := ?_) #[true, true, true, true, true, true, true, true, false, true, false, false, false, false, false, false, false, false, false] rfl rfl (take_ofW HT_.out HW_.out (by kernel_rfl)) (fun _ _ _ h => h) (Or.inl ⟨by rfl, ?_⟩) hHeld ?_ ?_
  rotate_left
  · rintro w' ⟨s0, s1, s2⟩
    go_simp
    with_reducible rfl
  rotate_left
  · simp only [Act.put, List.setIfInBounds_toArray, List.set_cons_zero, List.set_cons_succ, i64_w, i32_w]
    rfl
  refine take_ (i := 8) (N := some 19) (v := ?_) (a' := ?_) #[true, true, true, true, true, true, true, true, true, true, false, false, false, false, false, false, false, false, false] rfl rfl (take_ofW HT_.out HW_.out (by kernel_rfl)) (fun _ _ _ h => h) (Or.inl ⟨by rfl, ?_⟩) hHeld ?_ ?_
  rotate_left
  · rintro w' ⟨s0, s1, s2⟩
    go_simp
    with_reducible rfl
  rotate_left
  · simp only [Act.put, List.setIfInBounds_toArray, List.set_cons_zero, List.set_cons_succ, i64_w, i32_w]
    rfl
  refine pure_ (i := 10) (N := some 21) (v := ?_) (a' := ?_) #[true, true, true, true, true, true, true, true, true, true, true, false, false, false, false, false, false, false, false] rfl rfl (any_of HT_.out (by kernel_rfl)) (fun _ _ _ h => h) (Or.inl ⟨by rfl, ?_⟩) ?_ ?_
  rotate_left
  · intro w'
    go_simp
    with_reducible rfl
  rotate_left
  · simp only [Act.put, List.setIfInBounds_toArray, List.set_cons_zero, List.set_cons_succ, i64_w, i32_w]
    rfl
  refine take_ (i := 11) (N := some 22) (v := ?_) (a' := ?_) #[true, true, true, true, true, true, true, true, true, true, true, true, false, false, false, false, false, false, false] rfl rfl (take_ofW HT_.out HW_.out (by kernel_rfl)) (fun _ _ _ h => h) (Or.inl ⟨by rfl, ?_⟩) hHeld ?_ ?_
  rotate_left
  · rintro w' ⟨s0, s1, s2⟩
    go_simp
    with_reducible rfl
  rotate_left
  · simp only [Act.put, List.setIfInBounds_toArray, List.set_cons_zero, List.set_cons_succ, i64_w, i32_w]
    rfl
  refine one_ (i := 12) (N := some 23) #[true, true, true, true, true, true, true, true, true, true, true, true, true, false, false, false, false, false, false] rfl rfl (one_of HT_.out (by kernel_rfl)) (by decide) (fun K hK => ?_)
  refine goes_ Tryz.func160 (by kernel_rfl) rfl #[.slice A n c, .int .i32 0] (by rfl) rfl rfl (by simp only [List.map_toArray, List.map_cons, List.map_nil]; rfl) ?_
  with_reducible refine (HC.out _ (by exact bdrew (Below.refl _ _))).mono ?_
  rintro e w3 ⟨v3, rfl, hap⟩
  refine ⟨_, rfl, ?_⟩
  have hne : some B ≠ (Value.slice A n c).ownBlock := fun e => by have h1 := (HO.out.lt B e.symm).1; have h2 := HH.out.1; omega
  have hbx3 : w3.heap[B]? = _ := (hap.grown.block B (by exact hlt0) hne).trans HBX.out
  have hcg : w3.heap[gb]? = W.heap[gb]? := hap.grown.block gb (by exact hltg.out) HAP.out
  have hz3 := hap.size
  have r0 : w3.cell? ⟨B, 0, none⟩ = some (.slice A n c) := by simp only [World.cell?, hbx3]; rfl
  have r1 : w3.cell? ⟨B, 1, none⟩ = some (.slice (some ⟨gb, go, none⟩) 1 ci) := by simp only [World.cell?, hbx3]; rfl
  have ri : w3.cell? ⟨gb, go, none⟩ = some (.int .i32 0) := by rw [← qi]; simp only [World.cell?, hcg]
  have g0 : w3.frozen? ⟨B, 0, none⟩ = false := by simp only [World.frozen?, hbx3]; rfl
  have hlt3 : B < w3.heap.size := Nat.lt_of_lt_of_le hlt0 hz3
  have ho3 := hap.own
  obtain ⟨A3, c3, rfl, hs3, -⟩ := ho3.sb
  refine hK.out _ _ ⟨r0, r1, ri⟩ (fun hHeld => ?_)
  clear hK K
  refine norm_ (a' := ?_) ?_ ?_
  rotate_left
  · show Act.put _ (some 23) _ = _
    simp only [Act.put, List.setIfInBounds_toArray, List.set_cons_zero, List.set_cons_succ, i64_w, i32_w]
    rfl
  refine pure_ (i := 13) (N := some 10) (v := ?_) (a' := ?_) #[true, true, true, true, true, true, true, true, true, true, true, true, true, true, false, false, false, false, false] rfl rfl (any_of HT_.out (by kernel_rfl)) (fun _ _ _ h => h) (Or.inl ⟨by rfl, ?_⟩) ?_ ?_
  rotate_left
  · intro w'
    go_simp
    with_reducible rfl
  rotate_left
  · simp only [Act.put, List.setIfInBounds_toArray, List.set_cons_zero, List.set_cons_succ, i64_w, i32_w]
    rfl
  refine pure_ (i := 14) (N := some 24) (v := ?_) (a' := ?_) #[true, true, true, true, true, true, true, true, true, true, true, true, true, true, true, false, false, false, false] rfl rfl (any_of HT_.out (by kernel_rfl)) (fun _ _ _ h => h) (Or.inl ⟨by rfl, ?_⟩) ?_ ?_
  rotate_left
  · intro w'
    go_simp
    with_reducible rfl
  rotate_left
  · simp only [Act.put, List.setIfInBounds_toArray, List.set_cons_zero, List.set_cons_succ, i64_w, i32_w]
    rfl
  refine pure_ (i := 15) (N := some 25) (v := ?_) (a' := ?_) #[true, true, true, true, true, true, true, true, true, true, true, true, true, true, true, true, false, false, false] rfl rfl (any_of HT_.out (by kernel_rfl)) (fun _ _ _ h => h) (Or.inl ⟨by rfl, ?_⟩) ?_ ?_
  rotate_left
  · intro w'
    go_simp
    with_reducible rfl
  rotate_left
  · simp only [Act.put, List.setIfInBounds_toArray, List.set_cons_zero, List.set_cons_succ, i64_w, i32_w]
    rfl
  refine pure_ (i := 16) (N := some 26) (v := ?_) (a' := ?_) #[true, true, true, true, true, true, true, true, true, true, true, true, true, true, true, true, true, false, false] rfl rfl (any_of HT_.out (by kernel_rfl)) (fun _ _ _ h => h) (Or.inl ⟨by rfl, ?_⟩) ?_ ?_
  rotate_left
  · intro w'
    go_simp
    with_reducible rfl
  rotate_left
  · simp only [Act.put, List.setIfInBounds_toArray, List.set_cons_zero, List.set_cons_succ, i64_w, i32_w]
    rfl
  refine pure_ (i := 17) (N := some 27) (v := ?_) (a' := ?_) #[true, true, true, true, true, true, true, true, true, true, true, true, true, true, true, true, true, true, false] rfl rfl (any_of HT_.out (by kernel_rfl)) (fun _ _ _ h => h) (Or.inl ⟨by rfl, ?_⟩) ?_ ?_
  rotate_left
  · intro w'
    go_simp
    with_reducible rfl
  rotate_left
  · simp only [Act.put, List.setIfInBounds_toArray, List.set_cons_zero, List.set_cons_succ, i64_w, i32_w]
    rfl
  refine last_ (i := 18) (N := none) #[true, true, true, true, true, true, true, true, true, true, true, true, true, true, true, true, true, true, true] rfl rfl (one_of HT_.out (by kernel_rfl)) (by decide) (fun K hK => ?_)
  refine skip_ (w1 := ?_) (by rfl) rfl ?_ ?_
  rotate_left
  · go_simp
    rfl
  refine hK.out _ _ ?_
  clear hK K
  refine done_ (done_of HT_.out (by kernel_rfl)) ?_
  have hb3 : Below base W w3 := bleft (hap.kept (HO.out.keep (bdrew (Below.refl _ _))) (by exact HH.out.2))
  have g1 : w3.frozen? ⟨B, 1, none⟩ = false := by simp only [World.frozen?, hbx3]; rfl
  have HB3 : Hid (Below B W w3) := Lib.hid (hb3.mono (by have := HH.out.1; omega))
  have hfar : ∀ a, A3 = some a → a.block ≠ B := fun a ha => by have h1 := ho3.newer a ha; have h2 := HH.out.1; omega
  have HF := Lib.hid hfar
  have HS3 := Lib.hid hs3
  clear hap ho3 hs3 hb3 hfar hne hbx3 hcg hz3 HC q0 q1 qi f0 f1 ri
  go_wp2_with fail
  go_ret
  exact ⟨A3, c3, rfl, (HS3.out.far HF.out _).far HF.out _, (HB3.out.setCell (Nat.le_refl _) _).setCell (Nat.le_refl _) _⟩
end Aw
end Go.Proofs.YtbpopaegfhcdpaaGreatDoor.X


/- Built of one element of 32 bits. -/
set_option linter.unusedVariables false
set_option linter.unusedSimpArgs false
set_option maxRecDepth 100000
namespace Go.Proofs.YtbpopaegfhcdpaaGreatDoor.X
open Go.RowKit Go.Proofs.YtbpopaegfhcdpaaGreatDoorW.PrintLast
namespace Aw
def KidAt (W : World) (kb : Nat) (sa : ByteArray) : Prop := ∃ s1 s2, W.heap[kb]? = some (.cells #[.string sa, .int .i64 16, .string s1, .string s2, .int .i64 7, .int .u64 0, .int .u64 0, .slice none 0 0, .slice none 0 0] 59 (0, 0))
set_option maxHeartbeats 1600000 in
theorem buildOne (W : World) (base B kb : Nat) (l : List UInt8) (sa : ByteArray) (hsa : sa = ⟨#[97]⟩) (hB : B < base) (hbase : base ≤ W.heap.size) (hk : KidAt W kb sa) (h : Bld W base B l) (hl : l.length ≤ 1000) :
    Calls Tryz.prog 121 #[.pointer (some ⟨B, 0, none⟩), .slice (some ⟨kb, 0, none⟩) 1 1] W fun e w' => e = .returned (.tuple #[]) ∧ Bld w' base B (l ++ [16, 97, 0, 7, 0, 0, 0]) ∧ Below B W w' := by
  obtain ⟨s1, s2, hkid⟩ := hk
  have k0 : W.cell? ⟨kb, 0, none⟩ = some (.string sa) := by simp only [World.cell?, hkid]; rfl
  have k1 : W.cell? ⟨kb, 1, none⟩ = some (.int .i64 16) := by simp only [World.cell?, hkid]; rfl
  have k2 : W.cell? ⟨kb, 2, none⟩ = some (.string s1) := by simp only [World.cell?, hkid]; rfl
  have k3 : W.cell? ⟨kb, 3, none⟩ = some (.string s2) := by simp only [World.cell?, hkid]; rfl
  have k4 : W.cell? ⟨kb, 4, none⟩ = some (.int .i64 7) := by simp only [World.cell?, hkid]; rfl
  have k5 : W.cell? ⟨kb, 5, none⟩ = some (.int .u64 0) := by simp only [World.cell?, hkid]; rfl
  have k6 : W.cell? ⟨kb, 6, none⟩ = some (.int .u64 0) := by simp only [World.cell?, hkid]; rfl
  have k7 : W.cell? ⟨kb, 7, none⟩ = some (.slice none 0 0) := by simp only [World.cell?, hkid]; rfl
  have k8 : W.cell? ⟨kb, 8, none⟩ = some (.slice none 0 0) := by simp only [World.cell?, hkid]; rfl
  have HC : Hid (∀ wx, Below W.heap.size W wx → Calls Tryz.prog 187 #[.pointer (some ⟨B, 0, none⟩), .string sa, .int .i32 7] wx fun e w' => e = .returned (.pointer (some ⟨B, 0, none⟩)) ∧ Bld w' base B (l ++ [16, 97, 0, 7, 0, 0, 0]) ∧ Below B W w') := Lib.hid fun wx hx => by
    have hb : Bld wx base B l := by
      obtain ⟨A, c, Ai, ci, hbx, ho, hg⟩ := h
      exact ⟨A, c, Ai, ci, (hx.block B (by omega)).trans hbx, ho.keep hx, hg.keep hx⟩
    refine (append7 wx base B l sa hsa hB (by have := hx.size; omega) hb hl).mono ?_
    rintro e w' ⟨rfl, h1, h2⟩
    exact ⟨rfl, h1, (hx.mono (by omega)).trans h2⟩
  have hltk : kb < W.heap.size := World.block_lt_of_cell? _ _ k0
  clear hsa hB hbase h hl hkid
  go_enter Tryz.func121, Tryz.ntmps121
  go_wp2_with fail
  go_loopw [9] (fun i wr => (i = .int .i64 0 ∧ wr = W) ∨ (i = .int .i64 1 ∧ Hid (Bld wr base B (l ++ [16, 97, 0, 7, 0, 0, 0]) ∧ Below B W wr))) (fun i _ => 1 - (intOf i).toNat)
  case atStart => exact Or.inl ⟨rfl, rfl⟩
  case round =>
    rcases hrel with ⟨rfl, rfl⟩ | ⟨rfl, hd⟩
    · go_wp2_with fail
      refine (HC.out _ (by exact balloc (balloc (Below.refl _ _) (Nat.le_refl _) _) (by simp) _)).mono ?_
      rintro e w1 ⟨rfl, h1, h2⟩
      have HD := Lib.hid (And.intro h1 h2)
      clear h1 h2 HC k0 k1 k2 k3 k4 k5 k6 k7 k8 hltk
      go_wp2_with fail
      go_roundw
      case rel => exact Or.inr ⟨by first | rfl | trivial, HD⟩
      case measure => simp [intOf]
    · clear k0 k1 k2 k3 k4 k5 k6 k7 k8 hltk
      go_wp2_with fail
      exact bodyPost_end (v := .tuple #[]) (by first | rfl | simp [results, Tryz.results121, go_sem]) rfl ⟨rfl, hd.out⟩
theorem builtOne (W : World) (kb : Nat) (sa : ByteArray) (hsa : sa = ⟨#[97]⟩) (hk : KidAt W kb sa) :
    Calls Tryz.prog 65 #[.slice (some ⟨kb, 0, none⟩) 1 1] W fun e w' => ∃ A c, e = .returned (.slice A 12 c) ∧ SB w' A c [12, 0, 0, 0, 16, 97, 0, 7, 0, 0, 0, 0] ∧ Below W.heap.size W w' := by
  have HN := Lib.hid (newBuilder W)
  have HC : Hid (∀ wx, Bld wx (W.heap.size + 1) W.heap.size [0, 0, 0, 0] → Below W.heap.size W wx → W.heap.size + 1 ≤ wx.heap.size → Calls Tryz.prog 121 #[.pointer (some ⟨W.heap.size, 0, none⟩), .slice (some ⟨kb, 0, none⟩) 1 1] wx fun e w' => e = .returned (.tuple #[]) ∧ Bld w' (W.heap.size + 1) W.heap.size [0, 0, 0, 0, 16, 97, 0, 7, 0, 0, 0] ∧ Below W.heap.size wx w') := Lib.hid fun wx hb hx hz => by
    obtain ⟨s1, s2, hkid⟩ := hk
    have hlt : kb < W.heap.size := (Array.getElem?_eq_some_iff.1 hkid).1
    exact buildOne wx _ _ kb [0, 0, 0, 0] sa hsa (Nat.lt_succ_self _) hz ⟨s1, s2, (hx.block kb hlt).trans hkid⟩ hb (by simp)
  have HD : Hid (∀ wx, Bld wx (W.heap.size + 1) W.heap.size [0, 0, 0, 0, 16, 97, 0, 7, 0, 0, 0] → W.heap.size + 1 ≤ wx.heap.size → Calls Tryz.prog 122 #[.pointer (some ⟨W.heap.size, 0, none⟩)] wx fun e w' => ∃ A c, e = .returned (.slice A 12 c) ∧ SB w' A c [12, 0, 0, 0, 16, 97, 0, 7, 0, 0, 0, 0] ∧ Below W.heap.size wx w') := Lib.hid fun wx hb hz => by
    have h := buildDoc wx _ _ [16, 97, 0, 7, 0, 0, 0] (Nat.lt_succ_self _) hz hb (by simp)
    rw [show i32 ((([16, 97, 0, 7, 0, 0, 0] : List UInt8).length : Int) + 5) ++ ([16, 97, 0, 7, 0, 0, 0] ++ [0]) = [12, 0, 0, 0, 16, 97, 0, 7, 0, 0, 0, 0] from by decide] at h
    exact h
  clear hsa hk
  go_enter Tryz.func65, Tryz.ntmps65
  go_wp2_with fail
  refine HN.out.mono ?_
  rintro e w1 ⟨rfl, h1, hb1⟩
  have hz1 : W.heap.size + 1 ≤ w1.heap.size := by
    obtain ⟨A, c, Ai, ci, hbx, -⟩ := h1
    exact (Array.getElem?_eq_some_iff.1 hbx).1
  have HX := Lib.hid (HC.out w1 h1 hb1 hz1)
  have HB1 := Lib.hid hb1
  clear h1 hb1 HN HC
  go_wp2_with fail
  refine HX.out.mono ?_
  rintro e w2 ⟨rfl, h2, hb2⟩
  have HX2 := Lib.hid (HD.out w2 h2 (by have := hb2.size; omega))
  have HB2 := Lib.hid (HB1.out.trans hb2)
  clear h2 hb2 HX HD hz1 HB1
  go_wp2_with fail
  refine HX2.out.mono ?_
  rintro e w3 ⟨A, c, rfl, hs, hb3⟩
  have HS := Lib.hid hs
  have HB3 := Lib.hid (HB2.out.trans hb3)
  clear hs hb3 HX2 HB2
  go_wp2_with fail
  go_ret
  exact ⟨A, c, rfl, HS.out, HB3.out⟩
end Aw
end Go.Proofs.YtbpopaegfhcdpaaGreatDoor.X


/- impl.Read of a number of 32 bits and one byte more. -/
set_option linter.unusedVariables false
set_option linter.unusedSimpArgs false
set_option maxRecDepth 100000
namespace Go.Proofs.YtbpopaegfhcdpaaGreatDoor.X
open Go.RowKit Go.Proofs.YtbpopaegfhcdpaaGreatDoorW.PrintLast
namespace Aw
def R17.T59 : Bool × List (List Nat × List Nat) := (true, [([], []), ([], []), ([1], [1]), ([], []), ([0, 2, 0], [0]), ([2, 4, 0, 1, 2, 4], [1, 2]), ([3, 5, 0, 1, 2, 3, 4, 5], [3])])
def R17.B59 : List Nat := [0, 0, 2, 0, 7, 23, 63]
theorem R17.tab59 : rtab .any (opsOf Tryz.f17 59) = R17.T59 := by kernel_rfl
theorem R17.bits59 : waitsOk R17.T59.2 R17.B59 = true := by kernel_rfl
theorem bset {B g o : Nat} {w w1 : World} (h : Below B w w1) (hg : B ≤ g) (v : Value) : Below B w (w1.setCell ⟨g, o, none⟩ v) := h.setCell hg v
theorem readInt7 (A : Option Addr) (c : Nat) (w : World) (hs : SB w A c [7, 0, 0, 0, 9]) :
    Calls Tryz.prog 60 #[.slice A 5 c] w fun e w' => ∃ A1 c1, e = .returned (.tuple #[.int .i32 7, .slice A1 1 c1, .bool true]) ∧ SB w' A1 c1 [9] ∧ Below w.heap.size w w' := by
  have HI : Hid (Calls Tryz.prog 117 #[.slice A 5 c] w fun e w' => ∃ A1, e = .returned (.tuple #[.int .i32 7, .slice A1 1 (c - 4), .bool true]) ∧ SB w' A1 (c - 4) [9] ∧ Below w.heap.size w w') := Lib.hid (by
    have h := readI32 A c 7 0 0 0 [9] w hs
    rw [show wrap32 (leI [7, 0, 0, 0]) = 7 from by decide +kernel] at h
    exact h)
  clear hs
  go_enter Tryz.func60, Tryz.ntmps60
  go_wp2_with fail
  refine HI.out.mono ?_
  rintro e w1 ⟨A1, rfl, h1, h2⟩
  obtain ⟨q, hq⟩ : ∃ q, q = c - 4 := ⟨_, rfl⟩
  rw [← hq] at h1 ⊢
  have H1 := Lib.hid h1
  clear h1 hq HI
  go_wp2_with fail
  go_ret3
  exact ⟨A1, q, rfl, H1.out, h2⟩
set_option maxHeartbeats 1600000 in
theorem read7 (A : Option Addr) (c : Nat) (W : World) (hs : SB W A c [7, 0, 0, 0, 9]) :
    Calls Tryz.prog 17 #[.int .i64 16, .slice A 5 c] W fun e w' => ∃ A1 c1, e = .returned (.tuple #[.agg #[.int .i64 16, .string ⟨#[]⟩, .string ⟨#[]⟩, .int .i64 7, .int .u64 0, .int .u64 0, .slice none 0 0, .slice none 0 0], .slice A1 1 c1, .bool true]) ∧ Below W.heap.size W w' := by
  have HR := Lib.hid (fun wx (hx : Below W.heap.size W wx) => readInt7 A c wx (hs.keep hx))
  have HO : Hid (∀ (A1 : Option Addr) (c1 : Nat) wx, SB wx A1 c1 [9] → Calls Tryz.prog 40 #[.slice A1 1 c1] wx fun e w' => ∃ A3 c3, e = .returned (.slice A3 1 c3) ∧ SB w' A3 c3 [9] ∧ Below wx.heap.size wx w') := Lib.hid fun A1 c1 wx h => (fresh_of (implOwn A1 c1 [9] wx h (by simp))).mono fun e w' ⟨A3, c3, h1, h2, h3, h4⟩ => ⟨A3, c3, h1, h2, h4⟩
  clear hs
  have hB0 : Below W.heap.size W (W.alloc (.cells #[.int .i64 16, .string ⟨#[]⟩, .string ⟨#[]⟩, .int .i64 0, .int .u64 0, .int .u64 0, .slice none 0 0, .slice none 0 0] 27)) := balloc (Below.refl _ _) (Nat.le_refl _) _
  have hx0 : (W.alloc (.cells #[.int .i64 16, .string ⟨#[]⟩, .string ⟨#[]⟩, .int .i64 0, .int .u64 0, .int .u64 0, .slice none 0 0, .slice none 0 0] 27)).heap[W.heap.size]? = some (.cells #[.int .i64 16, .string ⟨#[]⟩, .string ⟨#[]⟩, .int .i64 0, .int .u64 0, .int .u64 0, .slice none 0 0, .slice none 0 0] 27 (0, 0)) := heap_alloc_new W _
  have HB0 := Lib.hid hB0
  have HX0 := Lib.hid hx0
  clear hB0 hx0
  go_enter Tryz.func17, Tryz.ntmps17
  go_wp2_with fail
  refine (HR.out _ HB0.out).mono ?_
  rintro e w1 ⟨A1, c1, rfl, hs1, hb⟩
  have hx1 := (hb.block W.heap.size (by simp)).trans HX0.out
  have hb1 : Below W.heap.size W w1 := HB0.out.trans (hb.mono (by simp))
  have hz1 : W.heap.size < w1.heap.size := by have := hb.size; simp at this; omega
  have q3 : w1.cell? ⟨W.heap.size, 3, none⟩ = some (.int .i64 0) := by simp only [World.cell?, hx1]; rfl
  have f3 : w1.frozen? ⟨W.heap.size, 3, none⟩ = false := by simp only [World.frozen?, hx1]; rfl
  have hx2 : (w1.setCell ⟨W.heap.size, 3, none⟩ (.int .i64 7)).heap[W.heap.size]? = some (.cells #[.int .i64 16, .string ⟨#[]⟩, .string ⟨#[]⟩, .int .i64 7, .int .u64 0, .int .u64 0, .slice none 0 0, .slice none 0 0] 27 (0, 0)) := by simpa using heap_setCell_same w1 W.heap.size 3 _ _ (.int .i64 7) hx1
  have HX2 := Lib.hid hx2
  have HB2 : Hid (Below W.heap.size W (w1.setCell ⟨W.heap.size, 3, none⟩ (.int .i64 7))) := Lib.hid (hb1.setCell (Nat.le_refl _) _)
  have hne : ∀ a, A1 = some a → a.block ≠ W.heap.size := by
    intro a ha e
    obtain ⟨g, off, rfl, hc⟩ := hs1.cells (by simp)
    injection ha with ha
    subst ha
    have h := hc 0 (by simp)
    have e' : g = W.heap.size := e
    rw [e'] at h
    simp only [World.cell?, hx1] at h
    match off, h with
    | 0, h => simp at h
    | 1, h => simp at h
    | 2, h => simp at h
    | 3, h => simp at h
    | 4, h => simp at h
    | 5, h => simp at h
    | 6, h => simp at h
    | 7, h => simp at h
    | n + 8, h => simp at h
  have HS1 : Hid (SB (w1.setCell ⟨W.heap.size, 3, none⟩ (.int .i64 7)) A1 c1 [9]) := Lib.hid (hs1.far hne _)
  have HZ : Hid (W.heap.size < (w1.setCell ⟨W.heap.size, 3, none⟩ (.int .i64 7)).heap.size) := Lib.hid (by simpa using hz1)
  clear hne hx1 hb hs1 hb1 hx2 HR HB0 HX0
  go_wp2_with fail
  generalize hw2 : w1.setCell ⟨W.heap.size, 3, none⟩ (.int .i64 7) = w2 at HX2 HB2 HS1 HZ ⊢
  clear hw2 q3 f3 hz1
  have p0 : w2.cell? ⟨W.heap.size, 0, none⟩ = some (.int .i64 16) := by simp only [World.cell?, HX2.out]; rfl
  have p1 : w2.cell? ⟨W.heap.size, 1, none⟩ = some (.string ⟨#[]⟩) := by simp only [World.cell?, HX2.out]; rfl
  have p2 : w2.cell? ⟨W.heap.size, 2, none⟩ = some (.string ⟨#[]⟩) := by simp only [World.cell?, HX2.out]; rfl
  have p3 : w2.cell? ⟨W.heap.size, 3, none⟩ = some (.int .i64 7) := by simp only [World.cell?, HX2.out]; rfl
  have p4 : w2.cell? ⟨W.heap.size, 4, none⟩ = some (.int .u64 0) := by simp only [World.cell?, HX2.out]; rfl
  have p5 : w2.cell? ⟨W.heap.size, 5, none⟩ = some (.int .u64 0) := by simp only [World.cell?, HX2.out]; rfl
  have p6 : w2.cell? ⟨W.heap.size, 6, none⟩ = some (.slice none 0 0) := by simp only [World.cell?, HX2.out]; rfl
  have p7 : w2.cell? ⟨W.heap.size, 7, none⟩ = some (.slice none 0 0) := by simp only [World.cell?, HX2.out]; rfl
  have z0 : w2.frozen? ⟨W.heap.size, 0, none⟩ = false := by simp only [World.frozen?, HX2.out]; rfl
  have z1 : w2.frozen? ⟨W.heap.size, 1, none⟩ = false := by simp only [World.frozen?, HX2.out]; rfl
  have z2 : w2.frozen? ⟨W.heap.size, 2, none⟩ = false := by simp only [World.frozen?, HX2.out]; rfl
  have z3 : w2.frozen? ⟨W.heap.size, 3, none⟩ = false := by simp only [World.frozen?, HX2.out]; rfl
  have z4 : w2.frozen? ⟨W.heap.size, 4, none⟩ = false := by simp only [World.frozen?, HX2.out]; rfl
  have z5 : w2.frozen? ⟨W.heap.size, 5, none⟩ = false := by simp only [World.frozen?, HX2.out]; rfl
  have z6 : w2.frozen? ⟨W.heap.size, 6, none⟩ = false := by simp only [World.frozen?, HX2.out]; rfl
  have z7 : w2.frozen? ⟨W.heap.size, 7, none⟩ = false := by simp only [World.frozen?, HX2.out]; rfl
  have hz2 := HZ.out
  refine start_ (n := 7) (S := fun w' => w'.cell? ⟨W.heap.size, 0, none⟩ = some (.int .i64 16) ∧ w'.cell? ⟨W.heap.size, 1, none⟩ = some (.string ⟨#[]⟩) ∧ w'.cell? ⟨W.heap.size, 2, none⟩ = some (.string ⟨#[]⟩) ∧ w'.cell? ⟨W.heap.size, 3, none⟩ = some (.int .i64 7) ∧ w'.cell? ⟨W.heap.size, 4, none⟩ = some (.int .u64 0) ∧ w'.cell? ⟨W.heap.size, 5, none⟩ = some (.int .u64 0) ∧ w'.cell? ⟨W.heap.size, 6, none⟩ = some (.slice none 0 0) ∧ w'.cell? ⟨W.heap.size, 7, none⟩ = some (.slice none 0 0) ∧ w'.frozen? ⟨W.heap.size, 0, none⟩ = false ∧ w'.frozen? ⟨W.heap.size, 1, none⟩ = false ∧ w'.frozen? ⟨W.heap.size, 2, none⟩ = false ∧ w'.frozen? ⟨W.heap.size, 3, none⟩ = false ∧ w'.frozen? ⟨W.heap.size, 4, none⟩ = false ∧ w'.frozen? ⟨W.heap.size, 5, none⟩ = false ∧ w'.frozen? ⟨W.heap.size, 6, none⟩ = false ∧ w'.frozen? ⟨W.heap.size, 7, none⟩ = false) (ds := [4]) #[false, false, false, false, false, false, false] (by kernel_rfl) rfl rfl ⟨(by exact p0), (by exact p1), (by exact p2), (by exact p3), (by exact p4), (by exact p5), (by exact p6), (by exact p7), (by exact z0), (by exact z1), (by exact z2), (by exact z3), (by exact z4), (by exact z5), (by exact z6), (by exact z7)⟩ (fun hHeld => ?_)
  refine with_tabW R17.tab59 R17.bits59 (fun HT_ HW_ => ?_)
  refine pure_ (i := 1) (N := some 226) (v := ?_) (a' := ?_) #[false, true, false, false, false, false, false] rfl rfl (any_of HT_.out (by kernel_rfl)) (fun _ _ _ h => h) (Or.inl ⟨by rfl, ?_⟩) ?_ ?_
  rotate_left
  · intro w'
    go_simp
    with_reducible rfl
  rotate_left
  · simp only [Act.put, List.setIfInBounds_toArray, List.set_cons_zero, List.set_cons_succ, i64_w, i32_w]
    rfl
  refine pure_ (i := 3) (N := some 228) (v := ?_) (a' := ?_) #[false, true, false, true, false, false, false] rfl rfl (any_of HT_.out (by kernel_rfl)) (fun _ _ _ h => h) (Or.inl ⟨by rfl, ?_⟩) ?_ ?_
  rotate_left
  · intro w'
    go_simp
    with_reducible rfl
  rotate_left
  · simp only [Act.put, List.setIfInBounds_toArray, List.set_cons_zero, List.set_cons_succ, i64_w, i32_w]
    rfl
  refine take_ (i := 0) (N := some 225) (v := ?_) (a' := ?_) #[true, true, false, true, false, false, false] rfl rfl (take_ofW HT_.out HW_.out (by kernel_rfl)) (fun _ _ _ h => h) (Or.inl ⟨by rfl, ?_⟩) hHeld ?_ ?_
  rotate_left
  · rintro w' ⟨s0, s1, s2, s3, s4, s5, s6, s7, s8, s9, s10, s11, s12, s13, s14, s15⟩
    go_simp
    with_reducible rfl
  rotate_left
  · simp only [Act.put, List.setIfInBounds_toArray, List.set_cons_zero, List.set_cons_succ, i64_w, i32_w]
    rfl
  refine one_ (i := 2) (N := some 227) #[true, true, true, true, false, false, false] rfl rfl (one_of HT_.out (by kernel_rfl)) (by decide) (fun K hK => ?_)
  refine goes_ Tryz.func40 (by kernel_rfl) rfl #[.slice A1 1 c1] (by rfl) rfl rfl (by simp only [List.map_toArray, List.map_cons, List.map_nil]; rfl) ?_
  with_reducible refine (HO.out A1 c1 _ HS1.out.drew).mono ?_
  rintro e w3 ⟨A3, c3, rfl, hs3, hb3⟩
  refine ⟨_, rfl, ?_⟩
  have hx3 : w3.heap[W.heap.size]? = _ := (hb3.block W.heap.size (by exact HZ.out)).trans HX2.out
  have hB3 : Below W.heap.size W w3 := HB2.out.trans ((bleft hb3).mono (Nat.le_of_lt HZ.out))
  have HB3 := Lib.hid hB3
  have hlt3 : W.heap.size < w3.heap.size := Nat.lt_of_lt_of_le HZ.out (by exact hb3.size)
  clear hB3
  have r0 : w3.cell? ⟨W.heap.size, 0, none⟩ = some (.int .i64 16) := by simp only [World.cell?, hx3]; rfl
  have r1 : w3.cell? ⟨W.heap.size, 1, none⟩ = some (.string ⟨#[]⟩) := by simp only [World.cell?, hx3]; rfl
  have r2 : w3.cell? ⟨W.heap.size, 2, none⟩ = some (.string ⟨#[]⟩) := by simp only [World.cell?, hx3]; rfl
  have r3 : w3.cell? ⟨W.heap.size, 3, none⟩ = some (.int .i64 7) := by simp only [World.cell?, hx3]; rfl
  have r4 : w3.cell? ⟨W.heap.size, 4, none⟩ = some (.int .u64 0) := by simp only [World.cell?, hx3]; rfl
  have r5 : w3.cell? ⟨W.heap.size, 5, none⟩ = some (.int .u64 0) := by simp only [World.cell?, hx3]; rfl
  have r6 : w3.cell? ⟨W.heap.size, 6, none⟩ = some (.slice none 0 0) := by simp only [World.cell?, hx3]; rfl
  have r7 : w3.cell? ⟨W.heap.size, 7, none⟩ = some (.slice none 0 0) := by simp only [World.cell?, hx3]; rfl
  have g0 : w3.frozen? ⟨W.heap.size, 0, none⟩ = false := by simp only [World.frozen?, hx3]; rfl
  have g1 : w3.frozen? ⟨W.heap.size, 1, none⟩ = false := by simp only [World.frozen?, hx3]; rfl
  have g2 : w3.frozen? ⟨W.heap.size, 2, none⟩ = false := by simp only [World.frozen?, hx3]; rfl
  have g3 : w3.frozen? ⟨W.heap.size, 3, none⟩ = false := by simp only [World.frozen?, hx3]; rfl
  have g4 : w3.frozen? ⟨W.heap.size, 4, none⟩ = false := by simp only [World.frozen?, hx3]; rfl
  have g5 : w3.frozen? ⟨W.heap.size, 5, none⟩ = false := by simp only [World.frozen?, hx3]; rfl
  have g6 : w3.frozen? ⟨W.heap.size, 6, none⟩ = false := by simp only [World.frozen?, hx3]; rfl
  have g7 : w3.frozen? ⟨W.heap.size, 7, none⟩ = false := by simp only [World.frozen?, hx3]; rfl
  refine hK.out _ _ ⟨r0, r1, r2, r3, r4, r5, r6, r7, g0, g1, g2, g3, g4, g5, g6, g7⟩ (fun hHeld => ?_)
  clear hK K
  refine norm_ (a' := ?_) ?_ ?_
  rotate_left
  · show Act.put _ (some 227) _ = _
    simp only [Act.put, List.setIfInBounds_toArray, List.set_cons_zero, List.set_cons_succ, i64_w, i32_w]
    rfl
  refine last_ (i := 4) (N := none) #[true, true, true, true, true, false, false] rfl rfl (one_of HT_.out (by kernel_rfl)) (by decide) (fun K hK => ?_)
  refine skip_ (w1 := ?_) (by rfl) rfl ?_ ?_
  rotate_left
  · go_simp
    rfl
  refine hK.out _ _ ?_
  clear hK K
  refine pure_ (i := 5) (N := some 5) (v := ?_) (a' := ?_) #[true, true, true, true, true, true, false] rfl rfl (any_of HT_.out (by kernel_rfl)) (fun _ _ _ h => h) (Or.inl ⟨by rfl, ?_⟩) ?_ ?_
  rotate_left
  · intro w'
    go_simp
    with_reducible rfl
  rotate_left
  · simp only [Act.put, List.setIfInBounds_toArray, List.set_cons_zero, List.set_cons_succ, i64_w, i32_w]
    rfl
  refine pure_ (i := 6) (N := some 6) (v := ?_) (a' := ?_) #[true, true, true, true, true, true, true] rfl rfl (any_of HT_.out (by kernel_rfl)) (fun _ _ _ h => h) (Or.inl ⟨by rfl, ?_⟩) ?_ ?_
  rotate_left
  · intro w'
    go_simp
    with_reducible rfl
  rotate_left
  · simp only [Act.put, List.setIfInBounds_toArray, List.set_cons_zero, List.set_cons_succ, i64_w, i32_w]
    rfl
  refine done_ (done_of HT_.out (by kernel_rfl)) ?_
  have t0 := hHeld.1
  have t1 := hHeld.2.1
  have t2 := hHeld.2.2.1
  have t3 := hHeld.2.2.2.1
  have t4 := hHeld.2.2.2.2.1
  have t5 := hHeld.2.2.2.2.2.1
  have t6 := hHeld.2.2.2.2.2.2.1
  have t7 := hHeld.2.2.2.2.2.2.2.1
  clear hHeld
  go_wp2_with fail
  exact bodyPost_ret (v := .tuple #[.agg #[.int .i64 16, .string ⟨#[]⟩, .string ⟨#[]⟩, .int .i64 7, .int .u64 0, .int .u64 0, .slice none 0 0, .slice none 0 0], .slice A3 1 c3, .bool true]) (by simp [results, Tryz.results17, go_sem, t0, t1, t2, t3, t4, t5, t6, t7]) rfl ⟨A3, c3, rfl, bset (bset (bset (bset (bset (bset (bset (bset HB3.out (Nat.le_refl _) _) (Nat.le_refl _) _) (Nat.le_refl _) _) (Nat.le_refl _) _) (Nat.le_refl _) _) (Nat.le_refl _) _) (Nat.le_refl _) _) (Nat.le_refl _) _⟩
end Aw
end Go.Proofs.YtbpopaegfhcdpaaGreatDoor.X


/- The layers' names and values of elements, for all bytes. -/
set_option linter.unusedVariables false
set_option linter.unusedSimpArgs false
set_option maxRecDepth 100000
namespace Go.Proofs.YtbpopaegfhcdpaaGreatDoor.X
open Go.RowKit Go.Proofs.YtbpopaegfhcdpaaGreatDoorW.PrintLast
namespace A2
open Al
def R70.T1 : Bool × List (List Nat × List Nat) := (true, [([], []), ([0], [0]), ([1], [1]), ([], []), ([3], [3]), ([4], [4]), ([2, 5], [2, 5]), ([6, 5, 0, 1, 2, 3, 4, 5, 6], [6])])
def R70.B1 : List Nat := [0, 1, 3, 0, 8, 24, 63, 127]
theorem R70.tab1 : rtab .any (opsOf Tryz.f70 1) = R70.T1 := by kernel_rfl
theorem R70.bits1 : waitsOk R70.T1.2 R70.B1 = true := by kernel_rfl
theorem implRaw (A : Option Addr) (c : Nat) (l : List UInt8) (k : Int) (w : World) (hs : SB w A c l) (h0 : 0 ≤ k) (h1 : k ≤ 255) (hl : l.length ≤ 140737488355328) :
    Calls Tryz.prog 70 #[.agg #[.int .u8 k, .slice A l.length c]] w fun e w' => ∃ A1 c1, e = .returned (.agg #[.int .i64 k, .slice A1 l.length c1]) ∧ SB w' A1 c1 l ∧ (∀ a, A1 = some a → w.heap.size ≤ a.block) ∧ Below w.heap.size w w' := by
  have HC := Lib.hid (fun wx (h : Below w.heap.size w wx) => fresh_of (implOwn A c l wx (hs.keep h) hl))
  have hw : IntKind.i64.wrap k = k := IntWalk.i64_in _ (by omega)
  obtain ⟨q, hq⟩ : ∃ q, q = l.length := ⟨_, rfl⟩
  rw [← hq] at HC ⊢
  clear hq hs hl
  go_enter Tryz.func70, Tryz.ntmps70
  go_wp2_with fail
  refine start_ (n := 8) (S := fun w' => w'.cell? ⟨w.heap.size, 0, none⟩ = some (.int .u8 k) ∧ w'.cell? ⟨w.heap.size, 1, none⟩ = some (.slice A q c) ∧ w'.cell? ⟨w.heap.size + 1, 0, none⟩ = some (.int .i64 0) ∧ w'.cell? ⟨w.heap.size + 1, 1, none⟩ = some (.slice none 0 0) ∧ w'.frozen? ⟨w.heap.size + 1, 0, none⟩ = false ∧ w'.frozen? ⟨w.heap.size + 1, 1, none⟩ = false) (ds := [7]) #[false, false, false, false, false, false, false, false] (by kernel_rfl) rfl rfl ⟨(by go_simp), (by go_simp), (by go_simp), (by go_simp), (by go_simp), (by go_simp)⟩ (fun hHeld => ?_)
  refine with_tabW R70.tab1 R70.bits1 (fun HT_ HW_ => ?_)
  refine pure_ (i := 0) (N := some 3) (v := ?_) (a' := ?_) #[true, false, false, false, false, false, false, false] rfl rfl (any_of HT_.out (by kernel_rfl)) (fun _ _ _ h => h) (Or.inl ⟨by rfl, ?_⟩) ?_ ?_
  rotate_left
  · intro w'
    go_simp
    with_reducible rfl
  rotate_left
  · simp only [Act.put, List.setIfInBounds_toArray, List.set_cons_zero, List.set_cons_succ, i64_w, i32_w]
    rfl
  refine pure_ (i := 3) (N := some 6) (v := ?_) (a' := ?_) #[true, false, false, true, false, false, false, false] rfl rfl (any_of HT_.out (by kernel_rfl)) (fun _ _ _ h => h) (Or.inl ⟨by rfl, ?_⟩) ?_ ?_
  rotate_left
  · intro w'
    go_simp
    with_reducible rfl
  rotate_left
  · simp only [Act.put, List.setIfInBounds_toArray, List.set_cons_zero, List.set_cons_succ, i64_w, i32_w]
    rfl
  refine take_ (i := 1) (N := some 4) (v := ?_) (a' := ?_) #[true, true, false, true, false, false, false, false] rfl rfl (take_ofW HT_.out HW_.out (by kernel_rfl)) (fun _ _ _ h => h) (Or.inl ⟨by rfl, ?_⟩) hHeld ?_ ?_
  rotate_left
  · rintro w' ⟨s0, s1, s2, s3, s4, s5⟩
    go_simp
    with_reducible rfl
  rotate_left
  · simp only [Act.put, List.setIfInBounds_toArray, List.set_cons_zero, List.set_cons_succ, i64_w, i32_w]
    rfl
  refine pure_ (i := 2) (N := some 5) (v := ?_) (a' := ?_) #[true, true, true, true, false, false, false, false] rfl rfl (any_of HT_.out (by kernel_rfl)) (fun _ _ _ h => h) (Or.inl ⟨by rfl, ?_⟩) ?_ ?_
  rotate_left
  · intro w'
    go_simp
    with_reducible rfl
  rotate_left
  · simp only [Act.put, List.setIfInBounds_toArray, List.set_cons_zero, List.set_cons_succ, i64_w, i32_w]
    rfl
  refine take_ (i := 4) (N := some 7) (v := ?_) (a' := ?_) #[true, true, true, true, true, false, false, false] rfl rfl (take_ofW HT_.out HW_.out (by kernel_rfl)) (fun _ _ _ h => h) (Or.inl ⟨by rfl, ?_⟩) hHeld ?_ ?_
  rotate_left
  · rintro w' ⟨s0, s1, s2, s3, s4, s5⟩
    go_simp
    with_reducible rfl
  rotate_left
  · simp only [Act.put, List.setIfInBounds_toArray, List.set_cons_zero, List.set_cons_succ, i64_w, i32_w]
    rfl
  refine one_ (i := 5) (N := some 8) #[true, true, true, true, true, true, false, false] rfl rfl (one_of HT_.out (by kernel_rfl)) (by decide) (fun K hK => ?_)
  refine goes_ Tryz.func40 (by kernel_rfl) rfl #[.slice A q c] (by rfl) rfl rfl (by simp only [List.map_toArray, List.map_cons, List.map_nil]; rfl) ?_
  with_reducible refine (HC.out _ (bdrew (balloc (balloc (Below.refl _ _) (Nat.le_refl _) _) (by simp) _))).mono ?_
  rintro e w3 ⟨A3, c3, rfl, hs3, ho3, hb3⟩
  refine ⟨_, rfl, ?_⟩
  have HS3 := Lib.hid hs3
  have HN3 : Hid (∀ a, A3 = some a → a.block ≠ w.heap.size + 1) := Lib.hid fun a ha => by have h := ho3.newer a ha; simp at h; omega
  have HM3 : Hid (∀ a, A3 = some a → w.heap.size ≤ a.block) := Lib.hid fun a ha => by have h := ho3.newer a ha; simp at h; omega
  clear ho3
  have hB3 : Below w.heap.size w w3 := (bdrew (balloc (balloc (Below.refl _ _) (Nat.le_refl _) _) (by simp) _)).trans (hb3.mono (by simp; omega))
  have HB3 := Lib.hid hB3
  have hlt3 : w.heap.size + 1 < w3.heap.size := by have := hb3.size; simp at this; omega
  clear hs3 hB3
  refine hK.out _ _ ⟨((hb3.cell (World.block_lt_of_cell? _ _ hHeld.1)).trans hHeld.1), ((hb3.cell (World.block_lt_of_cell? _ _ hHeld.2.1)).trans hHeld.2.1), ((hb3.cell (World.block_lt_of_cell? _ _ hHeld.2.2.1)).trans hHeld.2.2.1), ((hb3.cell (World.block_lt_of_cell? _ _ hHeld.2.2.2.1)).trans hHeld.2.2.2.1), ((hb3.frozen (p := ⟨w.heap.size + 1, 0, none⟩) (by simp)).trans hHeld.2.2.2.2.1), ((hb3.frozen (p := ⟨w.heap.size + 1, 1, none⟩) (by simp)).trans hHeld.2.2.2.2.2)⟩ (fun hHeld => ?_)
  clear hK K
  refine norm_ (a' := ?_) ?_ ?_
  rotate_left
  · show Act.put _ (some 8) _ = _
    simp only [Act.put, List.setIfInBounds_toArray, List.set_cons_zero, List.set_cons_succ, i64_w, i32_w]
    rfl
  refine pure_ (i := 6) (N := some 9) (v := ?_) (a' := ?_) #[true, true, true, true, true, true, true, false] rfl rfl (any_of HT_.out (by kernel_rfl)) (fun _ _ _ h => h) (Or.inl ⟨by rfl, ?_⟩) ?_ ?_
  rotate_left
  · intro w'
    go_simp
    with_reducible rfl
  rotate_left
  · simp only [Act.put, List.setIfInBounds_toArray, List.set_cons_zero, List.set_cons_succ, i64_w, i32_w]
    rfl
  refine last_ (i := 7) (N := none) #[true, true, true, true, true, true, true, true] rfl rfl (one_of HT_.out (by kernel_rfl)) (by decide) (fun K hK => ?_)
  refine skip_ (w1 := ?_) (by rfl) rfl ?_ ?_
  rotate_left
  · go_simp
    rfl
  refine hK.out _ _ ?_
  clear hK K
  refine done_ (done_of HT_.out (by kernel_rfl)) ?_
  go_wp2_with fail
  exact bodyPost_ret (v := .agg #[.int .i64 k, .slice A3 q c3]) (by simp [results, Tryz.results70, go_sem, hHeld.2.2.1, hHeld.2.2.2.1]) rfl ⟨A3, c3, rfl, (HS3.out.far HN3.out _).far HN3.out _, HM3.out, (HB3.out.setCell (by simp) _).setCell (by simp) _⟩
end A2
end Go.Proofs.YtbpopaegfhcdpaaGreatDoor.X


/- The look-up of one name in one document, in both layers. -/
set_option linter.unusedVariables false
set_option linter.unusedSimpArgs false
set_option maxRecDepth 100000
namespace Go.Proofs.YtbpopaegfhcdpaaGreatDoor.X
open Go.RowKit Go.Proofs.YtbpopaegfhcdpaaGreatDoorW.PrintLast
namespace Lo
open Al A2
def R69.T13 : Bool × List (List Nat × List Nat) := (true, [([], []), ([0], [0]), ([1], [1]), ([], []), ([3], [3]), ([4], [4]), ([2, 5], [2, 5])])
def R69.B13 : List Nat := [0, 1, 3, 0, 8, 24, 63]
theorem R69.tab13 : rtab .any (opsOf Tryz.f69 13) = R69.T13 := by kernel_rfl
theorem R69.bits13 : waitsOk R69.T13.2 R69.B13 = true := by kernel_rfl
theorem SB.notbox {w wr : World} {cs : List Value} {t : TypeId} {fr : Nat × Nat} (hb : Below (w.heap.size + 1) (w.alloc (.cells cs.toArray t fr)) wr) {A : Option Addr} {c : Nat} {l : List UInt8} (hs : SB wr A c l) (hl : cs.length < l.length) : ∀ a, A = some a → a.block ≠ w.heap.size := by
  obtain ⟨b, off, rfl, hc⟩ := hs.cells (by omega)
  rintro a ha
  injection ha with ha
  subst ha
  intro hbk
  have h := hc cs.length hl
  have h2 := boxc hb (off + cs.length)
  have hbk' : b = w.heap.size := hbk
  rw [hbk', h2, List.getElem?_eq_none (by omega)] at h
  cases h
def docB : List UInt8 := [12, 0, 0, 0, 16, 97, 0, 7, 0, 0, 0, 0]
def rest8 : List UInt8 := 16 :: ([97] ++ 0 :: [7, 0, 0, 0, 0])
def el7 : List UInt8 := 16 :: ([97] ++ 0 :: [7, 0, 0, 0])
def l4 : List UInt8 := [7, 0, 0, 0]
theorem keyBytes (A : Option Addr) (c : Nat) (k0 : UInt8) (nm bl : List UInt8) (w : World) (hs : SB w A c (k0 :: (nm ++ 0 :: bl))) (hn : plainB nm = true) (hmax : (k0 :: (nm ++ 0 :: bl)).length ≤ 140737488355328) :
    Calls Tryz.prog 129 #[.slice A (k0 :: (nm ++ 0 :: bl)).length c] w fun e w' => ∃ A1 c1, e = .returned (.slice A1 nm.length c1) ∧ SB w A1 c1 nm ∧ w = w' := by
  have HK := Lib.hid (keyBytesErr A c k0 nm bl w hs hn hmax)
  obtain ⟨p, hp⟩ : ∃ p, p = (k0 :: (nm ++ 0 :: bl)).length := ⟨_, rfl⟩
  obtain ⟨q, hq⟩ : ∃ p, p = nm.length := ⟨_, rfl⟩
  rw [← hp, ← hq] at HK ⊢
  clear hs hn hmax hp hq
  go_enter Tryz.func129, Tryz.ntmps129
  go_wp2_with fail
  refine HK.out.mono ?_
  rintro e w1 ⟨A1, c1, rfl, hs1, rfl⟩
  have HS := Lib.hid hs1
  clear hs1 HK
  go_wp2_with fail
  go_ret
  exact ⟨A1, c1, rfl, HS.out, rfl⟩
set_option maxHeartbeats 1000000 in
theorem lookupErr (A : Option Addr) (c kb ko ck : Nat) (sa : ByteArray) (w : World) (hsa : sa = ⟨#[97]⟩) (hs : SB w A c docB) (hk : w.cell? ⟨kb, ko, none⟩ = some (.string sa)) :
    Calls Tryz.prog 69 #[.slice A 12 c, .slice (some ⟨kb, ko, none⟩) 1 ck] w fun e w' => ∃ A1 c1, e = .returned (.tuple #[.agg #[.int .u8 16, .slice A1 4 c1], .nilIface]) ∧ SB w' A1 c1 l4 ∧ Below w.heap.size w w' := by
  have HL : Hid (∀ wx : World, Below w.heap.size w wx → Calls Tryz.prog 114 #[.slice A 12 c] wx fun e w' => ∃ A1 c1, e = .returned (.tuple #[.int .i32 12, .slice A1 8 c1, .bool true]) ∧ SB w' A1 c1 rest8 ∧ Below wx.heap.size wx w') := Lib.hid fun wx h => by
    refine (readLength A c docB wx (hs.keep h)).mono ?_
    rintro e w' ⟨A1, n1, c1, rfl, h4, -, hb⟩
    obtain ⟨rfl, rfl, h5⟩ := h4 (by decide)
    exact ⟨A1, _, by rw [show readLen docB = (12, true) from by decide +kernel]; rfl, h5, hb⟩
  have HE : Hid (∀ A1 c1 (wx : World), SB wx A1 c1 rest8 → Calls Tryz.prog 128 #[.slice A1 8 c1] wx fun e w' => ∃ A2 c2 A3 c3, e = .returned (.tuple #[.slice A2 7 c2, .slice A3 1 c3, .bool true]) ∧ SB w' A2 c2 el7 ∧ Below wx.heap.size wx w') := Lib.hid fun A1 c1 wx h => by
    refine (readElement_ok A1 c1 16 [97] [7, 0, 0, 0, 0] 4 wx h (by decide) (by decide) (by decide) (by decide)).mono ?_
    rintro e w' ⟨A2, c2, A3, c3, rfl, hss, hb⟩
    exact ⟨A2, c2, A3, c3, rfl, (hss w' (h.keep hb)).1, hb⟩
  have HK : Hid (∀ A1 c1 (wx : World), SB wx A1 c1 el7 → Calls Tryz.prog 129 #[.slice A1 7 c1] wx fun e w' => ∃ A2 n2 c2, e = .returned (.slice A2 n2 c2) ∧ (convert 22 9 (.slice A2 n2 c2)).run Tryz.prog w' = .ok (.string sa) w' ∧ Below wx.heap.size wx w') := Lib.hid fun A1 c1 wx h => by
    refine (keyBytes A1 c1 16 [97] [7, 0, 0, 0] wx h (by decide) (by decide)).mono ?_
    rintro e w' ⟨A2, c2, rfl, h2, rfl⟩
    exact ⟨A2, _, c2, rfl, by rw [hsa]; exact str_of h2, Below.refl _ _⟩
  have HV : Hid (∀ A1 c1 (wx : World), SB wx A1 c1 el7 → Calls Tryz.prog 134 #[.slice A1 7 c1] wx fun e w' => ∃ A2 c2, e = .returned (.tuple #[.agg #[.int .u8 16, .slice A2 4 c2], .nilIface]) ∧ SB w' A2 c2 l4 ∧ Below wx.heap.size wx w') := Lib.hid fun A1 c1 wx h => by
    refine (valueErr A1 c1 16 [97] [7, 0, 0, 0] wx h (by decide) (by decide) (by decide)).mono ?_
    rintro e w' ⟨A2, c2, rfl, hss, hb⟩
    exact ⟨A2, c2, rfl, hss w' (h.keep hb), hb⟩
  have hk2 := World.block_lt_of_cell? _ _ hk
  clear hs hsa
  go_enter Tryz.func69, Tryz.ntmps69
  go_wp2_with fail
  refine (HL.out _ (balloc (Below.refl _ _) (Nat.le_refl _) _)).mono ?_
  rintro e w1 ⟨A1, c1, rfl, hs1, hb⟩
  have hb1 : Below (w.heap.size + 1) (w.alloc (.cells #[.int .u8 0, .slice none 0 0] 73)) w1 := by simpa using hb
  have HB1 := Lib.hid hb1
  have HS1 := Lib.hid hs1
  have hk1 : w1.cell? ⟨kb, ko, none⟩ = some (.string sa) := ((boxb hb1).cell hk2).trans hk
  have hz1 := boxs hb1
  clear hb hb1 hs1 HL hk
  go_wp2_with fail
  go_loop [6, 7] (fun i r => i = .int .i32 8 ∧ r = .slice A1 8 c1) (fun _ _ => 0)
  case atStart => exact ⟨rfl, rfl⟩
  case round =>
    obtain ⟨rfl, rfl⟩ := hrel
    go_wp2_with fail
    refine (HE.out A1 c1 _ HS1.out).mono ?_
    rintro e w2 ⟨A2, c2, A3, c3, rfl, hs2, hb2⟩
    have HB2 := Lib.hid (HB1.out.trans (hb2.mono hz1))
    have HS2 := Lib.hid hs2
    have hkk : w2.cell? ⟨kb, ko, none⟩ = some (.string sa) := (hb2.cell (World.block_lt_of_cell? _ _ hk1)).trans hk1
    clear hs2 hb2 HS1 HB1 HE hk1
    go_wp2_with fail
    refine start_ (n := 7) (S := fun w' => w'.cell? ⟨kb, ko, none⟩ = some (.string sa)) (ds := []) #[false, false, false, false, false, false, false] (by kernel_rfl) rfl rfl ((by exact hkk)) (fun hHeld => ?_)
    refine with_tabW R69.tab13 R69.bits13 (fun HT_ HW_ => ?_)
    refine pure_ (i := 0) (N := some 55) (v := ?_) (a' := ?_) #[true, false, false, false, false, false, false] rfl rfl (any_of HT_.out (by kernel_rfl)) (fun _ _ _ h => h) (Or.inl ⟨by rfl, ?_⟩) ?_ ?_
    rotate_left
    · intro w'
      go_simp
      with_reducible rfl
    rotate_left
    · simp only [Act.put, List.setIfInBounds_toArray, List.set_cons_zero, List.set_cons_succ, i64_w, i32_w]
      rfl
    refine pure_ (i := 3) (N := some 58) (v := ?_) (a' := ?_) #[true, false, false, true, false, false, false] rfl rfl (any_of HT_.out (by kernel_rfl)) (fun _ _ _ h => h) (Or.inl ⟨by rfl, ?_⟩) ?_ ?_
    rotate_left
    · intro w'
      go_simp
      with_reducible rfl
    rotate_left
    · simp only [Act.put, List.setIfInBounds_toArray, List.set_cons_zero, List.set_cons_succ, i64_w, i32_w]
      rfl
    refine pure_ (i := 4) (N := some 59) (v := ?_) (a' := ?_) #[true, false, false, true, true, false, false] rfl rfl (any_of HT_.out (by kernel_rfl)) (fun _ _ _ h => h) (Or.inl ⟨by rfl, ?_⟩) ?_ ?_
    rotate_left
    · intro w'
      go_simp
      with_reducible rfl
    rotate_left
    · simp only [Act.put, List.setIfInBounds_toArray, List.set_cons_zero, List.set_cons_succ, i64_w, i32_w]
      rfl
    refine take_ (i := 5) (N := some 60) (v := ?_) (a' := ?_) #[true, false, false, true, true, true, false] rfl rfl (take_ofW HT_.out HW_.out (by kernel_rfl)) (fun _ _ _ h => h) (Or.inl ⟨by rfl, ?_⟩) hHeld ?_ ?_
    rotate_left
    · intro w' s0
      go_simp
      with_reducible rfl
    rotate_left
    · simp only [Act.put, List.setIfInBounds_toArray, List.set_cons_zero, List.set_cons_succ, i64_w, i32_w]
      rfl
    refine one_ (i := 1) (N := some 56) #[true, true, false, true, true, true, false] rfl rfl (one_of HT_.out (by kernel_rfl)) (by decide) (fun K hK => ?_)
    refine goes_ Tryz.func129 (by kernel_rfl) rfl #[.slice A2 7 c2] (by rfl) rfl rfl (by simp only [List.map_toArray, List.map_cons, List.map_nil]; rfl) ?_
    with_reducible refine (HK.out A2 c2 _ HS2.out.drew).mono ?_
    rintro e w3 ⟨A4, n4, c4, rfl, k4, hb3⟩
    refine ⟨_, rfl, ?_⟩
    refine hK.out _ _ (((hb3.cell (World.block_lt_of_cell? _ _ hHeld)).trans hHeld)) (fun hHeld => ?_)
    clear hK K
    refine norm_ (a' := ?_) ?_ ?_
    rotate_left
    · show Act.put _ (some 56) _ = _
      simp only [Act.put, List.setIfInBounds_toArray, List.set_cons_zero, List.set_cons_succ, i64_w, i32_w]
      rfl
    refine one_ (i := 2) (N := some 57) #[true, true, true, true, true, true, false] rfl rfl (one_of HT_.out (by kernel_rfl)) (by decide) (fun K hK => ?_)
    refine value_ (w1 := ?_) (v := ?_) (by rfl) rfl ?_ ?_
    rotate_left 2
    · go_simp
      constructor
      · rfl
      · rfl
    refine hK.out _ _ (hHeld) (fun hHeld => ?_)
    clear hK K
    refine norm_ (a' := ?_) ?_ ?_
    rotate_left
    · show Act.put _ (some 57) _ = _
      simp only [Act.put, List.setIfInBounds_toArray, List.set_cons_zero, List.set_cons_succ, i64_w, i32_w]
      rfl
    refine pure_ (i := 6) (N := some 61) (v := ?_) (a' := ?_) #[true, true, true, true, true, true, true] rfl rfl (any_of HT_.out (by kernel_rfl)) (fun _ _ _ h => h) (Or.inl ⟨by rfl, ?_⟩) ?_ ?_
    rotate_left
    · intro w'
      go_simp
      with_reducible rfl
    rotate_left
    · simp only [Act.put, List.setIfInBounds_toArray, List.set_cons_zero, List.set_cons_succ, i64_w, i32_w]
      rfl
    refine done_ (done_of HT_.out (by kernel_rfl)) ?_
    have hb23 : Below w2.heap.size w2 w3 := bleft hb3
    have HB3 := Lib.hid (HB2.out.trans (hb23.mono (boxs HB2.out)))
    have HS3 := Lib.hid (HS2.out.keep hb23)
    clear hb3 hb23 HB2 HS2 HK k4 hkk hHeld
    go_wp2_with fail
    refine (HV.out A2 c2 _ HS3.out).mono ?_
    rintro e w4 ⟨A5, c5, rfl, hs5, hb4⟩
    have HB := HB3.out.trans (hb4.mono (boxs HB3.out))
    have HN := Lib.hid (SB.notbox HB hs5 (by decide))
    have HS5 := Lib.hid hs5
    have q0 := boxc HB 0
    have q1 := boxc HB 1
    simp only [List.getElem?_cons_succ, List.getElem?_cons_zero] at q0 q1
    have f0 := boxf HB 0
    have f1 := boxf HB 1
    have hz4 := boxs HB
    have hlt : w.heap.size < w4.heap.size := by omega
    have HB4 := Lib.hid (boxb HB)
    clear hs5 hb4 HB HB3 HS3 HV
    go_wp2_with fail
    exact bodyPost_ret (v := .tuple #[.agg #[.int .u8 16, .slice A5 4 c5], .nilIface]) (by simp [results, Tryz.results69, go_sem, q0, q1]) rfl ⟨A5, c5, rfl, (HS5.out.far HN.out _).far HN.out _, (HB4.out.setCell (Nat.le_refl _) _).setCell (Nat.le_refl _) _⟩
end Lo
end Go.Proofs.YtbpopaegfhcdpaaGreatDoor.X


/- The look-up through bson and impl. -/
set_option linter.unusedVariables false
set_option linter.unusedSimpArgs false
set_option maxRecDepth 100000
namespace Go.Proofs.YtbpopaegfhcdpaaGreatDoor.X
open Go.RowKit Go.Proofs.YtbpopaegfhcdpaaGreatDoorW.PrintLast
namespace Lo
open Al A2
theorem implLookup (A : Option Addr) (c kb ko ck : Nat) (sa : ByteArray) (w : World) (hsa : sa = ⟨#[97]⟩) (hs : SB w A c docB) (hk : w.cell? ⟨kb, ko, none⟩ = some (.string sa)) :
    Calls Tryz.prog 24 #[.slice A 12 c, .slice (some ⟨kb, ko, none⟩) 1 ck] w fun e w' => ∃ A1 c1, e = .returned (.tuple #[.agg #[.int .i64 16, .slice A1 4 c1], .int .i64 0]) ∧ SB w' A1 c1 l4 ∧ Below w.heap.size w w' := by
  have HK := Lib.hid (fun wx (h : Below w.heap.size w wx) => lookupErr A c kb ko ck sa wx hsa (hs.keep h) ((h.cell (World.block_lt_of_cell? _ _ hk)).trans hk))
  have HO : Hid (∀ A1 c1 wx, SB wx A1 c1 l4 → Calls Tryz.prog 70 #[.agg #[.int .u8 16, .slice A1 4 c1]] wx fun e w' => ∃ A3 c3, e = .returned (.agg #[.int .i64 16, .slice A3 4 c3]) ∧ SB w' A3 c3 l4 ∧ (∀ a, A3 = some a → wx.heap.size ≤ a.block) ∧ Below wx.heap.size wx w') := Lib.hid fun A1 c1 wx h => implRaw A1 c1 l4 16 wx h (by omega) (by omega) (by decide)
  clear hs hk hsa
  go_enter Tryz.func24, Tryz.ntmps24
  go_wp2_with fail
  refine (HK.out _ (balloc (Below.refl _ _) (Nat.le_refl _) _)).mono ?_
  rintro e w1 ⟨A1, c1, rfl, hs1, hb⟩
  have hb1 : Below (w.heap.size + 1) (w.alloc (.cells #[.int .i64 0, .slice none 0 0] 32)) w1 := by simpa using hb
  have HS1 := Lib.hid hs1
  have hz1 := boxs hb1
  clear hb HK hs1
  go_wp2_with fail
  refine (HO.out A1 c1 _ (HS1.out.alloc _)).mono ?_
  rintro e w2 ⟨A3, c3, rfl, hs3, hn3, hb2⟩
  have hb2' : Below w1.heap.size w1 w2 := (balloc (Below.refl _ _) (Nat.le_refl _) _).trans (hb2.mono (by simp))
  have hX := hb1.trans (hb2'.mono hz1)
  have HN3 : Hid (∀ a, A3 = some a → a.block ≠ w.heap.size) := Lib.hid fun a ha => by have h := hn3 a ha; simp at h; omega
  have HS3 := Lib.hid hs3
  clear hb2 hb2' hb1 HS1 hs3 hn3 HO
  go_wp2_with fail
  refine (code_nil w2).mono ?_
  rintro e w3 ⟨rfl, hb3⟩
  have hY := hX.trans (hb3.mono (boxs hX))
  have q0 := boxc hY 0
  have q1 := boxc hY 1
  simp only [List.getElem?_cons_succ, List.getElem?_cons_zero] at q0 q1
  have f0 := boxf hY 0
  have f1 := boxf hY 1
  have hz3 := boxs hY
  have hlt : w.heap.size < w3.heap.size := by omega
  have HB := Lib.hid (boxb hY)
  have HS33 := Lib.hid (HS3.out.keep hb3)
  clear hX hY hb3 HS3
  go_wp2_with fail
  exact bodyPost_ret (v := .tuple #[.agg #[.int .i64 16, .slice A3 4 c3], .int .i64 0]) (by simp [results, Tryz.results24, go_sem, q0, q1]) rfl ⟨A3, c3, rfl, (HS33.out.far HN3.out _).far HN3.out _, (HB.out.setCell (Nat.le_refl _) _).setCell (Nat.le_refl _) _⟩
theorem keycell (W : World) (n : Nat) (hn : n = W.heap.size) (sa : ByteArray) (t : TypeId) : (W.alloc (.cells #[.string sa] t)).cell? ⟨n, 0, none⟩ = some (.string sa) := by
  subst hn
  exact boxc (w := W) (cs := [.string sa]) (t := t) (Below.refl _ _) 0
end Lo
end Go.Proofs.YtbpopaegfhcdpaaGreatDoor.X


/- docAwake holds. -/
set_option linter.unusedVariables false
set_option linter.unusedSimpArgs false
set_option maxRecDepth 100000
namespace Go.Proofs.YtbpopaegfhcdpaaGreatDoor.X
open Go.RowKit Go.Proofs.YtbpopaegfhcdpaaGreatDoorW.PrintLast
namespace Aw
open Lo
theorem awBuilt (wx : World) : Calls Tryz.prog 65 #[.slice (some ⟨wx.heap.size, 0, none⟩) 1 1] (wx.alloc (.cells #[.string ⟨#[97]⟩, .int .i64 16, .string ⟨#[]⟩, .string ⟨#[]⟩, .int .i64 7, .int .u64 0, .int .u64 0, .slice none 0 0, .slice none 0 0] 59)) fun e w' => ∃ A c, e = .returned (.slice A 12 c) ∧ SB w' A c docB ∧ Below wx.heap.size wx w' := by
  refine (builtOne _ wx.heap.size ⟨#[97]⟩ rfl ⟨_, _, heap_alloc_new wx _⟩).mono ?_
  rintro e w' ⟨A, c, rfl, h1, h2⟩
  exact ⟨A, c, rfl, h1, (balloc (Below.refl _ _) (Nat.le_refl _) _).trans (h2.mono (by simp))⟩
theorem awRead (wx : World) : Calls Tryz.prog 17 #[.int .i64 16, .slice (some ⟨wx.heap.size, 0, none⟩) 5 5] (wx.alloc (.cells #[.int .u8 7, .int .u8 0, .int .u8 0, .int .u8 0, .int .u8 9] 5)) fun e w' => ∃ A1 c1, e = .returned (.tuple #[.agg #[.int .i64 16, .string ⟨#[]⟩, .string ⟨#[]⟩, .int .i64 7, .int .u64 0, .int .u64 0, .slice none 0 0, .slice none 0 0], .slice A1 1 c1, .bool true]) ∧ Below wx.heap.size wx w' := by
  have hs := SB.lit_ (E := 5) wx [7, 0, 0, 0, 9] [.int .u8 7, .int .u8 0, .int .u8 0, .int .u8 0, .int .u8 9] rfl (by decide) 5 rfl
  refine (read7 _ _ _ hs).mono ?_
  rintro e w' ⟨A1, c1, rfl, h2⟩
  exact ⟨A1, c1, rfl, (balloc (Below.refl _ _) (Nat.le_refl _) _).trans (h2.mono (by simp))⟩
theorem awLookup (wx : World) (n : Nat) (hn : n = wx.heap.size) (A : Option Addr) (c : Nat) (h : SB wx A c docB) : Calls Tryz.prog 24 #[.slice A 12 c, .slice (some ⟨n, 0, none⟩) 1 1] (wx.alloc (.cells #[.string ⟨#[97]⟩] 9)) fun e w' => ∃ A1 c1, e = .returned (.tuple #[.agg #[.int .i64 16, .slice A1 4 c1], .int .i64 0]) ∧ SB w' A1 c1 l4 ∧ Below wx.heap.size wx w' := by
  subst hn
  refine (implLookup A c wx.heap.size 0 1 ⟨#[97]⟩ _ rfl (h.alloc _) (keycell _ _ rfl _ _)).mono ?_
  rintro e w' ⟨A1, c1, rfl, h1, h2⟩
  exact ⟨A1, c1, rfl, h1, (balloc (Below.refl _ _) (Nat.le_refl _) _).trans (h2.mono (by simp))⟩
set_option maxHeartbeats 1600000 in
theorem docAwake (w : World) : Calls Tryz.prog 18 #[] w fun e w' => e = .returned (.bool true) ∧ Below w.heap.size w w' := by
  go_enter Tryz.func18, Tryz.ntmps18
  go_wp2_with fail
  refine (awBuilt w).mono ?_
  rintro e w1 ⟨A, c, rfl, hs1, hb1⟩
  have HS1 := Lib.hid hs1
  have HB1 := Lib.hid hb1
  clear hs1 hb1
  go_wp2_with fail
  refine (awRead w1).mono ?_
  rintro e w2 ⟨A2, c2, rfl, hb2⟩
  have HS2 := Lib.hid (HS1.out.keep hb2)
  have HB2 := Lib.hid (bthen HB1.out hb2)
  clear hb2 HS1 HB1
  go_wp2_with fail
  have HS2a := Lib.hid (HS2.out.alloc (.cells #[.int .i64 16, .string ⟨#[]⟩, .string ⟨#[]⟩, .int .i64 7, .int .u64 0, .int .u64 0, .slice none 0 0, .slice none 0 0] 27))
  refine (awLookup _ (w2.heap.size + 1) (by simp) A c HS2a.out).mono ?_
  rintro e w3 ⟨A3, c3, rfl, hs3, hb3⟩
  have hbx : Below (w2.heap.size + 1) (w2.alloc (.cells #[.int .i64 16, .string ⟨#[]⟩, .string ⟨#[]⟩, .int .i64 7, .int .u64 0, .int .u64 0, .slice none 0 0, .slice none 0 0] 27)) w3 := by simpa using hb3
  have q3 := boxc hbx 3
  simp only [List.getElem?_cons_succ, List.getElem?_cons_zero] at q3
  have hz := boxs hbx
  have hlt : w2.heap.size < w3.heap.size := by omega
  have hb23 := boxb hbx
  have HS3 := Lib.hid ((HS2.out.keep hb23).alloc (.cells #[.int .i64 16, .slice A3 4 c3] 32))
  have HB3 := Lib.hid (balloc (bthen HB2.out hb23) (bthen HB2.out hb23).size (.cells #[.int .i64 16, .slice A3 4 c3] 32))
  have hst := str_of HS3.out
  have hcap := HS3.out.le
  have hcc := HS3.out.cap
  obtain ⟨A4, e4, s4⟩ := SB.to_ (P := Tryz.prog) Tryz.underlying22 rfl rfl .i64 A c docB 11 (by decide) HS3.out.le
  have S4 := Lib.hid s4
  have e4' : ∀ W : World, (Instr.slice 22 (.slice A 12 c) none (some (.int .i64 11)) none).run Tryz.prog W = .ok (.slice A4 11 c) W := e4
  have hst' : (convert 22 9 (.slice A 12 c)).run Tryz.prog (w3.alloc (.cells #[.int .i64 16, .slice A3 4 c3] 32)) = .ok (.string ⟨#[12, 0, 0, 0, 16, 97, 0, 7, 0, 0, 0, 0]⟩) (w3.alloc (.cells #[.int .i64 16, .slice A3 4 c3] 32)) := hst
  clear hs3 hb3 hbx hb23 HS2a HS2 HB2 e4 s4 hst
  have HV := Lib.hid (valLenErr A4 c 11 (docB.take 11) 12 _ (by decide) (S4.out _ HS3.out) (by decide +kernel) (by decide))
  clear S4 HS3
  go_wp2_with fail
  refine HV.out.mono ?_
  rintro e w4 ⟨rfl, hb4⟩
  have HB4 := Lib.hid (bthen HB3.out hb4)
  clear hb4 HV HB3
  go_wp2_with fail
  go_ret
  exact ⟨rfl, HB4.out⟩
end Aw
end Go.Proofs.YtbpopaegfhcdpaaGreatDoor.X


