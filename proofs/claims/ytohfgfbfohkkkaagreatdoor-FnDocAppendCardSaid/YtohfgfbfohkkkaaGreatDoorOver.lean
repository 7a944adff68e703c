/- A row of bytes that is written over; bsoncore's beginnings and ends of documents. -/
import Derived.Test.YtohfgfbfohkkkaaGreatDoorOwn
import Derived.Test.YtohfgfbfohkkkaaGreatDoorDoc6
import Derived.Test.YtohfgfbfohkkkaaGreatDoorLe
import Derived.Test.YtohfgfbfohkkkaaGreatDoorFresh
import Derived.Test.YtohfgfbfohkkkaaGreatDoorWLast
import Derived.Test.YtohfgfbfohkkkaaGreatDoorWTab
set_option linter.unusedVariables false
set_option linter.unusedSimpArgs false
set_option maxRecDepth 100000
namespace Go.Proofs.YtohfgfbfohkkkaaGreatDoor.X
open Go.RowKit Go.Proofs.YtohfgfbfohkkkaaGreatDoorW.PrintLast
def R73.T1 : Bool × List (List Nat × List Nat) := (true, [([], []), ([], []), ([], []), ([1, 2], [1, 2]), ([], []), ([4], [4]), ([0, 3, 5], [0, 3, 5])])
def R73.B1 : List Nat := [0, 0, 0, 6, 0, 16, 63]
theorem R73.tab1 : rtab .any (opsOf Tryz.f73 1) = R73.T1 := by kernel_rfl
theorem R73.bits1 : waitsOk R73.T1.2 R73.B1 = true := by kernel_rfl
theorem over_far {g : Nat} : ∀ (vs : List Value) (o : Nat) {w : World} (k : Nat), k ≠ g → (w.setCells g o vs).heap[k]? = w.heap[k]?
  | [], _, _, _, _ => rfl
  | v :: r, o, w, k, hk => by
    rw [World.setCells, over_far r (o + 1) k hk]
    exact Below.heap_setCell w ⟨g, o, none⟩ v k hk
theorem over_same (g : Nat) : ∀ (vs : List Value) (o : Nat) (w : World), (w.setCells g o vs).os = w.os ∧ (w.setCells g o vs).tape = w.tape ∧ (w.setCells g o vs).output = w.output ∧ (w.setCells g o vs).heap.size = w.heap.size
  | [], _, _ => ⟨rfl, rfl, rfl, rfl⟩
  | v :: r, o, w => by
    obtain ⟨h1, h2, h3, h4⟩ := over_same g r (o + 1) (w.setCell ⟨g, o, none⟩ v)
    rw [World.setCells]
    exact ⟨h1, h2, h3, by rw [h4]; simp [World.setCell]⟩
theorem over_one {g : Nat} {e : TypeId} {w : World} {cur : Array Value} (h : w.heap[g]? = some (.cells cur e (0, 0))) (o : Nat) (v : Value) : (w.setCell ⟨g, o, none⟩ v).heap[g]? = some (.cells (cur.setIfInBounds o v) e (0, 0)) := by
  have hlt : g < w.heap.size := (Array.getElem?_eq_some_iff.1 h).1
  have hg : w.heap[g] = .cells cur e (0, 0) := by
    have := Array.getElem?_eq_getElem hlt
    rw [this] at h
    exact Option.some.inj h
  simp [World.setCell, Array.getElem_modify, hlt, hg]
theorem over_row {g : Nat} {e : TypeId} : ∀ (vs : List Value) (o : Nat) (w : World) (cur : Array Value), w.heap[g]? = some (.cells cur e (0, 0)) → o + vs.length ≤ cur.size →
    ∃ cur', (w.setCells g o vs).heap[g]? = some (.cells cur' e (0, 0)) ∧ cur'.size = cur.size ∧ cur'.toList = cur.toList.take o ++ vs ++ cur.toList.drop (o + vs.length)
  | [], o, w, cur, h, _ => ⟨cur, h, rfl, by simp⟩
  | v :: r, o, w, cur, h, hl => by
    have h2 := over_one h o v
    simp only [List.length_cons] at hl
    obtain ⟨cur', h3, h4, h5⟩ := over_row r (o + 1) (w.setCell ⟨g, o, none⟩ v) _ h2 (by simp; omega)
    refine ⟨cur', h3, by rw [h4]; simp, ?_⟩
    rw [h5, Array.toList_setIfInBounds]
    have ho : o < cur.toList.length := by rw [Array.length_toList]; omega
    rw [List.take_set, List.drop_set_of_lt (by omega)]
    simp only [List.length_cons]
    rw [show o + 1 + r.length = o + (r.length + 1) by omega]
    congr 1
    rw [List.take_succ_eq_append_getElem ho, List.set_append_right _ _ (by rw [List.length_take]; omega)]
    have ho' : o < cur.size := by omega
    simp [Nat.min_eq_left (Nat.le_of_lt ho')]
section
variable {E : TypeId}
/-- Some bytes of a row of the call's own are written over. -/
theorem OB.over {w : World} {base : Nat} {g n c : Nat} {pre old post : List UInt8} (h : OB E w base (.slice (some ⟨g, 0, none⟩) n c) (pre ++ (old ++ post))) (new : List UInt8) (hn : new.length = old.length) (hl : 0 < old.length) :
    App (E := E) w base (.slice (some ⟨g, 0, none⟩) n c) (pre ++ (new ++ post)) (.slice (some ⟨g, 0, none⟩) n c) (w.setCells g pre.length (byv new)) := by
  obtain ⟨⟨hlen, hr⟩, hmax⟩ := h
  obtain ⟨s1, s2, s3, s4⟩ := over_same g (byv new) pre.length w
  refine ⟨⟨⟨by simp [hn], ?_⟩, by simp [hn] at hmax ⊢; omega⟩, ⟨s1, s2, s3, by rw [s4]; exact Nat.le_refl _, fun k _ hk => over_far _ _ k (fun e => hk (by rw [e]; rfl))⟩, .inl rfl⟩
  rcases hr with ⟨hc, _⟩ | ⟨g', cap, cur, he, hb, hg, hnc, hcm, hcs, ht⟩
  · cases hc
  · injection he with e1 e2 e3
    injection e1 with e1
    injection e1 with e1 _ _
    subst e1
    have hlc : (pre ++ (old ++ post)).length ≤ cur.size := by
      rw [hcs]; omega
    simp only [List.length_append] at hlc
    obtain ⟨cur', q1, q2, q3⟩ := over_row (byv new) pre.length w cur hg (by simp; omega)
    refine .inr ⟨g, cap, cur', ?_, hb, q1, ?_, hcm, by rw [q2, hcs], ?_⟩
    · rw [e3, e2]; simp [hn]
    · simp [hn] at hnc ⊢; omega
    · have e4 : (pre ++ (new ++ post)).length * 1 = (pre ++ (old ++ post)).length * 1 := by simp [hn]
      rw [q3, e4]
      have ht2 : cur.toList = byv pre ++ (byv old ++ byv post) ++ cur.toList.drop ((pre ++ (old ++ post)).length * 1) := by
        conv => lhs; rw [← List.take_append_drop ((pre ++ (old ++ post)).length * 1) cur.toList, ht, byv_append, byv_append]
      rw [ht2]
      have p1 : (byv pre ++ (byv old ++ byv post) ++ cur.toList.drop ((pre ++ (old ++ post)).length * 1)).take pre.length = byv pre := by
        rw [List.append_assoc, List.take_left' (by simp)]
      have p2 : (byv pre ++ (byv old ++ byv post) ++ cur.toList.drop ((pre ++ (old ++ post)).length * 1)).drop (pre.length + (byv new).length) = byv post ++ cur.toList.drop ((pre ++ (old ++ post)).length * 1) := by
        have e5 : byv pre ++ (byv old ++ byv post) ++ cur.toList.drop ((pre ++ (old ++ post)).length * 1) = (byv pre ++ byv old) ++ (byv post ++ cur.toList.drop ((pre ++ (old ++ post)).length * 1)) := by simp [List.append_assoc]
        rw [e5, List.drop_left' (by simp [hn])]
      rw [p1, p2]
      have e6 : byv pre ++ byv new ++ (byv post ++ cur.toList.drop ((pre ++ (old ++ post)).length * 1)) = byv (pre ++ (new ++ post)) ++ cur.toList.drop ((pre ++ (old ++ post)).length * 1) := by simp [byv_append, List.append_assoc]
      rw [e6, List.take_left' (by simp [hn])]
end
theorem le_i32 (n : Nat) (h : n < 4294967296) : Lib.byteCells (Lib.leBytes 4 n) = byv (i32 (n : Int)) := by
  have e0 : ((n % 256 : Nat) : Int) = (n : Int) % 256 := by omega
  have e1 : ((n / 256 % 256 : Nat) : Int) = (n : Int) / 256 % 256 := by omega
  have e2 : ((n / 256 / 256 % 256 : Nat) : Int) = (n : Int) / 65536 % 256 := by omega
  have e3 : ((n / 256 / 256 / 256 % 256 : Nat) : Int) = (n : Int) / 16777216 % 256 := by omega
  simp only [Lib.byteCells, Lib.leBytes, List.map, Lib.toUInt8_mod, e0, e1, e2, e3, byv, i32, ub_toNat]
theorem slice_at {P : Program} {t e : TypeId} {i : TypeInfo} (ht : P.underlying t = some (.slice e)) (hi : P.info? e = some i) (hsz : i.size = 1) (kl : IntKind) (g len c m : Nat) (hm : m ≤ len) (hc : len ≤ c) (hlt : m < c) (W : World) :
    (Instr.slice t (.slice (some ⟨g, 0, none⟩) len c) (some (.int kl (m : Int))) none none).run P W = .ok (.slice (some ⟨g, m, none⟩) (len - m) (c - m)) W := by
  have hel : P.elem t = e := by simp [Program.elem, ht]
  have hu : P.underlying t = some (.slice (P.elem t)) := by rw [hel]; exact ht
  rw [run_slice_l (P := P) W t _ len c hu kl (m : Int) (Int.natCast_nonneg _) (by omega), hel]
  have hadd : (⟨g, 0, none⟩ : Addr).add m = ⟨g, m, none⟩ := by unfold Addr.add; split <;> simp_all
  have hne : ¬ (c = m) := by omega
  simp [sizeOf, typeInfo, hi, hsz, sliced, Result.andThen, hne, hadd]
section
variable {E : TypeId}
theorem OB.form {w : World} {base : Nat} {v : Value} {l : List UInt8} (h : OB E w base v l) (hl : 0 < l.length) : ∃ g c, v = .slice (some ⟨g, 0, none⟩) l.length c ∧ l.length ≤ c ∧ c ≤ 9223372036854775807 ∧ base ≤ g ∧ (∀ j, (hj : j < l.length) → w.cell? ⟨g, j, none⟩ = some (.int .u8 (l[j].toNat : Int))) ∧ (∀ j, w.frozen? ⟨g, j, none⟩ = false) := by
  obtain ⟨⟨hlen, hr⟩, hmax⟩ := h
  rcases hr with ⟨hc, h0⟩ | ⟨g, cap, cur, he, hb, hg, hnc, hcm, hcs, ht⟩
  · omega
  · refine ⟨g, cap, he, hnc, by simpa [maxLen] using hcm, hb, fun j hj => ?_, fun j => by simp [World.frozen?, hg]⟩
    have h1 : cur[j]? = (cur.toList)[j]? := by simp
    have h2 : (cur.toList)[j]? = (byv l)[j]? := by
      rw [← ht, List.getElem?_take]
      simp [hj]
    have h3 : w.cell? ⟨g, j, none⟩ = cur[j]? := by unfold World.cell?; rw [hg]; simp
    rw [h3, h1, h2, byv_get l j hj]
end
theorem updLen (W : World) (base : Nat) (v : Value) (pre old post : List UInt8) (n : Nat) (ho : OB 5 W base v (pre ++ (old ++ post))) (h4 : old.length = 4) (hn : n < 2147483648) (hp : pre.length < 2147483648) (hbase : base ≤ W.heap.size) :
    Calls Tryz.prog 73 #[v, .int .i32 (pre.length : Int), .int .i32 (n : Int)] W (After fun v1 w1 => v1 = v ∧ App (E := 5) W base v (pre ++ (i32 (n : Int) ++ post)) v w1) := by
  obtain ⟨g, c, rfl, hlc, hcm, hbg, hcell, hfr⟩ := ho.form (by simp; omega)
  obtain ⟨b0, b1, b2, b3, rfl⟩ : ∃ b0 b1 b2 b3, old = [b0, b1, b2, b3] := by
    match old, h4 with
    | [b0, b1, b2, b3], _ => exact ⟨b0, b1, b2, b3, rfl⟩
  have hP : ∀ wx : World, Below W.heap.size W wx → OB 5 wx base (.slice (some ⟨g, 0, none⟩) (pre ++ ([b0, b1, b2, b3] ++ post)).length c) (pre ++ ([b0, b1, b2, b3] ++ post)) → Calls Tryz.prog 144 #[.agg #[], .slice (some ⟨g, pre.length, none⟩) ((pre ++ ([b0, b1, b2, b3] ++ post)).length - pre.length) (c - pre.length), .int .u32 (n : Int)] wx fun e w' => e = .returned (.tuple #[]) ∧ App (E := 5) W base (.slice (some ⟨g, 0, none⟩) (pre ++ ([b0, b1, b2, b3] ++ post)).length c) (pre ++ (i32 (n : Int) ++ post)) (.slice (some ⟨g, 0, none⟩) (pre ++ ([b0, b1, b2, b3] ++ post)).length c) w' := by
    intro wx hb hox
    obtain ⟨g', c', he, -, -, -, hcx, hfx⟩ := hox.form (by simp; omega)
    injection he with e1 _ e3
    injection e1 with e1
    injection e1 with e1 _ _
    subst e1 e3
    refine (Any.binary_LE_PutUint32 Tryz.lePutUint32 g pre.length _ _ n (by omega) _ _ _ _ wx (by simp) (hcx pre.length (by simp)) (hcx (pre.length + 1) (by simp)) (hcx (pre.length + 2) (by simp)) (hcx (pre.length + 3) (by simp)) (hfx _) (hfx _) (hfx _) (hfx _)).mono ?_
    rintro e w' ⟨rfl, rfl⟩
    refine ⟨rfl, ?_⟩
    rw [le_i32 n (by omega)]
    exact (OB.over (hox.alloc _) (i32 (n : Int)) (by simp [i32]) (by simp)).pre (balloc hb hb.size _)
  have HP := Lib.hid hP
  have HO := Lib.hid ho
  have hsl := slice_at (P := Tryz.prog) Tryz.underlying22 rfl rfl .i32 g (pre ++ ([b0, b1, b2, b3] ++ post)).length c pre.length (by simp) hlc (by simp at hlc; omega)
  have hw1 : IntKind.u32.wrap (n : Int) = n := by rw [IntKind.wrap_u32]; omega
  obtain ⟨q, hq⟩ : ∃ q, q = (pre ++ ([b0, b1, b2, b3] ++ post)).length := ⟨_, rfl⟩
  obtain ⟨m, hm⟩ : ∃ m, m = pre.length := ⟨_, rfl⟩
  rw [← hq, ← hm] at HP hsl
  rw [← hq] at HO
  rw [← hq, ← hm]
  have hcap : q ≤ c := by rw [hq]; exact hlc
  have hmq : m + 4 ≤ q := by rw [hq, hm]; simp
  clear hP ho hq hm hcell hfr hlc hp h4
  go_enter Tryz.func73, Tryz.ntmps73
  go_wp2_with fail
  refine start_ (n := 7) (S := fun w' => True) (ds := []) #[false, false, false, false, false, false, false] (by kernel_rfl) rfl rfl trivial (fun hHeld => ?_)
  refine with_tabW R73.tab1 R73.bits1 (fun HT_ HW_ => ?_)
  refine pure_ (i := 1) (N := some 8) (v := ?_) (a' := ?_) #[false, true, false, false, false, false, false] rfl rfl (any_of HT_.out (by kernel_rfl)) (fun _ _ _ h => h) (Or.inl ⟨by rfl, ?_⟩) ?_ ?_
  rotate_left
  · intro w'
    go_simp
    with_reducible rfl
  rotate_left
  · simp only [Act.put, List.setIfInBounds_toArray, List.set_cons_zero, List.set_cons_succ, i64_w, i32_w]
    rfl
  refine pure_ (i := 2) (N := some 9) (v := ?_) (a' := ?_) #[false, true, true, false, false, false, false] rfl rfl (any_of HT_.out (by kernel_rfl)) (fun _ _ _ h => h) (Or.inl ⟨by rfl, ?_⟩) ?_ ?_
  rotate_left
  · intro w'
    go_simp
    with_reducible rfl
  rotate_left
  · simp only [Act.put, List.setIfInBounds_toArray, List.set_cons_zero, List.set_cons_succ, i64_w, i32_w]
    rfl
  refine pure_ (i := 3) (N := some 10) (v := ?_) (a' := ?_) #[false, true, true, true, false, false, false] rfl rfl (any_of HT_.out (by kernel_rfl)) (fun _ _ _ h => h) (Or.inl ⟨by rfl, ?_⟩) ?_ ?_
  rotate_left
  · intro w'
    go_simp
    with_reducible rfl
  rotate_left
  · simp only [Act.put, List.setIfInBounds_toArray, List.set_cons_zero, List.set_cons_succ, i64_w, i32_w]
    rfl
  refine pure_ (i := 4) (N := some 11) (v := ?_) (a' := ?_) #[false, true, true, true, true, false, false] rfl rfl (any_of HT_.out (by kernel_rfl)) (fun _ _ _ h => h) (Or.inl ⟨by rfl, ?_⟩) ?_ ?_
  rotate_left
  · intro w'
    go_simp
    with_reducible rfl
  rotate_left
  · simp only [Act.put, List.setIfInBounds_toArray, List.set_cons_zero, List.set_cons_succ, i64_w, i32_w]
    rfl
  refine pure_ (i := 5) (N := some 12) (v := ?_) (a' := ?_) #[false, true, true, true, true, true, false] rfl rfl (any_of HT_.out (by kernel_rfl)) (fun _ _ _ h => h) (Or.inl ⟨by rfl, ?_⟩) ?_ ?_
  rotate_left
  · intro w'
    go_simp
    with_reducible rfl
  rotate_left
  · simp only [Act.put, List.setIfInBounds_toArray, List.set_cons_zero, List.set_cons_succ, i64_w, i32_w]
    rfl
  refine take_ (i := 0) (N := some 7) (v := ?_) (a' := ?_) #[true, true, true, true, true, true, false] rfl rfl (take_ofW HT_.out HW_.out (by kernel_rfl)) (fun _ _ _ h => h) (Or.inl ⟨by rfl, ?_⟩) hHeld ?_ ?_
  rotate_left
  · intro w' _
    go_simp
    with_reducible rfl
  rotate_left
  · simp only [Act.put, List.setIfInBounds_toArray, List.set_cons_zero, List.set_cons_succ, i64_w, i32_w]
    rfl
  refine one_ (i := 6) (N := some 13) #[true, true, true, true, true, true, true] rfl rfl (one_of HT_.out (by kernel_rfl)) (by decide) (fun K hK => ?_)
  refine goes_ Tryz.func144 (by kernel_rfl) rfl #[.agg #[], .slice (some ⟨g, m, none⟩) (q - m) (c - m), .int .u32 (n : Int)] (by rfl) rfl rfl (by simp only [List.map_toArray, List.map_cons, List.map_nil]; rfl) ?_
  with_reducible refine (HP.out _ (bdrew (Below.refl _ _)) (HO.out.keep (bdrew (Below.refl _ _)))).mono ?_
  rintro e w3 ⟨rfl, hap⟩
  refine ⟨_, rfl, ?_⟩
  refine hK.out _ _ trivial (fun hHeld => ?_)
  clear hK K
  refine norm_ (a' := ?_) ?_ ?_
  rotate_left
  · show Act.put _ (some 13) _ = _
    simp only [Act.put, List.setIfInBounds_toArray, List.set_cons_zero, List.set_cons_succ, i64_w, i32_w]
    rfl
  refine done_ (done_of HT_.out (by kernel_rfl)) ?_
  have HA := Lib.hid hap
  clear hap
  go_wp2_with fail
  go_ret
  exact ⟨_, rfl, rfl, HA.out⟩
end Go.Proofs.YtohfgfbfohkkkaaGreatDoor.X
