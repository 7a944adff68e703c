/- Put together: Doc6, Le, Over, Num, Start. -/
import Derived.Test.YtbpopaegfhcdpaaGreatDoorWords
import Derived.Shelf.Bin.LEUint32
import Derived.Shelf.Bin.LEUint64
import Derived.Shelf.Bin.LEPutUint32
import Derived.Shelf.Lay
import Derived.Ground.MnProg
import Derived.Test.YtbpopaegfhcdpaaGreatDoorOwn
import Derived.Test.YtbpopaegfhcdpaaGreatDoorFresh
import Derived.Test.YtbpopaegfhcdpaaGreatDoorWLast
import Derived.Test.YtbpopaegfhcdpaaGreatDoorWTab
/- Contracts of the reference's functions that write: numbers, texts, heads. -/
set_option linter.unusedVariables false
set_option linter.unusedSimpArgs false
set_option maxRecDepth 100000
namespace Go.Proofs.YtbpopaegfhcdpaaGreatDoor.X
open Go.RowKit

theorem infoB : (Tryz.prog.info? 5).map (fun i => (i.zero, i.size, i.bytes)) = some (some (.int .u8 0), 1, 1) := by kernel_rfl

/-- Four bytes of a number, the lowest first. -/
def i32 (n : Int) : List UInt8 := [ub n, ub (n / 256), ub (n / 65536), ub (n / 16777216)]
theorem docInt32 (W : World) (base : Nat) (v : Value) (l : List UInt8) (n : Int) (HO : OB 5 W base v l) (hbase : base ≤ W.heap.size) (hl : l.length ≤ 100000000000000) :
    Calls Tryz.prog 33 #[v, .int .i64 n] W (After fun v1 w1 => App (E := 5) W base v (l ++ i32 n) v1 w1) := by
  go_enter Tryz.func33, Tryz.ntmps33
  go_wp2_with (refine wp_app (.tmp 5) (.tmp 17) 22 rfl rfl infoB Tryz.underlying22 _ base v l _ _ (i32 n) rfl rfl (HO.alloc _) (SB.lit_ _ _ _ ?h1 (by simp [i32]) _ rfl) (by simp; omega) (by simp [i32]; omega) ?_; (case h1 => simp [byv, i32, ub_toNat]); intro v1 w1 hap)
  go_wp2
  go_ret
  exact ⟨_, rfl, hap.pre (balloc (Below.refl _ _) (Nat.le_refl _) _)⟩

/-- Eight bytes of a number, the lowest first. -/
def i64 (n : Int) : List UInt8 := (List.range 8).map fun k => ub (n / 2 ^ (8 * k))
theorem i64_len (n : Int) : (i64 n).length = 8 := by simp [i64]
theorem i64_take (n : Int) (k : Nat) (h : k < 8) : (i64 n).take (k + 1) = (i64 n).take k ++ [ub (n / 2 ^ (8 * k))] := by
  rw [List.take_succ_eq_append_getElem (by rw [i64_len]; exact h)]
  simp [i64]
theorem docInt64 (W : World) (base : Nat) (v : Value) (l : List UInt8) (n : Int) (HO : OB 5 W base v l) (hbase : base ≤ W.heap.size) (hl : l.length ≤ 100000000000000) :
    Calls Tryz.prog 74 #[v, .int .u64 n] W (After fun v1 w1 => App (E := 5) W base v (l ++ i64 n) v1 w1) := by
  go_enter Tryz.func74, Tryz.ntmps74
  go_wp2
  go_loopw [0, 5] (fun u i wr => ∃ k : Nat, k ≤ 8 ∧ i = .int .i64 (8 * k) ∧ App (E := 5) W base v (l ++ (i64 n).take k) u wr) (fun _ i _ => 64 - (intOf i).toNat)
  case atStart => exact ⟨0, by omega, by simp, by simpa using App.refl HO⟩
  case round =>
    obtain ⟨k, hk, rfl, ho⟩ := hrel
    have hz := ho.size
    by_cases hlt : k < 8
    · go_wp2_with (refine wp_app (.tmp 10) (.tmp 15) 22 rfl rfl infoB Tryz.underlying22 _ base _ (l ++ (i64 n).take k) _ _ [ub (n / 2 ^ (8 * k))] rfl rfl (ho.own.alloc _) (SB.lit_ _ _ _ ?h1 (by simp) _ rfl) (by simp; omega) (by simp [i64_len]; omega) ?_; (case h1 => simp [byv, ub_toNat]); intro v1 w1 hap)
      go_wp2
      go_roundw
      case rel => exact ⟨k + 1, by omega, by go_num, by rw [i64_take n k hlt, ← List.append_assoc]; exact ho.trans (hap.pre (balloc (Below.refl _ _) (Nat.le_refl _) _))⟩
      case measure => simp [intOf]; omega
    · have e : k = 8 := by omega
      subst e
      go_wp2
      go_ret
      refine ⟨_, rfl, ?_⟩
      have := ho
      rwa [List.take_of_length_le (by rw [i64_len]; omega)] at this

/-- A text with its length ahead and a byte 0 behind. -/
def txt (s : List UInt8) : List UInt8 := i32 ((s.length : Int) + 1) ++ s ++ [0]
theorem size_data (s : ByteArray) : s.data.toList.length = s.size := by rw [Array.length_toList]; rfl
theorem docText (W : World) (base : Nat) (v : Value) (l : List UInt8) (s : ByteArray) (HO : OB 5 W base v l) (hbase : base ≤ W.heap.size) (hl : l.length ≤ 10000000000000) (hs : s.size ≤ 10000000000000) :
    Calls Tryz.prog 75 #[v, .string s] W (After fun v1 w1 => App (E := 5) W base v (l ++ txt s.data.toList) v1 w1) := by
  have hsd := size_data s
  have HSD := Lib.hid hsd
  clear hsd
  go_enter Tryz.func75, Tryz.ntmps75
  go_wp2_with fail
  refine (docInt32 W base v l ((s.size : Int) + 1) HO hbase (by omega)).mono ?_
  rintro e w1 ⟨v1, rfl, h1⟩
  have hz1 := h1.size
  go_wp2_with (first | (refine wp_app_str (.tmp 10) (.tmp 11) 22 9 rfl rfl infoB Tryz.underlying22 Tryz.underlying9 _ base _ (l ++ i32 ((s.size : Int) + 1)) s rfl rfl h1.own (by omega) (by simp [i32]; omega) ?_; intro v2 w2 h2; have hz2 := h2.size) | (refine wp_app (.tmp 13) (.tmp 14) 22 rfl rfl infoB Tryz.underlying22 _ base _ (l ++ i32 ((s.size : Int) + 1) ++ s.data.toList) _ _ [0] rfl rfl (h2.own.alloc _) (SB.lit_ _ _ _ ?h1 (by simp) _ rfl) (by simp; omega) (by have := HSD.out; simp [i32]; omega) ?_; (case h1 => simp [byv]); intro v3 w3 h3))
  go_ret
  refine ⟨v3, rfl, ?_⟩
  have := (h1.trans h2).trans (h3.pre (balloc (Below.refl _ _) (Nat.le_refl _) _))
  simp only [txt, HSD.out]
  simpa only [List.append_assoc] using this

/-- The kind and the name ahead of a value. -/
def hd (k : Int) (nm : List UInt8) : List UInt8 := ub k :: nm ++ [0]
theorem docHead (W : World) (k : Int) (s : ByteArray) (hs : s.size ≤ 10000000000000) :
    Calls Tryz.prog 76 #[.int .i64 k, .string s] W (After fun v1 w1 => OB 5 w1 W.heap.size v1 (hd k s.data.toList) ∧ Below W.heap.size W w1) := by
  have hsd := size_data s
  have HSD := Lib.hid hsd
  clear hsd
  go_enter Tryz.func76, Tryz.ntmps76
  go_wp2_with (first | (refine wp_app_str (.tmp 8) (.tmp 9) 22 9 rfl rfl infoB Tryz.underlying22 Tryz.underlying9 _ W.heap.size _ [ub k] s rfl rfl (OB.lit_ _ _ (Nat.le_refl _) [ub k] _ ?h0 (by simp) _ rfl) (by simp) (by simp; omega) ?_; (case h0 => simp [byv, ub_toNat]); intro v2 w2 h2; have hz2 := h2.size; simp at hz2) | (refine wp_app (.tmp 11) (.tmp 12) 22 rfl rfl infoB Tryz.underlying22 _ W.heap.size _ ([ub k] ++ s.data.toList) _ _ [0] rfl rfl (h2.own.alloc _) (SB.lit_ _ _ _ ?h1 (by simp) _ rfl) (by simp; omega) (by have := HSD.out; simp; omega) ?_; (case h1 => simp [byv]); intro v3 w3 h3))
  go_ret
  refine ⟨_, rfl, by simpa [hd] using h3.own, ?_⟩
  have hx : ∀ k, (Value.slice (some ⟨W.heap.size, 0, none⟩) 1 1).ownBlock = some k → W.heap.size ≤ k := by
    intro k hk; simp [Value.ownBlock] at hk; omega
  exact bgrown (balloc (bgrown (balloc (Below.refl _ _) (Nat.le_refl _) _) (by simp) h2.grown hx) (by omega) _) (by simp; omega) h3.grown (fun k hk => (h2.own.lt k hk).1)
end Go.Proofs.YtbpopaegfhcdpaaGreatDoor.X


/- encoding/binary's little-endian reads and writes, laid from the shelf. -/
set_option linter.unusedVariables false
namespace Go.Proofs.YtbpopaegfhcdpaaGreatDoor
open Go.Shelf
shelf_lay LaysBin.n30 Mn 30 at Tryz as Tryz.leUint32
shelf_lay LaysBin.n33 Mn 33 at Tryz as Tryz.leUint64
shelf_lay LaysBin.n31 Mn 31 at Tryz as Tryz.lePutUint32
end Go.Proofs.YtbpopaegfhcdpaaGreatDoor
namespace Go.Proofs.YtbpopaegfhcdpaaGreatDoor.X
open Go.RowKit
theorem leUint32 (A : Option Addr) (c : Nat) (b0 b1 b2 b3 : UInt8) (r : List UInt8) (w : World) (hs : SB w A c (b0 :: b1 :: b2 :: b3 :: r)) :
    Calls Tryz.prog 168 #[.agg #[], .slice A (b0 :: b1 :: b2 :: b3 :: r).length c] w fun e w' => e = .returned (.int .u32 (Lib.leNat [b0, b1, b2, b3])) ∧ Below w.heap.size w w' := by
  obtain ⟨b, off, rfl, hc⟩ := hs.cells (by simp)
  exact Any.binary_LE_Uint32 Tryz.leUint32 b off _ c b0 b1 b2 b3 w (by simp) (by have h := hc 0 (by simp); exact h) (by have h := hc 1 (by simp); exact h) (by have h := hc 2 (by simp); exact h) (by have h := hc 3 (by simp); exact h)
theorem leUint64 (A : Option Addr) (c : Nat) (b0 b1 b2 b3 b4 b5 b6 b7 : UInt8) (r : List UInt8) (w : World) (hs : SB w A c (b0 :: b1 :: b2 :: b3 :: b4 :: b5 :: b6 :: b7 :: r)) :
    Calls Tryz.prog 166 #[.agg #[], .slice A (b0 :: b1 :: b2 :: b3 :: b4 :: b5 :: b6 :: b7 :: r).length c] w fun e w' => e = .returned (.int .u64 (Lib.leNat [b0, b1, b2, b3, b4, b5, b6, b7])) ∧ Below w.heap.size w w' := by
  obtain ⟨b, off, rfl, hc⟩ := hs.cells (by simp)
  exact Any.binary_LE_Uint64 Tryz.leUint64 b off _ c b0 b1 b2 b3 b4 b5 b6 b7 w (by simp) (by have h := hc 0 (by simp); exact h) (by have h := hc 1 (by simp); exact h) (by have h := hc 2 (by simp); exact h) (by have h := hc 3 (by simp); exact h) (by have h := hc 4 (by simp); exact h) (by have h := hc 5 (by simp); exact h) (by have h := hc 6 (by simp); exact h) (by have h := hc 7 (by simp); exact h)
end Go.Proofs.YtbpopaegfhcdpaaGreatDoor.X


/- A row of bytes that is written over; bsoncore's beginnings and ends of documents. -/
set_option linter.unusedVariables false
set_option linter.unusedSimpArgs false
set_option maxRecDepth 100000
namespace Go.Proofs.YtbpopaegfhcdpaaGreatDoor.X
open Go.RowKit Go.Proofs.YtbpopaegfhcdpaaGreatDoorW.PrintLast
def R108.T1 : Bool × List (List Nat × List Nat) := (true, [([], []), ([], []), ([], []), ([1, 2], [1, 2]), ([], []), ([4], [4]), ([0, 3, 5], [0, 3, 5])])
def R108.B1 : List Nat := [0, 0, 0, 6, 0, 16, 63]
theorem R108.tab1 : rtab .any (opsOf Tryz.f108 1) = R108.T1 := by kernel_rfl
theorem R108.bits1 : waitsOk R108.T1.2 R108.B1 = true := by kernel_rfl
theorem over_far {g : Nat} : ∀ (vs : List Value) (o : Nat) {w : World} (k : Nat), k ≠ g → (w.setCells g o vs).heap[k]? = w.heap[k]?
  | [], _, _, _, _ => rfl
  | v :: r, o, w, k, hk => by
    rw [World.setCells, over_far r (o + 1) k hk]
    exact Below.heap_setCell w ⟨g, o, none⟩ v k hk
theorem over_same (g : Nat) : ∀ (vs : List Value) (o : Nat) (w : World), (w.setCells g o vs).os = w.os ∧ (w.setCells g o vs).tape = w.tape ∧ (w.setCells g o vs).output = w.output ∧ (w.setCells g o vs).heap.size = w.heap.size
  | [], _, _ => ⟨rfl, rfl, rfl, rfl⟩
  | v :: r, o, w => by
    obtain ⟨h1, h2, h3, h4⟩ := over_same g r (o + 1) (w.setCell ⟨g, o, none⟩ v)
    rw [World.setCells]
    exact ⟨h1, h2, h3, by rw [h4]; simp [World.setCell]⟩
theorem over_one {g : Nat} {e : TypeId} {w : World} {cur : Array Value} (h : w.heap[g]? = some (.cells cur e (0, 0))) (o : Nat) (v : Value) : (w.setCell ⟨g, o, none⟩ v).heap[g]? = some (.cells (cur.setIfInBounds o v) e (0, 0)) := by
  have hlt : g < w.heap.size := (Array.getElem?_eq_some_iff.1 h).1
  have hg : w.heap[g] = .cells cur e (0, 0) := by
    have := Array.getElem?_eq_getElem hlt
    rw [this] at h
    exact Option.some.inj h
  simp [World.setCell, Array.getElem_modify, hlt, hg]
theorem over_row {g : Nat} {e : TypeId} : ∀ (vs : List Value) (o : Nat) (w : World) (cur : Array Value), w.heap[g]? = some (.cells cur e (0, 0)) → o + vs.length ≤ cur.size →
    ∃ cur', (w.setCells g o vs).heap[g]? = some (.cells cur' e (0, 0)) ∧ cur'.size = cur.size ∧ cur'.toList = cur.toList.take o ++ vs ++ cur.toList.drop (o + vs.length)
  | [], o, w, cur, h, _ => ⟨cur, h, rfl, by simp⟩
  | v :: r, o, w, cur, h, hl => by
    have h2 := over_one h o v
    simp only [List.length_cons] at hl
    obtain ⟨cur', h3, h4, h5⟩ := over_row r (o + 1) (w.setCell ⟨g, o, none⟩ v) _ h2 (by simp; omega)
    refine ⟨cur', h3, by rw [h4]; simp, ?_⟩
    rw [h5, Array.toList_setIfInBounds]
    have ho : o < cur.toList.length := by rw [Array.length_toList]; omega
    rw [List.take_set, List.drop_set_of_lt (by omega)]
    simp only [List.length_cons]
    rw [show o + 1 + r.length = o + (r.length + 1) by omega]
    congr 1
    rw [List.take_succ_eq_append_getElem ho, List.set_append_right _ _ (by rw [List.length_take]; omega)]
    have ho' : o < cur.size := by omega
    simp [Nat.min_eq_left (Nat.le_of_lt ho')]
section
variable {E : TypeId}
/-- Some bytes of a row of the call's own are written over. -/
theorem OB.over {w : World} {base : Nat} {g n c : Nat} {pre old post : List UInt8} (h : OB E w base (.slice (some ⟨g, 0, none⟩) n c) (pre ++ (old ++ post))) (new : List UInt8) (hn : new.length = old.length) (hl : 0 < old.length) :
    App (E := E) w base (.slice (some ⟨g, 0, none⟩) n c) (pre ++ (new ++ post)) (.slice (some ⟨g, 0, none⟩) n c) (w.setCells g pre.length (byv new)) := by
  obtain ⟨⟨hlen, hr⟩, hmax⟩ := h
  obtain ⟨s1, s2, s3, s4⟩ := over_same g (byv new) pre.length w
  refine ⟨⟨⟨by simp [hn], ?_⟩, by simp [hn] at hmax ⊢; omega⟩, ⟨s1, s2, s3, by rw [s4]; exact Nat.le_refl _, fun k _ hk => over_far _ _ k (fun e => hk (by rw [e]; rfl))⟩, .inl rfl⟩
  rcases hr with ⟨hc, _⟩ | ⟨g', cap, cur, he, hb, hg, hnc, hcm, hcs, ht⟩
  · cases hc
  · injection he with e1 e2 e3
    injection e1 with e1
    injection e1 with e1 _ _
    subst e1
    have hlc : (pre ++ (old ++ post)).length ≤ cur.size := by
      rw [hcs]; omega
    simp only [List.length_append] at hlc
    obtain ⟨cur', q1, q2, q3⟩ := over_row (byv new) pre.length w cur hg (by simp; omega)
    refine .inr ⟨g, cap, cur', ?_, hb, q1, ?_, hcm, by rw [q2, hcs], ?_⟩
    · rw [e3, e2]; simp [hn]
    · simp [hn] at hnc ⊢; omega
    · have e4 : (pre ++ (new ++ post)).length * 1 = (pre ++ (old ++ post)).length * 1 := by simp [hn]
      rw [q3, e4]
      have ht2 : cur.toList = byv pre ++ (byv old ++ byv post) ++ cur.toList.drop ((pre ++ (old ++ post)).length * 1) := by
        conv => lhs; rw [← List.take_append_drop ((pre ++ (old ++ post)).length * 1) cur.toList, ht, byv_append, byv_append]
      rw [ht2]
      have p1 : (byv pre ++ (byv old ++ byv post) ++ cur.toList.drop ((pre ++ (old ++ post)).length * 1)).take pre.length = byv pre := by
        rw [List.append_assoc, List.take_left' (by simp)]
      have p2 : (byv pre ++ (byv old ++ byv post) ++ cur.toList.drop ((pre ++ (old ++ post)).length * 1)).drop (pre.length + (byv new).length) = byv post ++ cur.toList.drop ((pre ++ (old ++ post)).length * 1) := by
        have e5 : byv pre ++ (byv old ++ byv post) ++ cur.toList.drop ((pre ++ (old ++ post)).length * 1) = (byv pre ++ byv old) ++ (byv post ++ cur.toList.drop ((pre ++ (old ++ post)).length * 1)) := by simp [List.append_assoc]
        rw [e5, List.drop_left' (by simp [hn])]
      rw [p1, p2]
      have e6 : byv pre ++ byv new ++ (byv post ++ cur.toList.drop ((pre ++ (old ++ post)).length * 1)) = byv (pre ++ (new ++ post)) ++ cur.toList.drop ((pre ++ (old ++ post)).length * 1) := by simp [byv_append, List.append_assoc]
      rw [e6, List.take_left' (by simp [hn])]
end
theorem le_i32 (n : Nat) (h : n < 4294967296) : Lib.byteCells (Lib.leBytes 4 n) = byv (i32 (n : Int)) := by
  have e0 : ((n % 256 : Nat) : Int) = (n : Int) % 256 := by omega
  have e1 : ((n / 256 % 256 : Nat) : Int) = (n : Int) / 256 % 256 := by omega
  have e2 : ((n / 256 / 256 % 256 : Nat) : Int) = (n : Int) / 65536 % 256 := by omega
  have e3 : ((n / 256 / 256 / 256 % 256 : Nat) : Int) = (n : Int) / 16777216 % 256 := by omega
  simp only [Lib.byteCells, Lib.leBytes, List.map, Lib.toUInt8_mod, e0, e1, e2, e3, byv, i32, ub_toNat]
theorem slice_at {P : Program} {t e : TypeId} {i : TypeInfo} (ht : P.underlying t = some (.slice e)) (hi : P.info? e = some i) (hsz : i.size = 1) (kl : IntKind) (g len c m : Nat) (hm : m ≤ len) (hc : len ≤ c) (hlt : m < c) (W : World) :
    (Instr.slice t (.slice (some ⟨g, 0, none⟩) len c) (some (.int kl (m : Int))) none none).run P W = .ok (.slice (some ⟨g, m, none⟩) (len - m) (c - m)) W := by
  have hel : P.elem t = e := by simp [Program.elem, ht]
  have hu : P.underlying t = some (.slice (P.elem t)) := by rw [hel]; exact ht
  rw [run_slice_l (P := P) W t _ len c hu kl (m : Int) (Int.natCast_nonneg _) (by omega), hel]
  have hadd : (⟨g, 0, none⟩ : Addr).add m = ⟨g, m, none⟩ := by unfold Addr.add; split <;> simp_all
  have hne : ¬ (c = m) := by omega
  simp [sizeOf, typeInfo, hi, hsz, sliced, Result.andThen, hne, hadd]
section
variable {E : TypeId}
theorem OB.form {w : World} {base : Nat} {v : Value} {l : List UInt8} (h : OB E w base v l) (hl : 0 < l.length) : ∃ g c, v = .slice (some ⟨g, 0, none⟩) l.length c ∧ l.length ≤ c ∧ c ≤ 9223372036854775807 ∧ base ≤ g ∧ (∀ j, (hj : j < l.length) → w.cell? ⟨g, j, none⟩ = some (.int .u8 (l[j].toNat : Int))) ∧ (∀ j, w.frozen? ⟨g, j, none⟩ = false) := by
  obtain ⟨⟨hlen, hr⟩, hmax⟩ := h
  rcases hr with ⟨hc, h0⟩ | ⟨g, cap, cur, he, hb, hg, hnc, hcm, hcs, ht⟩
  · omega
  · refine ⟨g, cap, he, hnc, by simpa [maxLen] using hcm, hb, fun j hj => ?_, fun j => by simp [World.frozen?, hg]⟩
    have h1 : cur[j]? = (cur.toList)[j]? := by simp
    have h2 : (cur.toList)[j]? = (byv l)[j]? := by
      rw [← ht, List.getElem?_take]
      simp [hj]
    have h3 : w.cell? ⟨g, j, none⟩ = cur[j]? := by unfold World.cell?; rw [hg]; simp
    rw [h3, h1, h2, byv_get l j hj]
end
theorem updLen (W : World) (base : Nat) (v : Value) (pre old post : List UInt8) (n : Nat) (ho : OB 5 W base v (pre ++ (old ++ post))) (h4 : old.length = 4) (hn : n < 2147483648) (hp : pre.length < 2147483648) (hbase : base ≤ W.heap.size) :
    Calls Tryz.prog 108 #[v, .int .i32 (pre.length : Int), .int .i32 (n : Int)] W (After fun v1 w1 => v1 = v ∧ App (E := 5) W base v (pre ++ (i32 (n : Int) ++ post)) v w1) := by
  obtain ⟨g, c, rfl, hlc, hcm, hbg, hcell, hfr⟩ := ho.form (by simp; omega)
  obtain ⟨b0, b1, b2, b3, rfl⟩ : ∃ b0 b1 b2 b3, old = [b0, b1, b2, b3] := by
    match old, h4 with
    | [b0, b1, b2, b3], _ => exact ⟨b0, b1, b2, b3, rfl⟩
  have hP : ∀ wx : World, Below W.heap.size W wx → OB 5 wx base (.slice (some ⟨g, 0, none⟩) (pre ++ ([b0, b1, b2, b3] ++ post)).length c) (pre ++ ([b0, b1, b2, b3] ++ post)) → Calls Tryz.prog 162 #[.agg #[], .slice (some ⟨g, pre.length, none⟩) ((pre ++ ([b0, b1, b2, b3] ++ post)).length - pre.length) (c - pre.length), .int .u32 (n : Int)] wx fun e w' => e = .returned (.tuple #[]) ∧ App (E := 5) W base (.slice (some ⟨g, 0, none⟩) (pre ++ ([b0, b1, b2, b3] ++ post)).length c) (pre ++ (i32 (n : Int) ++ post)) (.slice (some ⟨g, 0, none⟩) (pre ++ ([b0, b1, b2, b3] ++ post)).length c) w' := by
    intro wx hb hox
    obtain ⟨g', c', he, -, -, -, hcx, hfx⟩ := hox.form (by simp; omega)
    injection he with e1 _ e3
    injection e1 with e1
    injection e1 with e1 _ _
    subst e1 e3
    refine (Any.binary_LE_PutUint32 Tryz.lePutUint32 g pre.length _ _ n (by omega) _ _ _ _ wx (by simp) (hcx pre.length (by simp)) (hcx (pre.length + 1) (by simp)) (hcx (pre.length + 2) (by simp)) (hcx (pre.length + 3) (by simp)) (hfx _) (hfx _) (hfx _) (hfx _)).mono ?_
    rintro e w' ⟨rfl, rfl⟩
    refine ⟨rfl, ?_⟩
    rw [le_i32 n (by omega)]
    exact (OB.over (hox.alloc _) (i32 (n : Int)) (by simp [i32]) (by simp)).pre (balloc hb hb.size _)
  have HP := Lib.hid hP
  have HO := Lib.hid ho
  have hsl := slice_at (P := Tryz.prog) Tryz.underlying22 rfl rfl .i32 g (pre ++ ([b0, b1, b2, b3] ++ post)).length c pre.length (by simp) hlc (by simp at hlc; omega)
  have hw1 : IntKind.u32.wrap (n : Int) = n := by rw [IntKind.wrap_u32]; omega
  obtain ⟨q, hq⟩ : ∃ q, q = (pre ++ ([b0, b1, b2, b3] ++ post)).length := ⟨_, rfl⟩
  obtain ⟨m, hm⟩ : ∃ m, m = pre.length := ⟨_, rfl⟩
  rw [← hq, ← hm] at HP hsl
  rw [← hq] at HO
  rw [← hq, ← hm]
  have hcap : q ≤ c := by rw [hq]; exact hlc
  have hmq : m + 4 ≤ q := by rw [hq, hm]; simp
  clear hP ho hq hm hcell hfr hlc hp h4
  go_enter Tryz.func108, Tryz.ntmps108
  go_wp2_with fail
  refine start_ (n := 7) (S := fun w' => True) (ds := []) #[false, false, false, false, false, false, false] (by kernel_rfl) rfl rfl trivial (fun hHeld => ?_)
  refine with_tabW R108.tab1 R108.bits1 (fun HT_ HW_ => ?_)
  refine pure_ (i := 1) (N := some 8) (v := ?_) (a' := ?_) #[false, true, false, false, false, false, false] rfl rfl (any_of HT_.out (by kernel_rfl)) (fun _ _ _ h => h) (Or.inl ⟨by rfl, ?_⟩) ?_ ?_
  rotate_left
  · intro w'
    go_simp
    with_reducible rfl
  rotate_left
  · simp only [Act.put, List.setIfInBounds_toArray, List.set_cons_zero, List.set_cons_succ, i64_w, i32_w]
    rfl
  refine pure_ (i := 2) (N := some 9) (v := ?_) (a' := ?_) #[false, true, true, false, false, false, false] rfl rfl (any_of HT_.out (by kernel_rfl)) (fun _ _ _ h => h) (Or.inl ⟨by rfl, ?_⟩) ?_ ?_
  rotate_left
  · intro w'
    go_simp
    with_reducible rfl
  rotate_left
  · simp only [Act.put, List.setIfInBounds_toArray, List.set_cons_zero, List.set_cons_succ, i64_w, i32_w]
    rfl
  refine pure_ (i := 3) (N := some 10) (v := ?_) (a' := ?_) #[false, true, true, true, false, false, false] rfl rfl (any_of HT_.out (by kernel_rfl)) (fun _ _ _ h => h) (Or.inl ⟨by rfl, ?_⟩) ?_ ?_
  rotate_left
  · intro w'
    go_simp
    with_reducible rfl
  rotate_left
  · simp only [Act.put, List.setIfInBounds_toArray, List.set_cons_zero, List.set_cons_succ, i64_w, i32_w]
    rfl
  refine pure_ (i := 4) (N := some 11) (v := ?_) (a' := ?_) #[false, true, true, true, true, false, false] rfl rfl (any_of HT_.out (by kernel_rfl)) (fun _ _ _ h => h) (Or.inl ⟨by rfl, ?_⟩) ?_ ?_
  rotate_left
  · intro w'
    go_simp
    with_reducible rfl
  rotate_left
  · simp only [Act.put, List.setIfInBounds_toArray, List.set_cons_zero, List.set_cons_succ, i64_w, i32_w]
    rfl
  refine pure_ (i := 5) (N := some 12) (v := ?_) (a' := ?_) #[false, true, true, true, true, true, false] rfl rfl (any_of HT_.out (by kernel_rfl)) (fun _ _ _ h => h) (Or.inl ⟨by rfl, ?_⟩) ?_ ?_
  rotate_left
  · intro w'
    go_simp
    with_reducible rfl
  rotate_left
  · simp only [Act.put, List.setIfInBounds_toArray, List.set_cons_zero, List.set_cons_succ, i64_w, i32_w]
    rfl
  refine take_ (i := 0) (N := some 7) (v := ?_) (a' := ?_) #[true, true, true, true, true, true, false] rfl rfl (take_ofW HT_.out HW_.out (by kernel_rfl)) (fun _ _ _ h => h) (Or.inl ⟨by rfl, ?_⟩) hHeld ?_ ?_
  rotate_left
  · intro w' _
    go_simp
    with_reducible rfl
  rotate_left
  · simp only [Act.put, List.setIfInBounds_toArray, List.set_cons_zero, List.set_cons_succ, i64_w, i32_w]
    rfl
  refine one_ (i := 6) (N := some 13) #[true, true, true, true, true, true, true] rfl rfl (one_of HT_.out (by kernel_rfl)) (by decide) (fun K hK => ?_)
  refine goes_ Tryz.func162 (by kernel_rfl) rfl #[.agg #[], .slice (some ⟨g, m, none⟩) (q - m) (c - m), .int .u32 (n : Int)] (by rfl) rfl rfl (by simp only [List.map_toArray, List.map_cons, List.map_nil]; rfl) ?_
  with_reducible refine (HP.out _ (bdrew (Below.refl _ _)) (HO.out.keep (bdrew (Below.refl _ _)))).mono ?_
  rintro e w3 ⟨rfl, hap⟩
  refine ⟨_, rfl, ?_⟩
  refine hK.out _ _ trivial (fun hHeld => ?_)
  clear hK K
  refine norm_ (a' := ?_) ?_ ?_
  rotate_left
  · show Act.put _ (some 13) _ = _
    simp only [Act.put, List.setIfInBounds_toArray, List.set_cons_zero, List.set_cons_succ, i64_w, i32_w]
    rfl
  refine done_ (done_of HT_.out (by kernel_rfl)) ?_
  have HA := Lib.hid hap
  clear hap
  go_wp2_with fail
  go_ret
  exact ⟨_, rfl, rfl, HA.out⟩
end Go.Proofs.YtbpopaegfhcdpaaGreatDoor.X


/- Contracts of docCopy and of the appenders of numbers. -/
set_option linter.unusedVariables false
set_option linter.unusedSimpArgs false
set_option maxRecDepth 100000
namespace Go.Proofs.YtbpopaegfhcdpaaGreatDoor.X
open Go.RowKit
theorem docCopy (A : Option Addr) (c : Nat) (l : List UInt8) (w : World) (hs : SB w A c l) (hl : l.length ≤ 140737488355328) :
    Calls Tryz.prog 13 #[.slice A l.length c] w (After fun v1 w1 => OB 5 w1 w.heap.size v1 l ∧ Below w.heap.size w w1) := by
  go_enter Tryz.func13, Tryz.ntmps13
  go_wp2_with (first | (refine wp_app (.tmp 3) (.tmp 4) 22 rfl rfl infoB Tryz.underlying22 _ w.heap.size _ [] A c l rfl rfl ?a1 ?a2 ?a3 ?a4 ?_) | fail)
  case a1 => exact OB.lit_ w w.heap.size (Nat.le_refl _) [] [] rfl (by simp) 0 rfl
  case a2 => exact hs.alloc _
  case a3 => simp
  case a4 => simpa using hl
  intro v2 w2 h2
  go_wp2
  go_ret
  exact ⟨v2, rfl, by simpa using h2.own, (balloc (Below.refl _ _) (Nat.le_refl _) _).trans (h2.kept (OB.lit_ w w.heap.size (Nat.le_refl _) [] [] rfl (by simp) 0 rfl) (by simp))⟩
theorem putU32 (W : World) (base : Nat) (v : Value) (l : List UInt8) (n : Int) (h0 : 0 ≤ n) (h1 : n ≤ 4294967295) (HO : OB 5 W base v l) (hbase : base ≤ W.heap.size) (hl : l.length ≤ 100000000000000) :
    Calls Tryz.prog 232 #[v, .int .u32 n] W (After fun v1 w1 => App (E := 5) W base v (l ++ i32 n) v1 w1) := by
  go_enter Tryz.func232, Tryz.ntmps232
  go_wp2_with (first | (refine wp_app (.tmp 5) (.tmp 17) 22 rfl rfl infoB Tryz.underlying22 _ base v l _ _ (i32 n) rfl rfl ?a1 ?a2 ?a3 ?a4 ?_) | fail)
  case a1 => exact HO.alloc _
  case a2 => refine SB.lit_ _ (i32 n) _ ?_ (by simp [i32]) _ rfl; simp [byv, i32, ub_toNat]; omega
  case a3 => simp; omega
  case a4 => simp [i32]; omega
  intro v1 w1 hap
  go_wp2
  go_ret
  exact ⟨v1, rfl, hap.pre (balloc (Below.refl _ _) (Nat.le_refl _) _)⟩
theorem putU64 (W : World) (base : Nat) (v : Value) (l : List UInt8) (n : Int) (h0 : 0 ≤ n) (h1 : n ≤ 18446744073709551615) (HO : OB 5 W base v l) (hbase : base ≤ W.heap.size) (hl : l.length ≤ 100000000000000) :
    Calls Tryz.prog 225 #[v, .int .u64 n] W (After fun v1 w1 => App (E := 5) W base v (l ++ i64 n) v1 w1) := by
  have e8 : i64 n = [ub n, ub (n / 256), ub (n / 65536), ub (n / 16777216), ub (n / 4294967296), ub (n / 1099511627776), ub (n / 281474976710656), ub (n / 72057594037927936)] := by simp [i64, List.range_succ]
  rw [e8]
  go_enter Tryz.func225, Tryz.ntmps225
  go_wp2_with (first | (refine wp_app (.tmp 5) (.tmp 29) 22 rfl rfl infoB Tryz.underlying22 _ base v l _ _ [ub n, ub (n / 256), ub (n / 65536), ub (n / 16777216), ub (n / 4294967296), ub (n / 1099511627776), ub (n / 281474976710656), ub (n / 72057594037927936)] rfl rfl ?a1 ?a2 ?a3 ?a4 ?_) | fail)
  case a1 => exact HO.alloc _
  case a2 => refine SB.lit_ _ ([ub n, ub (n / 256), ub (n / 65536), ub (n / 16777216), ub (n / 4294967296), ub (n / 1099511627776), ub (n / 281474976710656), ub (n / 72057594037927936)]) _ ?_ (by simp [i32]) _ rfl; simp [byv, i32, ub_toNat]; omega
  case a3 => simp; omega
  case a4 => simp [i32]; omega
  intro v1 w1 hap
  go_wp2
  go_ret
  exact ⟨v1, rfl, hap.pre (balloc (Below.refl _ _) (Nat.le_refl _) _)⟩
end Go.Proofs.YtbpopaegfhcdpaaGreatDoor.X


/- Contracts of bsoncore's beginnings and ends of documents and arrays. -/
set_option linter.unusedVariables false
set_option linter.unusedSimpArgs false
set_option maxRecDepth 100000
namespace Go.Proofs.YtbpopaegfhcdpaaGreatDoor.X
open Go.RowKit Go.Proofs.YtbpopaegfhcdpaaGreatDoorW.PrintLast

theorem reserve (W : World) (base : Nat) (v : Value) (l : List UInt8) (HO : OB 5 W base v l) (hbase : base ≤ W.heap.size) (hl : l.length ≤ 2147483000) :
    Calls Tryz.prog 106 #[v] W fun e w1 => ∃ v1, e = .returned (.tuple #[.int .i32 (l.length : Int), v1]) ∧ App (E := 5) W base v (l ++ [0, 0, 0, 0]) v1 w1 := by
  obtain ⟨A, c, rfl, hs, -⟩ := HO.sb
  have hlc := hs.le
  have hcc := hs.cap
  clear hs
  go_enter Tryz.func106, Tryz.ntmps106
  go_wp2_with (first | (refine wp_app (.tmp 9) (.tmp 10) 22 rfl rfl infoB Tryz.underlying22 _ base _ l _ _ [0, 0, 0, 0] rfl rfl ?a1 ?a2 ?a3 ?a4 ?_) | fail)
  case a1 => exact HO.alloc _
  case a2 => exact SB.lit_ _ [0, 0, 0, 0] _ (by simp [byv]) (by simp) _ rfl
  case a3 => simp; omega
  case a4 => simp; omega
  intro v1 w1 hap
  go_wp2_with fail
  exact bodyPost_ret (v := .tuple #[.int .i32 (l.length : Int), v1]) (by simp [results, Tryz.results106, go_sem]) rfl ⟨v1, rfl, hap.pre (balloc (Below.refl _ _) (Nat.le_refl _) _)⟩
theorem docStart (W : World) (base : Nat) (v : Value) (l : List UInt8) (HO : OB 5 W base v l) (hbase : base ≤ W.heap.size) (hl : l.length ≤ 2147483000) :
    Calls Tryz.prog 220 #[v] W fun e w1 => ∃ v1, e = .returned (.tuple #[.int .i32 (l.length : Int), v1]) ∧ App (E := 5) W base v (l ++ [0, 0, 0, 0]) v1 w1 := by
  go_enter Tryz.func220, Tryz.ntmps220
  go_wp2_with fail
  refine (reserve W base v l HO hbase hl).mono ?_
  rintro e w1 ⟨v1, rfl, hap⟩
  go_wp2_with fail
  exact bodyPost_ret (v := .tuple #[.int .i32 (l.length : Int), v1]) (by simp [results, Tryz.results220, go_sem]) rfl ⟨v1, rfl, hap⟩
theorem arrStart (W : World) (base : Nat) (v : Value) (l : List UInt8) (HO : OB 5 W base v l) (hbase : base ≤ W.heap.size) (hl : l.length ≤ 2147483000) :
    Calls Tryz.prog 138 #[v] W fun e w1 => ∃ v1, e = .returned (.tuple #[.int .i32 (l.length : Int), v1]) ∧ App (E := 5) W base v (l ++ [0, 0, 0, 0]) v1 w1 := by
  go_enter Tryz.func138, Tryz.ntmps138
  go_wp2_with fail
  refine (reserve W base v l HO hbase hl).mono ?_
  rintro e w1 ⟨v1, rfl, hap⟩
  go_wp2_with fail
  exact bodyPost_ret (v := .tuple #[.int .i32 (l.length : Int), v1]) (by simp [results, Tryz.results138, go_sem]) rfl ⟨v1, rfl, hap⟩
theorem docEnd (W : World) (base : Nat) (v : Value) (pre old body : List UInt8) (HO : OB 5 W base v (pre ++ (old ++ body))) (h4 : old.length = 4) (hbase : base ≤ W.heap.size) (hl : pre.length + body.length ≤ 2147483000) :
    Calls Tryz.prog 160 #[v, .int .i32 (pre.length : Int)] W fun e w1 => ∃ v1, e = .returned (.tuple #[v1, .nilIface]) ∧ App (E := 5) W base v (pre ++ (i32 ((body.length : Int) + 5) ++ (body ++ [0]))) v1 w1 := by
  obtain ⟨A, c, rfl, hs, -⟩ := HO.sb
  have hlc := hs.le
  have hcc := hs.cap
  obtain ⟨L, hL⟩ : ∃ L, L = pre ++ (old ++ body) := ⟨_, rfl⟩
  have hLl : L.length = pre.length + 4 + body.length := by rw [hL]; simp [h4]; omega
  rw [← hL] at HO hlc ⊢
  have HL := Lib.hid hL
  have H4 := Lib.hid h4
  have HB := Lib.hid hbase
  have hLL := Lib.hid hLl
  have g1 : ¬ (pre.length : Int) > (L.length : Int) - 4 := by omega
  obtain ⟨q, hq⟩ : ∃ q, q = L.length := ⟨_, rfl⟩
  obtain ⟨m, hm⟩ : ∃ m, m = pre.length := ⟨_, rfl⟩
  rw [← hq, ← hm] at g1 hLL
  rw [← hq] at hlc HO
  rw [← hq, ← hm]
  have hq1 : q ≤ 2147483004 := by omega
  have hm1 : m + 4 ≤ q := by omega
  have HQ := Lib.hid hq
  have HM := Lib.hid hm
  clear hs hL h4 hbase hLl hl hq hm
  go_enter Tryz.func160, Tryz.ntmps160
  go_wp2_with (first | (refine wp_app (.tmp 14) (.tmp 15) 22 rfl rfl infoB Tryz.underlying22 _ base _ L _ _ [0] rfl rfl ?a1 ?a2 ?a3 ?a4 ?_) | fail)
  case a1 => exact HO.alloc _
  case a2 => exact SB.lit_ _ [0] _ (by simp [byv]) (by simp) _ rfl
  case a3 => have := HB.out; simp; omega
  case a4 => have := HQ.out; simp; omega
  intro v1 w1 hap
  have hap2 := hap.pre (balloc (Below.refl _ _) (Nat.le_refl _) _)
  have hz := hap2.size
  obtain ⟨g, c1, hv1, hlc1, hcm1, hbg, -, -⟩ := hap.own.form (by simp)
  have hq2 : (L ++ [0]).length = q + 1 := by rw [HQ.out]; simp
  rw [hq2] at hv1 hlc1
  have ho1 := hap.own
  rw [hv1] at ho1 ⊢
  have hA2 := hap2
  rw [hv1] at hA2
  have HA2 := Lib.hid hA2
  have hsl := slice_at (P := Tryz.prog) Tryz.underlying22 rfl rfl .i32 g (q + 1) c1 m (by omega) (by omega) (by omega)
  have e1 : L ++ [0] = pre ++ (old ++ (body ++ [0])) := by rw [HL.out]; simp [List.append_assoc]
  have hup : ∀ wx, wx = w1 → Calls Tryz.prog 108 #[.slice (some ⟨g, 0, none⟩) (q + 1) c1, .int .i32 (m : Int), .int .i32 ((q + 1 - m : Nat) : Int)] wx fun e w2 => ∃ v2, e = .returned v2 ∧ App (E := 5) W base (.slice A q c) (pre ++ (i32 ((body.length : Int) + 5) ++ (body ++ [0]))) v2 w2 := by
    rintro wx rfl
    have ho3 := ho1
    rw [e1] at ho3
    have hk := HQ.out
    have hk2 := hLL.out
    rw [HM.out]
    refine (updLen wx base _ pre old (body ++ [0]) (q + 1 - pre.length) ho3 H4.out (by omega) (by have := HM.out; omega) (by have := HB.out; omega)).mono ?_
    rintro e w2 ⟨v2, rfl, rfl, hx⟩
    refine ⟨_, rfl, ?_⟩
    have e5 : ((q + 1 - pre.length : Nat) : Int) = (body.length : Int) + 5 := by have := HM.out; omega
    rw [e5] at hx
    exact HA2.out.trans hx
  have HU := Lib.hid (hup w1 rfl)
  have hw0 : ((q + 1 - m : Nat) : Int) ≤ 2147483647 := by omega
  clear hap hap2 hz ho1 hA2 hup hq2 e1 hv1 HL H4 HB hLL HQ HM HO HA2
  go_wp2_with fail
  refine HU.out.mono ?_
  rintro e w2 ⟨v2, rfl, hx⟩
  have HX := Lib.hid hx
  clear hx HU hsl
  go_wp2_with fail
  exact bodyPost_ret (v := .tuple #[v2, .nilIface]) (by simp [results, Tryz.results160, go_sem]) rfl ⟨v2, rfl, HX.out⟩
theorem arrEnd (W : World) (base : Nat) (v : Value) (pre old body : List UInt8) (HO : OB 5 W base v (pre ++ (old ++ body))) (h4 : old.length = 4) (hbase : base ≤ W.heap.size) (hl : pre.length + body.length ≤ 2147483000) :
    Calls Tryz.prog 103 #[v, .int .i32 (pre.length : Int)] W fun e w1 => ∃ v1, e = .returned (.tuple #[v1, .nilIface]) ∧ App (E := 5) W base v (pre ++ (i32 ((body.length : Int) + 5) ++ (body ++ [0]))) v1 w1 := by
  go_enter Tryz.func103, Tryz.ntmps103
  go_wp2_with fail
  refine (docEnd W base v pre old body HO h4 hbase hl).mono ?_
  rintro e w1 ⟨v1, rfl, hap⟩
  go_wp2_with fail
  exact bodyPost_ret (v := .tuple #[v1, .nilIface]) (by simp [results, Tryz.results103, go_sem]) rfl ⟨v1, rfl, hap⟩
end Go.Proofs.YtbpopaegfhcdpaaGreatDoor.X


