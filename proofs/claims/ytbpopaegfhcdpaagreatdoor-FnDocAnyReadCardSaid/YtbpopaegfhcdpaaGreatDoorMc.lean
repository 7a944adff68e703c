/- Put together, without what nothing reaches: TkD, TkE, TkF. -/
import Derived.Test.YtbpopaegfhcdpaaGreatDoorMb
import Derived.Test.YtbpopaegfhcdpaaGreatDoorMa
/- spec.docParse of identifiers, decimals and binaries. (gen_tk.py) -/
set_option linter.unusedVariables false
set_option linter.unusedSimpArgs false
set_option maxRecDepth 100000
namespace Go.Proofs.YtbpopaegfhcdpaaGreatDoor.X
open Go.RowKit Go.Proofs.YtbpopaegfhcdpaaGreatDoorW.PrintLast Go.Proofs.YtbpopaegfhcdpaaGreatDoorW.PrintWords
open Go.Proofs.YtbpopaegfhcdpaaGreatDoor.PFnDocAnyLookup
namespace Tk
open Sp Al Av Aw Ck
def R110.T22 : Bool × List (List Nat × List Nat) := (true, [([], []), ([0], [0]), ([], []), ([2], [2]), ([1, 3], [1, 3]), ([0, 1, 2, 3, 4], []), ([5, 4, 4, 0, 1, 2, 3, 4], [4, 5])])
def R110.B22 : List Nat := [0, 1, 0, 4, 15, 31, 63]
theorem R110.tab22 : rtab .any (opsOf Tryz.f110 22) = R110.T22 := by kernel_rfl
theorem R110.bits22 : waitsOk R110.T22.2 R110.B22 = true := by kernel_rfl
def R110.T15 : Bool × List (List Nat × List Nat) := (true, [([], []), ([0], [0]), ([], []), ([2], [2]), ([3, 1], [3]), ([0, 1], []), ([5, 1, 4, 0, 1], [1, 5]), ([0, 1, 2, 3, 4, 5, 6], []), ([7, 4, 6, 0, 1, 2, 3, 4, 5, 6], [4, 7])])
def R110.B15 : List Nat := [0, 1, 0, 4, 15, 3, 63, 127, 255]
theorem R110.tab15 : rtab .any (opsOf Tryz.f110 15) = R110.T15 := by kernel_rfl
theorem R110.bits15 : waitsOk R110.T15.2 R110.B15 = true := by kernel_rfl
theorem sizeU8t : (Tryz.prog.info? 5).map (fun i => (i.zero, i.size, i.bytes)) = some (some (.int .u8 0), 1, 1) := by kernel_rfl
set_option maxHeartbeats 4000000 in
theorem pk_7 (A : Option Addr) (c : Nat) (l : List UInt8) (w : World) (hs : SB w A c l) (hl : l.length ≤ 5000) (m r : List UInt8) (hm : m.length = 12) (hlr : l = m ++ r) : PkOk 7 l ⟨#[]⟩ ⟨#[]⟩ 0 0 0 m 12 A c w := by
  unfold PkOk
  have hLE : spec_DocLen.f 5 7 (ints l) = some (((12 : Nat) : Int), true) := by
    rw [len_7, decide_eq_true (by rw [hlr]; simp; omega)]
  have HLEN := Lib.hid (fun wx (hb : Below w.heap.size w wx) => lenC 5 7 A c l (((12 : Nat) : Int)) true wx (hs.keep hb) hLE)
  obtain ⟨A6, x6', s6⟩ := SB.to_ (P := Tryz.prog) Tryz.underlying22 rfl rfl .i64 A c l 12 (by rw [hlr]; simp; omega) hs.le
  have htk : l.take 12 = m := by rw [hlr, List.take_append_of_le_length (by omega), List.take_of_length_le (by omega)]
  have HS6 : Hid (∀ W, Below w.heap.size w W → SB W A6 c m) := Lib.hid fun W h => by have h2 := s6 W (hs.keep h); rw [htk] at h2; exact h2
  have HLB : Hid (m.length = 12) := Lib.hid hm
  have HLE5 : Hid (m.length ≤ 5000) := Lib.hid (by omega)
  obtain ⟨p, hp⟩ : ∃ p, p = l.length := ⟨_, rfl⟩
  rw [← hp] at HLEN x6'
  rw [← hp]
  have e6' : ∀ W : World, (Instr.slice 22 (.slice A p c) none (some (.int .i64 12)) none).run Tryz.prog W = .ok (.slice A6 12 c) W := x6'
  rw [hm]
  clear hs hl hLE hp hlr htk s6 x6' hm
  have h00 : ((12 : Nat) : Int) = 12 := rfl
  rw [h00] at HLEN ⊢
  clear h00
  go_enter Tryz.func110, Tryz.ntmps110
  go_wp2_with fail
  refine (HLEN.out _ (balloc (balloc (Below.refl _ _) (Nat.le_refl _) _) (by simp) _)).mono ?_
  rintro e w1 ⟨rfl, hb1⟩
  have hb1' : Below (w.heap.size + 1 + 1) ((w.alloc (.cells #[.int .i64 0, .string ⟨#[]⟩, .string ⟨#[]⟩, .int .i64 0, .int .u64 0, .int .u64 0, .slice none 0 0, .slice none 0 0] 27)).alloc (.cells #[.int .i64 7, .string ⟨#[]⟩, .string ⟨#[]⟩, .int .i64 0, .int .u64 0, .int .u64 0, .slice none 0 0, .slice none 0 0] 27)) w1 := by simpa using hb1
  clear hb1 HLEN
  obtain ⟨haw1, hbw1, hlA, hlB, hBw1⟩ := twobox (a := (.cells #[.int .i64 0, .string ⟨#[]⟩, .string ⟨#[]⟩, .int .i64 0, .int .u64 0, .int .u64 0, .slice none 0 0, .slice none 0 0] 27 (0, 0))) (b := (.cells #[.int .i64 7, .string ⟨#[]⟩, .string ⟨#[]⟩, .int .i64 0, .int .u64 0, .int .u64 0, .slice none 0 0, .slice none 0 0] 27 (0, 0))) hb1'
  obtain ⟨x0, x1, x2, x3, x4, x5, x6, x7, xf0, xf1, xf2, xf3, xf4, xf5, xf6, xf7⟩ := cells8 haw1
  obtain ⟨y0, y1, y2, y3, y4, y5, y6, y7, yf0, yf1, yf2, yf3, yf4, yf5, yf6, yf7⟩ := cells8 hbw1
  have HBw1 := Lib.hid hBw1
  clear haw1 hbw1 hBw1
  go_wp2_with fail
  refine start_ (n := 7) (S := fun w' => w'.cell? ⟨w.heap.size + 1, 6, none⟩ = some (.slice none 0 0)) (ds := [6]) #[false, false, false, false, false, false, false] (by kernel_rfl) rfl rfl ((by go_simp)) (fun hHeld => ?_)
  refine with_tabW R110.tab22 R110.bits22 (fun HT_ HW_ => ?_)
  refine pure_ (i := 0) (N := some 80) (v := ?_) (a' := ?_) #[true, false, false, false, false, false, false] rfl rfl (any_of HT_.out (by kernel_rfl)) (fun _ _ _ h => h) (Or.inl ⟨by rfl, ?_⟩) ?_ ?_
  rotate_left
  · intro w'
    go_simp
    with_reducible rfl
  rotate_left
  · simp only [Act.put, List.setIfInBounds_toArray, List.set_cons_zero, List.set_cons_succ, i64_w, i32_w]
    rfl
  refine pure_ (i := 2) (N := some 82) (v := ?_) (a' := ?_) #[true, false, true, false, false, false, false] rfl rfl (any_of HT_.out (by kernel_rfl)) (fun _ _ _ h => h) (Or.inl ⟨by rfl, ?_⟩) ?_ ?_
  rotate_left
  · intro w'
    go_simp
    with_reducible rfl
  rotate_left
  · simp only [Act.put, List.setIfInBounds_toArray, List.set_cons_zero, List.set_cons_succ, i64_w, i32_w]
    rfl
  refine pure_ (i := 3) (N := some 83) (v := ?_) (a' := ?_) #[true, false, true, true, false, false, false] rfl rfl (any_of HT_.out (by kernel_rfl)) (fun _ _ _ h => h) (Or.inl ⟨by rfl, ?_⟩) ?_ ?_
  rotate_left
  · intro w'
    go_simp
    with_reducible rfl
  rotate_left
  · simp only [Act.put, List.setIfInBounds_toArray, List.set_cons_zero, List.set_cons_succ, i64_w, i32_w]
    rfl
  refine take_ (i := 1) (N := some 81) (v := ?_) (a' := ?_) #[true, true, true, true, false, false, false] rfl rfl (take_ofW HT_.out HW_.out (by kernel_rfl)) (fun _ _ _ h => h) (Or.inl ⟨by rfl, ?_⟩) hHeld ?_ ?_
  rotate_left
  · intro w' s0
    go_simp
    with_reducible rfl
  rotate_left
  · simp only [Act.put, List.setIfInBounds_toArray, List.set_cons_zero, List.set_cons_succ, i64_w, i32_w]
    rfl
  refine one_ (i := 4) (N := some 84) #[true, true, true, true, true, false, false] rfl rfl (one_of HT_.out (by kernel_rfl)) (by decide) (fun K hK => ?_)
  refine app_step (.tmp 81) (.tmp 83) 22 (by rfl) rfl rfl sizeU8t Tryz.underlying22 _ _ (.slice none 0 0) [] A6 c m rfl (by rw [HLB.out]; rfl) (OB.nil _ _) (HS6.out _ (bdrew HBw1.out)) (Nat.le_refl _) (by have := HLE5.out; simp; omega) ?_
  intro v5 w5 hap
  have hk5 := hap.kept (OB.nil _ _) (Nat.le_refl _)
  have ho5 := hap.own
  rw [List.nil_append] at ho5
  obtain ⟨A5, c5, hv5, hs5, hn5⟩ := ho5.sb
  rw [HLB.out] at hv5
  have zf5 : w5.frozen? ⟨w.heap.size + 1, 6, none⟩ = false := (hk5.frozen (p := ⟨w.heap.size + 1, 6, none⟩) (by show w.heap.size + 1 < w1.heap.size; exact hlB)).trans yf6
  have hkb := (hk5.cell (World.block_lt_of_cell? _ _ hHeld)).trans hHeld
  refine hK.out _ _ (hkb) (fun hHeld => ?_)
  clear hK K
  refine norm_ (a' := ?_) ?_ ?_
  rotate_left
  · show Act.put _ (some 84) _ = _
    simp only [Act.put, List.setIfInBounds_toArray, List.set_cons_zero, List.set_cons_succ, i64_w, i32_w]
    rfl
  refine pure_ (i := 5) (N := some 85) (v := ?_) (a' := ?_) #[true, true, true, true, true, true, false] rfl rfl (any_of HT_.out (by kernel_rfl)) (fun _ _ _ h => h) (Or.inl ⟨by rfl, ?_⟩) ?_ ?_
  rotate_left
  · intro w'
    go_simp
    with_reducible rfl
  rotate_left
  · simp only [Act.put, List.setIfInBounds_toArray, List.set_cons_zero, List.set_cons_succ, i64_w, i32_w]
    rfl
  refine last_ (i := 6) (N := none) #[true, true, true, true, true, true, true] rfl rfl (one_of HT_.out (by kernel_rfl)) (by decide) (fun K hK => ?_)
  refine skip_ (w1 := ?_) (by rfl) rfl ?_ ?_
  rotate_left
  · go_simp
    rfl
  refine hK.out _ _ ?_
  clear hK K
  refine done_ (done_of HT_.out (by kernel_rfl)) ?_
  have hb5 : Below (w.heap.size + 1 + 1) ((w.alloc (.cells #[.int .i64 0, .string ⟨#[]⟩, .string ⟨#[]⟩, .int .i64 0, .int .u64 0, .int .u64 0, .slice none 0 0, .slice none 0 0] 27)).alloc (.cells #[.int .i64 7, .string ⟨#[]⟩, .string ⟨#[]⟩, .int .i64 0, .int .u64 0, .int .u64 0, .slice none 0 0, .slice none 0 0] 27)) w5 := hb1'.trans ((bdrew (Below.refl _ _) : Below (w.heap.size + 1 + 1) w1 w1.drew).trans (hk5.mono (by have h := hb1'.size; simpa using h)))
  have HS5 := Lib.hid hs5
  have HN5 : Hid (∀ a, A5 = some a → w1.heap.size ≤ a.block) := Lib.hid fun a ha => (hn5 a ha).1
  have hz1 : w.heap.size + 1 + 1 ≤ w1.heap.size := by have h := hb1'.size; simpa using h
  clear hap hk5 ho5 hs5 hn5 hkb zf5 hHeld hb1' x0 xf0 y0 yf0 x1 xf1 y1 yf1 x2 xf2 y2 yf2 x3 xf3 y3 yf3 x4 xf4 y4 yf4 x5 xf5 y5 yf5 x6 xf6 y6 yf6 x7 xf7 y7 yf7 hlA hlB HBw1
  subst hv5
  obtain ⟨haw5, hbw5, hlA, hlB, hBw5⟩ := twobox (a := (.cells #[.int .i64 0, .string ⟨#[]⟩, .string ⟨#[]⟩, .int .i64 0, .int .u64 0, .int .u64 0, .slice none 0 0, .slice none 0 0] 27 (0, 0))) (b := (.cells #[.int .i64 7, .string ⟨#[]⟩, .string ⟨#[]⟩, .int .i64 0, .int .u64 0, .int .u64 0, .slice none 0 0, .slice none 0 0] 27 (0, 0))) hb5
  obtain ⟨x0, x1, x2, x3, x4, x5, x6, x7, xf0, xf1, xf2, xf3, xf4, xf5, xf6, xf7⟩ := cells8 haw5
  obtain ⟨y0, y1, y2, y3, y4, y5, y6, y7, yf0, yf1, yf2, yf3, yf4, yf5, yf6, yf7⟩ := cells8 hbw5
  have HBw5 := Lib.hid hBw5
  clear haw5 hbw5 hBw5
  clear hb5
  go_wp2_with fail
  have hf1 : ∀ a, A5 = some a → a.block ≠ w.heap.size := fun a ha => by have h := HN5.out a ha; omega
  have hf2 : ∀ a, A5 = some a → a.block ≠ w.heap.size + 1 := fun a ha => by have h := HN5.out a ha; omega
  all_goals exact bodyPost_ret (v := .tuple #[.agg #[.int .i64 7, .string ⟨#[]⟩, .string ⟨#[]⟩, .int .i64 0, .int .u64 0, .int .u64 0, .slice A5 12 c5, .slice none 0 0], .int .i64 12, .bool true]) (by simp [results, Tryz.results110, go_sem, x0, x1, x2, x3, x4, x5, x6, x7,y0, y1, y2, y3, y4, y5, y6, y7, hlA, hlB]) rfl ⟨⟨A5, c5, rfl, (by (iterate 8 (refine SB.far ?_ hf1 _)); refine SB.far ?_ hf2 _; exact HS5.out)⟩, (by (iterate 9 (refine bsS _ (by omega) ?_)); exact HBw5.out)⟩
set_option maxHeartbeats 4000000 in
theorem pk_19 (A : Option Addr) (c : Nat) (l : List UInt8) (w : World) (hs : SB w A c l) (hl : l.length ≤ 5000) (b0 b1 b2 b3 b4 b5 b6 b7 b8 b9 b10 b11 b12 b13 b14 b15 : UInt8) (r : List UInt8) (hlr : l = b0 :: b1 :: b2 :: b3 :: b4 :: b5 :: b6 :: b7 :: b8 :: b9 :: b10 :: b11 :: b12 :: b13 :: b14 :: b15 :: r) : PkOk 19 l ⟨#[]⟩ ⟨#[]⟩ 0 (Lib.leNat [b0, b1, b2, b3, b4, b5, b6, b7]) (Lib.leNat [b8, b9, b10, b11, b12, b13, b14, b15]) [] 16 A c w := by
  unfold PkOk
  have hLE : spec_DocLen.f 5 19 (ints l) = some (((16 : Nat) : Int), true) := by
    rw [len_19, decide_eq_true (by rw [hlr]; simp)]
  have HLEN := Lib.hid (fun wx (hb : Below w.heap.size w wx) => lenC 5 19 A c l (((16 : Nat) : Int)) true wx (hs.keep hb) hLE)
  have HL1 := Lib.hid (fun wx (hb : Below w.heap.size w wx) => docLong A c b0 b1 b2 b3 b4 b5 b6 b7 (b8 :: b9 :: b10 :: b11 :: b12 :: b13 :: b14 :: b15 :: r) wx (by rw [← hlr]; exact hs.keep hb))
  rw [← hlr] at HL1
  obtain ⟨A6, x6', s6⟩ := SB.from_ (P := Tryz.prog) Tryz.underlying22 rfl rfl .i64 A c l 8 (by rw [hlr]; simp) hs.le
  have hd : l.drop 8 = b8 :: b9 :: b10 :: b11 :: b12 :: b13 :: b14 :: b15 :: r := by rw [hlr]; rfl
  have HL2 := Lib.hid (fun wx (hb : Below w.heap.size w wx) => docLong A6 (c - 8) b8 b9 b10 b11 b12 b13 b14 b15 r wx (by rw [← hd]; exact s6 wx (hs.keep hb)))
  rw [← hd, List.length_drop] at HL2
  obtain ⟨p, hp⟩ : ∃ p, p = l.length := ⟨_, rfl⟩
  rw [← hp] at HLEN HL1 HL2 x6'
  rw [← hp]
  obtain ⟨q, hq⟩ : ∃ q, q = p - 8 := ⟨_, rfl⟩
  rw [← hq] at HL2 x6'
  have e6' : ∀ W : World, (Instr.slice 22 (.slice A p c) (some (.int .i64 8)) none none).run Tryz.prog W = .ok (.slice A6 q (c - 8)) W := x6'
  obtain ⟨n1, hn1⟩ : ∃ n : Nat, n = Lib.leNat [b0, b1, b2, b3, b4, b5, b6, b7] := ⟨_, rfl⟩
  obtain ⟨n2, hn2⟩ : ∃ n : Nat, n = Lib.leNat [b8, b9, b10, b11, b12, b13, b14, b15] := ⟨_, rfl⟩
  rw [← hn1] at HL1 ⊢
  rw [← hn2] at HL2 ⊢
  clear hs hl hLE hp hlr hd s6 x6' hq hn1 hn2
  have h00 : ((16 : Nat) : Int) = 16 := rfl
  rw [h00] at HLEN ⊢
  clear h00
  go_enter Tryz.func110, Tryz.ntmps110
  go_wp2_with fail
  refine (HLEN.out _ (balloc (balloc (Below.refl _ _) (Nat.le_refl _) _) (by simp) _)).mono ?_
  rintro e w1 ⟨rfl, hb1⟩
  have hb1' : Below (w.heap.size + 1 + 1) ((w.alloc (.cells #[.int .i64 0, .string ⟨#[]⟩, .string ⟨#[]⟩, .int .i64 0, .int .u64 0, .int .u64 0, .slice none 0 0, .slice none 0 0] 27)).alloc (.cells #[.int .i64 19, .string ⟨#[]⟩, .string ⟨#[]⟩, .int .i64 0, .int .u64 0, .int .u64 0, .slice none 0 0, .slice none 0 0] 27)) w1 := by simpa using hb1
  clear hb1 HLEN
  obtain ⟨haw1, hbw1, hlA, hlB, hBw1⟩ := twobox (a := (.cells #[.int .i64 0, .string ⟨#[]⟩, .string ⟨#[]⟩, .int .i64 0, .int .u64 0, .int .u64 0, .slice none 0 0, .slice none 0 0] 27 (0, 0))) (b := (.cells #[.int .i64 19, .string ⟨#[]⟩, .string ⟨#[]⟩, .int .i64 0, .int .u64 0, .int .u64 0, .slice none 0 0, .slice none 0 0] 27 (0, 0))) hb1'
  obtain ⟨x0, x1, x2, x3, x4, x5, x6, x7, xf0, xf1, xf2, xf3, xf4, xf5, xf6, xf7⟩ := cells8 haw1
  obtain ⟨y0, y1, y2, y3, y4, y5, y6, y7, yf0, yf1, yf2, yf3, yf4, yf5, yf6, yf7⟩ := cells8 hbw1
  have HBw1 := Lib.hid hBw1
  clear haw1 hbw1 hBw1
  go_wp2_with fail
  refine start_ (n := 9) (S := fun w' => True) (ds := [6, 8]) #[false, false, false, false, false, false, false, false, false] (by kernel_rfl) rfl rfl trivial (fun hHeld => ?_)
  refine with_tabW R110.tab15 R110.bits15 (fun HT_ HW_ => ?_)
  refine pure_ (i := 0) (N := some 51) (v := ?_) (a' := ?_) #[true, false, false, false, false, false, false, false, false] rfl rfl (any_of HT_.out (by kernel_rfl)) (fun _ _ _ h => h) (Or.inl ⟨by rfl, ?_⟩) ?_ ?_
  rotate_left
  · intro w'
    go_simp
    with_reducible rfl
  rotate_left
  · simp only [Act.put, List.setIfInBounds_toArray, List.set_cons_zero, List.set_cons_succ, i64_w, i32_w]
    rfl
  refine pure_ (i := 2) (N := some 53) (v := ?_) (a' := ?_) #[true, false, true, false, false, false, false, false, false] rfl rfl (any_of HT_.out (by kernel_rfl)) (fun _ _ _ h => h) (Or.inl ⟨by rfl, ?_⟩) ?_ ?_
  rotate_left
  · intro w'
    go_simp
    with_reducible rfl
  rotate_left
  · simp only [Act.put, List.setIfInBounds_toArray, List.set_cons_zero, List.set_cons_succ, i64_w, i32_w]
    rfl
  refine pure_ (i := 3) (N := some 54) (v := ?_) (a' := ?_) #[true, false, true, true, false, false, false, false, false] rfl rfl (any_of HT_.out (by kernel_rfl)) (fun _ _ _ h => h) (Or.inl ⟨by rfl, ?_⟩) ?_ ?_
  rotate_left
  · intro w'
    go_simp
    with_reducible rfl
  rotate_left
  · simp only [Act.put, List.setIfInBounds_toArray, List.set_cons_zero, List.set_cons_succ, i64_w, i32_w]
    rfl
  refine one_ (i := 1) (N := some 52) #[true, true, true, true, false, false, false, false, false] rfl rfl (one_of HT_.out (by kernel_rfl)) (by decide) (fun K hK => ?_)
  refine goes_ Tryz.func163 (by kernel_rfl) rfl #[.slice A p c] (by rfl) rfl rfl (by simp only [List.map_toArray, List.map_cons, List.map_nil]; rfl) ?_
  with_reducible refine (HL1.out _ (HBw1.out.trans ((bdrew (Below.refl _ _) : Below w1.heap.size w1 _).mono (by omega)))).mono ?_
  rintro e w3 ⟨rfl, hb3⟩
  refine ⟨_, rfl, ?_⟩
  have hA : Below w1.heap.size w1 w3 := (bdrew (Below.refl _ _) : Below w1.heap.size w1 w1.drew).trans (hb3.mono (by simp))
  refine hK.out _ _ (trivial) (fun hHeld => ?_)
  clear hK K
  refine norm_ (a' := ?_) ?_ ?_
  rotate_left
  · show Act.put _ (some 52) _ = _
    simp only [Act.put, List.setIfInBounds_toArray, List.set_cons_zero, List.set_cons_succ, i64_w, i32_w]
    rfl
  refine pure_ (i := 5) (N := some 56) (v := ?_) (a' := ?_) #[true, true, true, true, false, true, false, false, false] rfl rfl (any_of HT_.out (by kernel_rfl)) (fun _ _ _ h => h) (Or.inl ⟨by rfl, ?_⟩) ?_ ?_
  rotate_left
  · intro w'
    go_simp
    with_reducible rfl
  rotate_left
  · simp only [Act.put, List.setIfInBounds_toArray, List.set_cons_zero, List.set_cons_succ, i64_w, i32_w]
    rfl
  refine one_ (i := 4) (N := some 55) #[true, true, true, true, true, true, false, false, false] rfl rfl (one_of HT_.out (by kernel_rfl)) (by decide) (fun K hK => ?_)
  refine goes_ Tryz.func163 (by kernel_rfl) rfl #[.slice A6 q (c - 8)] (by rfl) rfl rfl (by simp only [List.map_toArray, List.map_cons, List.map_nil]; rfl) ?_
  with_reducible refine (HL2.out _ (HBw1.out.trans (hA.mono (by omega)))).mono ?_
  rintro e w6 ⟨rfl, hb6q⟩
  refine ⟨_, rfl, ?_⟩
  have hB6 := hA.trans (hb6q.mono hA.size)
  clear hb6q hb3 hA
  have hb6 : Below (w.heap.size + 1 + 1) ((w.alloc (.cells #[.int .i64 0, .string ⟨#[]⟩, .string ⟨#[]⟩, .int .i64 0, .int .u64 0, .int .u64 0, .slice none 0 0, .slice none 0 0] 27)).alloc (.cells #[.int .i64 19, .string ⟨#[]⟩, .string ⟨#[]⟩, .int .i64 0, .int .u64 0, .int .u64 0, .slice none 0 0, .slice none 0 0] 27)) w6 := hb1'.trans (hB6.mono (by have h := hb1'.size; simpa using h))
  clear x0 xf0 y0 yf0 x1 xf1 y1 yf1 x2 xf2 y2 yf2 x3 xf3 y3 yf3 x4 xf4 y4 yf4 x5 xf5 y5 yf5 x6 xf6 y6 yf6 x7 xf7 y7 yf7 hlA hlB HBw1
  obtain ⟨haw6, hbw6, hlA, hlB, hBw6⟩ := twobox (a := (.cells #[.int .i64 0, .string ⟨#[]⟩, .string ⟨#[]⟩, .int .i64 0, .int .u64 0, .int .u64 0, .slice none 0 0, .slice none 0 0] 27 (0, 0))) (b := (.cells #[.int .i64 19, .string ⟨#[]⟩, .string ⟨#[]⟩, .int .i64 0, .int .u64 0, .int .u64 0, .slice none 0 0, .slice none 0 0] 27 (0, 0))) hb6
  obtain ⟨x0, x1, x2, x3, x4, x5, x6, x7, xf0, xf1, xf2, xf3, xf4, xf5, xf6, xf7⟩ := cells8 haw6
  obtain ⟨y0, y1, y2, y3, y4, y5, y6, y7, yf0, yf1, yf2, yf3, yf4, yf5, yf6, yf7⟩ := cells8 hbw6
  have HBw6 := Lib.hid hBw6
  clear haw6 hbw6 hBw6
  refine hK.out _ _ (trivial) (fun hHeld => ?_)
  clear hK K
  refine norm_ (a' := ?_) ?_ ?_
  rotate_left
  · show Act.put _ (some 55) _ = _
    simp only [Act.put, List.setIfInBounds_toArray, List.set_cons_zero, List.set_cons_succ, i64_w, i32_w]
    rfl
  refine last_ (i := 6) (N := none) #[true, true, true, true, true, true, true, false, false] rfl rfl (one_of HT_.out (by kernel_rfl)) (by decide) (fun K hK => ?_)
  refine skip_ (w1 := ?_) (by rfl) rfl ?_ ?_
  rotate_left
  · go_simp
    rfl
  refine hK.out _ _ ?_
  clear hK K
  refine pure_ (i := 7) (N := some 57) (v := ?_) (a' := ?_) #[true, true, true, true, true, true, true, true, false] rfl rfl (any_of HT_.out (by kernel_rfl)) (fun _ _ _ h => h) (Or.inl ⟨by rfl, ?_⟩) ?_ ?_
  rotate_left
  · intro w'
    go_simp
    with_reducible rfl
  rotate_left
  · simp only [Act.put, List.setIfInBounds_toArray, List.set_cons_zero, List.set_cons_succ, i64_w, i32_w]
    rfl
  refine last_ (i := 8) (N := none) #[true, true, true, true, true, true, true, true, true] rfl rfl (one_of HT_.out (by kernel_rfl)) (by decide) (fun K hK => ?_)
  refine skip_ (w1 := ?_) (by rfl) rfl ?_ ?_
  rotate_left
  · go_simp
    rfl
  refine hK.out _ _ ?_
  clear hK K
  refine done_ (done_of HT_.out (by kernel_rfl)) ?_
  clear hB6 hb6 hb1' HL1 HL2
  go_wp2_with fail
  all_goals exact bodyPost_ret (v := .tuple #[.agg #[.int .i64 19, .string ⟨#[]⟩, .string ⟨#[]⟩, .int .i64 0, .int .u64 n1, .int .u64 n2, .slice none 0 0, .slice none 0 0], .int .i64 16, .bool true]) (by simp [results, Tryz.results110, go_sem, x0, x1, x2, x3, x4, x5, x6, x7,y0, y1, y2, y3, y4, y5, y6, y7, hlA, hlB]) rfl ⟨⟨none, 0, rfl, SB.nil _⟩, (by (iterate 10 (refine bsS _ (by omega) ?_)); exact HBw6.out)⟩
end Tk
end Go.Proofs.YtbpopaegfhcdpaaGreatDoor.X


/- spec.docParse of binaries. (gen_tk.py) -/
set_option linter.unusedVariables false
set_option linter.unusedSimpArgs false
set_option maxRecDepth 100000
namespace Go.Proofs.YtbpopaegfhcdpaaGreatDoor.X
open Go.RowKit Go.Proofs.YtbpopaegfhcdpaaGreatDoorW.PrintLast Go.Proofs.YtbpopaegfhcdpaaGreatDoorW.PrintWords
open Go.Proofs.YtbpopaegfhcdpaaGreatDoor.PFnDocAnyLookup
namespace Tk
open Sp Al Av Aw Ck
def R110.T36 : Bool × List (List Nat × List Nat) := (true, [([], []), ([0], [0]), ([], []), ([], []), ([2, 3], [2, 3]), ([1, 4], [1, 4]), ([0, 1, 2, 3, 4, 5], []), ([6, 5, 5, 0, 1, 2, 3, 4, 5], [5, 6])])
def R110.B36 : List Nat := [0, 1, 0, 0, 12, 31, 63, 127]
theorem R110.tab36 : rtab .any (opsOf Tryz.f110 36) = R110.T36 := by kernel_rfl
theorem R110.bits36 : waitsOk R110.T36.2 R110.B36 = true := by kernel_rfl
set_option maxHeartbeats 4000000 in
theorem pk_5 (A : Option Addr) (c : Nat) (l : List UInt8) (w : World) (hs : SB w A c l) (hl : l.length ≤ 5000) (n : Nat) (t : UInt8) (r : List UInt8) (hr : numOf l = ((n : Int), true)) (e1 : l.drop 4 = t :: r) (hn : n ≤ r.length) (ht : t ≠ 2) : PkOk 5 l ⟨#[]⟩ ⟨#[]⟩ (t.toNat : Int) 0 0 (r.take n) (n + 5) A c w := by
  unfold PkOk
  have hlr : l.length = r.length + 5 := by have h := congrArg List.length e1; simp only [List.length_drop, List.length_cons] at h; have := r.length; omega
  have hLE : spec_DocLen.f 5 5 (ints l) = some (((n + 5 : Nat) : Int), true) := by
    rw [len_5, hr, decide_eq_true (by omega : (0 : Int) ≤ (n : Int)), decide_eq_true (by omega : (n : Int) + 5 ≤ (l.length : Int))]
    rfl
  have HLEN := Lib.hid (fun wx (hb : Below w.heap.size w wx) => lenC 5 5 A c l (((n + 5 : Nat) : Int)) true wx (hs.keep hb) hLE)
  obtain ⟨A6, x6', s6⟩ := SB.cut (P := Tryz.prog) Tryz.underlying22 rfl rfl .i64 .i64 A c l 5 (n + 5) (by omega) (by omega) hs.le
  have htk : (l.take (n + 5)).drop 5 = r.take n := by
    rw [List.drop_take, show n + 5 - 5 = n from by omega, show l.drop 5 = (l.drop 4).drop 1 from by rw [List.drop_drop], e1]
    rfl
  obtain ⟨bb, hbb⟩ : ∃ x, x = r.take n := ⟨_, rfl⟩
  have hbl : bb.length = n := by rw [hbb, List.length_take, Nat.min_eq_left hn]
  have HS6 : Hid (∀ W, Below w.heap.size w W → SB W A6 (c - 5) bb) := Lib.hid fun W h => by have h2 := s6 W (hs.keep h); rw [htk, ← hbb] at h2; exact h2
  have HLB : Hid (bb.length = n) := Lib.hid hbl
  have HLE5 : Hid (bb.length ≤ 5000) := Lib.hid (by omega)
  obtain ⟨g, off, rfl, hc⟩ := hs.cells (by omega)
  have hg4 : l[4]'(by omega) = t := by
    have h := congrArg (fun x => x[0]?) e1
    simp only [List.getElem?_drop, List.getElem?_cons_zero] at h
    rw [List.getElem?_eq_getElem (by omega)] at h
    exact Option.some.inj h
  have c4 : w.cell? ⟨g, off + 4, none⟩ = some (.int .u8 t.toNat) := by have h := hc 4 (by omega); rw [hg4] at h; exact h
  obtain ⟨NV, hNV⟩ : ∃ z : Int, z = (t.toNat : Int) := ⟨_, rfl⟩
  have i1 : wrap64 NV = NV := by rw [hNV]; have := t.toNat_lt; exact w64_in _ (by omega) (by omega)
  rw [← hNV] at c4
  have C4 := Lib.hid c4
  have hp4 : 4 < l.length := by omega
  obtain ⟨p, hp⟩ : ∃ p, p = l.length := ⟨_, rfl⟩
  rw [← hp] at HLEN x6' hp4
  rw [← hp]
  obtain ⟨M, hM⟩ : ∃ q, q = n + 5 := ⟨_, rfl⟩
  rw [← hM] at HLEN x6' ⊢
  rw [show M - 5 = n from by omega] at x6'
  have e6' : ∀ W : World, (Instr.slice 22 (.slice (some ⟨g, off, none⟩) p c) (some (.int .i64 5)) (some (.int .i64 (M : Int))) none).run Tryz.prog W = .ok (.slice A6 n (c - 5)) W := x6'
  have hz2 : (NV == 2) = false := by
    rw [hNV, beq_eq_false_iff_ne]
    intro h
    exact ht (UInt8.toNat_inj.1 (show t.toNat = (2 : UInt8).toNat from by show t.toNat = 2; omega))
  rw [← hbb, hbl, ← hNV]
  clear hs hl hr e1 hn hlr hLE s6 htk hbb hbl hc hg4 c4 hNV hp hM x6' ht
  go_enter Tryz.func110, Tryz.ntmps110
  go_wp2_with fail
  refine (HLEN.out _ (balloc (balloc (Below.refl _ _) (Nat.le_refl _) _) (by simp) _)).mono ?_
  rintro e w1 ⟨rfl, hb1⟩
  have hb1' : Below (w.heap.size + 1 + 1) ((w.alloc (.cells #[.int .i64 0, .string ⟨#[]⟩, .string ⟨#[]⟩, .int .i64 0, .int .u64 0, .int .u64 0, .slice none 0 0, .slice none 0 0] 27)).alloc (.cells #[.int .i64 5, .string ⟨#[]⟩, .string ⟨#[]⟩, .int .i64 0, .int .u64 0, .int .u64 0, .slice none 0 0, .slice none 0 0] 27)) w1 := by simpa using hb1
  clear hb1 HLEN
  obtain ⟨haw1, hbw1, hlA, hlB, hBw1⟩ := twobox (a := (.cells #[.int .i64 0, .string ⟨#[]⟩, .string ⟨#[]⟩, .int .i64 0, .int .u64 0, .int .u64 0, .slice none 0 0, .slice none 0 0] 27 (0, 0))) (b := (.cells #[.int .i64 5, .string ⟨#[]⟩, .string ⟨#[]⟩, .int .i64 0, .int .u64 0, .int .u64 0, .slice none 0 0, .slice none 0 0] 27 (0, 0))) hb1'
  obtain ⟨x0, x1, x2, x3, x4, x5, x6, x7, xf0, xf1, xf2, xf3, xf4, xf5, xf6, xf7⟩ := cells8 haw1
  obtain ⟨y0, y1, y2, y3, y4, y5, y6, y7, yf0, yf1, yf2, yf3, yf4, yf5, yf6, yf7⟩ := cells8 hbw1
  have HBw1 := Lib.hid hBw1
  clear haw1 hbw1 hBw1
  have c4w := (HBw1.out.cell (World.block_lt_of_cell? _ _ C4.out)).trans C4.out
  go_wp2_with fail
  refine start_ (n := 8) (S := fun w' => w'.cell? ⟨w.heap.size + 1, 6, none⟩ = some (.slice none 0 0)) (ds := [7]) #[false, false, false, false, false, false, false, false] (by kernel_rfl) rfl rfl ((by go_simp)) (fun hHeld => ?_)
  refine with_tabW R110.tab36 R110.bits36 (fun HT_ HW_ => ?_)
  refine pure_ (i := 0) (N := some 141) (v := ?_) (a' := ?_) #[true, false, false, false, false, false, false, false] rfl rfl (any_of HT_.out (by kernel_rfl)) (fun _ _ _ h => h) (Or.inl ⟨by rfl, ?_⟩) ?_ ?_
  rotate_left
  · intro w'
    go_simp
    with_reducible rfl
  rotate_left
  · simp only [Act.put, List.setIfInBounds_toArray, List.set_cons_zero, List.set_cons_succ, i64_w, i32_w]
    rfl
  refine pure_ (i := 2) (N := some 143) (v := ?_) (a' := ?_) #[true, false, true, false, false, false, false, false] rfl rfl (any_of HT_.out (by kernel_rfl)) (fun _ _ _ h => h) (Or.inl ⟨by rfl, ?_⟩) ?_ ?_
  rotate_left
  · intro w'
    go_simp
    with_reducible rfl
  rotate_left
  · simp only [Act.put, List.setIfInBounds_toArray, List.set_cons_zero, List.set_cons_succ, i64_w, i32_w]
    rfl
  refine pure_ (i := 3) (N := some 144) (v := ?_) (a' := ?_) #[true, false, true, true, false, false, false, false] rfl rfl (any_of HT_.out (by kernel_rfl)) (fun _ _ _ h => h) (Or.inl ⟨by rfl, ?_⟩) ?_ ?_
  rotate_left
  · intro w'
    go_simp
    with_reducible rfl
  rotate_left
  · simp only [Act.put, List.setIfInBounds_toArray, List.set_cons_zero, List.set_cons_succ, i64_w, i32_w]
    rfl
  refine pure_ (i := 4) (N := some 145) (v := ?_) (a' := ?_) #[true, false, true, true, true, false, false, false] rfl rfl (any_of HT_.out (by kernel_rfl)) (fun _ _ _ h => h) (Or.inl ⟨by rfl, ?_⟩) ?_ ?_
  rotate_left
  · intro w'
    go_simp
    with_reducible rfl
  rotate_left
  · simp only [Act.put, List.setIfInBounds_toArray, List.set_cons_zero, List.set_cons_succ, i64_w, i32_w]
    rfl
  refine take_ (i := 1) (N := some 142) (v := ?_) (a' := ?_) #[true, true, true, true, true, false, false, false] rfl rfl (take_ofW HT_.out HW_.out (by kernel_rfl)) (fun _ _ _ h => h) (Or.inl ⟨by rfl, ?_⟩) hHeld ?_ ?_
  rotate_left
  · intro w' s0
    go_simp
    with_reducible rfl
  rotate_left
  · simp only [Act.put, List.setIfInBounds_toArray, List.set_cons_zero, List.set_cons_succ, i64_w, i32_w]
    rfl
  refine one_ (i := 5) (N := some 146) #[true, true, true, true, true, true, false, false] rfl rfl (one_of HT_.out (by kernel_rfl)) (by decide) (fun K hK => ?_)
  refine app_step (.tmp 142) (.tmp 145) 22 (by rfl) rfl rfl sizeU8t Tryz.underlying22 _ _ (.slice none 0 0) [] A6 (c - 5) bb rfl (by rw [HLB.out]; rfl) (OB.nil _ _) (HS6.out _ (bdrew (bsS _ (by omega) HBw1.out))) (Nat.le_refl _) (by have := HLE5.out; simp; omega) ?_
  intro v5 w5 hap
  have hk5 := hap.kept (OB.nil _ _) (Nat.le_refl _)
  have ho5 := hap.own
  rw [List.nil_append] at ho5
  obtain ⟨A5, c5, hv5, hs5, hn5⟩ := ho5.sb
  rw [HLB.out] at hv5
  have zf5 : w5.frozen? ⟨w.heap.size + 1, 6, none⟩ = false := (hk5.frozen (p := ⟨w.heap.size + 1, 6, none⟩) (by show w.heap.size + 1 < (w1.setCell _ _).heap.size; simpa using hlB)).trans (by go_simp)
  have hkb := (hk5.cell (World.block_lt_of_cell? _ _ hHeld)).trans hHeld
  refine hK.out _ _ (hkb) (fun hHeld => ?_)
  clear hK K
  refine norm_ (a' := ?_) ?_ ?_
  rotate_left
  · show Act.put _ (some 146) _ = _
    simp only [Act.put, List.setIfInBounds_toArray, List.set_cons_zero, List.set_cons_succ, i64_w, i32_w]
    rfl
  refine pure_ (i := 6) (N := some 147) (v := ?_) (a' := ?_) #[true, true, true, true, true, true, true, false] rfl rfl (any_of HT_.out (by kernel_rfl)) (fun _ _ _ h => h) (Or.inl ⟨by rfl, ?_⟩) ?_ ?_
  rotate_left
  · intro w'
    go_simp
    with_reducible rfl
  rotate_left
  · simp only [Act.put, List.setIfInBounds_toArray, List.set_cons_zero, List.set_cons_succ, i64_w, i32_w]
    rfl
  refine last_ (i := 7) (N := none) #[true, true, true, true, true, true, true, true] rfl rfl (one_of HT_.out (by kernel_rfl)) (by decide) (fun K hK => ?_)
  refine skip_ (w1 := ?_) (by rfl) rfl ?_ ?_
  rotate_left
  · go_simp
    rfl
  refine hK.out _ _ ?_
  clear hK K
  refine done_ (done_of HT_.out (by kernel_rfl)) ?_
  obtain ⟨haS, hbS, -, -, hBS⟩ := twobox (a := (.cells #[.int .i64 0, .string ⟨#[]⟩, .string ⟨#[]⟩, .int .i64 0, .int .u64 0, .int .u64 0, .slice none 0 0, .slice none 0 0] 27 (0, 0))) (b := (.cells #[.int .i64 5, .string ⟨#[]⟩, .string ⟨#[]⟩, .int .i64 0, .int .u64 0, .int .u64 0, .slice none 0 0, .slice none 0 0] 27 (0, 0))) hb1'
  have haT := (Below.heap_setCell w1 ⟨w.heap.size + 1, 3, none⟩ (.int .i64 NV) w.heap.size (by simp)).trans haS
  have hbT : (w1.setCell ⟨w.heap.size + 1, 3, none⟩ (.int .i64 NV)).heap[w.heap.size + 1]? = some (.cells #[.int .i64 5, .string ⟨#[]⟩, .string ⟨#[]⟩, .int .i64 NV, .int .u64 0, .int .u64 0, .slice none 0 0, .slice none 0 0] 27 (0, 0)) := by simpa using heap_setCell_same w1 (w.heap.size + 1) 3 _ _ (.int .i64 NV) hbS
  have haN := (hk5.block w.heap.size (by show w.heap.size < (w1.setCell _ _).heap.size; simpa using hlA)).trans haT
  have hbN := (hk5.block (w.heap.size + 1) (by show w.heap.size + 1 < (w1.setCell _ _).heap.size; simpa using hlB)).trans hbT
  have hlA2 : w.heap.size < w5.heap.size := (Array.getElem?_eq_some_iff.1 haN).1
  have hlB2 : w.heap.size + 1 < w5.heap.size := (Array.getElem?_eq_some_iff.1 hbN).1
  have HB5 := Lib.hid (Below.trans (bdrew (bsS (.int .i64 NV) (by omega) hBS) : Below w.heap.size w (w1.setCell ⟨w.heap.size + 1, 3, none⟩ (.int .i64 NV)).drew) (hk5.mono (by show w.heap.size ≤ (w1.setCell _ _).heap.size; simp; omega)))
  have HS5 := Lib.hid hs5
  have HN5 : Hid (∀ a, A5 = some a → w1.heap.size ≤ a.block) := Lib.hid fun a ha => by have h := (hn5 a ha).1; have h2 : (w1.setCell ⟨w.heap.size + 1, 3, none⟩ (.int .i64 NV)).heap.size ≤ a.block := h; simpa using h2
  have hz1 : w.heap.size + 1 + 1 ≤ w1.heap.size := by have h := hb1'.size; simpa using h
  have hf1 : ∀ a, A5 = some a → a.block ≠ w.heap.size := fun a ha => by have h := HN5.out a ha; omega
  have hf2 : ∀ a, A5 = some a → a.block ≠ w.heap.size + 1 := fun a ha => by have h := HN5.out a ha; omega
  clear hap hk5 ho5 hs5 hn5 hkb zf5 hHeld haS hbS hBS haT hbT x0 xf0 y0 yf0 x1 xf1 y1 yf1 x2 xf2 y2 yf2 x3 xf3 y3 yf3 x4 xf4 y4 yf4 x5 xf5 y5 yf5 x6 xf6 y6 yf6 x7 xf7 y7 yf7 hlA hlB HBw1 hb1' c4w
  subst hv5
  obtain ⟨x0, x1, x2, x3, x4, x5, x6, x7, xf0, xf1, xf2, xf3, xf4, xf5, xf6, xf7⟩ := cells8 haN
  obtain ⟨y0, y1, y2, y3, y4, y5, y6, y7, yf0, yf1, yf2, yf3, yf4, yf5, yf6, yf7⟩ := cells8 hbN
  have haN5 := Lib.hid haN
  have hbN5 := Lib.hid hbN
  clear haN hbN
  have hlA := hlA2
  have hlB := hlB2
  clear haN5 hbN5 hlA2 hlB2
  go_wp2_with fail
  all_goals exact bodyPost_ret (v := .tuple #[.agg #[.int .i64 5, .string ⟨#[]⟩, .string ⟨#[]⟩, .int .i64 NV, .int .u64 0, .int .u64 0, .slice A5 n c5, .slice none 0 0], .int .i64 M, .bool true]) (by simp [results, Tryz.results110, go_sem, x0, x1, x2, x3, x4, x5, x6, x7,y0, y1, y2, y3, y4, y5, y6, y7, hlA, hlB]) rfl ⟨⟨A5, c5, rfl, (by (iterate 8 (refine SB.far ?_ hf1 _)); refine SB.far ?_ hf2 _; exact HS5.out)⟩, (by (iterate 9 (refine bsS _ (by omega) ?_)); exact HB5.out)⟩
set_option maxHeartbeats 8000000 in
theorem pk_5o (A : Option Addr) (c : Nat) (l : List UInt8) (w : World) (hs : SB w A c l) (hl : l.length ≤ 5000) (n : Nat) (r : List UInt8) (hr : numOf l = ((n : Int), true)) (e1 : l.drop 4 = 2 :: r) (hn : n ≤ r.length) (k : Nat) (hk : numOf (r.take n) = ((k : Int), true)) (hkn : k + 4 = n) : PkOk 5 l ⟨#[]⟩ ⟨#[]⟩ 2 0 0 ((r.drop 4).take k) (n + 5) A c w := by
  unfold PkOk
  have hlr : l.length = r.length + 5 := by have h := congrArg List.length e1; simp only [List.length_drop, List.length_cons] at h; have := r.length; omega
  have hLE : spec_DocLen.f 5 5 (ints l) = some (((n + 5 : Nat) : Int), true) := by
    rw [len_5, hr, decide_eq_true (by omega : (0 : Int) ≤ (n : Int)), decide_eq_true (by omega : (n : Int) + 5 ≤ (l.length : Int))]
    rfl
  have HLEN := Lib.hid (fun wx (hb : Below w.heap.size w wx) => lenC 5 5 A c l (((n + 5 : Nat) : Int)) true wx (hs.keep hb) hLE)
  obtain ⟨A6, x6', s6⟩ := SB.cut (P := Tryz.prog) Tryz.underlying22 rfl rfl .i64 .i64 A c l 5 (n + 5) (by omega) (by omega) hs.le
  have htk : (l.take (n + 5)).drop 5 = r.take n := by
    rw [List.drop_take, show n + 5 - 5 = n from by omega, show l.drop 5 = (l.drop 4).drop 1 from by rw [List.drop_drop], e1]
    rfl
  obtain ⟨bb, hbb⟩ : ∃ x, x = r.take n := ⟨_, rfl⟩
  have hbl : bb.length = n := by rw [hbb, List.length_take, Nat.min_eq_left hn]
  have HS6 : Hid (∀ W, Below w.heap.size w W → SB W A6 (c - 5) bb) := Lib.hid fun W h => by have h2 := s6 W (hs.keep h); rw [htk, ← hbb] at h2; exact h2
  have HLB : Hid (bb.length = n) := Lib.hid hbl
  have HLE5 : Hid (bb.length ≤ 5000) := Lib.hid (by omega)
  obtain ⟨g, off, rfl, hc⟩ := hs.cells (by omega)
  have hg4 : l[4]'(by omega) = 2 := by
    have h := congrArg (fun x => x[0]?) e1
    simp only [List.getElem?_drop, List.getElem?_cons_zero] at h
    rw [List.getElem?_eq_getElem (by omega)] at h
    exact Option.some.inj h
  have c4 : w.cell? ⟨g, off + 4, none⟩ = some (.int .u8 (2 : UInt8).toNat) := by have h := hc 4 (by omega); rw [hg4] at h; exact h
  obtain ⟨NV, hNV⟩ : ∃ z : Int, z = ((2 : UInt8).toNat : Int) := ⟨_, rfl⟩
  have i1 : wrap64 NV = NV := by rw [hNV]; have := (2 : UInt8).toNat_lt; exact w64_in _ (by omega) (by omega)
  rw [← hNV] at c4
  have C4 := Lib.hid c4
  have hp4 : 4 < l.length := by omega
  obtain ⟨p, hp⟩ : ∃ p, p = l.length := ⟨_, rfl⟩
  rw [← hp] at HLEN x6' hp4
  rw [← hp]
  obtain ⟨M, hM⟩ : ∃ q, q = n + 5 := ⟨_, rfl⟩
  rw [← hM] at HLEN x6' ⊢
  rw [show M - 5 = n from by omega] at x6'
  have e6' : ∀ W : World, (Instr.slice 22 (.slice (some ⟨g, off, none⟩) p c) (some (.int .i64 5)) (some (.int .i64 (M : Int))) none).run Tryz.prog W = .ok (.slice A6 n (c - 5)) W := x6'
  have hz2 : (NV == 2) = true := by rw [hNV]; rfl
  have HNV2 : Hid (NV = 2) := Lib.hid (by rw [hNV]; rfl)
  have hdt : bb.drop 4 = (r.drop 4).take k := by rw [hbb, List.drop_take, show n - 4 = k from by omega]
  have hdl : ((r.drop 4).take k).length = k := by rw [← hdt, List.length_drop, hbl]; omega
  rw [hdl, ← hdt]
  have hk2 : numOf bb = ((k : Int), true) := by rw [hbb]; exact hk
  have HNM := Lib.hid hk2
  have i2 : wrap64 ((n : Int) - 4) = (k : Int) := (w64_in _ (by omega) (by omega)).trans (by omega)
  have HFR : Hid (∀ A5 c5, bb.length ≤ c5 → ∃ A7, (∀ W : World, (Instr.slice 22 (.slice A5 n c5) (some (.int .i64 4)) none none).run Tryz.prog W = .ok (.slice A7 k (c5 - 4)) W) ∧ ∀ W, SB W A5 c5 bb → SB W A7 (c5 - 4) (bb.drop 4)) := Lib.hid fun A5 c5 h => by
    obtain ⟨A7, x7, s7⟩ := SB.from_ (P := Tryz.prog) Tryz.underlying22 rfl rfl .i64 A5 c5 bb 4 (by omega) h
    rw [hbl, show n - 4 = k from by omega] at x7
    exact ⟨A7, x7, s7⟩
  clear hs hl hr e1 hn hlr hLE s6 htk hbb hbl hc hg4 c4 hNV hp hM x6' hdt hdl hk hkn hk2
  go_enter Tryz.func110, Tryz.ntmps110
  go_wp2_with fail
  refine (HLEN.out _ (balloc (balloc (Below.refl _ _) (Nat.le_refl _) _) (by simp) _)).mono ?_
  rintro e w1 ⟨rfl, hb1⟩
  have hb1' : Below (w.heap.size + 1 + 1) ((w.alloc (.cells #[.int .i64 0, .string ⟨#[]⟩, .string ⟨#[]⟩, .int .i64 0, .int .u64 0, .int .u64 0, .slice none 0 0, .slice none 0 0] 27)).alloc (.cells #[.int .i64 5, .string ⟨#[]⟩, .string ⟨#[]⟩, .int .i64 0, .int .u64 0, .int .u64 0, .slice none 0 0, .slice none 0 0] 27)) w1 := by simpa using hb1
  clear hb1 HLEN
  obtain ⟨haw1, hbw1, hlA, hlB, hBw1⟩ := twobox (a := (.cells #[.int .i64 0, .string ⟨#[]⟩, .string ⟨#[]⟩, .int .i64 0, .int .u64 0, .int .u64 0, .slice none 0 0, .slice none 0 0] 27 (0, 0))) (b := (.cells #[.int .i64 5, .string ⟨#[]⟩, .string ⟨#[]⟩, .int .i64 0, .int .u64 0, .int .u64 0, .slice none 0 0, .slice none 0 0] 27 (0, 0))) hb1'
  obtain ⟨x0, x1, x2, x3, x4, x5, x6, x7, xf0, xf1, xf2, xf3, xf4, xf5, xf6, xf7⟩ := cells8 haw1
  obtain ⟨y0, y1, y2, y3, y4, y5, y6, y7, yf0, yf1, yf2, yf3, yf4, yf5, yf6, yf7⟩ := cells8 hbw1
  have HBw1 := Lib.hid hBw1
  clear haw1 hbw1 hBw1
  have c4w := (HBw1.out.cell (World.block_lt_of_cell? _ _ C4.out)).trans C4.out
  go_wp2_with fail
  refine start_ (n := 8) (S := fun w' => w'.cell? ⟨w.heap.size + 1, 6, none⟩ = some (.slice none 0 0)) (ds := [7]) #[false, false, false, false, false, false, false, false] (by kernel_rfl) rfl rfl ((by go_simp)) (fun hHeld => ?_)
  refine with_tabW R110.tab36 R110.bits36 (fun HT_ HW_ => ?_)
  refine pure_ (i := 0) (N := some 141) (v := ?_) (a' := ?_) #[true, false, false, false, false, false, false, false] rfl rfl (any_of HT_.out (by kernel_rfl)) (fun _ _ _ h => h) (Or.inl ⟨by rfl, ?_⟩) ?_ ?_
  rotate_left
  · intro w'
    go_simp
    with_reducible rfl
  rotate_left
  · simp only [Act.put, List.setIfInBounds_toArray, List.set_cons_zero, List.set_cons_succ, i64_w, i32_w]
    rfl
  refine pure_ (i := 2) (N := some 143) (v := ?_) (a' := ?_) #[true, false, true, false, false, false, false, false] rfl rfl (any_of HT_.out (by kernel_rfl)) (fun _ _ _ h => h) (Or.inl ⟨by rfl, ?_⟩) ?_ ?_
  rotate_left
  · intro w'
    go_simp
    with_reducible rfl
  rotate_left
  · simp only [Act.put, List.setIfInBounds_toArray, List.set_cons_zero, List.set_cons_succ, i64_w, i32_w]
    rfl
  refine pure_ (i := 3) (N := some 144) (v := ?_) (a' := ?_) #[true, false, true, true, false, false, false, false] rfl rfl (any_of HT_.out (by kernel_rfl)) (fun _ _ _ h => h) (Or.inl ⟨by rfl, ?_⟩) ?_ ?_
  rotate_left
  · intro w'
    go_simp
    with_reducible rfl
  rotate_left
  · simp only [Act.put, List.setIfInBounds_toArray, List.set_cons_zero, List.set_cons_succ, i64_w, i32_w]
    rfl
  refine pure_ (i := 4) (N := some 145) (v := ?_) (a' := ?_) #[true, false, true, true, true, false, false, false] rfl rfl (any_of HT_.out (by kernel_rfl)) (fun _ _ _ h => h) (Or.inl ⟨by rfl, ?_⟩) ?_ ?_
  rotate_left
  · intro w'
    go_simp
    with_reducible rfl
  rotate_left
  · simp only [Act.put, List.setIfInBounds_toArray, List.set_cons_zero, List.set_cons_succ, i64_w, i32_w]
    rfl
  refine take_ (i := 1) (N := some 142) (v := ?_) (a' := ?_) #[true, true, true, true, true, false, false, false] rfl rfl (take_ofW HT_.out HW_.out (by kernel_rfl)) (fun _ _ _ h => h) (Or.inl ⟨by rfl, ?_⟩) hHeld ?_ ?_
  rotate_left
  · intro w' s0
    go_simp
    with_reducible rfl
  rotate_left
  · simp only [Act.put, List.setIfInBounds_toArray, List.set_cons_zero, List.set_cons_succ, i64_w, i32_w]
    rfl
  refine one_ (i := 5) (N := some 146) #[true, true, true, true, true, true, false, false] rfl rfl (one_of HT_.out (by kernel_rfl)) (by decide) (fun K hK => ?_)
  refine app_step (.tmp 142) (.tmp 145) 22 (by rfl) rfl rfl sizeU8t Tryz.underlying22 _ _ (.slice none 0 0) [] A6 (c - 5) bb rfl (by rw [HLB.out]; rfl) (OB.nil _ _) (HS6.out _ (bdrew (bsS _ (by omega) HBw1.out))) (Nat.le_refl _) (by have := HLE5.out; simp; omega) ?_
  intro v5 w5 hap
  have hk5 := hap.kept (OB.nil _ _) (Nat.le_refl _)
  have ho5 := hap.own
  rw [List.nil_append] at ho5
  obtain ⟨A5, c5, hv5, hs5, hn5⟩ := ho5.sb
  rw [HLB.out] at hv5
  have zf5 : w5.frozen? ⟨w.heap.size + 1, 6, none⟩ = false := (hk5.frozen (p := ⟨w.heap.size + 1, 6, none⟩) (by show w.heap.size + 1 < (w1.setCell _ _).heap.size; simpa using hlB)).trans (by go_simp)
  have hkb := (hk5.cell (World.block_lt_of_cell? _ _ hHeld)).trans hHeld
  refine hK.out _ _ (hkb) (fun hHeld => ?_)
  clear hK K
  refine norm_ (a' := ?_) ?_ ?_
  rotate_left
  · show Act.put _ (some 146) _ = _
    simp only [Act.put, List.setIfInBounds_toArray, List.set_cons_zero, List.set_cons_succ, i64_w, i32_w]
    rfl
  refine pure_ (i := 6) (N := some 147) (v := ?_) (a' := ?_) #[true, true, true, true, true, true, true, false] rfl rfl (any_of HT_.out (by kernel_rfl)) (fun _ _ _ h => h) (Or.inl ⟨by rfl, ?_⟩) ?_ ?_
  rotate_left
  · intro w'
    go_simp
    with_reducible rfl
  rotate_left
  · simp only [Act.put, List.setIfInBounds_toArray, List.set_cons_zero, List.set_cons_succ, i64_w, i32_w]
    rfl
  refine last_ (i := 7) (N := none) #[true, true, true, true, true, true, true, true] rfl rfl (one_of HT_.out (by kernel_rfl)) (by decide) (fun K hK => ?_)
  refine skip_ (w1 := ?_) (by rfl) rfl ?_ ?_
  rotate_left
  · go_simp
    rfl
  refine hK.out _ _ ?_
  clear hK K
  refine done_ (done_of HT_.out (by kernel_rfl)) ?_
  obtain ⟨haS, hbS, -, -, hBS⟩ := twobox (a := (.cells #[.int .i64 0, .string ⟨#[]⟩, .string ⟨#[]⟩, .int .i64 0, .int .u64 0, .int .u64 0, .slice none 0 0, .slice none 0 0] 27 (0, 0))) (b := (.cells #[.int .i64 5, .string ⟨#[]⟩, .string ⟨#[]⟩, .int .i64 0, .int .u64 0, .int .u64 0, .slice none 0 0, .slice none 0 0] 27 (0, 0))) hb1'
  have haT := (Below.heap_setCell w1 ⟨w.heap.size + 1, 3, none⟩ (.int .i64 NV) w.heap.size (by simp)).trans haS
  have hbT : (w1.setCell ⟨w.heap.size + 1, 3, none⟩ (.int .i64 NV)).heap[w.heap.size + 1]? = some (.cells #[.int .i64 5, .string ⟨#[]⟩, .string ⟨#[]⟩, .int .i64 NV, .int .u64 0, .int .u64 0, .slice none 0 0, .slice none 0 0] 27 (0, 0)) := by simpa using heap_setCell_same w1 (w.heap.size + 1) 3 _ _ (.int .i64 NV) hbS
  have haN := (hk5.block w.heap.size (by show w.heap.size < (w1.setCell _ _).heap.size; simpa using hlA)).trans haT
  have hbN := (hk5.block (w.heap.size + 1) (by show w.heap.size + 1 < (w1.setCell _ _).heap.size; simpa using hlB)).trans hbT
  have hlA2 : w.heap.size < w5.heap.size := (Array.getElem?_eq_some_iff.1 haN).1
  have hlB2 : w.heap.size + 1 < w5.heap.size := (Array.getElem?_eq_some_iff.1 hbN).1
  have HB5 := Lib.hid (Below.trans (bdrew (bsS (.int .i64 NV) (by omega) hBS) : Below w.heap.size w (w1.setCell ⟨w.heap.size + 1, 3, none⟩ (.int .i64 NV)).drew) (hk5.mono (by show w.heap.size ≤ (w1.setCell _ _).heap.size; simp; omega)))
  have HS5 := Lib.hid hs5
  have HN5 : Hid (∀ a, A5 = some a → w1.heap.size ≤ a.block) := Lib.hid fun a ha => by have h := (hn5 a ha).1; have h2 : (w1.setCell ⟨w.heap.size + 1, 3, none⟩ (.int .i64 NV)).heap.size ≤ a.block := h; simpa using h2
  have hz1 : w.heap.size + 1 + 1 ≤ w1.heap.size := by have h := hb1'.size; simpa using h
  have hf1 : ∀ a, A5 = some a → a.block ≠ w.heap.size := fun a ha => by have h := HN5.out a ha; omega
  have hf2 : ∀ a, A5 = some a → a.block ≠ w.heap.size + 1 := fun a ha => by have h := HN5.out a ha; omega
  clear hap hk5 ho5 hs5 hn5 hkb zf5 hHeld haS hbS hBS haT hbT x0 xf0 y0 yf0 x1 xf1 y1 yf1 x2 xf2 y2 yf2 x3 xf3 y3 yf3 x4 xf4 y4 yf4 x5 xf5 y5 yf5 x6 xf6 y6 yf6 x7 xf7 y7 yf7 hlA hlB HBw1 hb1' c4w
  subst hv5
  obtain ⟨x0, x1, x2, x3, x4, x5, x6, x7, xf0, xf1, xf2, xf3, xf4, xf5, xf6, xf7⟩ := cells8 haN
  obtain ⟨y0, y1, y2, y3, y4, y5, y6, y7, yf0, yf1, yf2, yf3, yf4, yf5, yf6, yf7⟩ := cells8 hbN
  have haN5 := Lib.hid haN
  have hbN5 := Lib.hid hbN
  clear haN hbN
  have hlA := hlA2
  have hlB := hlB2
  go_wp2_with fail
  have hsN : SB (w5.setCell ⟨w.heap.size + 1, 6, none⟩ (.slice A5 n c5)) A5 c5 bb := SB.far HS5.out hf2 _
  have HNB := docNumber A5 c5 bb _ hsN
  rw [HLB.out, HNM.out] at HNB
  refine HNB.mono ?_
  rintro e w7 ⟨rfl, hb7⟩
  have HS7 := Lib.hid (hsN.keep hb7)
  have haT := (Below.heap_setCell w5 ⟨w.heap.size + 1, 6, none⟩ (.slice A5 n c5) w.heap.size (by simp)).trans haN5.out
  have hbT : (w5.setCell ⟨w.heap.size + 1, 6, none⟩ (.slice A5 n c5)).heap[w.heap.size + 1]? = some (.cells #[.int .i64 5, .string ⟨#[]⟩, .string ⟨#[]⟩, .int .i64 NV, .int .u64 0, .int .u64 0, .slice A5 n c5, .slice none 0 0] 27 (0, 0)) := by simpa using heap_setCell_same w5 (w.heap.size + 1) 6 _ _ (.slice A5 n c5) hbN5.out
  have haN := (hb7.block w.heap.size (by simp; omega)).trans haT
  have hbN := (hb7.block (w.heap.size + 1) (by simp; omega)).trans hbT
  have hlA3 : w.heap.size < w7.heap.size := (Array.getElem?_eq_some_iff.1 haN).1
  have hlB3 : w.heap.size + 1 < w7.heap.size := (Array.getElem?_eq_some_iff.1 hbN).1
  have HB7 := Lib.hid (bthen (bsS (.slice A5 n c5) (by omega) HB5.out : Below w.heap.size w (w5.setCell ⟨w.heap.size + 1, 6, none⟩ (.slice A5 n c5))) hb7)
  clear hb7 HNB hsN haT hbT haN5 hbN5 hlA2 hlB2 HB5 HS5 x0 xf0 y0 yf0 x1 xf1 y1 yf1 x2 xf2 y2 yf2 x3 xf3 y3 yf3 x4 xf4 y4 yf4 x5 xf5 y5 yf5 x6 xf6 y6 yf6 x7 xf7 y7 yf7 hlA hlB
  obtain ⟨x0, x1, x2, x3, x4, x5, x6, x7, xf0, xf1, xf2, xf3, xf4, xf5, xf6, xf7⟩ := cells8 haN
  obtain ⟨y0, y1, y2, y3, y4, y5, y6, y7, yf0, yf1, yf2, yf3, yf4, yf5, yf6, yf7⟩ := cells8 hbN
  clear haN hbN
  have hlA := hlA3
  have hlB := hlB3
  obtain ⟨A7, x7', s7⟩ := HFR.out A5 c5 HS7.out.le
  have S7 := Lib.hid s7
  clear s7 HFR
  go_wp2_with fail
  all_goals exact bodyPost_ret (v := .tuple #[.agg #[.int .i64 5, .string ⟨#[]⟩, .string ⟨#[]⟩, .int .i64 NV, .int .u64 0, .int .u64 0, .slice A7 k (c5 - 4), .slice none 0 0], .int .i64 M, .bool true]) (by simp [results, Tryz.results110, go_sem, x0, x1, x2, x3, x4, x5, x6, x7,y0, y1, y2, y3, y4, y5, y6, y7, hlA, hlB]) rfl ⟨⟨A7, _, by rw [HNV2.out], (S7.out _ (by (iterate 8 (refine SB.far ?_ hf1 _)); refine SB.far ?_ hf2 _; exact HS7.out))⟩, (by (iterate 9 (refine bsS _ (by omega) ?_)); exact HB7.out)⟩
set_option maxHeartbeats 8000000 in
theorem pk_5n (A : Option Addr) (c : Nat) (l : List UInt8) (w : World) (hs : SB w A c l) (hl : l.length ≤ 5000) (n : Nat) (r : List UInt8) (hr : numOf l = ((n : Int), true)) (e1 : l.drop 4 = 2 :: r) (hn : n ≤ r.length) (k : Int) (fine : Bool) (hk : numOf (r.take n) = (k, fine)) (hno : fine = false ∨ k ≠ (n : Int) - 4) : PkNo 5 l A c w := by
  unfold PkNo
  have hlr : l.length = r.length + 5 := by have h := congrArg List.length e1; simp only [List.length_drop, List.length_cons] at h; have := r.length; omega
  have hLE : spec_DocLen.f 5 5 (ints l) = some (((n + 5 : Nat) : Int), true) := by
    rw [len_5, hr, decide_eq_true (by omega : (0 : Int) ≤ (n : Int)), decide_eq_true (by omega : (n : Int) + 5 ≤ (l.length : Int))]
    rfl
  have HLEN := Lib.hid (fun wx (hb : Below w.heap.size w wx) => lenC 5 5 A c l (((n + 5 : Nat) : Int)) true wx (hs.keep hb) hLE)
  obtain ⟨A6, x6', s6⟩ := SB.cut (P := Tryz.prog) Tryz.underlying22 rfl rfl .i64 .i64 A c l 5 (n + 5) (by omega) (by omega) hs.le
  have htk : (l.take (n + 5)).drop 5 = r.take n := by
    rw [List.drop_take, show n + 5 - 5 = n from by omega, show l.drop 5 = (l.drop 4).drop 1 from by rw [List.drop_drop], e1]
    rfl
  obtain ⟨bb, hbb⟩ : ∃ x, x = r.take n := ⟨_, rfl⟩
  have hbl : bb.length = n := by rw [hbb, List.length_take, Nat.min_eq_left hn]
  have HS6 : Hid (∀ W, Below w.heap.size w W → SB W A6 (c - 5) bb) := Lib.hid fun W h => by have h2 := s6 W (hs.keep h); rw [htk, ← hbb] at h2; exact h2
  have HLB : Hid (bb.length = n) := Lib.hid hbl
  have HLE5 : Hid (bb.length ≤ 5000) := Lib.hid (by omega)
  obtain ⟨g, off, rfl, hc⟩ := hs.cells (by omega)
  have hg4 : l[4]'(by omega) = 2 := by
    have h := congrArg (fun x => x[0]?) e1
    simp only [List.getElem?_drop, List.getElem?_cons_zero] at h
    rw [List.getElem?_eq_getElem (by omega)] at h
    exact Option.some.inj h
  have c4 : w.cell? ⟨g, off + 4, none⟩ = some (.int .u8 (2 : UInt8).toNat) := by have h := hc 4 (by omega); rw [hg4] at h; exact h
  obtain ⟨NV, hNV⟩ : ∃ z : Int, z = ((2 : UInt8).toNat : Int) := ⟨_, rfl⟩
  have i1 : wrap64 NV = NV := by rw [hNV]; have := (2 : UInt8).toNat_lt; exact w64_in _ (by omega) (by omega)
  rw [← hNV] at c4
  have C4 := Lib.hid c4
  have hp4 : 4 < l.length := by omega
  obtain ⟨p, hp⟩ : ∃ p, p = l.length := ⟨_, rfl⟩
  rw [← hp] at HLEN x6' hp4
  rw [← hp]
  obtain ⟨M, hM⟩ : ∃ q, q = n + 5 := ⟨_, rfl⟩
  rw [← hM] at HLEN x6'
  rw [show M - 5 = n from by omega] at x6'
  have e6' : ∀ W : World, (Instr.slice 22 (.slice (some ⟨g, off, none⟩) p c) (some (.int .i64 5)) (some (.int .i64 (M : Int))) none).run Tryz.prog W = .ok (.slice A6 n (c - 5)) W := x6'
  have hz2 : (NV == 2) = true := by rw [hNV]; rfl
  have HNV2 : Hid (NV = 2) := Lib.hid (by rw [hNV]; rfl)
  have hk2 : numOf bb = (k, fine) := by rw [hbb]; exact hk
  have HNM := Lib.hid hk2
  obtain ⟨n4, hn4⟩ : ∃ z : Int, z = (n : Int) - 4 := ⟨_, rfl⟩
  have i2 : wrap64 ((n : Int) - 4) = n4 := (w64_in _ (by omega) (by omega)).trans hn4.symm
  obtain ⟨sz, hsz⟩ : ∃ z, z = (k == n4) := ⟨_, rfl⟩
  have hsf : fine = true → sz = false := by
    intro h
    rcases hno with h2 | h2
    · rw [h] at h2; cases h2
    · rw [hsz, hn4]; exact beq_eq_false_iff_ne.2 h2
  have hsz' := hsz.symm
  clear hs hl hr e1 hn hlr hLE s6 htk hbb hbl hc hg4 c4 hNV hp hM x6' hk hno hk2 hn4 hsz
  go_enter Tryz.func110, Tryz.ntmps110
  go_wp2_with fail
  refine (HLEN.out _ (balloc (balloc (Below.refl _ _) (Nat.le_refl _) _) (by simp) _)).mono ?_
  rintro e w1 ⟨rfl, hb1⟩
  have hb1' : Below (w.heap.size + 1 + 1) ((w.alloc (.cells #[.int .i64 0, .string ⟨#[]⟩, .string ⟨#[]⟩, .int .i64 0, .int .u64 0, .int .u64 0, .slice none 0 0, .slice none 0 0] 27)).alloc (.cells #[.int .i64 5, .string ⟨#[]⟩, .string ⟨#[]⟩, .int .i64 0, .int .u64 0, .int .u64 0, .slice none 0 0, .slice none 0 0] 27)) w1 := by simpa using hb1
  clear hb1 HLEN
  obtain ⟨haw1, hbw1, hlA, hlB, hBw1⟩ := twobox (a := (.cells #[.int .i64 0, .string ⟨#[]⟩, .string ⟨#[]⟩, .int .i64 0, .int .u64 0, .int .u64 0, .slice none 0 0, .slice none 0 0] 27 (0, 0))) (b := (.cells #[.int .i64 5, .string ⟨#[]⟩, .string ⟨#[]⟩, .int .i64 0, .int .u64 0, .int .u64 0, .slice none 0 0, .slice none 0 0] 27 (0, 0))) hb1'
  obtain ⟨x0, x1, x2, x3, x4, x5, x6, x7, xf0, xf1, xf2, xf3, xf4, xf5, xf6, xf7⟩ := cells8 haw1
  obtain ⟨y0, y1, y2, y3, y4, y5, y6, y7, yf0, yf1, yf2, yf3, yf4, yf5, yf6, yf7⟩ := cells8 hbw1
  have HBw1 := Lib.hid hBw1
  clear haw1 hbw1 hBw1
  have c4w := (HBw1.out.cell (World.block_lt_of_cell? _ _ C4.out)).trans C4.out
  go_wp2_with fail
  refine start_ (n := 8) (S := fun w' => w'.cell? ⟨w.heap.size + 1, 6, none⟩ = some (.slice none 0 0)) (ds := [7]) #[false, false, false, false, false, false, false, false] (by kernel_rfl) rfl rfl ((by go_simp)) (fun hHeld => ?_)
  refine with_tabW R110.tab36 R110.bits36 (fun HT_ HW_ => ?_)
  refine pure_ (i := 0) (N := some 141) (v := ?_) (a' := ?_) #[true, false, false, false, false, false, false, false] rfl rfl (any_of HT_.out (by kernel_rfl)) (fun _ _ _ h => h) (Or.inl ⟨by rfl, ?_⟩) ?_ ?_
  rotate_left
  · intro w'
    go_simp
    with_reducible rfl
  rotate_left
  · simp only [Act.put, List.setIfInBounds_toArray, List.set_cons_zero, List.set_cons_succ, i64_w, i32_w]
    rfl
  refine pure_ (i := 2) (N := some 143) (v := ?_) (a' := ?_) #[true, false, true, false, false, false, false, false] rfl rfl (any_of HT_.out (by kernel_rfl)) (fun _ _ _ h => h) (Or.inl ⟨by rfl, ?_⟩) ?_ ?_
  rotate_left
  · intro w'
    go_simp
    with_reducible rfl
  rotate_left
  · simp only [Act.put, List.setIfInBounds_toArray, List.set_cons_zero, List.set_cons_succ, i64_w, i32_w]
    rfl
  refine pure_ (i := 3) (N := some 144) (v := ?_) (a' := ?_) #[true, false, true, true, false, false, false, false] rfl rfl (any_of HT_.out (by kernel_rfl)) (fun _ _ _ h => h) (Or.inl ⟨by rfl, ?_⟩) ?_ ?_
  rotate_left
  · intro w'
    go_simp
    with_reducible rfl
  rotate_left
  · simp only [Act.put, List.setIfInBounds_toArray, List.set_cons_zero, List.set_cons_succ, i64_w, i32_w]
    rfl
  refine pure_ (i := 4) (N := some 145) (v := ?_) (a' := ?_) #[true, false, true, true, true, false, false, false] rfl rfl (any_of HT_.out (by kernel_rfl)) (fun _ _ _ h => h) (Or.inl ⟨by rfl, ?_⟩) ?_ ?_
  rotate_left
  · intro w'
    go_simp
    with_reducible rfl
  rotate_left
  · simp only [Act.put, List.setIfInBounds_toArray, List.set_cons_zero, List.set_cons_succ, i64_w, i32_w]
    rfl
  refine take_ (i := 1) (N := some 142) (v := ?_) (a' := ?_) #[true, true, true, true, true, false, false, false] rfl rfl (take_ofW HT_.out HW_.out (by kernel_rfl)) (fun _ _ _ h => h) (Or.inl ⟨by rfl, ?_⟩) hHeld ?_ ?_
  rotate_left
  · intro w' s0
    go_simp
    with_reducible rfl
  rotate_left
  · simp only [Act.put, List.setIfInBounds_toArray, List.set_cons_zero, List.set_cons_succ, i64_w, i32_w]
    rfl
  refine one_ (i := 5) (N := some 146) #[true, true, true, true, true, true, false, false] rfl rfl (one_of HT_.out (by kernel_rfl)) (by decide) (fun K hK => ?_)
  refine app_step (.tmp 142) (.tmp 145) 22 (by rfl) rfl rfl sizeU8t Tryz.underlying22 _ _ (.slice none 0 0) [] A6 (c - 5) bb rfl (by rw [HLB.out]; rfl) (OB.nil _ _) (HS6.out _ (bdrew (bsS _ (by omega) HBw1.out))) (Nat.le_refl _) (by have := HLE5.out; simp; omega) ?_
  intro v5 w5 hap
  have hk5 := hap.kept (OB.nil _ _) (Nat.le_refl _)
  have ho5 := hap.own
  rw [List.nil_append] at ho5
  obtain ⟨A5, c5, hv5, hs5, hn5⟩ := ho5.sb
  rw [HLB.out] at hv5
  have zf5 : w5.frozen? ⟨w.heap.size + 1, 6, none⟩ = false := (hk5.frozen (p := ⟨w.heap.size + 1, 6, none⟩) (by show w.heap.size + 1 < (w1.setCell _ _).heap.size; simpa using hlB)).trans (by go_simp)
  have hkb := (hk5.cell (World.block_lt_of_cell? _ _ hHeld)).trans hHeld
  refine hK.out _ _ (hkb) (fun hHeld => ?_)
  clear hK K
  refine norm_ (a' := ?_) ?_ ?_
  rotate_left
  · show Act.put _ (some 146) _ = _
    simp only [Act.put, List.setIfInBounds_toArray, List.set_cons_zero, List.set_cons_succ, i64_w, i32_w]
    rfl
  refine pure_ (i := 6) (N := some 147) (v := ?_) (a' := ?_) #[true, true, true, true, true, true, true, false] rfl rfl (any_of HT_.out (by kernel_rfl)) (fun _ _ _ h => h) (Or.inl ⟨by rfl, ?_⟩) ?_ ?_
  rotate_left
  · intro w'
    go_simp
    with_reducible rfl
  rotate_left
  · simp only [Act.put, List.setIfInBounds_toArray, List.set_cons_zero, List.set_cons_succ, i64_w, i32_w]
    rfl
  refine last_ (i := 7) (N := none) #[true, true, true, true, true, true, true, true] rfl rfl (one_of HT_.out (by kernel_rfl)) (by decide) (fun K hK => ?_)
  refine skip_ (w1 := ?_) (by rfl) rfl ?_ ?_
  rotate_left
  · go_simp
    rfl
  refine hK.out _ _ ?_
  clear hK K
  refine done_ (done_of HT_.out (by kernel_rfl)) ?_
  obtain ⟨haS, hbS, -, -, hBS⟩ := twobox (a := (.cells #[.int .i64 0, .string ⟨#[]⟩, .string ⟨#[]⟩, .int .i64 0, .int .u64 0, .int .u64 0, .slice none 0 0, .slice none 0 0] 27 (0, 0))) (b := (.cells #[.int .i64 5, .string ⟨#[]⟩, .string ⟨#[]⟩, .int .i64 0, .int .u64 0, .int .u64 0, .slice none 0 0, .slice none 0 0] 27 (0, 0))) hb1'
  have haT := (Below.heap_setCell w1 ⟨w.heap.size + 1, 3, none⟩ (.int .i64 NV) w.heap.size (by simp)).trans haS
  have hbT : (w1.setCell ⟨w.heap.size + 1, 3, none⟩ (.int .i64 NV)).heap[w.heap.size + 1]? = some (.cells #[.int .i64 5, .string ⟨#[]⟩, .string ⟨#[]⟩, .int .i64 NV, .int .u64 0, .int .u64 0, .slice none 0 0, .slice none 0 0] 27 (0, 0)) := by simpa using heap_setCell_same w1 (w.heap.size + 1) 3 _ _ (.int .i64 NV) hbS
  have haN := (hk5.block w.heap.size (by show w.heap.size < (w1.setCell _ _).heap.size; simpa using hlA)).trans haT
  have hbN := (hk5.block (w.heap.size + 1) (by show w.heap.size + 1 < (w1.setCell _ _).heap.size; simpa using hlB)).trans hbT
  have hlA2 : w.heap.size < w5.heap.size := (Array.getElem?_eq_some_iff.1 haN).1
  have hlB2 : w.heap.size + 1 < w5.heap.size := (Array.getElem?_eq_some_iff.1 hbN).1
  have HB5 := Lib.hid (Below.trans (bdrew (bsS (.int .i64 NV) (by omega) hBS) : Below w.heap.size w (w1.setCell ⟨w.heap.size + 1, 3, none⟩ (.int .i64 NV)).drew) (hk5.mono (by show w.heap.size ≤ (w1.setCell _ _).heap.size; simp; omega)))
  have HS5 := Lib.hid hs5
  have HN5 : Hid (∀ a, A5 = some a → w1.heap.size ≤ a.block) := Lib.hid fun a ha => by have h := (hn5 a ha).1; have h2 : (w1.setCell ⟨w.heap.size + 1, 3, none⟩ (.int .i64 NV)).heap.size ≤ a.block := h; simpa using h2
  have hz1 : w.heap.size + 1 + 1 ≤ w1.heap.size := by have h := hb1'.size; simpa using h
  have hf1 : ∀ a, A5 = some a → a.block ≠ w.heap.size := fun a ha => by have h := HN5.out a ha; omega
  have hf2 : ∀ a, A5 = some a → a.block ≠ w.heap.size + 1 := fun a ha => by have h := HN5.out a ha; omega
  clear hap hk5 ho5 hs5 hn5 hkb zf5 hHeld haS hbS hBS haT hbT x0 xf0 y0 yf0 x1 xf1 y1 yf1 x2 xf2 y2 yf2 x3 xf3 y3 yf3 x4 xf4 y4 yf4 x5 xf5 y5 yf5 x6 xf6 y6 yf6 x7 xf7 y7 yf7 hlA hlB HBw1 hb1' c4w
  subst hv5
  obtain ⟨x0, x1, x2, x3, x4, x5, x6, x7, xf0, xf1, xf2, xf3, xf4, xf5, xf6, xf7⟩ := cells8 haN
  obtain ⟨y0, y1, y2, y3, y4, y5, y6, y7, yf0, yf1, yf2, yf3, yf4, yf5, yf6, yf7⟩ := cells8 hbN
  have haN5 := Lib.hid haN
  have hbN5 := Lib.hid hbN
  clear haN hbN
  have hlA := hlA2
  have hlB := hlB2
  go_wp2_with fail
  have hsN : SB (w5.setCell ⟨w.heap.size + 1, 6, none⟩ (.slice A5 n c5)) A5 c5 bb := SB.far HS5.out hf2 _
  have HNB := docNumber A5 c5 bb _ hsN
  rw [HLB.out, HNM.out] at HNB
  refine HNB.mono ?_
  rintro e w7 ⟨rfl, hb7⟩
  have HS7 := Lib.hid (hsN.keep hb7)
  have haT := (Below.heap_setCell w5 ⟨w.heap.size + 1, 6, none⟩ (.slice A5 n c5) w.heap.size (by simp)).trans haN5.out
  have hbT : (w5.setCell ⟨w.heap.size + 1, 6, none⟩ (.slice A5 n c5)).heap[w.heap.size + 1]? = some (.cells #[.int .i64 5, .string ⟨#[]⟩, .string ⟨#[]⟩, .int .i64 NV, .int .u64 0, .int .u64 0, .slice A5 n c5, .slice none 0 0] 27 (0, 0)) := by simpa using heap_setCell_same w5 (w.heap.size + 1) 6 _ _ (.slice A5 n c5) hbN5.out
  have haN := (hb7.block w.heap.size (by simp; omega)).trans haT
  have hbN := (hb7.block (w.heap.size + 1) (by simp; omega)).trans hbT
  have hlA3 : w.heap.size < w7.heap.size := (Array.getElem?_eq_some_iff.1 haN).1
  have hlB3 : w.heap.size + 1 < w7.heap.size := (Array.getElem?_eq_some_iff.1 hbN).1
  have HB7 := Lib.hid (bthen (bsS (.slice A5 n c5) (by omega) HB5.out : Below w.heap.size w (w5.setCell ⟨w.heap.size + 1, 6, none⟩ (.slice A5 n c5))) hb7)
  clear hb7 HNB hsN haT hbT haN5 hbN5 hlA2 hlB2 HB5 HS5 x0 xf0 y0 yf0 x1 xf1 y1 yf1 x2 xf2 y2 yf2 x3 xf3 y3 yf3 x4 xf4 y4 yf4 x5 xf5 y5 yf5 x6 xf6 y6 yf6 x7 xf7 y7 yf7 hlA hlB
  obtain ⟨x0, x1, x2, x3, x4, x5, x6, x7, xf0, xf1, xf2, xf3, xf4, xf5, xf6, xf7⟩ := cells8 haN
  obtain ⟨y0, y1, y2, y3, y4, y5, y6, y7, yf0, yf1, yf2, yf3, yf4, yf5, yf6, yf7⟩ := cells8 hbN
  clear haN hbN
  have hlA := hlA3
  have hlB := hlB3
  cases fine <;> cases sz <;> first | (exfalso; have := hsf rfl; cases this; done) | clear hsf
  all_goals go_wp2_with fail
  all_goals exact bodyPost_ret (v := .tuple #[.agg #[.int .i64 0, .string ⟨#[]⟩, .string ⟨#[]⟩, .int .i64 0, .int .u64 0, .int .u64 0, .slice none 0 0, .slice none 0 0], .int .i64 0, .bool false]) (by simp [results, Tryz.results110, go_sem, x0, x1, x2, x3, x4, x5, x6, x7, hlA, hlB]) rfl ⟨rfl, (by (iterate 8 (refine bsS _ (by omega) ?_)); exact HB7.out)⟩
end Tk
end Go.Proofs.YtbpopaegfhcdpaaGreatDoor.X


/- spec.DocTake of what spec.docParse reads, spec.DocAgrees, spec.DocSame. (gen_tk.py) -/
set_option linter.unusedVariables false
set_option linter.unusedSimpArgs false
set_option maxRecDepth 100000
namespace Go.Proofs.YtbpopaegfhcdpaaGreatDoor.X
open Go.RowKit Go.Proofs.YtbpopaegfhcdpaaGreatDoorW.PrintLast Go.Proofs.YtbpopaegfhcdpaaGreatDoorW.PrintWords
open Go.Proofs.YtbpopaegfhcdpaaGreatDoor.PFnDocAnyLookup
namespace Tk
open Sp Al Av Aw Ck

theorem sb_apart {W : World} {A : Option Addr} {c : Nat} {l : List UInt8} {g : Nat} {cs : Array Value} {T : TypeId} {fr : Nat × Nat} (hs : SB W A c l) (hg : W.heap[g]? = some (.cells cs T fr)) (hc : ∀ (o : Nat) (k : Int), cs[o]? ≠ some (Value.int .u8 k)) : 0 < l.length → ∀ a, A = some a → a.block ≠ g := by
  intro hp a ha hb
  obtain ⟨b, off, h1, h2⟩ := hs.cells hp
  rw [h1] at ha
  cases ha
  have h3 := h2 0 hp
  have hb' : b = g := hb
  subst hb'
  have h4 : cs[off + 0]? = some (Value.int .u8 (l[0].toNat : Int)) := by simpa [World.cell?, hg] using h3
  exact hc _ _ h4
theorem no_u8 {a0 a3 a4 a5 : Int} {s1 s2 : ByteArray} {A B : Option Addr} {n m c d : Nat} : ∀ (o : Nat) (k : Int), (#[.int .i64 a0, .string s1, .string s2, .int .i64 a3, .int .u64 a4, .int .u64 a5, .slice A n c, .slice B m d] : Array Value)[o]? ≠ some (.int .u8 k) := by
  intro o k h
  rcases o with _ | _ | _ | _ | _ | _ | _ | _ | o <;> simp at h
set_option maxHeartbeats 2000000 in
theorem parse_ok (K : Int) (l : List UInt8) (text more : ByteArray) (n bits high : Int) (b : List UInt8) (cnt : Nat) (A : Option Addr) (c : Nat) (w : World) (h : ∀ wx, Below w.heap.size w wx → PkOk K l text more n bits high b cnt A c wx) : Calls Tryz.prog 44 #[.int .i64 K, .slice A l.length c] w fun e w' => (∃ A1 c1, e = .returned (.tuple #[.agg #[.int .i64 K, .string text, .string more, .int .i64 n, .int .u64 bits, .int .u64 high, .slice A1 b.length c1, .slice none 0 0], .int .i64 (cnt : Int), .bool true]) ∧ SB w' A1 c1 b) ∧ Below w.heap.size w w' := by
  have HC := Lib.hid h
  clear h
  unfold PkOk at HC
  obtain ⟨p, hp⟩ : ∃ p, p = l.length := ⟨_, rfl⟩
  obtain ⟨q, hq⟩ : ∃ p, p = b.length := ⟨_, rfl⟩
  rw [← hp, ← hq] at HC
  rw [← hp, ← hq]
  clear hp hq
  go_enter Tryz.func44, Tryz.ntmps44
  go_wp2_with fail
  refine (HC.out _ (balloc (Below.refl _ _) (Nat.le_refl _) _)).mono ?_
  rintro e w1 ⟨⟨A1, c1, rfl, hsb⟩, hb⟩
  have hbx : Below (w.heap.size + 1) (w.alloc (.cells #[.int .i64 0, .string ⟨#[]⟩, .string ⟨#[]⟩, .int .i64 0, .int .u64 0, .int .u64 0, .slice none 0 0, .slice none 0 0] 27)) w1 := by simpa using hb
  have hz1 := boxs hbx
  have hlt : w.heap.size < w1.heap.size := by omega
  have HB1 := Lib.hid (boxb hbx)
  have q0 := boxc hbx 0
  have f0 := boxf hbx 0
  have q1 := boxc hbx 1
  have f1 := boxf hbx 1
  have q2 := boxc hbx 2
  have f2 := boxf hbx 2
  have q3 := boxc hbx 3
  have f3 := boxf hbx 3
  have q4 := boxc hbx 4
  have f4 := boxf hbx 4
  have q5 := boxc hbx 5
  have f5 := boxf hbx 5
  have q6 := boxc hbx 6
  have f6 := boxf hbx 6
  have q7 := boxc hbx 7
  have f7 := boxf hbx 7
  simp only [List.getElem?_cons_succ, List.getElem?_cons_zero] at q0 q1 q2 q3 q4 q5 q6 q7
  have HS1 := Lib.hid hsb
  have hfar : 0 < b.length → ∀ a, A1 = some a → a.block ≠ w.heap.size := sb_apart hsb (by rw [hbx.block _ (by omega)]; exact heap_alloc_new w _) no_u8
  clear hsb
  clear hb hbx hz1 HC
  go_wp2_with fail
  exact bodyPost_ret (v := .tuple #[.agg #[.int .i64 K, .string text, .string more, .int .i64 n, .int .u64 bits, .int .u64 high, .slice A1 q c1, .slice none 0 0], .int .i64 cnt, .bool true]) (by simp [results, Tryz.results44, go_sem, q0, q1, q2, q3, q4, q5, q6, q7, hlt]) rfl ⟨⟨A1, c1, rfl, (by (iterate 8 (refine SB.far2 ?_ hfar _)); exact HS1.out)⟩, (by (iterate 8 (refine bsS _ (Nat.le_refl _) ?_)); exact HB1.out)⟩
set_option maxHeartbeats 2000000 in
theorem parse_no (K : Int) (l : List UInt8) (A : Option Addr) (c : Nat) (w : World) (h : ∀ wx, Below w.heap.size w wx → PkNo K l A c wx) : Calls Tryz.prog 44 #[.int .i64 K, .slice A l.length c] w fun e w' => e = .returned (.tuple #[.agg #[.int .i64 0, .string ⟨#[]⟩, .string ⟨#[]⟩, .int .i64 0, .int .u64 0, .int .u64 0, .slice none 0 0, .slice none 0 0], .int .i64 0, .bool false]) ∧ Below w.heap.size w w' := by
  have HC := Lib.hid h
  clear h
  unfold PkNo at HC
  obtain ⟨p, hp⟩ : ∃ p, p = l.length := ⟨_, rfl⟩
  rw [← hp] at HC
  rw [← hp]
  clear hp
  go_enter Tryz.func44, Tryz.ntmps44
  go_wp2_with fail
  refine (HC.out _ (balloc (Below.refl _ _) (Nat.le_refl _) _)).mono ?_
  rintro e w1 ⟨rfl, hb⟩
  have hbx : Below (w.heap.size + 1) (w.alloc (.cells #[.int .i64 0, .string ⟨#[]⟩, .string ⟨#[]⟩, .int .i64 0, .int .u64 0, .int .u64 0, .slice none 0 0, .slice none 0 0] 27)) w1 := by simpa using hb
  have hz1 := boxs hbx
  have hlt : w.heap.size < w1.heap.size := by omega
  have HB1 := Lib.hid (boxb hbx)
  have q0 := boxc hbx 0
  have f0 := boxf hbx 0
  have q1 := boxc hbx 1
  have f1 := boxf hbx 1
  have q2 := boxc hbx 2
  have f2 := boxf hbx 2
  have q3 := boxc hbx 3
  have f3 := boxf hbx 3
  have q4 := boxc hbx 4
  have f4 := boxf hbx 4
  have q5 := boxc hbx 5
  have f5 := boxf hbx 5
  have q6 := boxc hbx 6
  have f6 := boxf hbx 6
  have q7 := boxc hbx 7
  have f7 := boxf hbx 7
  simp only [List.getElem?_cons_succ, List.getElem?_cons_zero] at q0 q1 q2 q3 q4 q5 q6 q7
  clear hb hbx hz1 HC
  go_wp2_with fail
  exact bodyPost_ret (v := .tuple #[.agg #[.int .i64 0, .string ⟨#[]⟩, .string ⟨#[]⟩, .int .i64 0, .int .u64 0, .int .u64 0, .slice none 0 0, .slice none 0 0], .int .i64 0, .bool false]) (by simp [results, Tryz.results44, go_sem, q0, q1, q2, q3, q4, q5, q6, q7, hlt]) rfl ⟨rfl, (by (iterate 8 (refine bsS _ (Nat.le_refl _) ?_)); exact HB1.out)⟩
set_option maxHeartbeats 8000000 in
theorem tk_def (fu : Nat) (K : Int) (text more : ByteArray) (n bits high : Int) (b : List UInt8) (cnt : Nat) (A : Option Addr) (c : Nat) (l : List UInt8) (w : World) (hs : SB w A c l) (hl : l.length ≤ 5000) (M : Int) (hLE : spec_DocLen.f fu K (ints l) = some (M, true)) (k2 : (K == 2) = false) (k13 : (K == 13) = false) (k14 : (K == 14) = false) (k8 : (K == 8) = false) (k3 : (K == 3) = false) (k4 : (K == 4) = false) (k12 : (K == 12) = false) (k15 : (K == 15) = false) (h : ∀ wx, Below w.heap.size w wx → PkOk K l text more n bits high b cnt A c wx) : TkOk K l text more n bits high b cnt A c w := by
  unfold TkOk
  have HP := Lib.hid (fun wx (hb : Below w.heap.size w wx) => parse_ok K l text more n bits high b cnt A c wx (fun wy hy => h wy (hb.trans (hy.mono hb.size))))
  have HLEN := Lib.hid (fun wx (hb : Below w.heap.size w wx) => lenC fu K A c l (M) (true) wx (hs.keep hb) hLE)
  have HNUM := Lib.hid (fun wx (hb : Below w.heap.size w wx) => docNumber A c l wx (hs.keep hb))
  obtain ⟨N, hN⟩ : ∃ N : Int, N = (numOf l).1 := ⟨_, rfl⟩
  obtain ⟨nb, hnb⟩ : ∃ N, N = (numOf l).2 := ⟨_, rfl⟩
  rw [← hN, ← hnb] at HNUM
  obtain ⟨p, hp⟩ : ∃ p, p = l.length := ⟨_, rfl⟩
  rw [← hp] at HLEN HNUM HP
  rw [← hp]
  obtain ⟨q, hq⟩ : ∃ p, p = b.length := ⟨_, rfl⟩
  rw [← hq] at HP
  rw [← hq]
  clear hs hl hLE h hp hN hnb hq
  cases nb
  case false =>
    go_enter Tryz.func16, Tryz.ntmps16
    go_wp2_with fail
    refine (HLEN.out _ (balloc (balloc (Below.refl _ _) (Nat.le_refl _) _) (by simp) _)).mono ?_
    rintro e w1 ⟨rfl, hb1⟩
    have hb1' : Below (w.heap.size + 1 + 1) ((w.alloc (.cells #[.int .i64 0, .string ⟨#[]⟩, .string ⟨#[]⟩, .int .i64 0, .int .u64 0, .int .u64 0, .slice none 0 0, .slice none 0 0] 27)).alloc (.cells #[.int .i64 K, .string ⟨#[]⟩, .string ⟨#[]⟩, .int .i64 0, .int .u64 0, .int .u64 0, .slice none 0 0, .slice none 0 0] 27)) w1 := by simpa using hb1
    have HB1 := Lib.hid hb1'
    clear hb1 hb1' HLEN
    go_wp2_with fail
    refine (HNUM.out w1 (twobox HB1.out).2.2.2.2).mono ?_
    rintro e w2 ⟨rfl, hb2⟩
    have hb2' : Below (w.heap.size + 1 + 1) ((w.alloc (.cells #[.int .i64 0, .string ⟨#[]⟩, .string ⟨#[]⟩, .int .i64 0, .int .u64 0, .int .u64 0, .slice none 0 0, .slice none 0 0] 27)).alloc (.cells #[.int .i64 K, .string ⟨#[]⟩, .string ⟨#[]⟩, .int .i64 0, .int .u64 0, .int .u64 0, .slice none 0 0, .slice none 0 0] 27)) w2 := HB1.out.trans (hb2.mono (by have h := HB1.out.size; simpa using h))
    clear hb2 HB1 HNUM
    obtain ⟨haw2, hbw2, hlA, hlB, hBw2⟩ := twobox (a := (.cells #[.int .i64 0, .string ⟨#[]⟩, .string ⟨#[]⟩, .int .i64 0, .int .u64 0, .int .u64 0, .slice none 0 0, .slice none 0 0] 27 (0, 0))) (b := (.cells #[.int .i64 K, .string ⟨#[]⟩, .string ⟨#[]⟩, .int .i64 0, .int .u64 0, .int .u64 0, .slice none 0 0, .slice none 0 0] 27 (0, 0))) hb2'
    obtain ⟨x0, x1, x2, x3, x4, x5, x6, x7, xf0, xf1, xf2, xf3, xf4, xf5, xf6, xf7⟩ := cells8 haw2
    obtain ⟨y0, y1, y2, y3, y4, y5, y6, y7, yf0, yf1, yf2, yf3, yf4, yf5, yf6, yf7⟩ := cells8 hbw2
    have HBw2 := Lib.hid hBw2
    clear haw2 hbw2 hBw2
    go_wp2_with fail
    all_goals
      refine (HP.out w2 HBw2.out).mono ?_
      rintro e w3 ⟨⟨A1, c1, rfl, hsb⟩, hb3⟩
      have hb3' : Below (w.heap.size + 1 + 1) ((w.alloc (.cells #[.int .i64 0, .string ⟨#[]⟩, .string ⟨#[]⟩, .int .i64 0, .int .u64 0, .int .u64 0, .slice none 0 0, .slice none 0 0] 27)).alloc (.cells #[.int .i64 K, .string ⟨#[]⟩, .string ⟨#[]⟩, .int .i64 0, .int .u64 0, .int .u64 0, .slice none 0 0, .slice none 0 0] 27)) w3 := hb2'.trans (hb3.mono (by have h := hb2'.size; simpa using h))
      clear hb3 HP hb2' x0 xf0 y0 yf0 x1 xf1 y1 yf1 x2 xf2 y2 yf2 x3 xf3 y3 yf3 x4 xf4 y4 yf4 x5 xf5 y5 yf5 x6 xf6 y6 yf6 x7 xf7 y7 yf7 hlA hlB HBw2
      have HS3 := Lib.hid hsb
      have hfar : 0 < b.length → ∀ a, A1 = some a → a.block ≠ w.heap.size := sb_apart hsb (twobox hb3').1 no_u8
      clear hsb
      obtain ⟨haw3, hbw3, hlA, hlB, hBw3⟩ := twobox (a := (.cells #[.int .i64 0, .string ⟨#[]⟩, .string ⟨#[]⟩, .int .i64 0, .int .u64 0, .int .u64 0, .slice none 0 0, .slice none 0 0] 27 (0, 0))) (b := (.cells #[.int .i64 K, .string ⟨#[]⟩, .string ⟨#[]⟩, .int .i64 0, .int .u64 0, .int .u64 0, .slice none 0 0, .slice none 0 0] 27 (0, 0))) hb3'
      obtain ⟨x0, x1, x2, x3, x4, x5, x6, x7, xf0, xf1, xf2, xf3, xf4, xf5, xf6, xf7⟩ := cells8 haw3
      obtain ⟨y0, y1, y2, y3, y4, y5, y6, y7, yf0, yf1, yf2, yf3, yf4, yf5, yf6, yf7⟩ := cells8 hbw3
      have HBw3 := Lib.hid hBw3
      clear haw3 hbw3 hBw3
      clear hb3'
      go_wp2_with fail
      exact bodyPost_ret (v := .tuple #[.agg #[.int .i64 K, .string text, .string more, .int .i64 n, .int .u64 bits, .int .u64 high, .slice A1 q c1, .slice none 0 0], .int .i64 cnt, .bool true]) (by simp [results, Tryz.results16, go_sem, x0, x1, x2, x3, x4, x5, x6, x7, hlA, hlB]) rfl ⟨⟨A1, c1, rfl, (by (iterate 8 (refine SB.far2 ?_ hfar _)); exact HS3.out)⟩, (by (iterate 8 (refine bsS _ (by omega) ?_)); exact HBw3.out)⟩
  case true =>
    go_enter Tryz.func16, Tryz.ntmps16
    go_wp2_with fail
    refine (HLEN.out _ (balloc (balloc (Below.refl _ _) (Nat.le_refl _) _) (by simp) _)).mono ?_
    rintro e w1 ⟨rfl, hb1⟩
    have hb1' : Below (w.heap.size + 1 + 1) ((w.alloc (.cells #[.int .i64 0, .string ⟨#[]⟩, .string ⟨#[]⟩, .int .i64 0, .int .u64 0, .int .u64 0, .slice none 0 0, .slice none 0 0] 27)).alloc (.cells #[.int .i64 K, .string ⟨#[]⟩, .string ⟨#[]⟩, .int .i64 0, .int .u64 0, .int .u64 0, .slice none 0 0, .slice none 0 0] 27)) w1 := by simpa using hb1
    have HB1 := Lib.hid hb1'
    clear hb1 hb1' HLEN
    go_wp2_with fail
    refine (HNUM.out w1 (twobox HB1.out).2.2.2.2).mono ?_
    rintro e w2 ⟨rfl, hb2⟩
    have hb2' : Below (w.heap.size + 1 + 1) ((w.alloc (.cells #[.int .i64 0, .string ⟨#[]⟩, .string ⟨#[]⟩, .int .i64 0, .int .u64 0, .int .u64 0, .slice none 0 0, .slice none 0 0] 27)).alloc (.cells #[.int .i64 K, .string ⟨#[]⟩, .string ⟨#[]⟩, .int .i64 0, .int .u64 0, .int .u64 0, .slice none 0 0, .slice none 0 0] 27)) w2 := HB1.out.trans (hb2.mono (by have h := HB1.out.size; simpa using h))
    clear hb2 HB1 HNUM
    obtain ⟨haw2, hbw2, hlA, hlB, hBw2⟩ := twobox (a := (.cells #[.int .i64 0, .string ⟨#[]⟩, .string ⟨#[]⟩, .int .i64 0, .int .u64 0, .int .u64 0, .slice none 0 0, .slice none 0 0] 27 (0, 0))) (b := (.cells #[.int .i64 K, .string ⟨#[]⟩, .string ⟨#[]⟩, .int .i64 0, .int .u64 0, .int .u64 0, .slice none 0 0, .slice none 0 0] 27 (0, 0))) hb2'
    obtain ⟨x0, x1, x2, x3, x4, x5, x6, x7, xf0, xf1, xf2, xf3, xf4, xf5, xf6, xf7⟩ := cells8 haw2
    obtain ⟨y0, y1, y2, y3, y4, y5, y6, y7, yf0, yf1, yf2, yf3, yf4, yf5, yf6, yf7⟩ := cells8 hbw2
    have HBw2 := Lib.hid hBw2
    clear haw2 hbw2 hBw2
    go_wp2_with fail
    all_goals
      refine (HP.out w2 HBw2.out).mono ?_
      rintro e w3 ⟨⟨A1, c1, rfl, hsb⟩, hb3⟩
      have hb3' : Below (w.heap.size + 1 + 1) ((w.alloc (.cells #[.int .i64 0, .string ⟨#[]⟩, .string ⟨#[]⟩, .int .i64 0, .int .u64 0, .int .u64 0, .slice none 0 0, .slice none 0 0] 27)).alloc (.cells #[.int .i64 K, .string ⟨#[]⟩, .string ⟨#[]⟩, .int .i64 0, .int .u64 0, .int .u64 0, .slice none 0 0, .slice none 0 0] 27)) w3 := hb2'.trans (hb3.mono (by have h := hb2'.size; simpa using h))
      clear hb3 HP hb2' x0 xf0 y0 yf0 x1 xf1 y1 yf1 x2 xf2 y2 yf2 x3 xf3 y3 yf3 x4 xf4 y4 yf4 x5 xf5 y5 yf5 x6 xf6 y6 yf6 x7 xf7 y7 yf7 hlA hlB HBw2
      have HS3 := Lib.hid hsb
      have hfar : 0 < b.length → ∀ a, A1 = some a → a.block ≠ w.heap.size := sb_apart hsb (twobox hb3').1 no_u8
      clear hsb
      obtain ⟨haw3, hbw3, hlA, hlB, hBw3⟩ := twobox (a := (.cells #[.int .i64 0, .string ⟨#[]⟩, .string ⟨#[]⟩, .int .i64 0, .int .u64 0, .int .u64 0, .slice none 0 0, .slice none 0 0] 27 (0, 0))) (b := (.cells #[.int .i64 K, .string ⟨#[]⟩, .string ⟨#[]⟩, .int .i64 0, .int .u64 0, .int .u64 0, .slice none 0 0, .slice none 0 0] 27 (0, 0))) hb3'
      obtain ⟨x0, x1, x2, x3, x4, x5, x6, x7, xf0, xf1, xf2, xf3, xf4, xf5, xf6, xf7⟩ := cells8 haw3
      obtain ⟨y0, y1, y2, y3, y4, y5, y6, y7, yf0, yf1, yf2, yf3, yf4, yf5, yf6, yf7⟩ := cells8 hbw3
      have HBw3 := Lib.hid hBw3
      clear haw3 hbw3 hBw3
      clear hb3'
      go_wp2_with fail
      exact bodyPost_ret (v := .tuple #[.agg #[.int .i64 K, .string text, .string more, .int .i64 n, .int .u64 bits, .int .u64 high, .slice A1 q c1, .slice none 0 0], .int .i64 cnt, .bool true]) (by simp [results, Tryz.results16, go_sem, x0, x1, x2, x3, x4, x5, x6, x7, hlA, hlB]) rfl ⟨⟨A1, c1, rfl, (by (iterate 8 (refine SB.far2 ?_ hfar _)); exact HS3.out)⟩, (by (iterate 8 (refine bsS _ (by omega) ?_)); exact HBw3.out)⟩
set_option maxHeartbeats 8000000 in
theorem tk_defno (fu : Nat) (K : Int) (A : Option Addr) (c : Nat) (l : List UInt8) (w : World) (hs : SB w A c l) (hl : l.length ≤ 5000) (M : Int) (hLE : spec_DocLen.f fu K (ints l) = some (M, true)) (k2 : (K == 2) = false) (k13 : (K == 13) = false) (k14 : (K == 14) = false) (k8 : (K == 8) = false) (k3 : (K == 3) = false) (k4 : (K == 4) = false) (k12 : (K == 12) = false) (k15 : (K == 15) = false) (h : ∀ wx, Below w.heap.size w wx → PkNo K l A c wx) : TkNo K l A c w := by
  unfold TkNo
  have HP := Lib.hid (fun wx (hb : Below w.heap.size w wx) => parse_no K l A c wx (fun wy hy => h wy (hb.trans (hy.mono hb.size))))
  have HLEN := Lib.hid (fun wx (hb : Below w.heap.size w wx) => lenC fu K A c l (M) (true) wx (hs.keep hb) hLE)
  have HNUM := Lib.hid (fun wx (hb : Below w.heap.size w wx) => docNumber A c l wx (hs.keep hb))
  obtain ⟨N, hN⟩ : ∃ N : Int, N = (numOf l).1 := ⟨_, rfl⟩
  obtain ⟨nb, hnb⟩ : ∃ N, N = (numOf l).2 := ⟨_, rfl⟩
  rw [← hN, ← hnb] at HNUM
  obtain ⟨p, hp⟩ : ∃ p, p = l.length := ⟨_, rfl⟩
  rw [← hp] at HLEN HNUM HP
  rw [← hp]
  clear hs hl hLE h hp hN hnb 
  cases nb
  case false =>
    go_enter Tryz.func16, Tryz.ntmps16
    go_wp2_with fail
    refine (HLEN.out _ (balloc (balloc (Below.refl _ _) (Nat.le_refl _) _) (by simp) _)).mono ?_
    rintro e w1 ⟨rfl, hb1⟩
    have hb1' : Below (w.heap.size + 1 + 1) ((w.alloc (.cells #[.int .i64 0, .string ⟨#[]⟩, .string ⟨#[]⟩, .int .i64 0, .int .u64 0, .int .u64 0, .slice none 0 0, .slice none 0 0] 27)).alloc (.cells #[.int .i64 K, .string ⟨#[]⟩, .string ⟨#[]⟩, .int .i64 0, .int .u64 0, .int .u64 0, .slice none 0 0, .slice none 0 0] 27)) w1 := by simpa using hb1
    have HB1 := Lib.hid hb1'
    clear hb1 hb1' HLEN
    go_wp2_with fail
    refine (HNUM.out w1 (twobox HB1.out).2.2.2.2).mono ?_
    rintro e w2 ⟨rfl, hb2⟩
    have hb2' : Below (w.heap.size + 1 + 1) ((w.alloc (.cells #[.int .i64 0, .string ⟨#[]⟩, .string ⟨#[]⟩, .int .i64 0, .int .u64 0, .int .u64 0, .slice none 0 0, .slice none 0 0] 27)).alloc (.cells #[.int .i64 K, .string ⟨#[]⟩, .string ⟨#[]⟩, .int .i64 0, .int .u64 0, .int .u64 0, .slice none 0 0, .slice none 0 0] 27)) w2 := HB1.out.trans (hb2.mono (by have h := HB1.out.size; simpa using h))
    clear hb2 HB1 HNUM
    obtain ⟨haw2, hbw2, hlA, hlB, hBw2⟩ := twobox (a := (.cells #[.int .i64 0, .string ⟨#[]⟩, .string ⟨#[]⟩, .int .i64 0, .int .u64 0, .int .u64 0, .slice none 0 0, .slice none 0 0] 27 (0, 0))) (b := (.cells #[.int .i64 K, .string ⟨#[]⟩, .string ⟨#[]⟩, .int .i64 0, .int .u64 0, .int .u64 0, .slice none 0 0, .slice none 0 0] 27 (0, 0))) hb2'
    obtain ⟨x0, x1, x2, x3, x4, x5, x6, x7, xf0, xf1, xf2, xf3, xf4, xf5, xf6, xf7⟩ := cells8 haw2
    obtain ⟨y0, y1, y2, y3, y4, y5, y6, y7, yf0, yf1, yf2, yf3, yf4, yf5, yf6, yf7⟩ := cells8 hbw2
    have HBw2 := Lib.hid hBw2
    clear haw2 hbw2 hBw2
    go_wp2_with fail
    all_goals
      refine (HP.out w2 HBw2.out).mono ?_
      rintro e w3 ⟨rfl, hb3⟩
      have hb3' : Below (w.heap.size + 1 + 1) ((w.alloc (.cells #[.int .i64 0, .string ⟨#[]⟩, .string ⟨#[]⟩, .int .i64 0, .int .u64 0, .int .u64 0, .slice none 0 0, .slice none 0 0] 27)).alloc (.cells #[.int .i64 K, .string ⟨#[]⟩, .string ⟨#[]⟩, .int .i64 0, .int .u64 0, .int .u64 0, .slice none 0 0, .slice none 0 0] 27)) w3 := hb2'.trans (hb3.mono (by have h := hb2'.size; simpa using h))
      clear hb3 HP hb2' x0 xf0 y0 yf0 x1 xf1 y1 yf1 x2 xf2 y2 yf2 x3 xf3 y3 yf3 x4 xf4 y4 yf4 x5 xf5 y5 yf5 x6 xf6 y6 yf6 x7 xf7 y7 yf7 hlA hlB HBw2
      obtain ⟨haw3, hbw3, hlA, hlB, hBw3⟩ := twobox (a := (.cells #[.int .i64 0, .string ⟨#[]⟩, .string ⟨#[]⟩, .int .i64 0, .int .u64 0, .int .u64 0, .slice none 0 0, .slice none 0 0] 27 (0, 0))) (b := (.cells #[.int .i64 K, .string ⟨#[]⟩, .string ⟨#[]⟩, .int .i64 0, .int .u64 0, .int .u64 0, .slice none 0 0, .slice none 0 0] 27 (0, 0))) hb3'
      obtain ⟨x0, x1, x2, x3, x4, x5, x6, x7, xf0, xf1, xf2, xf3, xf4, xf5, xf6, xf7⟩ := cells8 haw3
      obtain ⟨y0, y1, y2, y3, y4, y5, y6, y7, yf0, yf1, yf2, yf3, yf4, yf5, yf6, yf7⟩ := cells8 hbw3
      have HBw3 := Lib.hid hBw3
      clear haw3 hbw3 hBw3
      clear hb3'
      go_wp2_with fail
      exact bodyPost_ret (v := .tuple #[.agg #[.int .i64 0, .string ⟨#[]⟩, .string ⟨#[]⟩, .int .i64 0, .int .u64 0, .int .u64 0, .slice none 0 0, .slice none 0 0], .int .i64 0, .bool false]) (by simp [results, Tryz.results16, go_sem, x0, x1, x2, x3, x4, x5, x6, x7, hlA, hlB]) rfl ⟨rfl, (by (iterate 8 (refine bsS _ (by omega) ?_)); exact HBw3.out)⟩
  case true =>
    go_enter Tryz.func16, Tryz.ntmps16
    go_wp2_with fail
    refine (HLEN.out _ (balloc (balloc (Below.refl _ _) (Nat.le_refl _) _) (by simp) _)).mono ?_
    rintro e w1 ⟨rfl, hb1⟩
    have hb1' : Below (w.heap.size + 1 + 1) ((w.alloc (.cells #[.int .i64 0, .string ⟨#[]⟩, .string ⟨#[]⟩, .int .i64 0, .int .u64 0, .int .u64 0, .slice none 0 0, .slice none 0 0] 27)).alloc (.cells #[.int .i64 K, .string ⟨#[]⟩, .string ⟨#[]⟩, .int .i64 0, .int .u64 0, .int .u64 0, .slice none 0 0, .slice none 0 0] 27)) w1 := by simpa using hb1
    have HB1 := Lib.hid hb1'
    clear hb1 hb1' HLEN
    go_wp2_with fail
    refine (HNUM.out w1 (twobox HB1.out).2.2.2.2).mono ?_
    rintro e w2 ⟨rfl, hb2⟩
    have hb2' : Below (w.heap.size + 1 + 1) ((w.alloc (.cells #[.int .i64 0, .string ⟨#[]⟩, .string ⟨#[]⟩, .int .i64 0, .int .u64 0, .int .u64 0, .slice none 0 0, .slice none 0 0] 27)).alloc (.cells #[.int .i64 K, .string ⟨#[]⟩, .string ⟨#[]⟩, .int .i64 0, .int .u64 0, .int .u64 0, .slice none 0 0, .slice none 0 0] 27)) w2 := HB1.out.trans (hb2.mono (by have h := HB1.out.size; simpa using h))
    clear hb2 HB1 HNUM
    obtain ⟨haw2, hbw2, hlA, hlB, hBw2⟩ := twobox (a := (.cells #[.int .i64 0, .string ⟨#[]⟩, .string ⟨#[]⟩, .int .i64 0, .int .u64 0, .int .u64 0, .slice none 0 0, .slice none 0 0] 27 (0, 0))) (b := (.cells #[.int .i64 K, .string ⟨#[]⟩, .string ⟨#[]⟩, .int .i64 0, .int .u64 0, .int .u64 0, .slice none 0 0, .slice none 0 0] 27 (0, 0))) hb2'
    obtain ⟨x0, x1, x2, x3, x4, x5, x6, x7, xf0, xf1, xf2, xf3, xf4, xf5, xf6, xf7⟩ := cells8 haw2
    obtain ⟨y0, y1, y2, y3, y4, y5, y6, y7, yf0, yf1, yf2, yf3, yf4, yf5, yf6, yf7⟩ := cells8 hbw2
    have HBw2 := Lib.hid hBw2
    clear haw2 hbw2 hBw2
    go_wp2_with fail
    all_goals
      refine (HP.out w2 HBw2.out).mono ?_
      rintro e w3 ⟨rfl, hb3⟩
      have hb3' : Below (w.heap.size + 1 + 1) ((w.alloc (.cells #[.int .i64 0, .string ⟨#[]⟩, .string ⟨#[]⟩, .int .i64 0, .int .u64 0, .int .u64 0, .slice none 0 0, .slice none 0 0] 27)).alloc (.cells #[.int .i64 K, .string ⟨#[]⟩, .string ⟨#[]⟩, .int .i64 0, .int .u64 0, .int .u64 0, .slice none 0 0, .slice none 0 0] 27)) w3 := hb2'.trans (hb3.mono (by have h := hb2'.size; simpa using h))
      clear hb3 HP hb2' x0 xf0 y0 yf0 x1 xf1 y1 yf1 x2 xf2 y2 yf2 x3 xf3 y3 yf3 x4 xf4 y4 yf4 x5 xf5 y5 yf5 x6 xf6 y6 yf6 x7 xf7 y7 yf7 hlA hlB HBw2
      obtain ⟨haw3, hbw3, hlA, hlB, hBw3⟩ := twobox (a := (.cells #[.int .i64 0, .string ⟨#[]⟩, .string ⟨#[]⟩, .int .i64 0, .int .u64 0, .int .u64 0, .slice none 0 0, .slice none 0 0] 27 (0, 0))) (b := (.cells #[.int .i64 K, .string ⟨#[]⟩, .string ⟨#[]⟩, .int .i64 0, .int .u64 0, .int .u64 0, .slice none 0 0, .slice none 0 0] 27 (0, 0))) hb3'
      obtain ⟨x0, x1, x2, x3, x4, x5, x6, x7, xf0, xf1, xf2, xf3, xf4, xf5, xf6, xf7⟩ := cells8 haw3
      obtain ⟨y0, y1, y2, y3, y4, y5, y6, y7, yf0, yf1, yf2, yf3, yf4, yf5, yf6, yf7⟩ := cells8 hbw3
      have HBw3 := Lib.hid hBw3
      clear haw3 hbw3 hBw3
      clear hb3'
      go_wp2_with fail
      exact bodyPost_ret (v := .tuple #[.agg #[.int .i64 0, .string ⟨#[]⟩, .string ⟨#[]⟩, .int .i64 0, .int .u64 0, .int .u64 0, .slice none 0 0, .slice none 0 0], .int .i64 0, .bool false]) (by simp [results, Tryz.results16, go_sem, x0, x1, x2, x3, x4, x5, x6, x7, hlA, hlB]) rfl ⟨rfl, (by (iterate 8 (refine bsS _ (by omega) ?_)); exact HBw3.out)⟩
set_option maxHeartbeats 4000000 in
theorem ag_else (A : Option Addr) (c : Nat) (l : List UInt8) (w : World) (hs : SB w A c l) (hl : l.length ≤ 5000) (K : Int) (k5 : (K == 5) = false) (k15 : (K == 15) = false) : Calls Tryz.prog 15 #[.int .i64 K, .slice A l.length c] w fun e w' => e = .returned (.bool true) ∧ Below w.heap.size w w' := by
  obtain ⟨p, hp⟩ : ∃ p, p = l.length := ⟨_, rfl⟩
  rw [← hp]
  clear hs hl hp
  go_enter Tryz.func15, Tryz.ntmps15
  go_wp2_with fail
  all_goals go_ret
  all_goals exact ⟨rfl, Below.refl _ _⟩
set_option maxHeartbeats 4000000 in
theorem ag_short (A : Option Addr) (c : Nat) (l : List UInt8) (w : World) (hs : SB w A c l) (hl : l.length ≤ 5000) (h4 : l.length ≤ 4) : Calls Tryz.prog 15 #[.int .i64 5, .slice A l.length c] w fun e w' => e = .returned (.bool true) ∧ Below w.heap.size w w' := by
  obtain ⟨p, hp⟩ : ∃ p, p = l.length := ⟨_, rfl⟩
  rw [← hp] at h4 ⊢
  have d1 : decide ((4 : Int) < (p : Int)) = false := decide_eq_false (by omega)
  clear hs hl hp h4
  go_enter Tryz.func15, Tryz.ntmps15
  go_wp2_with fail
  all_goals go_ret
  all_goals exact ⟨rfl, Below.refl _ _⟩
set_option maxHeartbeats 4000000 in
theorem ag_bin (A : Option Addr) (c : Nat) (l : List UInt8) (w : World) (hs : SB w A c l) (hl : l.length ≤ 5000) (h4 : 4 < l.length) (ht : l[4] ≠ 2) : Calls Tryz.prog 15 #[.int .i64 5, .slice A l.length c] w fun e w' => e = .returned (.bool true) ∧ Below w.heap.size w w' := by
  obtain ⟨g, off, rfl, hc⟩ := hs.cells (by omega)
  have c4 : w.cell? ⟨g, off + 4, none⟩ = some (.int .u8 l[4].toNat) := hc 4 h4
  obtain ⟨NV, hNV⟩ : ∃ z : Int, z = (l[4].toNat : Int) := ⟨_, rfl⟩
  rw [← hNV] at c4
  have hz2 : (NV == 2) = false := by
    rw [hNV, beq_eq_false_iff_ne]
    intro h
    exact ht (UInt8.toNat_inj.1 (show l[4].toNat = (2 : UInt8).toNat from by show l[4].toNat = 2; omega))
  obtain ⟨p, hp⟩ : ∃ p, p = l.length := ⟨_, rfl⟩
  have h4p : 4 < p := by omega
  rw [← hp]
  have d1 : decide ((4 : Int) < (p : Int)) = true := decide_eq_true (by omega)
  clear hs hl hc hNV ht h4 hp
  go_enter Tryz.func15, Tryz.ntmps15
  go_wp2_with fail
  all_goals go_ret
  all_goals exact ⟨rfl, Below.refl _ _⟩
set_option maxHeartbeats 4000000 in
theorem ag_15o (A : Option Addr) (c : Nat) (l : List UInt8) (w : World) (hs : SB w A c l) (hl : l.length ≤ 5000) (text more : ByteArray) (n bits high : Int) (b : List UInt8) (cnt : Nat) (h : TkOk 15 l text more n bits high b cnt A c w) : Calls Tryz.prog 15 #[.int .i64 15, .slice A l.length c] w fun e w' => e = .returned (.bool true) ∧ Below w.heap.size w w' := by
  unfold TkOk at h
  have HT := Lib.hid h
  clear h
  obtain ⟨p, hp⟩ : ∃ p, p = l.length := ⟨_, rfl⟩
  rw [← hp] at HT ⊢
  clear hs hl hp
  go_enter Tryz.func15, Tryz.ntmps15
  go_wp2_with fail
  refine HT.out.mono ?_
  rintro e w1 ⟨⟨A1, c1, rfl, -⟩, hb1⟩
  have HB1 := Lib.hid hb1
  clear hb1 HT
  go_wp2_with fail
  all_goals go_ret
  all_goals exact ⟨rfl, balloc HB1.out HB1.out.size _⟩
set_option maxHeartbeats 4000000 in
theorem ag_15n (A : Option Addr) (c : Nat) (l : List UInt8) (w : World) (hs : SB w A c l) (hl : l.length ≤ 5000) (h : TkNo 15 l A c w) : Calls Tryz.prog 15 #[.int .i64 15, .slice A l.length c] w fun e w' => e = .returned (.bool false) ∧ Below w.heap.size w w' := by
  unfold TkNo at h
  have HT := Lib.hid h
  clear h
  obtain ⟨p, hp⟩ : ∃ p, p = l.length := ⟨_, rfl⟩
  rw [← hp] at HT ⊢
  clear hs hl hp
  go_enter Tryz.func15, Tryz.ntmps15
  go_wp2_with fail
  refine HT.out.mono ?_
  rintro e w1 ⟨rfl, hb1⟩
  have HB1 := Lib.hid hb1
  clear hb1 HT
  go_wp2_with fail
  all_goals go_ret
  all_goals exact ⟨rfl, balloc HB1.out HB1.out.size _⟩
set_option maxHeartbeats 4000000 in
theorem ag_5o (A : Option Addr) (c : Nat) (l : List UInt8) (w : World) (hs : SB w A c l) (hl : l.length ≤ 5000) (h4 : 4 < l.length) (ht : l[4] = 2) (text more : ByteArray) (n bits high : Int) (b : List UInt8) (cnt : Nat) (h : TkOk 5 l text more n bits high b cnt A c w) : Calls Tryz.prog 15 #[.int .i64 5, .slice A l.length c] w fun e w' => e = .returned (.bool true) ∧ Below w.heap.size w w' := by
  unfold TkOk at h
  have HT := Lib.hid h
  clear h
  obtain ⟨g, off, rfl, hc⟩ := hs.cells (by omega)
  have c4 : w.cell? ⟨g, off + 4, none⟩ = some (.int .u8 l[4].toNat) := hc 4 h4
  obtain ⟨NV, hNV⟩ : ∃ z : Int, z = (l[4].toNat : Int) := ⟨_, rfl⟩
  rw [← hNV] at c4
  have hz2 : (NV == 2) = true := by rw [hNV, ht]; rfl
  obtain ⟨p, hp⟩ : ∃ p, p = l.length := ⟨_, rfl⟩
  have h4p : 4 < p := by omega
  rw [← hp] at HT ⊢
  have d1 : decide ((4 : Int) < (p : Int)) = true := decide_eq_true (by omega)
  clear hs hl hc hNV ht h4 hp
  go_enter Tryz.func15, Tryz.ntmps15
  go_wp2_with fail
  refine HT.out.mono ?_
  rintro e w1 ⟨⟨A1, c1, rfl, -⟩, hb1⟩
  have HB1 := Lib.hid hb1
  clear hb1 HT
  go_wp2_with fail
  all_goals go_ret
  all_goals exact ⟨rfl, balloc HB1.out HB1.out.size _⟩
set_option maxHeartbeats 4000000 in
theorem ag_5n (A : Option Addr) (c : Nat) (l : List UInt8) (w : World) (hs : SB w A c l) (hl : l.length ≤ 5000) (h4 : 4 < l.length) (ht : l[4] = 2) (h : TkNo 5 l A c w) : Calls Tryz.prog 15 #[.int .i64 5, .slice A l.length c] w fun e w' => e = .returned (.bool false) ∧ Below w.heap.size w w' := by
  unfold TkNo at h
  have HT := Lib.hid h
  clear h
  obtain ⟨g, off, rfl, hc⟩ := hs.cells (by omega)
  have c4 : w.cell? ⟨g, off + 4, none⟩ = some (.int .u8 l[4].toNat) := hc 4 h4
  obtain ⟨NV, hNV⟩ : ∃ z : Int, z = (l[4].toNat : Int) := ⟨_, rfl⟩
  rw [← hNV] at c4
  have hz2 : (NV == 2) = true := by rw [hNV, ht]; rfl
  obtain ⟨p, hp⟩ : ∃ p, p = l.length := ⟨_, rfl⟩
  have h4p : 4 < p := by omega
  rw [← hp] at HT ⊢
  have d1 : decide ((4 : Int) < (p : Int)) = true := decide_eq_true (by omega)
  clear hs hl hc hNV ht h4 hp
  go_enter Tryz.func15, Tryz.ntmps15
  go_wp2_with fail
  refine HT.out.mono ?_
  rintro e w1 ⟨rfl, hb1⟩
  have HB1 := Lib.hid hb1
  clear hb1 HT
  go_wp2_with fail
  all_goals go_ret
  all_goals exact ⟨rfl, balloc HB1.out HB1.out.size _⟩
set_option maxHeartbeats 4000000 in
theorem docSame (K : Int) (text more : ByteArray) (n bits high : Int) (b : List UInt8) (A1 A2 : Option Addr) (c1 c2 : Nat) (w : World) (h1 : SB w A1 c1 b) (h2 : SB w A2 c2 b) : Calls Tryz.prog 19 #[.agg #[.int .i64 K, .string text, .string more, .int .i64 n, .int .u64 bits, .int .u64 high, .slice A1 b.length c1, .slice none 0 0], .agg #[.int .i64 K, .string text, .string more, .int .i64 n, .int .u64 bits, .int .u64 high, .slice A2 b.length c2, .slice none 0 0]] w fun e w' => e = .returned (.bool true) ∧ Below w.heap.size w w' := by
  have e1 := fun W (h : Below w.heap.size w W) => str_of (h1.keep h)
  have e2 := fun W (h : Below w.heap.size w W) => str_of (h2.keep h)
  obtain ⟨Z, hZ⟩ : ∃ z : ByteArray, z = ⟨b.toArray⟩ := ⟨_, rfl⟩
  obtain ⟨q, hq⟩ : ∃ q, q = b.length := ⟨_, rfl⟩
  rw [← hZ, ← hq] at e1 e2
  rw [← hq]
  have hw : Below w.heap.size w ((w.alloc (.cells #[.int .i64 K, .string text, .string more, .int .i64 n, .int .u64 bits, .int .u64 high, .slice A1 q c1, .slice none 0 0] 27)).alloc (.cells #[.int .i64 K, .string text, .string more, .int .i64 n, .int .u64 bits, .int .u64 high, .slice A2 q c2, .slice none 0 0] 27)) := balloc (balloc (Below.refl _ _) (Nat.le_refl _) _) (by simp) _
  have x1 := e1 _ hw
  have x2 := e2 _ hw
  have HW := Lib.hid hw
  clear h1 h2 hZ hq e1 e2 hw
  go_enter Tryz.func19, Tryz.ntmps19
  go_wp2_with fail
  go_loop [5] (fun i => i = .int .i64 0) (fun i => 0)
  case atStart => rfl
  case round =>
    obtain rfl := hrel
    go_wp2_with fail
    go_ret
    exact ⟨rfl, HW.out⟩
end Tk
end Go.Proofs.YtbpopaegfhcdpaaGreatDoor.X


