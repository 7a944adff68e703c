/- Validate of values and elements, for all bytes. -/
import Derived.Test.YtbpopaegfhcdpaaGreatDoorRv
set_option linter.unusedVariables false
set_option linter.unusedSimpArgs false
set_option maxRecDepth 100000
namespace Go.Proofs.YtbpopaegfhcdpaaGreatDoor.X
open Go.RowKit Go.Proofs.YtbpopaegfhcdpaaGreatDoorW.PrintLast
def R194.T6 : Bool × List (List Nat × List Nat) := (true, [([], []), ([0], [0]), ([1], [1]), ([], []), ([], []), ([4], [4]), ([3, 5], [3, 5]), ([2, 6], [2, 6]), ([7], [7]), ([8, 8, 0, 1, 2, 3, 4, 5, 6, 7, 8], [8])])
def R194.B6 : List Nat := [0, 1, 3, 0, 0, 16, 56, 127, 255, 511]
theorem R194.tab6 : rtab .any (opsOf Tryz.f194 6) = R194.T6 := by kernel_rfl
theorem R194.bits6 : waitsOk R194.T6.2 R194.B6 = true := by kernel_rfl
/-- An error that an element or a value gives. -/
def BadErr (v : Value) : Prop := (∃ s, v = .iface 191 (.string s)) ∨ ∃ A n c B m d, v = .iface 180 (.agg #[.slice A n c, .slice B m d])
theorem code_nil (w : World) : Calls Tryz.prog 71 #[.nilIface] w fun e w' => e = .returned (.int .i64 0) ∧ Below w.heap.size w w' := by
  go_enter Tryz.func71, Tryz.ntmps71
  go_wp2
  go_ret
  exact ⟨rfl, Below.refl _ _⟩
theorem code_mal (s : ByteArray) (w : World) : Calls Tryz.prog 71 #[.iface 191 (.string s)] w fun e w' => e = .returned (.int .i64 5) ∧ Below w.heap.size w w' := by
  have t1 : ∀ W : World, (Instr.typeAssert (.iface 191 (.string s)) 126 180 true).run Tryz.prog W = .ok (.tuple #[.agg #[.slice none 0 0, .slice none 0 0], .bool false]) W := fun W => by rfl
  have t2 : ∀ W : World, (Instr.typeAssert (.iface 191 (.string s)) 126 190 true).run Tryz.prog W = .ok (.tuple #[.string ⟨#[]⟩, .bool false]) W := fun W => by rfl
  have t3 : ∀ W : World, (Instr.typeAssert (.iface 191 (.string s)) 126 191 true).run Tryz.prog W = .ok (.tuple #[.string s, .bool true]) W := fun W => by rfl
  go_enter Tryz.func71, Tryz.ntmps71
  go_wp2
  go_ret
  exact ⟨rfl, Below.refl _ _⟩
theorem code_insuf (A B : Option Addr) (n c m d : Nat) (w : World) : Calls Tryz.prog 71 #[.iface 180 (.agg #[.slice A n c, .slice B m d])] w fun e w' => e = .returned (.int .i64 1) ∧ Below w.heap.size w w' := by
  have t1 : ∀ W : World, (Instr.typeAssert (.iface 180 (.agg #[.slice A n c, .slice B m d])) 126 180 true).run Tryz.prog W = .ok (.tuple #[.agg #[.slice A n c, .slice B m d], .bool true]) W := fun W => by rfl
  go_enter Tryz.func71, Tryz.ntmps71
  go_wp2
  go_ret
  exact ⟨rfl, by exact balloc (Below.refl _ _) (Nat.le_refl _) _⟩
theorem code_bad {v : Value} (h : BadErr v) (w : World) : Calls Tryz.prog 71 #[v] w fun e w' => (∃ n : Int, e = .returned (.int .i64 n) ∧ (n == 0) = false) ∧ Below w.heap.size w w' := by
  rcases h with ⟨s, rfl⟩ | ⟨A, n, c, B, m, d, rfl⟩
  · refine (code_mal s w).mono ?_
    rintro e w' ⟨rfl, hb⟩
    exact ⟨⟨5, rfl, by decide⟩, hb⟩
  · refine (code_insuf A B n c m d w).mono ?_
    rintro e w' ⟨rfl, hb⟩
    exact ⟨⟨1, rfl, by decide⟩, hb⟩
/-- An error's value: none, or one of those that elements give. -/
def ErrIs (b : Bool) (v : Value) : Prop := if b = true then v = .nilIface else BadErr v
theorem code_is {b : Bool} {v : Value} (h : ErrIs b v) (w : World) : Calls Tryz.prog 71 #[v] w fun e w' => (∃ n : Int, e = .returned (.int .i64 n) ∧ (n == 0) = b) ∧ Below w.heap.size w w' := by
  cases b with
  | false => exact code_bad (by simpa [ErrIs] using h) w
  | true =>
    have h : v = .nilIface := by simpa [ErrIs] using h
    subst h
    refine (code_nil w).mono ?_
    rintro e w' ⟨rfl, hb⟩
    exact ⟨⟨0, rfl, by decide⟩, hb⟩
theorem newInsuf (A B : Option Addr) (n c m d : Nat) (w : World) : Calls Tryz.prog 127 #[.slice A n c, .slice B m d] w fun e w' => e = .returned (.agg #[.slice A n c, .slice B m d]) ∧ Below w.heap.size w w' := by
  go_enter Tryz.func127, Tryz.ntmps127
  go_wp2
  exact bodyPost_ret (v := .agg #[.slice A n c, .slice B m d]) (by simp [results, Tryz.results127, go_sem]) rfl ⟨rfl, by exact balloc (Below.refl _ _) (Nat.le_refl _) _⟩
theorem valLen_of_is {k : Int} {l : List UInt8} (h : valIs k l = true) : ∃ n : Nat, valLen k l = ((n : Int), true) ∧ n ≤ l.length := by
  unfold valIs at h
  rw [Bool.and_eq_true] at h
  have h0 := valLen_nn h.1
  refine ⟨(valLen k l).1.toNat, ?_, ?_⟩
  · refine Prod.ext ?_ h.1
    show (valLen k l).1 = _
    omega
  · have := of_decide_eq_true h.2; omega
theorem valueValidate (A : Option Addr) (c : Nat) (l : List UInt8) (k : Int) (w : World) (hs : SB w A c l) :
    Calls Tryz.prog 223 #[.agg #[.int .u8 k, .slice A l.length c]] w fun e w' => ∃ v, e = .returned v ∧ ErrIs (valIs k l) v ∧ Below w.heap.size w w' := by
  obtain ⟨vb, hvb⟩ : ∃ x, x = valIs k l := ⟨_, rfl⟩
  rw [← hvb]
  cases vb with
  | true =>
    obtain ⟨n, hn, hn2⟩ := valLen_of_is hvb.symm
    have HC := Lib.hid (fun wx (h : Below w.heap.size w wx) => readValue_ok A c l k n wx (hs.keep h) hn hn2)
    obtain ⟨q, hq⟩ : ∃ q, q = l.length := ⟨_, rfl⟩
    rw [← hq] at HC ⊢
    clear hs hn hn2 hq hvb
    go_enter Tryz.func223, Tryz.ntmps223
    go_wp2_with fail
    refine (HC.out _ (balloc (Below.refl _ _) (Nat.le_refl _) _)).mono ?_
    rintro e w1 ⟨A1, c1, A2, c2, rfl, hss, hb⟩
    have hb1 : Below (w.heap.size + 1) (w.alloc (.cells #[.int .u8 k, .slice A q c] 73)) w1 := by simpa using hb
    have HB := Lib.hid (boxb hb1)
    clear hss hb hb1 HC
    go_wp2_with fail
    go_ret
    exact ⟨_, rfl, by simp [ErrIs], HB.out⟩
  | false =>
    have HC := Lib.hid (fun wx (h : Below w.heap.size w wx) => readValue_no A c l k wx (hs.keep h) hvb.symm)
    obtain ⟨q, hq⟩ : ∃ q, q = l.length := ⟨_, rfl⟩
    rw [← hq] at HC ⊢
    clear hs hq hvb
    go_enter Tryz.func223, Tryz.ntmps223
    go_wp2_with fail
    refine (HC.out _ (balloc (Below.refl _ _) (Nat.le_refl _) _)).mono ?_
    rintro e w1 ⟨rfl, hb⟩
    have hb1 : Below (w.heap.size + 1) (w.alloc (.cells #[.int .u8 k, .slice A q c] 73)) w1 := by simpa using hb
    have q0 := boxc hb1 0
    have q1 := boxc hb1 1
    simp only [List.getElem?_cons_succ, List.getElem?_cons_zero] at q0 q1
    have hz1 := boxs hb1
    have hlt : w.heap.size < w1.heap.size := by omega
    have HB := Lib.hid (boxb hb1)
    clear hb hb1 HC
    go_wp2_with fail
    refine (newInsuf A A q c q c w1).mono ?_
    rintro e w2 ⟨rfl, hb2⟩
    have HB2 := Lib.hid (bthen HB.out hb2)
    clear hb2
    go_wp2_with fail
    go_ret
    exact ⟨_, rfl, by simp only [ErrIs]; exact Or.inr ⟨_, _, _, _, _, _, rfl⟩, HB2.out⟩
theorem idx_ge : ∀ (l : List UInt8) (z : UInt8), -1 ≤ Lib.indexByte l z
  | [], _ => by simp [Lib.indexByte]
  | b :: r, z => by
    have := idx_ge r z
    unfold Lib.indexByte
    split
    · omega
    · split <;> omega
/-- Whether some bytes are an element, and perhaps more. -/
def elemIs (l : List UInt8) : Bool := decide (0 < l.length) && decide (0 ≤ Lib.indexByte (l.drop 1) ((0 : Int).toNat.toUInt8)) && valIs ((l.headD 0).toNat : Int) (l.drop (Lib.indexByte (l.drop 1) ((0 : Int).toNat.toUInt8) + 2).toNat)
set_option maxHeartbeats 4000000 in
theorem elemValidate (A : Option Addr) (c : Nat) (l : List UInt8) (w : World) (hs : SB w A c l) (hmax : l.length ≤ 140737488355328) :
    Calls Tryz.prog 194 #[.slice A l.length c] w fun e w' => ∃ v, e = .returned v ∧ ErrIs (elemIs l) v ∧ Below w.heap.size w w' := by
  have hlc := hs.le
  have hcc := hs.cap
  by_cases h0 : l.length < 1
  · have hn : l = [] := List.eq_nil_of_length_eq_zero (by omega)
    subst hn
    go_enter Tryz.func194, Tryz.ntmps194
    go_wp2
    go_ret
    exact ⟨_, rfl, by simp only [ErrIs, elemIs]; exact Or.inl ⟨_, rfl⟩, Below.refl _ _⟩
  obtain ⟨A1, e1, s1⟩ := SB.from_ (P := Tryz.prog) Tryz.underlying182 rfl rfl .i64 A c l 1 (by omega) hs.le
  have e1' : ∀ W : World, (Instr.slice 182 (.slice A l.length c) (some (.int .i64 1)) none none).run Tryz.prog W = .ok (.slice A1 (l.drop 1).length (c - 1)) W := fun W => by rw [List.length_drop]; exact e1 W
  have HI := Lib.hid (bytesIndexByte A1 (c - 1) (l.drop 1) 0 w (s1 w hs))
  obtain ⟨z, hz⟩ : ∃ z, z = Lib.indexByte (l.drop 1) ((0 : Int).toNat.toUInt8) := ⟨_, rfl⟩
  have hzlt := idx_lt (l.drop 1) ((0 : Int).toNat.toUInt8)
  rw [← hz] at HI hzlt
  have hei : elemIs l = (decide (0 ≤ z) && valIs ((l.headD 0).toNat : Int) (l.drop (z + 2).toNat)) := by
    unfold elemIs
    rw [← hz, decide_eq_true (by omega : 0 < l.length), Bool.true_and]
  rw [hei]
  by_cases hz0 : 0 ≤ z
  · rw [decide_eq_true hz0, Bool.true_and]
    have hzl : z.toNat + 2 ≤ l.length := by
      rcases hzlt with h | h
      · rw [List.length_drop] at h; omega
      · rw [h] at hz; simp [Lib.indexByte] at hz; omega
    obtain ⟨p, hp⟩ : ∃ p : Nat, z = p := ⟨z.toNat, by omega⟩
    subst hp
    rw [show ((p : Int) + 2).toNat = p + 2 from by omega]
    rw [show ((p : Int)).toNat = p from by omega] at hzl
    obtain ⟨A2, e2, s2⟩ := SB.from_ (P := Tryz.prog) Tryz.underlying182 rfl rfl .i64 A c l (p + 2) hzl hs.le
    have e2' : ∀ W : World, (Instr.slice 182 (.slice A l.length c) (some (.int .i64 ((p : Int) + 2))) none none).run Tryz.prog W = .ok (.slice A2 (l.drop (p + 2)).length (c - (p + 2))) W := fun W => by rw [List.length_drop]; exact e2 W
    obtain ⟨tt, htt⟩ : ∃ tt : Int, tt = ((l.headD 0).toNat : Int) := ⟨_, rfl⟩
    have HV := Lib.hid (fun wx (h : Below w.heap.size w wx) => valueValidate A2 (c - (p + 2)) (l.drop (p + 2)) ((l.headD 0).toNat : Int) wx (s2 wx (hs.keep h)))
    obtain ⟨b, off, rfl, hc⟩ := hs.cells (by omega)
    have hc0 : w.cell? ⟨b, off, none⟩ = some (.int .u8 tt) := by
      have h := hc 0 (by omega)
      rw [htt]
      cases l with
      | nil => simp at h0
      | cons x r => simpa using h
    obtain ⟨vb, hvb⟩ : ∃ x, x = valIs ((l.headD 0).toNat : Int) (l.drop (p + 2)) := ⟨_, rfl⟩
    rw [← hvb] at HV ⊢
    rw [← htt] at HV
    obtain ⟨l1, hl1⟩ : ∃ x, x = (l.drop 1).length := ⟨_, rfl⟩
    obtain ⟨l2, hl2⟩ : ∃ x, x = (l.drop (p + 2)).length := ⟨_, rfl⟩
    rw [← hl1] at e1' HI
    rw [← hl2] at e2' HV
    obtain ⟨q, hq⟩ : ∃ q, q = l.length := ⟨_, rfl⟩
    rw [← hq] at e1' e2' h0 hmax hzl ⊢
    clear hs s1 s2 e1 e2 hz hzlt hei hc hq hl1 hl2 htt hvb hlc hcc hz0
    have i1 : IntKind.i64.wrap ((p : Int) + 2) = (p : Int) + 2 := IntWalk.i64_in _ (by omega)
    have hpm : ((p : Int) == -1) = false := by simp only [beq_eq_false_iff_ne, ne_eq]; omega
    have hq1 : 0 < q := by omega
    have hq0 : ¬ ((q : Int) < 1) := by omega
    go_enter Tryz.func194, Tryz.ntmps194
    go_wp2_with fail
    refine HI.out.mono ?_
    rintro e w1 ⟨rfl, rfl⟩
    clear HI
    go_wp2_with fail
    refine start_ (n := 10) (S := fun w' => w'.cell? ⟨b, off, none⟩ = some (.int .u8 tt)) (ds := []) #[false, false, false, false, false, false, false, false, false, false] (by kernel_rfl) rfl rfl ((by exact hc0)) (fun hHeld => ?_)
    refine with_tabW R194.tab6 R194.bits6 (fun HT_ HW_ => ?_)
    refine pure_ (i := 0) (N := some 14) (v := ?_) (a' := ?_) #[true, false, false, false, false, false, false, false, false, false] rfl rfl (any_of HT_.out (by kernel_rfl)) (fun _ _ _ h => h) (Or.inl ⟨by rfl, ?_⟩) ?_ ?_
    rotate_left
    · intro w'
      go_simp
      with_reducible rfl
    rotate_left
    · simp only [Act.put, List.setIfInBounds_toArray, List.set_cons_zero, List.set_cons_succ, i64_w, i32_w]
      rfl
    refine pure_ (i := 1) (N := some 15) (v := ?_) (a' := ?_) #[true, true, false, false, false, false, false, false, false, false] rfl rfl (any_of HT_.out (by kernel_rfl)) (fun _ _ _ h => h) (Or.inl ⟨by rfl, ?_⟩) ?_ ?_
    rotate_left
    · intro w'
      go_simp
      with_reducible rfl
    rotate_left
    · simp only [Act.put, List.setIfInBounds_toArray, List.set_cons_zero, List.set_cons_succ, i64_w, i32_w]
      rfl
    refine pure_ (i := 3) (N := some 17) (v := ?_) (a' := ?_) #[true, true, false, true, false, false, false, false, false, false] rfl rfl (any_of HT_.out (by kernel_rfl)) (fun _ _ _ h => h) (Or.inl ⟨by rfl, ?_⟩) ?_ ?_
    rotate_left
    · intro w'
      go_simp
      with_reducible rfl
    rotate_left
    · simp only [Act.put, List.setIfInBounds_toArray, List.set_cons_zero, List.set_cons_succ, i64_w, i32_w]
      rfl
    refine pure_ (i := 4) (N := some 18) (v := ?_) (a' := ?_) #[true, true, false, true, true, false, false, false, false, false] rfl rfl (any_of HT_.out (by kernel_rfl)) (fun _ _ _ h => h) (Or.inl ⟨by rfl, ?_⟩) ?_ ?_
    rotate_left
    · intro w'
      go_simp
      with_reducible rfl
    rotate_left
    · simp only [Act.put, List.setIfInBounds_toArray, List.set_cons_zero, List.set_cons_succ, i64_w, i32_w]
      rfl
    refine pure_ (i := 5) (N := some 19) (v := ?_) (a' := ?_) #[true, true, false, true, true, true, false, false, false, false] rfl rfl (any_of HT_.out (by kernel_rfl)) (fun _ _ _ h => h) (Or.inl ⟨by rfl, ?_⟩) ?_ ?_
    rotate_left
    · intro w'
      go_simp
      with_reducible rfl
    rotate_left
    · simp only [Act.put, List.setIfInBounds_toArray, List.set_cons_zero, List.set_cons_succ, i64_w, i32_w]
      rfl
    refine pure_ (i := 6) (N := some 20) (v := ?_) (a' := ?_) #[true, true, false, true, true, true, true, false, false, false] rfl rfl (any_of HT_.out (by kernel_rfl)) (fun _ _ _ h => h) (Or.inl ⟨by rfl, ?_⟩) ?_ ?_
    rotate_left
    · intro w'
      go_simp
      with_reducible rfl
    rotate_left
    · simp only [Act.put, List.setIfInBounds_toArray, List.set_cons_zero, List.set_cons_succ, i64_w, i32_w]
      rfl
    refine take_ (i := 2) (N := some 16) (v := ?_) (a' := ?_) #[true, true, true, true, true, true, true, false, false, false] rfl rfl (take_ofW HT_.out HW_.out (by kernel_rfl)) (fun _ _ _ h => h) (Or.inl ⟨by rfl, ?_⟩) hHeld ?_ ?_
    rotate_left
    · intro w' s0
      go_simp
      with_reducible rfl
    rotate_left
    · simp only [Act.put, List.setIfInBounds_toArray, List.set_cons_zero, List.set_cons_succ, i64_w, i32_w]
      rfl
    refine pure_ (i := 7) (N := some 21) (v := ?_) (a' := ?_) #[true, true, true, true, true, true, true, true, false, false] rfl rfl (any_of HT_.out (by kernel_rfl)) (fun _ _ _ h => h) (Or.inl ⟨by rfl, ?_⟩) ?_ ?_
    rotate_left
    · intro w'
      go_simp
      with_reducible rfl
    rotate_left
    · simp only [Act.put, List.setIfInBounds_toArray, List.set_cons_zero, List.set_cons_succ, i64_w, i32_w]
      rfl
    refine one_ (i := 8) (N := some 22) #[true, true, true, true, true, true, true, true, true, false] rfl rfl (one_of HT_.out (by kernel_rfl)) (by decide) (fun K hK => ?_)
    refine goes_ Tryz.func223 (by kernel_rfl) rfl #[.agg #[.int .u8 tt, .slice A2 l2 (c - (p + 2))]] (by rfl) rfl rfl (by simp only [List.map_toArray, List.map_cons, List.map_nil]; rfl) ?_
    with_reducible refine (HV.out _ (bdrew (Below.refl _ _))).mono ?_
    rintro e w3 ⟨v3, rfl, hv3, hb3⟩
    refine ⟨_, rfl, ?_⟩
    refine hK.out _ _ (((hb3.cell (World.block_lt_of_cell? _ _ hHeld)).trans hHeld)) (fun hHeld => ?_)
    clear hK K
    refine norm_ (a' := ?_) ?_ ?_
    rotate_left
    · show Act.put _ (some 22) _ = _
      simp only [Act.put, List.setIfInBounds_toArray, List.set_cons_zero, List.set_cons_succ, i64_w, i32_w]
      rfl
    refine pure_ (i := 9) (N := some 2) (v := ?_) (a' := ?_) #[true, true, true, true, true, true, true, true, true, true] rfl rfl (any_of HT_.out (by kernel_rfl)) (fun _ _ _ h => h) (Or.inl ⟨by rfl, ?_⟩) ?_ ?_
    rotate_left
    · intro w'
      go_simp
      with_reducible rfl
    rotate_left
    · simp only [Act.put, List.setIfInBounds_toArray, List.set_cons_zero, List.set_cons_succ, i64_w, i32_w]
      rfl
    refine done_ (done_of HT_.out (by kernel_rfl)) ?_
    go_wp2_with fail
    go_ret
    exact ⟨v3, rfl, hv3, bleft hb3⟩
  · rw [decide_eq_false hz0, Bool.false_and]
    have hzm : z = -1 := by
      have := idx_ge (l.drop 1) ((0 : Int).toNat.toUInt8)
      omega
    obtain ⟨l1, hl1⟩ : ∃ x, x = (l.drop 1).length := ⟨_, rfl⟩
    rw [← hl1] at e1' HI
    obtain ⟨q, hq⟩ : ∃ q, q = l.length := ⟨_, rfl⟩
    rw [← hq] at e1' h0 ⊢
    clear hs s1 e1 hz hzlt hei hq hl1 hlc hcc hz0
    subst hzm
    have hq0 : ¬ ((q : Int) < 1) := by omega
    go_enter Tryz.func194, Tryz.ntmps194
    go_wp2_with fail
    refine HI.out.mono ?_
    rintro e w1 ⟨rfl, rfl⟩
    clear HI
    go_wp2_with fail
    go_ret
    exact ⟨_, rfl, by simp only [ErrIs]; exact Or.inl ⟨_, rfl⟩, Below.refl _ _⟩
end Go.Proofs.YtbpopaegfhcdpaaGreatDoor.X
