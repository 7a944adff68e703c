/- The law FnExtSorted. -/
import Derived.Test.YtdmnogjgifapnaaSrtB
import Derived.LoopTactic
import Derived.Test.YtdmnogjgifapnaaWLast
import Derived.Test.YtdmnogjgifapnaaWTab
set_option linter.unusedVariables false
set_option linter.unusedSimpArgs false
set_option maxRecDepth 100000
namespace Go.Proofs.Ytdmnogjgifapnaa.X
open Go.RowKit Go.Sort Go.Proofs.YtdmnogjgifapnaaW.PrintLast
def R3.T14 : Bool × List (List Nat × List Nat) := (true, [([], []), ([], []), ([0, 1], [0, 1]), ([2], [2]), ([3], [3]), ([4], [4]), ([5, 4], [4, 5]), ([6, 4, 4], [4, 6]), ([7], [7]), ([7], [7]), ([8, 9, 7], [7, 8, 9]), ([7], [7]), ([7], [7]), ([12, 7], [7, 12]), ([11, 13, 7], [7, 11, 13]), ([10, 14, 7], [7, 10, 14]), ([7, 15, 4], [4, 7, 15]), ([4, 16], [4, 16])])
def R3.B14 : List Nat := [0, 0, 3, 7, 15, 31, 63, 127, 255, 255, 1023, 255, 255, 4351, 14591, 32767, 65535, 131071]
theorem R3.tab14 : rtab .any (opsOf Try.f3 14) = R3.T14 := by kernel_rfl
theorem R3.bits14 : waitsOk R3.T14.2 R3.B14 = true := by kernel_rfl
theorem idx_z (Z : Array Value) (j : Nat) (hj : j < 128) (hz : Z[j]? = some (.int .i64 0)) (W : World) : (Instr.index 22 (.agg Z) (.int .i64 (j : Int))).run Try.prog W = .ok (.int .i64 0) W := by
  have hs : ∀ W : World, (sizeOf 3).run Try.prog W = .ok 1 W := fun W => by rfl
  have ha : ∀ W : World, (isAgg 3).run Try.prog W = .ok false W := fun W => by rfl
  simp [Instr.index, asIntOf, run_underlying Try.underlying22, Result.andThen, hs, hj, hz, part, ha]
/-- The counts that the law holds. -/
structure Cn (w wr : World) (f : Nat → Int) : Prop where
  blk : ∃ cs, wr.heap[w.heap.size]? = some (.cells cs 22 (0, 0)) ∧ cs.size = 128 ∧ ∀ c, c < 128 → cs[c]? = some (.int .i64 (f c))
  bl : Below w.heap.size w wr
theorem Cn.lt {w wr : World} {f : Nat → Int} (h : Cn w wr f) : w.heap.size < wr.heap.size := by
  obtain ⟨cs, hb, -⟩ := h.blk
  rcases Nat.lt_or_ge w.heap.size wr.heap.size with h | h
  · exact h
  · rw [Array.getElem?_eq_none h] at hb; cases hb
theorem Cn.cell {w wr : World} {f : Nat → Int} (h : Cn w wr f) (c : Nat) (hc : c < 128) : wr.cell? ⟨w.heap.size, c, none⟩ = some (.int .i64 (f c)) := by
  obtain ⟨cs, hb, -, hcs⟩ := h.blk
  simp only [World.cell?, hb, hcs c hc]
  rfl
theorem Cn.fz {w wr : World} {f : Nat → Int} (h : Cn w wr f) (c : Nat) : wr.frozen? ⟨w.heap.size, c, none⟩ = false := by
  obtain ⟨cs, hb, -⟩ := h.blk
  simp [World.frozen?, hb]
theorem Cn.set {w wr : World} {f g : Nat → Int} (h : Cn w wr f) (x : Nat) (hx : x < 128) (hg : ∀ c, c < 128 → c ≠ x → g c = f c) : Cn w (wr.setCell ⟨w.heap.size, x, none⟩ (.int .i64 (g x))) g := by
  obtain ⟨cs, hb, hsz, hcs⟩ := h.blk
  refine ⟨⟨_, heap_setCell_same _ _ _ _ _ _ hb, by simp [hsz], fun c hc => ?_⟩, h.bl.setCell (Nat.le_refl _) _⟩
  rw [Array.getElem?_setIfInBounds]
  by_cases e : x = c
  · subst e; simp [hsz, hx]
  · rw [if_neg e, hcs c hc, hg c hc (fun h => e h.symm)]
theorem Cn.setW {w wr W : World} {f g : Nat → Int} (h : Cn w wr f) (x : Nat) (hx : x < 128) (hg : ∀ c, c < 128 → c ≠ x → g c = f c) (hW : W.heap = (wr.setCell ⟨w.heap.size, x, none⟩ (.int .i64 (g x))).heap) (hb : Below w.heap.size wr W) : Cn w W g := by
  obtain ⟨⟨cs, h1, h2, h3⟩, -⟩ := h.set (g := g) x hx hg
  exact ⟨⟨cs, by rw [hW]; exact h1, h2, h3⟩, h.bl.trans hb⟩
theorem Cn.keep {w wr w1 : World} {f : Nat → Int} (h : Cn w wr f) (hb : Below wr.heap.size wr w1) : Cn w w1 f := by
  obtain ⟨cs, hbk, r⟩ := h.blk
  exact ⟨⟨cs, (hb.block _ h.lt).trans hbk, r⟩, bstep h.bl h.bl.size hb⟩
theorem cntL_le (l : List UInt8) (c : Nat) : cntL l c ≤ l.length := List.countP_le_length
def S1 (w : World) (s : ByteArray) (i : Value) (wr : World) : Prop := ∃ j : Nat, j ≤ s.size ∧ i = .int .i64 j ∧ (∀ t, (h : t < s.size) → t < j → s[t].toNat < 128) ∧ (0 < j → s.size ≤ 300) ∧ Cn w wr (fun c => (cntL (s.data.toList.take j) c : Int))
def S2 (w : World) (s t : ByteArray) (i : Value) (wr : World) : Prop := ∃ j : Nat, j ≤ t.size ∧ i = .int .i64 j ∧ Cn w wr (fun c => (cntL s.data.toList c : Int) - (cntL (t.data.toList.take j) c : Int))
theorem str_get (s : ByteArray) (j : Nat) (h : j < s.size) : s.data.toList[j]'(by rw [Array.length_toList]; exact h) = s[j] := rfl
theorem zero128 : ∀ c : Nat, c < 128 → (#[Value.int .i64 0, Value.int .i64 0, Value.int .i64 0, Value.int .i64 0, Value.int .i64 0, Value.int .i64 0, Value.int .i64 0, Value.int .i64 0, Value.int .i64 0, Value.int .i64 0, Value.int .i64 0, Value.int .i64 0, Value.int .i64 0, Value.int .i64 0, Value.int .i64 0, Value.int .i64 0, Value.int .i64 0, Value.int .i64 0, Value.int .i64 0, Value.int .i64 0, Value.int .i64 0, Value.int .i64 0, Value.int .i64 0, Value.int .i64 0, Value.int .i64 0, Value.int .i64 0, Value.int .i64 0, Value.int .i64 0, Value.int .i64 0, Value.int .i64 0, Value.int .i64 0, Value.int .i64 0, Value.int .i64 0, Value.int .i64 0, Value.int .i64 0, Value.int .i64 0, Value.int .i64 0, Value.int .i64 0, Value.int .i64 0, Value.int .i64 0, Value.int .i64 0, Value.int .i64 0, Value.int .i64 0, Value.int .i64 0, Value.int .i64 0, Value.int .i64 0, Value.int .i64 0, Value.int .i64 0, Value.int .i64 0, Value.int .i64 0, Value.int .i64 0, Value.int .i64 0, Value.int .i64 0, Value.int .i64 0, Value.int .i64 0, Value.int .i64 0, Value.int .i64 0, Value.int .i64 0, Value.int .i64 0, Value.int .i64 0, Value.int .i64 0, Value.int .i64 0, Value.int .i64 0, Value.int .i64 0, Value.int .i64 0, Value.int .i64 0, Value.int .i64 0, Value.int .i64 0, Value.int .i64 0, Value.int .i64 0, Value.int .i64 0, Value.int .i64 0, Value.int .i64 0, Value.int .i64 0, Value.int .i64 0, Value.int .i64 0, Value.int .i64 0, Value.int .i64 0, Value.int .i64 0, Value.int .i64 0, Value.int .i64 0, Value.int .i64 0, Value.int .i64 0, Value.int .i64 0, Value.int .i64 0, Value.int .i64 0, Value.int .i64 0, Value.int .i64 0, Value.int .i64 0, Value.int .i64 0, Value.int .i64 0, Value.int .i64 0, Value.int .i64 0, Value.int .i64 0, Value.int .i64 0, Value.int .i64 0, Value.int .i64 0, Value.int .i64 0, Value.int .i64 0, Value.int .i64 0, Value.int .i64 0, Value.int .i64 0, Value.int .i64 0, Value.int .i64 0, Value.int .i64 0, Value.int .i64 0, Value.int .i64 0, Value.int .i64 0, Value.int .i64 0, Value.int .i64 0, Value.int .i64 0, Value.int .i64 0, Value.int .i64 0, Value.int .i64 0, Value.int .i64 0, Value.int .i64 0, Value.int .i64 0, Value.int .i64 0, Value.int .i64 0, Value.int .i64 0, Value.int .i64 0, Value.int .i64 0, Value.int .i64 0, Value.int .i64 0, Value.int .i64 0, Value.int .i64 0, Value.int .i64 0, Value.int .i64 0] : Array Value)[c]? = some (.int .i64 ((cntL ([] : List UInt8) c : Nat) : Int)) := fun c hc => by
  have e : (#[Value.int .i64 0, Value.int .i64 0, Value.int .i64 0, Value.int .i64 0, Value.int .i64 0, Value.int .i64 0, Value.int .i64 0, Value.int .i64 0, Value.int .i64 0, Value.int .i64 0, Value.int .i64 0, Value.int .i64 0, Value.int .i64 0, Value.int .i64 0, Value.int .i64 0, Value.int .i64 0, Value.int .i64 0, Value.int .i64 0, Value.int .i64 0, Value.int .i64 0, Value.int .i64 0, Value.int .i64 0, Value.int .i64 0, Value.int .i64 0, Value.int .i64 0, Value.int .i64 0, Value.int .i64 0, Value.int .i64 0, Value.int .i64 0, Value.int .i64 0, Value.int .i64 0, Value.int .i64 0, Value.int .i64 0, Value.int .i64 0, Value.int .i64 0, Value.int .i64 0, Value.int .i64 0, Value.int .i64 0, Value.int .i64 0, Value.int .i64 0, Value.int .i64 0, Value.int .i64 0, Value.int .i64 0, Value.int .i64 0, Value.int .i64 0, Value.int .i64 0, Value.int .i64 0, Value.int .i64 0, Value.int .i64 0, Value.int .i64 0, Value.int .i64 0, Value.int .i64 0, Value.int .i64 0, Value.int .i64 0, Value.int .i64 0, Value.int .i64 0, Value.int .i64 0, Value.int .i64 0, Value.int .i64 0, Value.int .i64 0, Value.int .i64 0, Value.int .i64 0, Value.int .i64 0, Value.int .i64 0, Value.int .i64 0, Value.int .i64 0, Value.int .i64 0, Value.int .i64 0, Value.int .i64 0, Value.int .i64 0, Value.int .i64 0, Value.int .i64 0, Value.int .i64 0, Value.int .i64 0, Value.int .i64 0, Value.int .i64 0, Value.int .i64 0, Value.int .i64 0, Value.int .i64 0, Value.int .i64 0, Value.int .i64 0, Value.int .i64 0, Value.int .i64 0, Value.int .i64 0, Value.int .i64 0, Value.int .i64 0, Value.int .i64 0, Value.int .i64 0, Value.int .i64 0, Value.int .i64 0, Value.int .i64 0, Value.int .i64 0, Value.int .i64 0, Value.int .i64 0, Value.int .i64 0, Value.int .i64 0, Value.int .i64 0, Value.int .i64 0, Value.int .i64 0, Value.int .i64 0, Value.int .i64 0, Value.int .i64 0, Value.int .i64 0, Value.int .i64 0, Value.int .i64 0, Value.int .i64 0, Value.int .i64 0, Value.int .i64 0, Value.int .i64 0, Value.int .i64 0, Value.int .i64 0, Value.int .i64 0, Value.int .i64 0, Value.int .i64 0, Value.int .i64 0, Value.int .i64 0, Value.int .i64 0, Value.int .i64 0, Value.int .i64 0, Value.int .i64 0, Value.int .i64 0, Value.int .i64 0, Value.int .i64 0, Value.int .i64 0, Value.int .i64 0, Value.int .i64 0, Value.int .i64 0, Value.int .i64 0] : Array Value) = Array.replicate 128 (.int .i64 0) := by rfl
  rw [e, Array.getElem?_replicate, if_pos hc]
  rfl
theorem fnExtSorted_walk (s : ByteArray) (w : World) (hs : s.size ≤ 140737488351232) :
    Calls Try.prog 3 #[.string s] w fun e w' => e = .returned (.bool true) ∧ Below w.heap.size w w' := by
  have hln : s.data.toList.length = s.size := Array.length_toList
  by_cases hbig : 2147483647 < s.size
  · have d1 : decide ((2147483647 : Int) < (s.size : Int)) = true := by simp; omega
    clear hln
    go_enter Try.func3, Try.ntmps3
    go_wp2_with fail
    go_ret
    exact ⟨rfl, Below.refl _ _⟩
  have d1 : decide ((2147483647 : Int) < (s.size : Int)) = false := by simp; omega
  have HLN := Lib.hid hln
  clear hln
  go_enter Try.func3, Try.ntmps3
  go_wp2_with fail
  go_loopw [4] (fun i wr => S1 w s i wr) (fun i _ => s.size - (intOf i).toNat)
  case atStart =>
    refine ⟨0, Nat.zero_le _, rfl, fun t h h2 => by omega, fun h => by omega, ⟨⟨_, heap_alloc_new w _, by rfl, fun c hc => ?_⟩, balloc (Below.refl _ _) (Nat.le_refl _) _⟩⟩
    exact zero128 c hc
  case round =>
    obtain ⟨j, hj, rfl, hasc, h300, hcn⟩ := hrel
    by_cases hlt : j < s.size
    · by_cases hx : s[j].toNat < 128
      · by_cases h3 : s.size ≤ 300
        · have hcell := hcn.cell s[j].toNat hx
          have hfz := hcn.fz s[j].toNat
          have hBl := hcn.lt
          have hbd := cntL_le (s.data.toList.take j) s[j].toNat
          rw [List.length_take] at hbd
          obtain ⟨v, hv⟩ : ∃ v : Int, v = (cntL (s.data.toList.take j) s[j].toNat : Int) := ⟨_, rfl⟩
          rw [← hv] at hcell
          have hvb : 0 ≤ v ∧ v ≤ 1000 := by omega
          have hjl : j < s.data.toList.length := by rw [HLN.out]; exact hlt
          have HN : Hid (S1 w s (.int .i64 ((j : Int) + 1)) (wr.setCell ⟨w.heap.size, s[j].toNat, none⟩ (.int .i64 (v + 1)))) := Lib.hid (by
            refine ⟨j + 1, by omega, by simp, fun t ht h2 => ?_, fun _ => h3, ?_⟩
            · by_cases h : t = j
              · subst h; exact hx
              · exact hasc t ht (by omega)
            · have h := hcn.set (g := fun c => (cntL (s.data.toList.take (j + 1)) c : Int)) s[j].toNat hx (fun c _ hc => by
                rw [cntL_take _ j hjl, str_get s j hlt, if_neg (fun h => hc h.symm)]
                rfl)
              rw [cntL_take _ j hjl, str_get s j hlt, if_pos rfl] at h
              rw [hv]
              exact h)
          clear hasc h300 hcn hbd hv
          go_wp2_with fail
          go_roundw
          case rel => have h := HN.out; simpa using h
          case measure => simp [intOf]; omega
        · have d3 : decide ((300 : Int) < (s.size : Int)) = true := by simp; omega
          have HB := Lib.hid hcn.bl
          clear hasc h300 hcn
          go_wp2_with fail
          go_ret
          exact ⟨rfl, HB.out⟩
      · have HB := Lib.hid hcn.bl
        clear hasc h300 hcn
        go_wp2_with fail
        go_ret
        exact ⟨rfl, HB.out⟩
    · obtain rfl : j = s.size := by omega
      have h3 : s.size ≤ 300 := by
        rcases Nat.eq_zero_or_pos s.size with h | h
        · omega
        · exact h300 h
      have hA : Asc s.data.toList := fun b hb => by
        obtain ⟨t, ht, rfl⟩ := List.getElem_of_mem hb
        rw [HLN.out] at ht
        exact hasc t ht ht
      have het : s.data.toList.take s.size = s.data.toList := by rw [← HLN.out]; exact List.take_length
      rw [het] at hcn
      have HS := Lib.hid (fun wx => implSorted s wx hA h3)
      have HCN := Lib.hid hcn
      have HA := Lib.hid hA
      clear hasc h300 hcn het hA
      go_wp2_with fail
      refine (HS.out _).mono ?_
      rintro e w2 ⟨t, rfl, hso, hb2⟩
      have hcn2 := HCN.out.keep hb2
      have HSO := Lib.hid hso
      have hmA := hso.asc HA.out
      have hmlen := hso.len
      have hle := hso.le
      have hlt2 : t.data.toList.length = t.size := Array.length_toList
      rw [HLN.out, hlt2] at hmlen
      have HMA : Hid (∀ j, (h : j < t.size) → t[j].toNat < 128) := Lib.hid fun j h => hmA _ (by show t.data[j] ∈ t.data.toList; simp)
      have HLE : Hid (∀ p, (h : p + 1 < t.size) → (t[p]'(Nat.lt_of_succ_lt h)).toNat ≤ (t[p + 1]'h).toNat) := Lib.hid fun p h => hle p (p + 1) (by omega) (by rw [hlt2]; exact h)
      have HST : Hid (S2 w s t (.int .i64 0) w2) := Lib.hid ⟨0, Nat.zero_le _, rfl, by simpa [cntL] using hcn2⟩
      have HTL := Lib.hid hlt2
      have ht300 : t.size ≤ 300 := by omega
      have HTS := Lib.hid hmlen
      clear hb2 hcn2 hso hmA hmlen hle hlt2 HCN HS
      go_wp2_with fail
      go_loopw [6] (fun i wr => S2 w s t i wr) (fun i _ => t.size - (intOf i).toNat)
      case atStart => exact HST.out
      case round =>
        obtain ⟨j, hj, rfl, hcn⟩ := hrel
        by_cases hlt : j < t.size
        · have hx := HMA.out j hlt
          rcases j with _ | p
          · have hcell := hcn.cell (t[0]'hlt).toNat hx
            have hfz := hcn.fz (t[0]'hlt).toNat
            have hBl := hcn.lt
            obtain ⟨v, hv⟩ : ∃ v : Int, v = (cntL s.data.toList (t[0]'hlt).toNat : Int) - (cntL (t.data.toList.take (0)) (t[0]'hlt).toNat : Int) := ⟨_, rfl⟩
            rw [← hv] at hcell
            have hb1 := cntL_le s.data.toList (t[0]'hlt).toNat
            have hb2 := cntL_le (t.data.toList.take (0)) (t[0]'hlt).toNat
            rw [HLN.out] at hb1
            rw [List.length_take] at hb2
            have hvb : -1000 ≤ v ∧ v ≤ 1000 := by omega
            have hjl : 0 < t.data.toList.length := by rw [HTL.out]; exact hlt
            have HN : Hid (∀ W : World, W.heap = (wr.setCell ⟨w.heap.size, (t[0]'hlt).toNat, none⟩ (.int .i64 (v - 1))).heap → Below w.heap.size wr W → S2 w s t (.int .i64 (((0) + 1 : Nat) : Int)) W) := Lib.hid (fun W hW hWb => by
              refine ⟨(0) + 1, by omega, rfl, hcn.setW (t[0]'hlt).toNat hx (fun c _ hc => by
                rw [cntL_take _ (0) hjl, str_get t (0) hlt, if_neg (fun h => hc h.symm)]
                simp) ?_ hWb⟩
              rw [hW]
              rw [cntL_take _ (0) hjl, str_get t (0) hlt, if_pos rfl]
              have e : ((cntL s.data.toList (t[0]'hlt).toNat : Int) - ((cntL (t.data.toList.take (0)) (t[0]'hlt).toNat + 1 : Nat) : Int)) = v - 1 := by rw [hv]; omega
              rw [e])
            have hBB : w.heap.size ≤ w.heap.size := Nat.le_refl _
            clear hcn hv hb1 hb2 hjl
            have u1 : decide (128 ≤ (t[0]'hlt).toNat) = false := by simp; omega
            have u2 : decide ((128 : Int) ≤ ((t[0]'hlt).toNat : Int)) = false := by simp; omega
            go_wp2_with fail
            refine start_ (n := 18) (S := fun w' => True) (ds := []) #[false, false, false, false, false, false, false, false, false, false, false, false, false, false, false, false, false, false] (by kernel_rfl) rfl rfl trivial (fun hHeld => ?_)
            refine with_tabW R3.tab14 R3.bits14 (fun HT_ HW_ => ?_)
            refine pure_ (i := 0) (N := some 42) (v := ?_) (a' := ?_) #[true, false, false, false, false, false, false, false, false, false, false, false, false, false, false, false, false, false] rfl rfl (any_of HT_.out (by kernel_rfl)) (fun _ _ _ h => h) (Or.inl ⟨by rfl, ?_⟩) ?_ ?_
            rotate_left
            · intro w'
              go_simp
              with_reducible rfl
            rotate_left
            · simp only [Act.put, List.setIfInBounds_toArray, List.set_cons_zero, List.set_cons_succ, i64_w, i32_w]
              rfl
            refine pure_ (i := 1) (N := some 43) (v := ?_) (a' := ?_) #[true, true, false, false, false, false, false, false, false, false, false, false, false, false, false, false, false, false] rfl rfl (any_of HT_.out (by kernel_rfl)) (fun _ _ _ h => h) (Or.inl ⟨by rfl, ?_⟩) ?_ ?_
            rotate_left
            · intro w'
              go_simp
              with_reducible rfl
            rotate_left
            · simp only [Act.put, List.setIfInBounds_toArray, List.set_cons_zero, List.set_cons_succ, i64_w, i32_w]
              rfl
            refine take_ (i := 2) (N := some 44) (v := ?_) (a' := ?_) #[true, true, true, false, false, false, false, false, false, false, false, false, false, false, false, false, false, false] rfl rfl (take_ofW HT_.out HW_.out (by kernel_rfl)) (fun _ _ _ h => h) (Or.inl ⟨by rfl, ?_⟩) hHeld ?_ ?_
            rotate_left
            · intro w' _
              go_simp
              with_reducible rfl
            rotate_left
            · simp only [Act.put, List.setIfInBounds_toArray, List.set_cons_zero, List.set_cons_succ, i64_w, i32_w]
              rfl
            refine pure_ (i := 3) (N := some 45) (v := ?_) (a' := ?_) #[true, true, true, true, false, false, false, false, false, false, false, false, false, false, false, false, false, false] rfl rfl (any_of HT_.out (by kernel_rfl)) (fun _ _ _ h => h) (Or.inl ⟨by rfl, ?_⟩) ?_ ?_
            rotate_left
            · intro w'
              go_simp
              with_reducible rfl
            rotate_left
            · simp only [Act.put, List.setIfInBounds_toArray, List.set_cons_zero, List.set_cons_succ, i64_w, i32_w]
              rfl
            refine pure_ (i := 4) (N := some 46) (v := ?_) (a' := ?_) #[true, true, true, true, true, false, false, false, false, false, false, false, false, false, false, false, false, false] rfl rfl (any_of HT_.out (by kernel_rfl)) (fun _ _ _ h => h) (Or.inl ⟨by rfl, ?_⟩) ?_ ?_
            rotate_left
            · intro w'
              go_simp
              with_reducible rfl
            rotate_left
            · simp only [Act.put, List.setIfInBounds_toArray, List.set_cons_zero, List.set_cons_succ, i64_w, i32_w]
              rfl
            refine pure_ (i := 5) (N := some 47) (v := ?_) (a' := ?_) #[true, true, true, true, true, true, false, false, false, false, false, false, false, false, false, false, false, false] rfl rfl (any_of HT_.out (by kernel_rfl)) (fun _ _ _ h => h) (Or.inl ⟨by rfl, ?_⟩) ?_ ?_
            rotate_left
            · intro w'
              go_simp
              with_reducible rfl
            rotate_left
            · simp only [Act.put, List.setIfInBounds_toArray, List.set_cons_zero, List.set_cons_succ, i64_w, i32_w]
              rfl
            refine pure_ (i := 6) (N := some 48) (v := ?_) (a' := ?_) #[true, true, true, true, true, true, true, false, false, false, false, false, false, false, false, false, false, false] rfl rfl (any_of HT_.out (by kernel_rfl)) (fun _ _ _ h => h) (Or.inl ⟨by rfl, ?_⟩) ?_ ?_
            rotate_left
            · intro w'
              go_simp
              with_reducible rfl
            rotate_left
            · simp only [Act.put, List.setIfInBounds_toArray, List.set_cons_zero, List.set_cons_succ, i64_w, i32_w]
              rfl
            refine pure_ (i := 7) (N := some 49) (v := ?_) (a' := ?_) #[true, true, true, true, true, true, true, true, false, false, false, false, false, false, false, false, false, false] rfl rfl (any_of HT_.out (by kernel_rfl)) (fun _ _ _ h => h) (Or.inl ⟨by rfl, ?_⟩) ?_ ?_
            rotate_left
            · intro w'
              go_simp
              with_reducible rfl
            rotate_left
            · simp only [Act.put, List.setIfInBounds_toArray, List.set_cons_zero, List.set_cons_succ, i64_w, i32_w]
              rfl
            refine pure_ (i := 8) (N := some 50) (v := undef) (a' := ?_) #[true, true, true, true, true, true, true, true, true, false, false, false, false, false, false, false, false, false] rfl rfl (any_of HT_.out (by kernel_rfl)) (fun _ _ _ h => h) (Or.inr ⟨by rfl, rfl⟩) ?_ ?_
            rotate_left
            · simp only [Act.put, List.setIfInBounds_toArray, List.set_cons_zero, List.set_cons_succ, i64_w, i32_w]
              rfl
            refine pure_ (i := 9) (N := some 51) (v := undef) (a' := ?_) #[true, true, true, true, true, true, true, true, true, true, false, false, false, false, false, false, false, false] rfl rfl (any_of HT_.out (by kernel_rfl)) (fun _ _ _ h => h) (Or.inr ⟨by rfl, rfl⟩) ?_ ?_
            rotate_left
            · simp only [Act.put, List.setIfInBounds_toArray, List.set_cons_zero, List.set_cons_succ, i64_w, i32_w]
              rfl
            refine pure_ (i := 10) (N := some 52) (v := undef) (a' := ?_) #[true, true, true, true, true, true, true, true, true, true, true, false, false, false, false, false, false, false] rfl rfl (any_of HT_.out (by kernel_rfl)) (fun _ _ _ h => h) (Or.inr ⟨by rfl, rfl⟩) ?_ ?_
            rotate_left
            · simp only [Act.put, List.setIfInBounds_toArray, List.set_cons_zero, List.set_cons_succ, i64_w, i32_w]
              rfl
            refine pure_ (i := 11) (N := some 53) (v := undef) (a' := ?_) #[true, true, true, true, true, true, true, true, true, true, true, true, false, false, false, false, false, false] rfl rfl (any_of HT_.out (by kernel_rfl)) (fun _ _ _ h => h) (Or.inr ⟨by rfl, rfl⟩) ?_ ?_
            rotate_left
            · simp only [Act.put, List.setIfInBounds_toArray, List.set_cons_zero, List.set_cons_succ, i64_w, i32_w]
              rfl
            refine pure_ (i := 12) (N := some 54) (v := undef) (a' := ?_) #[true, true, true, true, true, true, true, true, true, true, true, true, true, false, false, false, false, false] rfl rfl (any_of HT_.out (by kernel_rfl)) (fun _ _ _ h => h) (Or.inr ⟨by rfl, rfl⟩) ?_ ?_
            rotate_left
            · simp only [Act.put, List.setIfInBounds_toArray, List.set_cons_zero, List.set_cons_succ, i64_w, i32_w]
              rfl
            refine pure_ (i := 13) (N := some 55) (v := undef) (a' := ?_) #[true, true, true, true, true, true, true, true, true, true, true, true, true, true, false, false, false, false] rfl rfl (any_of HT_.out (by kernel_rfl)) (fun _ _ _ h => h) (Or.inr ⟨by rfl, rfl⟩) ?_ ?_
            rotate_left
            · simp only [Act.put, List.setIfInBounds_toArray, List.set_cons_zero, List.set_cons_succ, i64_w, i32_w]
              rfl
            refine pure_ (i := 14) (N := some 56) (v := undef) (a' := ?_) #[true, true, true, true, true, true, true, true, true, true, true, true, true, true, true, false, false, false] rfl rfl (any_of HT_.out (by kernel_rfl)) (fun _ _ _ h => h) (Or.inr ⟨by rfl, rfl⟩) ?_ ?_
            rotate_left
            · simp only [Act.put, List.setIfInBounds_toArray, List.set_cons_zero, List.set_cons_succ, i64_w, i32_w]
              rfl
            refine pure_ (i := 15) (N := some 57) (v := undef) (a' := ?_) #[true, true, true, true, true, true, true, true, true, true, true, true, true, true, true, true, false, false] rfl rfl (any_of HT_.out (by kernel_rfl)) (fun _ _ _ h => h) (Or.inr ⟨by rfl, rfl⟩) ?_ ?_
            rotate_left
            · simp only [Act.put, List.setIfInBounds_toArray, List.set_cons_zero, List.set_cons_succ, i64_w, i32_w]
              rfl
            refine pure_ (i := 16) (N := some 58) (v := ?_) (a' := ?_) #[true, true, true, true, true, true, true, true, true, true, true, true, true, true, true, true, true, false] rfl rfl (any_of HT_.out (by kernel_rfl)) (fun _ _ _ h => h) (Or.inl ⟨by rfl, ?_⟩) ?_ ?_
            rotate_left
            · intro w'
              go_simp
              with_reducible rfl
            rotate_left
            · simp only [Act.put, List.setIfInBounds_toArray, List.set_cons_zero, List.set_cons_succ, i64_w, i32_w]
              rfl
            refine pure_ (i := 17) (N := some 59) (v := ?_) (a' := ?_) #[true, true, true, true, true, true, true, true, true, true, true, true, true, true, true, true, true, true] rfl rfl (any_of HT_.out (by kernel_rfl)) (fun _ _ _ h => h) (Or.inl ⟨by rfl, ?_⟩) ?_ ?_
            rotate_left
            · intro w'
              go_simp
              with_reducible rfl
            rotate_left
            · simp only [Act.put, List.setIfInBounds_toArray, List.set_cons_zero, List.set_cons_succ, i64_w, i32_w]
              rfl
            refine done_ (done_of HT_.out (by kernel_rfl)) ?_
            go_wp2_with fail
            go_roundw
            case rel =>
              have h := HN.out (wr.setCell ⟨w.heap.size, (t[0]'hlt).toNat, none⟩ (.int .i64 (v - 1))).drew rfl (bdrew ((Below.refl _ _).setCell hBB _))
              simpa using h
            case measure => simp [intOf]; omega
          · have hle := HLE.out p hlt
            have hpi : p < t.size := Nat.lt_of_succ_lt hlt
            have hp := HMA.out p hpi
            have e1 : decide ((t[p + 1]'hlt).toNat < (t[p]'hpi).toNat) = false := by simp; omega
            have e2 : decide (((t[p + 1]'hlt).toNat : Int) < ((t[p]'hpi).toNat : Int)) = false := by simp; omega
            have hcell := hcn.cell (t[p + 1]'hlt).toNat hx
            have hfz := hcn.fz (t[p + 1]'hlt).toNat
            have hBl := hcn.lt
            obtain ⟨v, hv⟩ : ∃ v : Int, v = (cntL s.data.toList (t[p + 1]'hlt).toNat : Int) - (cntL (t.data.toList.take (p + 1)) (t[p + 1]'hlt).toNat : Int) := ⟨_, rfl⟩
            rw [← hv] at hcell
            have hb1 := cntL_le s.data.toList (t[p + 1]'hlt).toNat
            have hb2 := cntL_le (t.data.toList.take (p + 1)) (t[p + 1]'hlt).toNat
            rw [HLN.out] at hb1
            rw [List.length_take] at hb2
            have hvb : -1000 ≤ v ∧ v ≤ 1000 := by omega
            have hjl : p + 1 < t.data.toList.length := by rw [HTL.out]; exact hlt
            have HN : Hid (∀ W : World, W.heap = (wr.setCell ⟨w.heap.size, (t[p + 1]'hlt).toNat, none⟩ (.int .i64 (v - 1))).heap → Below w.heap.size wr W → S2 w s t (.int .i64 (((p + 1) + 1 : Nat) : Int)) W) := Lib.hid (fun W hW hWb => by
              refine ⟨(p + 1) + 1, by omega, rfl, hcn.setW (t[p + 1]'hlt).toNat hx (fun c _ hc => by
                rw [cntL_take _ (p + 1) hjl, str_get t (p + 1) hlt, if_neg (fun h => hc h.symm)]
                simp) ?_ hWb⟩
              rw [hW]
              rw [cntL_take _ (p + 1) hjl, str_get t (p + 1) hlt, if_pos rfl]
              have e : ((cntL s.data.toList (t[p + 1]'hlt).toNat : Int) - ((cntL (t.data.toList.take (p + 1)) (t[p + 1]'hlt).toNat + 1 : Nat) : Int)) = v - 1 := by rw [hv]; omega
              rw [e])
            have hBB : w.heap.size ≤ w.heap.size := Nat.le_refl _
            clear hcn hv hb1 hb2 hjl
            have u1 : decide (128 ≤ (t[p + 1]'hlt).toNat) = false := by simp; omega
            have u2 : decide ((128 : Int) ≤ ((t[p + 1]'hlt).toNat : Int)) = false := by simp; omega
            have u3 : decide ((0 : Int) < (p : Int) + 1) = true := by rw [decide_eq_true_eq]; omega
            have u5 : (0 ≤ (p : Int) + 1) = True := eq_true (by omega)
            have u6 : (0 ≤ (p : Int)) = True := eq_true (by omega)
            have u4 : wrap64 (p : Int) = (p : Int) := by unfold wrap64; omega
            have u7 : ((p : Int) < (t.size : Int)) = True := eq_true (by omega)
            go_wp2_with fail
            refine start_ (n := 18) (S := fun w' => True) (ds := []) #[false, false, false, false, false, false, false, false, false, false, false, false, false, false, false, false, false, false] (by kernel_rfl) rfl rfl trivial (fun hHeld => ?_)
            refine with_tabW R3.tab14 R3.bits14 (fun HT_ HW_ => ?_)
            refine pure_ (i := 0) (N := some 42) (v := ?_) (a' := ?_) #[true, false, false, false, false, false, false, false, false, false, false, false, false, false, false, false, false, false] rfl rfl (any_of HT_.out (by kernel_rfl)) (fun _ _ _ h => h) (Or.inl ⟨by rfl, ?_⟩) ?_ ?_
            rotate_left
            · intro w'
              go_simp
              with_reducible rfl
            rotate_left
            · simp only [Act.put, List.setIfInBounds_toArray, List.set_cons_zero, List.set_cons_succ, i64_w, i32_w]
              rfl
            refine pure_ (i := 1) (N := some 43) (v := ?_) (a' := ?_) #[true, true, false, false, false, false, false, false, false, false, false, false, false, false, false, false, false, false] rfl rfl (any_of HT_.out (by kernel_rfl)) (fun _ _ _ h => h) (Or.inl ⟨by rfl, ?_⟩) ?_ ?_
            rotate_left
            · intro w'
              go_simp
              with_reducible rfl
            rotate_left
            · simp only [Act.put, List.setIfInBounds_toArray, List.set_cons_zero, List.set_cons_succ, i64_w, i32_w]
              rfl
            refine take_ (i := 2) (N := some 44) (v := ?_) (a' := ?_) #[true, true, true, false, false, false, false, false, false, false, false, false, false, false, false, false, false, false] rfl rfl (take_ofW HT_.out HW_.out (by kernel_rfl)) (fun _ _ _ h => h) (Or.inl ⟨by rfl, ?_⟩) hHeld ?_ ?_
            rotate_left
            · intro w' _
              go_simp
              with_reducible rfl
            rotate_left
            · simp only [Act.put, List.setIfInBounds_toArray, List.set_cons_zero, List.set_cons_succ, i64_w, i32_w]
              rfl
            refine pure_ (i := 3) (N := some 45) (v := ?_) (a' := ?_) #[true, true, true, true, false, false, false, false, false, false, false, false, false, false, false, false, false, false] rfl rfl (any_of HT_.out (by kernel_rfl)) (fun _ _ _ h => h) (Or.inl ⟨by rfl, ?_⟩) ?_ ?_
            rotate_left
            · intro w'
              go_simp
              with_reducible rfl
            rotate_left
            · simp only [Act.put, List.setIfInBounds_toArray, List.set_cons_zero, List.set_cons_succ, i64_w, i32_w]
              rfl
            refine pure_ (i := 4) (N := some 46) (v := ?_) (a' := ?_) #[true, true, true, true, true, false, false, false, false, false, false, false, false, false, false, false, false, false] rfl rfl (any_of HT_.out (by kernel_rfl)) (fun _ _ _ h => h) (Or.inl ⟨by rfl, ?_⟩) ?_ ?_
            rotate_left
            · intro w'
              go_simp
              with_reducible rfl
            rotate_left
            · simp only [Act.put, List.setIfInBounds_toArray, List.set_cons_zero, List.set_cons_succ, i64_w, i32_w]
              rfl
            refine pure_ (i := 5) (N := some 47) (v := ?_) (a' := ?_) #[true, true, true, true, true, true, false, false, false, false, false, false, false, false, false, false, false, false] rfl rfl (any_of HT_.out (by kernel_rfl)) (fun _ _ _ h => h) (Or.inl ⟨by rfl, ?_⟩) ?_ ?_
            rotate_left
            · intro w'
              go_simp
              with_reducible rfl
            rotate_left
            · simp only [Act.put, List.setIfInBounds_toArray, List.set_cons_zero, List.set_cons_succ, i64_w, i32_w]
              rfl
            refine pure_ (i := 6) (N := some 48) (v := ?_) (a' := ?_) #[true, true, true, true, true, true, true, false, false, false, false, false, false, false, false, false, false, false] rfl rfl (any_of HT_.out (by kernel_rfl)) (fun _ _ _ h => h) (Or.inl ⟨by rfl, ?_⟩) ?_ ?_
            rotate_left
            · intro w'
              go_simp
              with_reducible rfl
            rotate_left
            · simp only [Act.put, List.setIfInBounds_toArray, List.set_cons_zero, List.set_cons_succ, i64_w, i32_w]
              rfl
            refine pure_ (i := 7) (N := some 49) (v := ?_) (a' := ?_) #[true, true, true, true, true, true, true, true, false, false, false, false, false, false, false, false, false, false] rfl rfl (any_of HT_.out (by kernel_rfl)) (fun _ _ _ h => h) (Or.inl ⟨by rfl, ?_⟩) ?_ ?_
            rotate_left
            · intro w'
              go_simp
              with_reducible rfl
            rotate_left
            · simp only [Act.put, List.setIfInBounds_toArray, List.set_cons_zero, List.set_cons_succ, i64_w, i32_w]
              rfl
            refine pure_ (i := 8) (N := some 50) (v := ?_) (a' := ?_) #[true, true, true, true, true, true, true, true, true, false, false, false, false, false, false, false, false, false] rfl rfl (any_of HT_.out (by kernel_rfl)) (fun _ _ _ h => h) (Or.inl ⟨by rfl, ?_⟩) ?_ ?_
            rotate_left
            · intro w'
              go_simp
              with_reducible rfl
            rotate_left
            · simp only [Act.put, List.setIfInBounds_toArray, List.set_cons_zero, List.set_cons_succ, i64_w, i32_w]
              rfl
            refine pure_ (i := 9) (N := some 51) (v := ?_) (a' := ?_) #[true, true, true, true, true, true, true, true, true, true, false, false, false, false, false, false, false, false] rfl rfl (any_of HT_.out (by kernel_rfl)) (fun _ _ _ h => h) (Or.inl ⟨by rfl, ?_⟩) ?_ ?_
            rotate_left
            · intro w'
              go_simp
              with_reducible rfl
            rotate_left
            · simp only [Act.put, List.setIfInBounds_toArray, List.set_cons_zero, List.set_cons_succ, i64_w, i32_w]
              rfl
            refine pure_ (i := 11) (N := some 53) (v := ?_) (a' := ?_) #[true, true, true, true, true, true, true, true, true, true, false, true, false, false, false, false, false, false] rfl rfl (any_of HT_.out (by kernel_rfl)) (fun _ _ _ h => h) (Or.inl ⟨by rfl, ?_⟩) ?_ ?_
            rotate_left
            · intro w'
              go_simp
              with_reducible rfl
            rotate_left
            · simp only [Act.put, List.setIfInBounds_toArray, List.set_cons_zero, List.set_cons_succ, i64_w, i32_w]
              rfl
            refine pure_ (i := 12) (N := some 54) (v := ?_) (a' := ?_) #[true, true, true, true, true, true, true, true, true, true, false, true, true, false, false, false, false, false] rfl rfl (any_of HT_.out (by kernel_rfl)) (fun _ _ _ h => h) (Or.inl ⟨by rfl, ?_⟩) ?_ ?_
            rotate_left
            · intro w'
              go_simp
              with_reducible rfl
            rotate_left
            · simp only [Act.put, List.setIfInBounds_toArray, List.set_cons_zero, List.set_cons_succ, i64_w, i32_w]
              rfl
            refine pure_ (i := 13) (N := some 55) (v := ?_) (a' := ?_) #[true, true, true, true, true, true, true, true, true, true, false, true, true, true, false, false, false, false] rfl rfl (any_of HT_.out (by kernel_rfl)) (fun _ _ _ h => h) (Or.inl ⟨by rfl, ?_⟩) ?_ ?_
            rotate_left
            · intro w'
              go_simp
              with_reducible rfl
            rotate_left
            · simp only [Act.put, List.setIfInBounds_toArray, List.set_cons_zero, List.set_cons_succ, i64_w, i32_w]
              rfl
            refine take_ (i := 10) (N := some 52) (v := ?_) (a' := ?_) #[true, true, true, true, true, true, true, true, true, true, true, true, true, true, false, false, false, false] rfl rfl (take_ofW HT_.out HW_.out (by kernel_rfl)) (fun _ _ _ h => h) (Or.inl ⟨by rfl, ?_⟩) hHeld ?_ ?_
            rotate_left
            · intro w' _
              go_simp
              with_reducible rfl
            rotate_left
            · simp only [Act.put, List.setIfInBounds_toArray, List.set_cons_zero, List.set_cons_succ, i64_w, i32_w]
              rfl
            refine take_ (i := 14) (N := some 56) (v := ?_) (a' := ?_) #[true, true, true, true, true, true, true, true, true, true, true, true, true, true, true, false, false, false] rfl rfl (take_ofW HT_.out HW_.out (by kernel_rfl)) (fun _ _ _ h => h) (Or.inl ⟨by rfl, ?_⟩) hHeld ?_ ?_
            rotate_left
            · intro w' _
              go_simp
              with_reducible rfl
            rotate_left
            · simp only [Act.put, List.setIfInBounds_toArray, List.set_cons_zero, List.set_cons_succ, i64_w, i32_w]
              rfl
            refine pure_ (i := 15) (N := some 57) (v := ?_) (a' := ?_) #[true, true, true, true, true, true, true, true, true, true, true, true, true, true, true, true, false, false] rfl rfl (any_of HT_.out (by kernel_rfl)) (fun _ _ _ h => h) (Or.inl ⟨by rfl, ?_⟩) ?_ ?_
            rotate_left
            · intro w'
              go_simp
              with_reducible rfl
            rotate_left
            · simp only [Act.put, List.setIfInBounds_toArray, List.set_cons_zero, List.set_cons_succ, i64_w, i32_w]
              rfl
            refine pure_ (i := 16) (N := some 58) (v := ?_) (a' := ?_) #[true, true, true, true, true, true, true, true, true, true, true, true, true, true, true, true, true, false] rfl rfl (any_of HT_.out (by kernel_rfl)) (fun _ _ _ h => h) (Or.inl ⟨by rfl, ?_⟩) ?_ ?_
            rotate_left
            · intro w'
              go_simp
              with_reducible rfl
            rotate_left
            · simp only [Act.put, List.setIfInBounds_toArray, List.set_cons_zero, List.set_cons_succ, i64_w, i32_w]
              rfl
            refine pure_ (i := 17) (N := some 59) (v := ?_) (a' := ?_) #[true, true, true, true, true, true, true, true, true, true, true, true, true, true, true, true, true, true] rfl rfl (any_of HT_.out (by kernel_rfl)) (fun _ _ _ h => h) (Or.inl ⟨by rfl, ?_⟩) ?_ ?_
            rotate_left
            · intro w'
              go_simp
              with_reducible rfl
            rotate_left
            · simp only [Act.put, List.setIfInBounds_toArray, List.set_cons_zero, List.set_cons_succ, i64_w, i32_w]
              rfl
            refine done_ (done_of HT_.out (by kernel_rfl)) ?_
            go_wp2_with fail
            go_roundw
            case rel =>
              have h := HN.out (wr.setCell ⟨w.heap.size, (t[p + 1]'hlt).toNat, none⟩ (.int .i64 (v - 1))).drew rfl (bdrew ((Below.refl _ _).setCell hBB _))
              simpa using h
            case measure => simp [intOf]; omega
        · obtain rfl : j = t.size := by omega
          have het : t.data.toList.take t.size = t.data.toList := by rw [← HTL.out]; exact List.take_length
          rw [het] at hcn
          obtain ⟨CS, hblk, hsz, hcs⟩ := hcn.blk
          have hz : ∀ c, c < 128 → CS[c]? = some (.int .i64 0) := fun c hc => by
            rw [hcs c hc, cntL_perm HSO.out.perm c]
            simp
          have HB := Lib.hid hcn.bl
          have HZ := Lib.hid hz
          have hsi : (Try.prog.info? 22).map (·.size) = some CS.size := by rw [hsz]; kernel_rfl
          clear hcn het hcs hz hsz
          go_wp2_with (first | (refine wpList_load_row rfl 22 (.tmp 3) rfl w.heap.size rfl 22 CS (0, 0) _ hblk Try.underlying22 rfl hsi ?_) | fail)
          go_loop [68] (fun i => ∃ k : Nat, k ≤ 128 ∧ i = .int .i64 k) (fun i => 128 - (intOf i).toNat)
          case atStart => exact ⟨0, by omega, rfl⟩
          case round =>
            obtain ⟨k, hk, rfl⟩ := hrel
            by_cases hk2 : k < 128
            · have hidx := fun W => idx_z CS k hk2 (HZ.out k hk2) W
              go_wp2_with fail
              go_round
              case rel => exact ⟨k + 1, by omega, by go_num⟩
              case measure => simp [intOf]; omega
            · obtain rfl : k = 128 := by omega
              have hts : t.size = s.size := HTS.out
              have e3 : ((t.size : Int) == (s.size : Int)) = true := by simp [hts]
              have HS2 := Lib.hid (fun wx => implSorted ⟨#[98, 97]⟩ wx (by intro b hb; simp at hb; rcases hb with rfl | rfl <;> decide) (by decide))
              clear hts
              go_wp2_with fail
              refine (HS2.out _).mono ?_
              rintro e w5 ⟨t2, rfl, hso2, hb5⟩
              have ht2 : t2 = ⟨#[97, 98]⟩ := by
                have := sorted_ab _ hso2
                cases t2
                congr 1
                exact Array.toList_inj.1 this
              have HB5 := Lib.hid (bstep HB.out HB.out.size hb5)
              clear hso2 hb5 HS2
              subst ht2
              go_wp2_with fail
              go_ret
              exact ⟨by first | rfl | simp, HB5.out⟩
end Go.Proofs.Ytdmnogjgifapnaa.X
