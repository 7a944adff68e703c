/- Contract of impl.Sorted at texts of ASCII: sort.Sort by its contract off the shelf. -/
import Derived.Test.YtdmnogjgifapnaaSrtA
set_option linter.unusedVariables false
set_option linter.unusedSimpArgs false
namespace Go.Proofs.Ytdmnogjgifapnaa
open Go.Shelf
shelf_lay LaysGt.n11 Ggt 11 at Try as Try.sortLaid
end Go.Proofs.Ytdmnogjgifapnaa
namespace Go.Proofs.Ytdmnogjgifapnaa.X
open Go.RowKit Go.Sort Go.Shelf Go.Lib
theorem srt_len_reached (p : Option Addr) (n c : Nat) : Reaches Try.prog 68 (.slice p n c) "Len" 81 := ⟨fun _ => by kernel_rfl, enters_of Try.func81 (by kernel_rfl) rfl⟩
theorem srt_less_reached (p : Option Addr) (n c : Nat) : Reaches Try.prog 68 (.slice p n c) "Less" 82 := ⟨fun _ => by kernel_rfl, enters_of Try.func82 (by kernel_rfl) rfl⟩
theorem srt_swap_reached (p : Option Addr) (n c : Nat) : Reaches Try.prog 68 (.slice p n c) "Swap" 83 := ⟨fun _ => by kernel_rfl, enters_of Try.func83 (by kernel_rfl) rfl⟩
theorem srtLen (p : Option Addr) (n c : Nat) (W : World) : LenM Try.prog 81 (.slice p n c) n W := by
  unfold LenM
  go_enter Try.func81, Try.ntmps81
  go_wp2
  go_ret
  exact ⟨rfl, 0, rfl⟩
set_option maxHeartbeats 2000000 in
theorem srtLess (blk off c size : Nat) (W : World) (G : Nat → Int) (hc : ∀ t, t < size → W.cell? ⟨blk, off + t, none⟩ = some (.int .i32 (G t))) (i j : Nat) (hi : i < size) (hj : j < size) (_hsz : size < 4611686018427387904) :
    Calls Try.prog 82 #[.slice (some ⟨blk, off, none⟩) size c, .int .i64 i, .int .i64 j] W fun e w' => e = .returned (.bool (decide (G i < G j))) ∧ ∃ q, w' = W.drewN q := by
  have ci := hc i hi
  have cj := hc j hj
  go_enter Try.func82, Try.ntmps82
  go_wp2
  go_quiet (fail)
  go_wp2
  go_ret
  exact ⟨rfl, nq, rfl⟩
set_option maxHeartbeats 2000000 in
theorem srtSwap (blk off c size : Nat) (W : World) (x y : Int) (i j : Nat) (hi : i < size) (hj : j < size) (_hsz : size < 4611686018427387904)
    (ci : W.cell? ⟨blk, off + i, none⟩ = some (.int .i32 x)) (cj : W.cell? ⟨blk, off + j, none⟩ = some (.int .i32 y)) (fi : W.frozen? ⟨blk, off + i, none⟩ = false) (fj : W.frozen? ⟨blk, off + j, none⟩ = false) :
    Calls Try.prog 83 #[.slice (some ⟨blk, off, none⟩) size c, .int .i64 i, .int .i64 j] W fun e w' => e = .returned (.tuple #[]) ∧ ∃ q, w' = ((W.setCell ⟨blk, off + i, none⟩ (.int .i32 y)).setCell ⟨blk, off + j, none⟩ (.int .i32 x)).drewN q := by
  obtain ⟨v', hy'⟩ := cell?_setCell_some (w := W) (p := ⟨blk, off + i, none⟩) (x := .int .i32 y) (q := ⟨blk, off + j, none⟩) cj
  go_enter Try.func83, Try.ntmps83
  go_wp2
  go_region
  all_goals (try go_wp2)
  all_goals go_end0
  all_goals exact ⟨rfl, 1, rfl⟩
theorem srtLessM (blk off c : Nat) (d : Array Int) (w : World) (hH : Holds (Value.int .i32) w blk off d) (hblk : blk < w.heap.size) (hsz : d.size < 4611686018427387904) :
    LessM Try.prog 82 (.slice (some ⟨blk, off, none⟩) d.size c) (Value.int .i32) ltInt blk off d.size w := fun m os dk hs i j hi hj =>
  srtLess blk off c d.size _ (fun t => dk[t]!) (fun t ht => ((holds_sortWorld (Value.int .i32) w blk off m d dk os hblk hH hs) t (by omega)).1) i j hi hj hsz
theorem srtSwapM (blk off c size : Nat) (hsz : size < 4611686018427387904) : SwapM Try.prog 83 (.slice (some ⟨blk, off, none⟩) size c) (Value.int .i32) blk off size := fun W dk hH hs i j hi hj =>
  srtSwap blk off c size W dk[i]! dk[j]! i j hi hj hsz (hH i (by omega)).1 (hH j (by omega)).1 (hH i (by omega)).2 (hH j (by omega)).2
def dOf (l : List UInt8) : Array Int := (l.map fun b => (b.toNat : Int)).toArray
theorem dOf_perm (l : List UInt8) (ha : Asc l) (d' : Array Int) (hp : PermIn 0 (dOf l).size (dOf l) d') (hs : SortedIn ltInt 0 (dOf l).size d') : ∃ m : List UInt8, d' = dOf m ∧ Sorted l m := by
  obtain ⟨hsz, -, hperm⟩ := hp
  have e0 : ((dOf l).extract 0 (dOf l).size) = dOf l := by simp
  have e1 : (d'.extract 0 (dOf l).size) = d' := by rw [← hsz]; simp
  rw [e0, e1] at hperm
  have hrng : ∀ x ∈ d'.toList, 0 ≤ x ∧ x < 128 := fun x hx => by
    have := hperm.mem_iff.1 hx
    simp only [dOf, List.mem_map] at this
    obtain ⟨b, hb, rfl⟩ := this
    have := ha b hb
    omega
  have hback : d'.toList = (d'.toList.map fun x => UInt8.ofNat x.toNat).map fun b => (b.toNat : Int) := by
    rw [List.map_map]
    conv => lhs; rw [← List.map_id d'.toList]
    refine List.map_congr_left fun x hx => ?_
    have := hrng x hx
    simp only [Function.comp, id]
    rw [UInt8.toNat_ofNat', Nat.mod_eq_of_lt (by omega)]
    omega
  refine ⟨d'.toList.map fun x => UInt8.ofNat x.toNat, ?_, ?_, ?_⟩
  · rw [dOf, ← hback]
  · have h2 := hperm.map fun x : Int => UInt8.ofNat x.toNat
    have e2 : ((dOf l).toList.map fun x : Int => UInt8.ofNat x.toNat) = l := by
      simp only [dOf, List.map_map]
      conv => rhs; rw [← List.map_id l]
      refine List.map_congr_left fun b _ => ?_
      simp
    rwa [e2] at h2
  · intro i j hij hj
    have hj' : j < d'.size := by simpa using hj
    rw [← hsz] at hs
    have h3 := sorted_le d' hs i j hij hj'
    rw [getElem!_pos d' i (by omega), getElem!_pos d' j hj'] at h3
    have ri := hrng d'[i] (by simp)
    have rj := hrng d'[j] (by simp)
    simp only [List.getElem_map, Array.getElem_toList]
    rw [UInt8.toNat_ofNat', UInt8.toNat_ofNat', Nat.mod_eq_of_lt (by omega), Nat.mod_eq_of_lt (by omega)]
    omega
theorem dOf_size (l : List UInt8) : (dOf l).size = l.length := by simp [dOf]
theorem dOf_get (l : List UInt8) (j : Nat) (h : j < l.length) : (dOf l)[j]! = (l[j].toNat : Int) := by
  rw [getElem!_pos _ j (by rw [dOf_size]; exact h)]
  simp [dOf]
theorem str_back (B : Nat) (c : Nat) (m : List UInt8) (ha : Asc m) (W : World) (hc : ∀ j, (h : j < m.length) → W.cell? ⟨B, j, none⟩ = some (.int .i32 (m[j].toNat : Int))) :
    (convert 67 9 (.slice (some ⟨B, 0, none⟩) m.length c)).run Try.prog W = .ok (.string ⟨m.toArray⟩) W := by
  have h := run_convert_runes (P := Try.prog) W 67 9 21 ⟨B, 0, none⟩ m.length c (m.map fun b => (b.toNat : Int)) (by simp) Try.underlying67 Try.underlying21 Try.underlying9 (fun j hj => by
    have hj2 : j < m.length := by simpa using hj
    have hadd : (⟨B, 0, none⟩ : Addr).add j = ⟨B, j, none⟩ := by unfold Addr.add; split <;> simp_all
    rw [hadd, hc j hj2]
    simp [List.getD_eq_getElem?_getD, hj2])
  rw [h, List.take_of_length_le (by simp), runesBytes_asc m ha]
theorem srtText (s : ByteArray) (w : World) (ha : Asc s.data.toList) (hs : s.size ≤ 300) :
    Calls Try.prog 30 #[.string s] w fun e w' => ∃ t : ByteArray, e = .returned (.string t) ∧ Sorted s.data.toList t.data.toList ∧ Below w.heap.size w w' := by
  have hrf := runesFrom_asc s ha s.size 0 #[] (by omega)
  have hln : s.data.toList.length = s.size := Array.length_toList
  rw [List.drop_zero] at hrf
  obtain ⟨l, hl⟩ : ∃ l, l = s.data.toList := ⟨_, rfl⟩
  rw [← hl] at hrf ha hln ⊢
  have hrs : (Conv.runesFrom s s.size 0 #[]).size = l.length := by rw [hrf]; simp
  have hcv := run_runes_of_string (P := Try.prog) w 9 67 21 s Try.underlying9 Try.underlying67 Try.underlying21 (by rw [hrs]; omega)
  rw [hrs] at hcv
  have hge := grownCap_ge w l.length 0 21
  obtain ⟨cap, hcap⟩ : ∃ cap, cap = grownCap w l.length 0 21 := ⟨_, rfl⟩
  rw [← hcap] at hcv hge
  obtain ⟨CS, hCS⟩ : ∃ CS, CS = Conv.runesFrom s s.size 0 #[] ++ Array.replicate (cap - l.length) (Value.int .i32 0) := ⟨_, rfl⟩
  rw [← hCS] at hcv
  have hcell : ∀ j, (h : j < l.length) → (w.drew.alloc (.cells CS 21)).cell? ⟨w.heap.size, j, none⟩ = some (.int .i32 (l[j].toNat : Int)) := fun j h => by
    have hh : (w.drew.alloc (.cells CS 21)).heap[w.heap.size]? = some (.cells CS 21) := heap_alloc_new w.drew _
    simp only [World.cell?, hh]
    have : CS[j]? = some (.int .i32 (l[j].toNat : Int)) := by
      rw [hCS, hrf, Array.getElem?_append_left (by simp; exact h)]
      simp [h]
    rw [this]
    rfl
  have hfz : ∀ j, (w.drew.alloc (.cells CS 21)).frozen? ⟨w.heap.size, j, none⟩ = false := fun j => by
    have hh : (w.drew.alloc (.cells CS 21)).heap[w.heap.size]? = some (.cells CS 21) := heap_alloc_new w.drew _
    simp only [World.frozen?, hh]
    simp
  have hH : Holds (Value.int .i32) (w.drew.alloc (.cells CS 21)) w.heap.size 0 (dOf l) := fun j hj => by
    have hj2 : j < l.length := by rw [dOf_size] at hj; exact hj
    rw [Nat.zero_add, dOf_get l j hj2]
    exact ⟨hcell j hj2, hfz j⟩
  have hblk : w.heap.size < (w.drew.alloc (.cells CS 21)).heap.size := by simp
  have hb0 : Below w.heap.size w (w.drew.alloc (.cells CS 21)) := balloc (bdrew (Below.refl _ _)) (by simp) _
  obtain ⟨W1, hW1⟩ : ∃ W1, W1 = w.drew.alloc (.cells CS 21) := ⟨_, rfl⟩
  rw [← hW1] at hcv hcell hH hblk hb0
  obtain ⟨n, hn⟩ : ∃ n, n = l.length := ⟨_, rfl⟩
  rw [← hn] at hcv
  by_cases h2 : 2 ≤ n
  · have hS := Any.sort_Sort_sorted Try.sortLaid 68 (.slice (some ⟨w.heap.size, 0, none⟩) (dOf l).size cap) 81 82 83 (srt_len_reached _ _ _) (srt_less_reached _ _ _) (srt_swap_reached _ _ _) (Value.int .i32) ltInt swo_ltInt
      w.heap.size 0 (dOf l) (by rw [dOf_size]; omega) (by rw [dOf_size]; omega) W1 (srtLen _ _ _ _) (srtLessM w.heap.size 0 cap (dOf l) W1 hH hblk (by rw [dOf_size]; omega)) (srtSwapM w.heap.size 0 cap (dOf l).size (by rw [dOf_size]; omega)) hH hblk
    change Calls Try.prog 34 _ _ _ at hS
    have HS : Hid (Calls Try.prog 34 #[.iface 68 (.slice (some ⟨w.heap.size, 0, none⟩) n cap)] W1 fun e w' => e = .returned (.tuple #[]) ∧ ∃ t : ByteArray, (convert 67 9 (.slice (some ⟨w.heap.size, 0, none⟩) n cap)).run Try.prog w' = .ok (.string t) w' ∧ Sorted l t.data.toList ∧ Below w.heap.size w w') := Lib.hid (by
      rw [dOf_size, ← hn] at hS
      refine hS.mono ?_
      rintro e w' ⟨rfl, d', m, os, hp, hso, rfl⟩
      rw [hn] at hp hso
      rw [← dOf_size l] at hp hso
      obtain ⟨q, rfl, hq⟩ := dOf_perm l ha d' hp hso
      have hql := hq.len
      refine ⟨rfl, ⟨q.toArray⟩, ?_, hq, hb0.trans (below_sorted _ _ (Nat.le_refl _) (Nat.le_of_lt hblk))⟩
      rw [show n = q.length from by omega]
      exact str_back w.heap.size cap q (hq.asc ha) _ (fun j hj => by
        rw [cell_sorted (Value.int .i32) (dOf l) (dOf q) hH (by rw [dOf_size, dOf_size]; omega) hblk j (by rw [dOf_size]; exact hj), dOf_get q j hj]))
    clear hn hS hH hcell hfz hrf hb0 hblk hge hCS hW1 ha hl hln hrs hcap
    go_enter Try.func30, Try.ntmps30
    go_wp2_with fail
    refine HS.out.mono ?_
    rintro e w2 ⟨rfl, t, hrun, hso, hb⟩
    have HSO := Lib.hid hso
    have HB := Lib.hid hb
    clear hso hb HS
    go_wp2_with fail
    go_ret
    exact ⟨t, rfl, HSO.out, HB.out⟩
  · have hT := Any.sort_Sort_tiny Try.sortLaid 68 (.slice (some ⟨w.heap.size, 0, none⟩) n cap) 81 (srt_len_reached _ _ _) n (by omega) W1 (srtLen _ _ _ _)
    change Calls Try.prog 34 _ _ _ at hT
    have HS : Hid (Calls Try.prog 34 #[.iface 68 (.slice (some ⟨w.heap.size, 0, none⟩) n cap)] W1 fun e w' => e = .returned (.tuple #[]) ∧ ∃ t : ByteArray, (convert 67 9 (.slice (some ⟨w.heap.size, 0, none⟩) n cap)).run Try.prog w' = .ok (.string t) w' ∧ Sorted l t.data.toList ∧ Below w.heap.size w w') := Lib.hid (by
      refine hT.mono ?_
      rintro e w' ⟨rfl, q, rfl⟩
      refine ⟨rfl, ⟨l.toArray⟩, ?_, ⟨List.Perm.refl _, fun i j hi hj => by have hj2 : j < l.length := hj; omega⟩, bdrewN hb0 q⟩
      rw [hn]
      exact str_back w.heap.size cap l ha _ (fun j hj => hcell j hj))
    clear hn hT hH hcell hfz hrf hb0 hblk hge hCS hW1 ha hl hln hrs hcap
    go_enter Try.func30, Try.ntmps30
    go_wp2_with fail
    refine HS.out.mono ?_
    rintro e w2 ⟨rfl, t, hrun, hso, hb⟩
    have HSO := Lib.hid hso
    have HB := Lib.hid hb
    clear hso hb HS
    go_wp2_with fail
    go_ret
    exact ⟨t, rfl, HSO.out, HB.out⟩
theorem zzSorted (s : ByteArray) (w : World) (ha : Asc s.data.toList) (hs : s.size ≤ 300) :
    Calls Try.prog 16 #[.string s] w fun e w' => ∃ t : ByteArray, e = .returned (.string t) ∧ Sorted s.data.toList t.data.toList ∧ Below w.heap.size w w' := by
  have H := Lib.hid (srtText s w ha hs)
  clear ha hs
  go_enter Try.func16, Try.ntmps16
  go_wp2_with fail
  refine H.out.mono ?_
  rintro e w2 ⟨t, rfl, hso, hb⟩
  have HSO := Lib.hid hso
  have HB := Lib.hid hb
  clear hso hb H
  go_wp2_with fail
  go_ret
  exact ⟨t, rfl, HSO.out, HB.out⟩
theorem implSorted (s : ByteArray) (w : World) (ha : Asc s.data.toList) (hs : s.size ≤ 300) :
    Calls Try.prog 5 #[.string s] w fun e w' => ∃ t : ByteArray, e = .returned (.string t) ∧ Sorted s.data.toList t.data.toList ∧ Below w.heap.size w w' := by
  have H := Lib.hid (zzSorted s w ha hs)
  clear ha hs
  go_enter Try.func5, Try.ntmps5
  go_wp2_with fail
  refine H.out.mono ?_
  rintro e w2 ⟨t, rfl, hso, hb⟩
  have HSO := Lib.hid hso
  have HB := Lib.hid hb
  clear hso hb H
  go_wp2_with fail
  go_ret
  exact ⟨t, rfl, HSO.out, HB.out⟩
end Go.Proofs.Ytdmnogjgifapnaa.X
