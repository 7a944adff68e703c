/- BindTexts: it answers. -/
import Derived.Test.YtdmnogjgifapnaaDoorDoc5
import Derived.Laws.IdiomStrings
import Derived.Laws.Cover4
set_option linter.unusedVariables false
set_option linter.unusedSimpArgs false
set_option maxRecDepth 100000
namespace Go.Proofs.YtdmnogjgifapnaaDoor.X
open Go.RowKit
theorem runes_ints (s : ByteArray) : ∀ bound i acc, ∃ zs : List Int, Conv.runesFrom s bound i acc = acc ++ (zs.map (Value.int .i32)).toArray
  | 0, i, acc => ⟨[], by simp [Conv.runesFrom]⟩
  | bound + 1, i, acc => by
    unfold Conv.runesFrom
    split
    · rcases Utf8.decode s i with ⟨r, width⟩
      obtain ⟨zs, h⟩ := runes_ints s bound (i + width) (acc.push (.int .i32 (Int.ofNat r)))
      exact ⟨Int.ofNat r :: zs, h.trans (by simp)⟩
    · exact ⟨[], by simp⟩
theorem runes_text (s : ByteArray) (hs : s.size ≤ 70368744177664) (W : World) : ∃ (v1 : Value) (W1 : World) (t : ByteArray), (convert 9 114 (.string s)).run Tryd.prog W = .ok v1 W1 ∧ Below W.heap.size W W1 ∧ (convert 114 9 v1).run Tryd.prog W1 = .ok (.string t) W1 := by
  obtain ⟨zs, hz⟩ := runes_ints s s.size 0 #[]
  have hsz := size_runesFrom s s.size 0 #[]
  have hle : (Conv.runesFrom s s.size 0 #[]).size ≤ 70368744177664 := by simp at hsz; omega
  have hcv := run_runes_of_string (P := Tryd.prog) W 9 114 21 s Tryd.underlying9 Tryd.underlying114 Tryd.underlying21 hle
  obtain ⟨cap, hcap⟩ : ∃ cap, cap = grownCap W (Conv.runesFrom s s.size 0 #[]).size 0 21 := ⟨_, rfl⟩
  rw [← hcap] at hcv
  rw [hz] at hcv
  obtain ⟨CS, hCS⟩ : ∃ CS, CS = #[] ++ (zs.map (Value.int .i32)).toArray ++ Array.replicate (cap - (#[] ++ (zs.map (Value.int .i32)).toArray).size) (Value.int .i32 0) := ⟨_, rfl⟩
  rw [← hCS] at hcv
  have hn : (#[] ++ (zs.map (Value.int .i32)).toArray).size = zs.length := by simp
  rw [hn] at hcv
  refine ⟨_, _, _, hcv, balloc (bdrew (Below.refl _ _)) (by simp) _, run_convert_runes (P := Tryd.prog) _ 114 9 21 ⟨W.heap.size, 0, none⟩ zs.length cap zs (Nat.le_refl _) Tryd.underlying114 Tryd.underlying21 Tryd.underlying9 fun j hj => ?_⟩
  have hadd : (⟨W.heap.size, 0, none⟩ : Addr).add j = ⟨W.heap.size, j, none⟩ := by unfold Addr.add; split <;> simp_all
  rw [hadd]
  have hh : (W.drew.alloc (.cells CS 21)).heap[W.heap.size]? = some (.cells CS 21) := heap_alloc_new W.drew _
  simp only [World.cell?, hh]
  have : CS[j]? = some (.int .i32 (zs.getD j 0)) := by
    rw [hCS, Array.getElem?_append_left (by simp; exact hj)]
    simp [hj, List.getD_eq_getElem?_getD]
  rw [this]
  rfl
theorem bytesN_at {kind : Int} {text more : ByteArray} {n bits high : Int} {b : List UInt8} {kids : List (ByteArray × Val)} {M : Nat} (h : bytesN (.mk kind text more n bits high b kids) ≤ M) : more.size ≤ M ∧ ∀ i (hi : i < kids.length), bytesN (kids[i]).2 ≤ M := by
  have hk : ∀ (ks : List (ByteArray × Val)) i (hi : i < ks.length), bytesN (ks[i]).2 ≤ bytesK ks := by
    intro ks
    induction ks with
    | nil => intro i hi; simp at hi
    | cons x r ih =>
      intro i hi
      obtain ⟨nm, v⟩ := x
      cases i with
      | zero => simp only [List.getElem_cons_zero, bytesK]; omega
      | succ i => have := ih i (by simpa using hi); simp only [List.getElem_cons_succ, bytesK]; omega
  simp only [bytesN] at h
  exact ⟨by omega, fun i hi => by have := hk kids i hi; omega⟩
set_option maxHeartbeats 400000 in
theorem bindTexts (N : Nat) : ∀ (v : Val) (cs : List Value) (w : World), wt v < N → bytesN v ≤ 65536 → RV w v cs →
    Calls Tryd.prog 43 #[.agg cs.toArray] w fun e w' => (∃ b, e = .returned (.bool b)) ∧ Below w.heap.size w w' := by
  induction N with
  | zero => intro v cs w h; omega
  | succ N ih =>
    intro v cs w hN hby hv
    obtain ⟨kind, text, more, n, bits, high, b, kids⟩ := v
    obtain ⟨hm, hkb⟩ := bytesN_at hby
    simp only [RV] at hv
    obtain ⟨A, c, K, d, rfl, hs, hd, hd2, hk⟩ := hv
    obtain ⟨v1, W1, t, hcv, hb1, hbk⟩ := runes_text more (by omega) (w.alloc (.cells #[.int .i64 kind, .string text, .string more, .int .i64 n, .int .u64 bits, .int .u64 high, .slice A b.length c, .slice K kids.length d] 29))
    have hb1' : Below (w.heap.size + 1) (w.alloc (.cells #[.int .i64 kind, .string text, .string more, .int .i64 n, .int .u64 bits, .int .u64 high, .slice A b.length c, .slice K kids.length d] 29)) W1 := by simpa using hb1
    have hc2 := boxc hb1' 2
    simp only [List.getElem?_cons_succ, List.getElem?_cons_zero] at hc2
    have hz1 := boxs hb1'
    clear hb1
    go_enter Tryd.func43, Tryd.ntmps43
    go_wp2_with fail
    · go_ret
      exact ⟨⟨_, rfl⟩, boxb hb1'⟩
    rename_i hne _ _
    clear hne
    go_loopw [3] (fun i wr => ∃ k : Nat, k ≤ kids.length ∧ i = .int .i64 k ∧ Below (w.heap.size + 1) (w.alloc (.cells #[.int .i64 kind, .string text, .string more, .int .i64 n, .int .u64 bits, .int .u64 high, .slice A b.length c, .slice K kids.length d] 29)) wr) (fun i _ => kids.length - (intOf i).toNat)
    case atStart => exact ⟨0, Nat.zero_le _, rfl, hb1'⟩
    case round =>
      obtain ⟨k, hk1, rfl, hb⟩ := hrel
      have hz := boxs hb
      have hc7 := boxc hb 7
      simp only [List.getElem?_cons_succ, List.getElem?_cons_zero] at hc7
      by_cases hlt : k < kids.length
      · obtain ⟨blk, off, rfl, hks⟩ : ∃ blk off, K = some ⟨blk, off, none⟩ ∧ RKs w blk off kids := by
          rcases hk with hk | hk
          · rw [hk] at hlt; exact absurd hlt (Nat.not_lt_zero _)
          · exact hk
        obtain ⟨c0, c1, c2, c3, c4, c5, c6, c7, hv, hnm, e0, e1, e2, e3, e4, e5, e6, e7⟩ := (RKs.keep (boxb hb) hks).cells_ k hlt
        clear hcv hbk hc2
        go_wp2_with fail
        refine (ih (kids[k]).2 _ wr (wt_at hN k hlt) (hkb k hlt) hv).mono ?_
        rintro e w1 ⟨⟨z, rfl⟩, hb2⟩
        have hb3 := bstep hb (by omega) hb2
        cases z
        · go_wp2_with fail
          go_ret
          exact ⟨⟨_, rfl⟩, boxb hb3⟩
        · go_wp2_with fail
          go_roundw
          case rel => exact ⟨k + 1, by omega, by go_num, hb3⟩
          case measure => simp [intOf]; omega
      · clear hcv hbk hc2
        go_wp2_with fail
        go_ret
        exact ⟨⟨_, rfl⟩, boxb hb⟩
end Go.Proofs.YtdmnogjgifapnaaDoor.X
