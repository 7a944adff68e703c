/- The law FnDecInt. -/
import Derived.Test.YtjjfdamlicoeeaaDoorNat4
import Derived.Test.YtjjfdamlicoeeaaDoorIs
import Derived.Test.YtjjfdamlicoeeaaDoorDecDiff
set_option linter.unusedVariables false
set_option linter.unusedSimpArgs false
set_option maxRecDepth 100000
namespace Go.Proofs.YtjjfdamlicoeeaaDoor.X
open Go.RowKit Go.Deep
theorem getBytes (h l : Int) (w : World) : Calls Tryd.prog 35 #[.agg #[.int .u64 h, .int .u64 l]] w fun e w' => e = .returned (.tuple #[.int .u64 h, .int .u64 l]) ∧ Below w.heap.size w w' := by
  go_enter Tryd.func35, Tryd.ntmps35
  go_wp2_with fail
  go_region
  all_goals go_wp2_with fail
  all_goals go_ret2
  all_goals exact ⟨rfl, by first | exact bdrew (balloc (Below.refl _ _) (Nat.le_refl _) _) | exact balloc (Below.refl _ _) (Nat.le_refl _) _⟩
/-- The sentinels that the law finds laid. -/
structure Sent (w : World) (a0 a1 a2 : Addr) : Prop where
  g0 : w.cell? ⟨0, 0, none⟩ = some (.iface 157 (.pointer (some a0)))
  g1 : w.cell? ⟨1, 0, none⟩ = some (.iface 157 (.pointer (some a1)))
  g2 : w.cell? ⟨2, 0, none⟩ = some (.iface 157 (.pointer (some a2)))
  n01 : a0 ≠ a1
  n02 : a0 ≠ a2
  n12 : a1 ≠ a2
  b0 : ∃ c t, w.heap[a0.block]? = some (.cells c t (0, 0))
  b1 : ∃ c t, w.heap[a1.block]? = some (.cells c t (0, 0))
  b2 : ∃ c t, w.heap[a2.block]? = some (.cells c t (0, 0))
theorem blk_keep {w w1 : World} (hb : Below w.heap.size w w1) {b : Nat} (h : ∃ c t, w.heap[b]? = some (.cells c t (0, 0))) : ∃ c t, w1.heap[b]? = some (.cells c t (0, 0)) := by
  obtain ⟨c, t, h⟩ := h
  have hl : b < w.heap.size := by
    rcases Nat.lt_or_ge b w.heap.size with h2 | h2
    · exact h2
    · rw [Array.getElem?_eq_none h2] at h; cases h
  exact ⟨c, t, (hb.block b hl).trans h⟩
theorem Sent.keep {w w1 : World} {a0 a1 a2 : Addr} (h : Sent w a0 a1 a2) (hb : Below w.heap.size w w1) : Sent w1 a0 a1 a2 :=
  ⟨(hb.cell (World.block_lt_of_cell? w _ h.g0)).trans h.g0, (hb.cell (World.block_lt_of_cell? w _ h.g1)).trans h.g1, (hb.cell (World.block_lt_of_cell? w _ h.g2)).trans h.g2, h.n01, h.n02, h.n12, blk_keep hb h.b0, blk_keep hb h.b1, blk_keep hb h.b2⟩
def posB (h : Int) : Bool := bits .and .u64 (h / 9223372036854775808) 1 == 0
theorem bigInt_nan (h l : Int) (w : World) (hk : k5P h = 31) {a0 a1 a2 : Addr} (hS : Sent w a0 a1 a2) :
    Calls Tryd.prog 29 #[.agg #[.int .u64 h, .int .u64 l]] w fun e w' => e = .returned (.tuple #[.pointer none, .int .i64 0, .iface 157 (.pointer (some a0))]) ∧ Below w.heap.size w w' := by
  have HG := Lib.hid (fun wx => getBytes h l wx)
  have g0 := hS.g0
  have hlt := World.block_lt_of_cell? w _ g0
  have hk5 : bits .and .u64 (h / 288230376151711744) 31 = 31 := hk
  clear hk hS
  go_enter Tryd.func29, Tryd.ntmps29
  go_wp2_with fail
  refine (HG.out _).mono ?_
  rintro e w1 ⟨rfl, hb⟩
  have hb' := (balloc (Below.refl _ w) (Nat.le_refl _) (.cells #[.int .u64 h, .int .u64 l] 62)).trans (hb.mono (by simp))
  have k0 := (hb'.cell (p := ⟨0, 0, none⟩) hlt).trans g0
  have HB := Lib.hid hb'
  clear hb hb' g0
  go_wp2_with fail
  go_region
  all_goals go_wp2_with fail
  all_goals go_ret3
  all_goals exact ⟨rfl, by first | exact bdrew HB.out | exact HB.out⟩
theorem bigInt_inf (h l : Int) (w : World) (hk : k5P h = 30) (hp : posB h = true) {a0 a1 a2 : Addr} (hS : Sent w a0 a1 a2) :
    Calls Tryd.prog 29 #[.agg #[.int .u64 h, .int .u64 l]] w fun e w' => e = .returned (.tuple #[.pointer none, .int .i64 0, .iface 157 (.pointer (some a1))]) ∧ Below w.heap.size w w' := by
  have HG := Lib.hid (fun wx => getBytes h l wx)
  have g0 := hS.g1
  have hlt := World.block_lt_of_cell? w _ g0
  have hk5 : bits .and .u64 (h / 288230376151711744) 31 = 30 := hk
  have hp2 : (bits .and .u64 (h / 9223372036854775808) 1 == 0) = true := hp
  clear hp
  clear hk hS
  go_enter Tryd.func29, Tryd.ntmps29
  go_wp2_with fail
  refine (HG.out _).mono ?_
  rintro e w1 ⟨rfl, hb⟩
  have hb' := (balloc (Below.refl _ w) (Nat.le_refl _) (.cells #[.int .u64 h, .int .u64 l] 62)).trans (hb.mono (by simp))
  have k0 := (hb'.cell (p := ⟨1, 0, none⟩) hlt).trans g0
  have HB := Lib.hid hb'
  clear hb hb' g0
  go_wp2_with fail
  go_region
  all_goals go_wp2_with fail
  all_goals go_ret3
  all_goals exact ⟨rfl, by first | exact bdrew HB.out | exact HB.out⟩
theorem bigInt_ninf (h l : Int) (w : World) (hk : k5P h = 30) (hp : posB h = false) {a0 a1 a2 : Addr} (hS : Sent w a0 a1 a2) :
    Calls Tryd.prog 29 #[.agg #[.int .u64 h, .int .u64 l]] w fun e w' => e = .returned (.tuple #[.pointer none, .int .i64 0, .iface 157 (.pointer (some a2))]) ∧ Below w.heap.size w w' := by
  have HG := Lib.hid (fun wx => getBytes h l wx)
  have g0 := hS.g2
  have hlt := World.block_lt_of_cell? w _ g0
  have hk5 : bits .and .u64 (h / 288230376151711744) 31 = 30 := hk
  have hp2 : (bits .and .u64 (h / 9223372036854775808) 1 == 0) = false := hp
  clear hp
  clear hk hS
  go_enter Tryd.func29, Tryd.ntmps29
  go_wp2_with fail
  refine (HG.out _).mono ?_
  rintro e w1 ⟨rfl, hb⟩
  have hb' := (balloc (Below.refl _ w) (Nat.le_refl _) (.cells #[.int .u64 h, .int .u64 l] 62)).trans (hb.mono (by simp))
  have k0 := (hb'.cell (p := ⟨2, 0, none⟩) hlt).trans g0
  have HB := Lib.hid hb'
  clear hb hb' g0
  go_wp2_with fail
  go_region
  all_goals go_wp2_with fail
  all_goals go_ret3
  all_goals exact ⟨rfl, by first | exact bdrew HB.out | exact HB.out⟩
theorem bigInt_fin (h l : Int) (w : World) (h1 : 0 ≤ h) (h2 : h ≤ 18446744073709551615) (l1 : 0 ≤ l) (l2 : l ≤ 18446744073709551615) (n30 : k5P h ≠ 30) (n31 : k5P h ≠ 31) (n3 : e3P h ≠ 3) :
    Calls Tryd.prog 29 #[.agg #[.int .u64 h, .int .u64 l]] w fun e w' => ∃ B, e = .returned (.tuple #[.pointer (some ⟨B, 0, none⟩), .int .i64 (exP h), .nilIface]) ∧ IR w' B (!posB h && decide (coP h l ≠ 0)) (coP h l) ∧ Below w.heap.size w w' := by
  have HG := Lib.hid (fun wx => getBytes h l wx)
  obtain ⟨k5, hk5⟩ : ∃ x, bits .and .u64 (h / 288230376151711744) 31 = x := ⟨_, rfl⟩
  obtain ⟨e3, he3⟩ : ∃ x, bits .and .u64 (h / 2305843009213693952) 3 = x := ⟨_, rfl⟩
  obtain ⟨cf, hcf⟩ : ∃ x, bits .and .u64 h 562949953421311 = x := ⟨_, rfl⟩
  obtain ⟨eb, heb⟩ : ∃ x, bits .and .u64 (h / 562949953421312) 16383 = x := ⟨_, rfl⟩
  obtain ⟨pb, hpb⟩ : ∃ x, (bits .and .u64 (h / 9223372036854775808) 1 == 0) = x := ⟨_, rfl⟩
  have hcf2 : cf = h % 562949953421312 := by rw [← hcf]; exact bits_mask .u64 64 (by decide) wraps_u64 49 (by decide) h h1 (by omega)
  have heb2 : eb = h / 562949953421312 % 16384 := by rw [← heb]; exact bits_mask .u64 64 (by decide) wraps_u64 14 (by decide) _ (by omega) (by omega)
  have hK5 : k5P h = k5 := hk5
  have hE3 : e3P h = e3 := he3
  have hHI : hiP h = cf := by unfold hiP; rw [if_neg n3, hcf]
  have hLO : loP h l = l := if_neg n3
  have hEX : exP h = eb - 6176 := by unfold exP; rw [if_neg n3, heb]
  have hPB : posB h = pb := hpb
  have hco : coP h l = (cf * 18446744073709551616 + l).toNat := by unfold coP; rw [hHI, hLO]
  have hcfb : 0 ≤ cf ∧ cf < 562949953421312 := by omega
  have hebb : 0 ≤ eb ∧ eb ≤ 16383 := by omega
  rw [hK5] at n30 n31
  rw [hE3] at n3
  have b30 : (k5 == 30) = false := by simpa using n30
  have b31 : (k5 == 31) = false := by simpa using n31
  have b3 : (e3 == 3) = false := by simpa using n3
  rw [hEX, hPB, hco]
  obtain ⟨N, hN⟩ : ∃ N, N = (cf * 18446744073709551616 + l).toNat := ⟨_, rfl⟩
  rw [← hN]
  have hwb : eb + (-6176) = eb - 6176 := by omega
  have hwb2 : wrap64 eb = eb := by unfold wrap64; omega
  obtain ⟨ex, hex⟩ : ∃ ex, ex = eb - 6176 := ⟨_, rfl⟩
  rw [← hex] at hwb ⊢
  obtain ⟨cn, hcn⟩ : ∃ cn : Nat, cf = (cn : Int) := ⟨cf.toNat, by omega⟩
  obtain ⟨ln, hln⟩ : ∃ ln : Nat, l = (ln : Int) := ⟨l.toNat, by omega⟩
  have hNN : N = ln + 18446744073709551616 * cn := by omega
  have HSB := Lib.hid (fun (B : Nat) (wx : World) (A : Option Addr) (c : Nat) (v0 v1 : Value) k0 k1 kf v0s v1s (hs : GS wx A c [.int .u64 (ln : Int), .int .u64 (cn : Int)]) => setBits B A c ln cn wx (v0 := v0) (v1 := v1) k0 k1 kf v0s v1s hs (by omega) (by omega))
  rw [← hNN, ← hcn, ← hln] at HSB
  have hlen4 : (nat32 N).length ≤ 1000000 := Nat.le_trans (nat32_len 4 N (by omega)) (by decide)
  have HNG := Lib.hid (fun (B : Nat) (wx : World) (hi : IR wx B false N) => neg B N wx hi hlen4)
  have hz : ((cf == 0) = true ∧ (l == 0) = true ∧ (ex == 0) = true ∧ N = 0) ∨ ((cf == 0) = false ∨ ((cf == 0) = true ∧ (l == 0) = false) ∨ ((cf == 0) = true ∧ (l == 0) = true ∧ (ex == 0) = false)) := by
    by_cases c1 : cf = 0
    · by_cases c2 : l = 0
      · by_cases c3 : ex = 0
        · exact .inl ⟨by simpa using c1, by simpa using c2, by simpa using c3, by omega⟩
        · exact .inr (.inr (.inr ⟨by simpa using c1, by simpa using c2, by simpa using c3⟩))
      · exact .inr (.inr (.inl ⟨by simpa using c1, by simpa using c2⟩))
    · exact .inr (.inl (by simpa using c1))
  have HNO := Lib.hid (newInt0)
  clear hcf2 heb2 hK5 hE3 hHI hLO hEX hPB hco hex hcn hln hNN hN n30 n31 n3 hlen4
  rcases hz with ⟨c1, c2, c3, rfl⟩ | hz
  · clear HSB HNG HNO
    go_enter Tryd.func29, Tryd.ntmps29
    go_wp2_with fail
    refine (HG.out _).mono ?_
    rintro e w1 ⟨rfl, hb⟩
    have hb' := (balloc (Below.refl _ w) (Nat.le_refl _) (.cells #[.int .u64 h, .int .u64 l] 62)).trans (hb.mono (by simp))
    have HB := Lib.hid hb'
    clear hb hb'
    go_wp2_with fail
    exact bodyPost_ret (v := .tuple #[.pointer (some ⟨w1.heap.size, 0, none⟩), .int .i64 ex, .nilIface]) (by simp [results, Tryd.results29, go_sem]; exact (by simpa using c3 : ex = 0).symm) rfl ⟨w1.heap.size, rfl, ⟨⟨none, 0, by simp [go_sem], by simp [go_sem, nat32_zero], by rw [nat32_zero]; exact GS.nil _, fun a ha => by cases ha⟩, fun o => by simp [go_sem]⟩, balloc HB.out HB.out.size _⟩
  · rcases hz with c1 | ⟨c1, c2⟩ | ⟨c1, c2, c3⟩
    all_goals
      go_enter Tryd.func29, Tryd.ntmps29
      go_wp2_with fail
      refine (HG.out _).mono ?_
      rintro e w1 ⟨rfl, hb⟩
      have hb' := (balloc (Below.refl _ w) (Nat.le_refl _) (.cells #[.int .u64 h, .int .u64 l] 62)).trans (hb.mono (by simp))
      have HB := Lib.hid hb'
      clear hb hb'
      go_wp2_with fail
      refine (HNO.out _).mono ?_
      rintro e w2 ⟨B, rfl, hir, hBl, hb⟩
      have HIR := Lib.hid hir
      have HB2 := Lib.hid (HB.out.trans (hb.mono HB.out.size))
      have hbase := HB.out.size
      obtain ⟨A, c, i0, i1, i2, i3⟩ := hir.ex
      have if_ := hir.fz
      have hbl := hir.lt
      have HC := Lib.hid (HSB.out B (w2.alloc (.cells #[.int .u64 l, .int .u64 cf] 99)) (some ⟨w2.heap.size, 0, none⟩) 2 _ _ (by simp only [World.cell?_alloc_past _ _ _ hbl]; exact i0) (by simp only [World.cell?_alloc_past _ _ _ hbl]; exact i1) (fun o => by simp [go_sem, hbl, if_]) rfl rfl (GS.lit_ (E := 99) w2 [.int .u64 l, .int .u64 cf] _ rfl (by simp) 2 rfl))
      clear hir hb i0 i1 i2 i3 if_ HSB HNO HB HG
      go_wp2_with fail
      refine HC.out.mono ?_
      rintro e w3 ⟨rfl, hir3, hz3, hb3⟩
      have HIR3 := Lib.hid hir3
      have HB3 := Lib.hid ((balloc HB2.out HB2.out.size _).trans (hb3.mono (by omega)))
      clear hir3 hb3 HC HIR HB2
      cases pb
      · go_wp2_with fail
        refine (HNG.out _ _ HIR3.out).mono ?_
        rintro e w4 ⟨rfl, hir4, hz4, hb4⟩
        have HIR4 := Lib.hid hir4
        have HB4 := Lib.hid (HB3.out.trans (hb4.mono (by omega)))
        clear hir4 hb4
        go_wp2_with fail
        go_ret3
        exact ⟨B, by first | rfl | simp, by simpa using HIR4.out, HB4.out⟩
      · go_wp2_with fail
        go_ret3
        exact ⟨B, by first | rfl | simp, by simpa using HIR3.out, HB3.out⟩
theorem decInt_nan (h l : Int) (w : World) (hk : k5P h = 31) {a0 a1 a2 : Addr} (hS : Sent w a0 a1 a2) :
    Calls Tryd.prog 11 #[.int .u64 h, .int .u64 l] w fun e w' => e = .returned (.tuple #[.string ⟨#[]⟩, .int .i64 0, .int .i64 1]) ∧ Below w.heap.size w w' := by
  have HN := Lib.hid (fun wx => newDec h l wx)
  have HBI := Lib.hid (fun wx (s : Sent wx a0 a1 a2) => bigInt_nan h l wx hk s)
  have HS := Lib.hid hS
  clear hS hk
  go_enter Tryd.func11, Tryd.ntmps11
  go_wp2_with fail
  refine (HN.out _).mono ?_
  rintro e w1 ⟨rfl, hb1⟩
  have HS1 := Lib.hid (HS.out.keep hb1)
  have HB1 := Lib.hid hb1
  clear hb1
  go_wp2_with fail
  refine (HBI.out _ HS1.out).mono ?_
  rintro e w2 ⟨rfl, hb2⟩
  have HS2 := Lib.hid (HS1.out.keep hb2)
  have HB2 := Lib.hid (bstep HB1.out HB1.out.size hb2)
  have g0 := HS2.out.g0
  have g1 := HS2.out.g1
  have hl0 := World.block_lt_of_cell? _ _ g0
  have hl1 := World.block_lt_of_cell? _ _ g1
  obtain ⟨c0, t0, b0⟩ := HS2.out.b0
  obtain ⟨c1, t1, b1⟩ := HS2.out.b1
  obtain ⟨c2, t2, b2⟩ := HS2.out.b2
  have HX0 := Lib.hid b0
  have HX1 := Lib.hid b1
  have HX2 := Lib.hid b2
  clear hb2 b0 b1 b2 HN HBI
  go_wp2_with fail
  refine (is_same a0 _).mono ?_
  rintro e w3 ⟨rfl, rfl⟩
  go_wp2_with fail
  go_ret3
  exact ⟨rfl, HB2.out⟩
theorem decInt_inf (h l : Int) (w : World) (hk : k5P h = 30) (hp : posB h = true) {a0 a1 a2 : Addr} (hS : Sent w a0 a1 a2) :
    Calls Tryd.prog 11 #[.int .u64 h, .int .u64 l] w fun e w' => e = .returned (.tuple #[.string ⟨#[]⟩, .int .i64 0, .int .i64 2]) ∧ Below w.heap.size w w' := by
  have HN := Lib.hid (fun wx => newDec h l wx)
  have HBI := Lib.hid (fun wx (s : Sent wx a0 a1 a2) => bigInt_inf h l wx hk hp s)
  have HS := Lib.hid hS
  clear hS hk hp
  go_enter Tryd.func11, Tryd.ntmps11
  go_wp2_with fail
  refine (HN.out _).mono ?_
  rintro e w1 ⟨rfl, hb1⟩
  have HS1 := Lib.hid (HS.out.keep hb1)
  have HB1 := Lib.hid hb1
  clear hb1
  go_wp2_with fail
  refine (HBI.out _ HS1.out).mono ?_
  rintro e w2 ⟨rfl, hb2⟩
  have HS2 := Lib.hid (HS1.out.keep hb2)
  have HB2 := Lib.hid (bstep HB1.out HB1.out.size hb2)
  have g0 := HS2.out.g0
  have g1 := HS2.out.g1
  have hl0 := World.block_lt_of_cell? _ _ g0
  have hl1 := World.block_lt_of_cell? _ _ g1
  obtain ⟨c0, t0, b0⟩ := HS2.out.b0
  obtain ⟨c1, t1, b1⟩ := HS2.out.b1
  obtain ⟨c2, t2, b2⟩ := HS2.out.b2
  have HX0 := Lib.hid b0
  have HX1 := Lib.hid b1
  have HX2 := Lib.hid b2
  clear hb2 b0 b1 b2 HN HBI
  go_wp2_with fail
  refine (is_other a1 a0 _ _ _ _ _ (fun e => HS2.out.n01 e.symm) HX1.out HX0.out).mono ?_
  rintro e w3 ⟨rfl, rfl⟩
  go_wp2_with fail
  refine (is_same a1 _).mono ?_
  rintro e w3 ⟨rfl, rfl⟩
  go_wp2_with fail
  go_ret3
  exact ⟨rfl, HB2.out⟩
theorem decInt_ninf (h l : Int) (w : World) (hk : k5P h = 30) (hp : posB h = false) {a0 a1 a2 : Addr} (hS : Sent w a0 a1 a2) :
    Calls Tryd.prog 11 #[.int .u64 h, .int .u64 l] w fun e w' => e = .returned (.tuple #[.string ⟨#[]⟩, .int .i64 0, .int .i64 3]) ∧ Below w.heap.size w w' := by
  have HN := Lib.hid (fun wx => newDec h l wx)
  have HBI := Lib.hid (fun wx (s : Sent wx a0 a1 a2) => bigInt_ninf h l wx hk hp s)
  have HS := Lib.hid hS
  clear hS hk hp
  go_enter Tryd.func11, Tryd.ntmps11
  go_wp2_with fail
  refine (HN.out _).mono ?_
  rintro e w1 ⟨rfl, hb1⟩
  have HS1 := Lib.hid (HS.out.keep hb1)
  have HB1 := Lib.hid hb1
  clear hb1
  go_wp2_with fail
  refine (HBI.out _ HS1.out).mono ?_
  rintro e w2 ⟨rfl, hb2⟩
  have HS2 := Lib.hid (HS1.out.keep hb2)
  have HB2 := Lib.hid (bstep HB1.out HB1.out.size hb2)
  have g0 := HS2.out.g0
  have g1 := HS2.out.g1
  have hl0 := World.block_lt_of_cell? _ _ g0
  have hl1 := World.block_lt_of_cell? _ _ g1
  obtain ⟨c0, t0, b0⟩ := HS2.out.b0
  obtain ⟨c1, t1, b1⟩ := HS2.out.b1
  obtain ⟨c2, t2, b2⟩ := HS2.out.b2
  have HX0 := Lib.hid b0
  have HX1 := Lib.hid b1
  have HX2 := Lib.hid b2
  clear hb2 b0 b1 b2 HN HBI
  go_wp2_with fail
  refine (is_other a2 a0 _ _ _ _ _ (fun e => HS2.out.n02 e.symm) HX2.out HX0.out).mono ?_
  rintro e w3 ⟨rfl, rfl⟩
  go_wp2_with fail
  refine (is_other a2 a1 _ _ _ _ _ (fun e => HS2.out.n12 e.symm) HX2.out HX1.out).mono ?_
  rintro e w3 ⟨rfl, rfl⟩
  go_wp2_with fail
  go_ret3
  exact ⟨rfl, HB2.out⟩
theorem decInt_fin (h l : Int) (w : World) (h1 : 0 ≤ h) (h2 : h ≤ 18446744073709551615) (l1 : 0 ≤ l) (l2 : l ≤ 18446744073709551615) (n30 : k5P h ≠ 30) (n31 : k5P h ≠ 31) (n3 : e3P h ≠ 3) {a0 a1 a2 : Addr} (hS : Sent w a0 a1 a2) :
    Calls Tryd.prog 11 #[.int .u64 h, .int .u64 l] w fun e w' => e = .returned (.tuple #[.string ⟨(intT (!posB h && decide (coP h l ≠ 0)) (coP h l)).toArray⟩, .int .i64 (exP h), .int .i64 0]) ∧ Below w.heap.size w w' := by
  have HN := Lib.hid (fun wx => newDec h l wx)
  have HBI := Lib.hid (fun wx => bigInt_fin h l wx h1 h2 l1 l2 n30 n31 n3)
  have hN : coP h l < 340282366920938463463374607431768211456 := by
    have hr := hiP_rng h h1 h2
    have hlo : 0 ≤ loP h l ∧ loP h l ≤ 18446744073709551615 := by unfold loP; split <;> omega
    unfold coP
    omega
  have HST := Lib.hid (fun B wx hir => string_ B (!posB h && decide (coP h l ≠ 0)) (coP h l) wx hir hN)
  obtain ⟨X, hX⟩ : ∃ X, X = (⟨(intT (!posB h && decide (coP h l ≠ 0)) (coP h l)).toArray⟩ : ByteArray) := ⟨_, rfl⟩
  obtain ⟨ex, hex⟩ : ∃ ex, ex = exP h := ⟨_, rfl⟩
  rw [← hX] at HST ⊢
  rw [← hex] at HBI ⊢
  have HS := Lib.hid hS
  clear hS h1 h2 l1 l2 n30 n31 n3 hN hX hex
  go_enter Tryd.func11, Tryd.ntmps11
  go_wp2_with fail
  refine (HN.out _).mono ?_
  rintro e w1 ⟨rfl, hb1⟩
  have HS1 := Lib.hid (HS.out.keep hb1)
  have HB1 := Lib.hid hb1
  clear hb1
  go_wp2_with fail
  refine (HBI.out _).mono ?_
  rintro e w2 ⟨B, rfl, hir, hb2⟩
  have HS2 := Lib.hid (HS1.out.keep hb2)
  have HB2 := Lib.hid (bstep HB1.out HB1.out.size hb2)
  have HIR := Lib.hid hir
  have g0 := HS2.out.g0
  have g1 := HS2.out.g1
  have hl0 := World.block_lt_of_cell? _ _ g0
  have hl1 := World.block_lt_of_cell? _ _ g1
  clear hb2 HN HBI hir
  go_wp2_with fail
  refine (is_nil a0 _).mono ?_
  rintro e w3 ⟨rfl, rfl⟩
  go_wp2_with fail
  refine (is_nil a1 _).mono ?_
  rintro e w3 ⟨rfl, rfl⟩
  go_wp2_with fail
  refine (HST.out _ _ HIR.out).mono ?_
  rintro e w4 ⟨rfl, hb4⟩
  have HB4 := Lib.hid (bstep HB2.out HB2.out.size hb4)
  clear hb4
  go_wp2_with fail
  go_ret3
  exact ⟨rfl, HB4.out⟩
end Go.Proofs.YtjjfdamlicoeeaaDoor.X
