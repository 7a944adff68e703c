/- Contract of the reference's function that writes a value. -/
import Derived.Test.YtohfgfbfohkkkaaGreatDoorDoc7
set_option linter.unusedVariables false
set_option linter.unusedSimpArgs false
set_option maxRecDepth 100000
namespace Go.Proofs.YtohfgfbfohkkkaaGreatDoor.X
open Go.RowKit
theorem wrap_u64 (n : Int) : IntKind.u64.wrap n = n % 18446744073709551616 := by
  simp [IntKind.wrap, IntKind.bits, IntKind.signed]

variable {E : TypeId} in
theorem OB.one (X : World) (base : Nat) (u : UInt8) (x : Value) (hx : x = .int .u8 u.toNat) (hb : base ≤ X.heap.size) (q : Question) (t : Nat) (hq : q = .appendCap 1 0 E) :
    OB E ((X.alloc (.cells (#[x] ++ Builtin.zeroCells #[.int .u8 0] (q.cut t - 1)) E)).drew) base (.slice (some ⟨X.heap.size, 0, none⟩) 1 (q.cut t)) [u] := by
  subst hx hq
  have h1 : 1 ≤ (Question.appendCap 1 0 E).cut t := by simp [Question.cut]
  have h2 : (Question.appendCap 1 0 E).cut t ≤ maxLen := by
    have : t % (2 ^ 63 - 1) < 2 ^ 63 - 1 := Nat.mod_lt _ (by decide)
    simp only [Question.cut, maxLen]; omega
  refine ⟨⟨by simp [byv], .inr ⟨X.heap.size, _, (#[.int .u8 u.toNat] ++ Builtin.zeroCells #[.int .u8 0] ((Question.appendCap 1 0 E).cut t - 1)), rfl, hb, ?_, h1, h2, ?_, ?_⟩⟩, by simp⟩
  · exact Array.getElem?_push_size
  · simp [Builtin.zeroCells]; omega
  · simp [byv]

set_option maxRecDepth 100000 in
set_option maxHeartbeats 60000000 in
theorem docValue_step (N : Nat) (hB : BytesUpto N) : ValueUpto (N + 1) := by
  intro v cs W hw hl hv
  obtain ⟨k, text, more, n, bits, high, b, kids⟩ := v
  simp only [RV] at hv
  obtain ⟨A, c, K, d, rfl, hs, hd, hd2, hk⟩ := hv
  have hwk : wtK kids < N := by simp only [wt] at hw; omega
  have hkk : ∀ w1 : World, Below W.heap.size W w1 → (kids = [] ∨ ∃ blk off, K = some ⟨blk, off, none⟩ ∧ RKs w1 blk off kids) := fun w1 hb => by
    rcases hk with hk | ⟨blk, off, e, hk⟩
    · exact .inl hk
    · exact .inr ⟨blk, off, e, hk.keep hb⟩
  have HKK : Hid (∀ w1 : World, Below W.heap.size W w1 → (kids = [] ∨ ∃ blk off, K = some ⟨blk, off, none⟩ ∧ RKs w1 blk off kids)) := Lib.hid hkk
  have HBN := Lib.hid hB
  clear hkk hk hB
  by_cases k1 : k = 1
  · subst k1
    have HF : Hid (∀ v1 w1, Made W (i64 bits) v1 w1 → After (Made W (docValue (.mk 1 text more n bits high b kids))) (.returned v1) w1) := Lib.hid fun v1 w1 h => ⟨v1, rfl, by rw [show docValue (.mk 1 text more n bits high b kids) = i64 bits from by simp [docValue, docBytesOf]]; exact h⟩
    go_enter Tryz.func18, Tryz.ntmps18
    have hb0 : Below (W.heap.size + 1) (W.alloc (.cells #[.int .i64 1, .string text, .string more, .int .i64 n, .int .u64 bits, .int .u64 high, .slice A b.length c, .slice K kids.length d] 45)) _ := Below.refl _ _
    have hs0 := hs.alloc (.cells #[.int .i64 1, .string text, .string more, .int .i64 n, .int .u64 bits, .int .u64 high, .slice A b.length c, .slice K kids.length d] 45)
    go_wp2_with fail
    refine (docInt64 _ (W.heap.size + 1) (.slice none 0 0) [] bits (OB.nil _ _) (by simp) (by simp)).mono ?_
    rintro e w1 ⟨v1, rfl, h1⟩
    have hb1 := hb0.trans (h1.kept (OB.nil _ _) (by first | omega | (simp; done) | (simp; omega)))
    have hz1 := boxs hb1
    go_wp2_with fail
    go_ret
    exact HF.out v1 w1 ⟨by simpa using h1.own.mono (Nat.le_succ _), boxb hb1⟩
  by_cases k17 : k = 17
  · subst k17
    clear k1
    have HF : Hid (∀ v1 w1, Made W (i64 bits) v1 w1 → After (Made W (docValue (.mk 17 text more n bits high b kids))) (.returned v1) w1) := Lib.hid fun v1 w1 h => ⟨v1, rfl, by rw [show docValue (.mk 17 text more n bits high b kids) = i64 bits from by simp [docValue, docBytesOf]]; exact h⟩
    go_enter Tryz.func18, Tryz.ntmps18
    have hb0 : Below (W.heap.size + 1) (W.alloc (.cells #[.int .i64 17, .string text, .string more, .int .i64 n, .int .u64 bits, .int .u64 high, .slice A b.length c, .slice K kids.length d] 45)) _ := Below.refl _ _
    have hs0 := hs.alloc (.cells #[.int .i64 17, .string text, .string more, .int .i64 n, .int .u64 bits, .int .u64 high, .slice A b.length c, .slice K kids.length d] 45)
    go_wp2_with fail
    refine (docInt64 _ (W.heap.size + 1) (.slice none 0 0) [] bits (OB.nil _ _) (by simp) (by simp)).mono ?_
    rintro e w1 ⟨v1, rfl, h1⟩
    have hb1 := hb0.trans (h1.kept (OB.nil _ _) (by first | omega | (simp; done) | (simp; omega)))
    have hz1 := boxs hb1
    go_wp2_with fail
    go_ret
    exact HF.out v1 w1 ⟨by simpa using h1.own.mono (Nat.le_succ _), boxb hb1⟩
  by_cases k2 : k = 2
  · subst k2
    clear k1 k17
    have hlen := hl; simp [docValue, txt, i32, bs] at hlen
    have HF : Hid (∀ v1 w1, Made W (txt (bs text)) v1 w1 → After (Made W (docValue (.mk 2 text more n bits high b kids))) (.returned v1) w1) := Lib.hid fun v1 w1 h => ⟨v1, rfl, by rw [show docValue (.mk 2 text more n bits high b kids) = txt (bs text) from by simp [docValue, docBytesOf]]; exact h⟩
    go_enter Tryz.func18, Tryz.ntmps18
    have hb0 : Below (W.heap.size + 1) (W.alloc (.cells #[.int .i64 2, .string text, .string more, .int .i64 n, .int .u64 bits, .int .u64 high, .slice A b.length c, .slice K kids.length d] 45)) _ := Below.refl _ _
    have hs0 := hs.alloc (.cells #[.int .i64 2, .string text, .string more, .int .i64 n, .int .u64 bits, .int .u64 high, .slice A b.length c, .slice K kids.length d] 45)
    go_wp2_with fail
    refine (docText _ (W.heap.size + 1) (.slice none 0 0) [] text (OB.nil _ _) (by simp) (by simp) (by omega)).mono ?_
    rintro e w1 ⟨v1, rfl, h1⟩
    have hb1 := hb0.trans (h1.kept (OB.nil _ _) (by first | omega | (simp; done) | (simp; omega)))
    have hz1 := boxs hb1
    go_wp2_with fail
    go_ret
    exact HF.out v1 w1 ⟨by simpa [bs] using h1.own.mono (Nat.le_succ _), boxb hb1⟩
  by_cases k13 : k = 13
  · subst k13
    clear k1 k17 k2
    have hlen := hl; simp [docValue, txt, i32, bs] at hlen
    have HF : Hid (∀ v1 w1, Made W (txt (bs text)) v1 w1 → After (Made W (docValue (.mk 13 text more n bits high b kids))) (.returned v1) w1) := Lib.hid fun v1 w1 h => ⟨v1, rfl, by rw [show docValue (.mk 13 text more n bits high b kids) = txt (bs text) from by simp [docValue, docBytesOf]]; exact h⟩
    go_enter Tryz.func18, Tryz.ntmps18
    have hb0 : Below (W.heap.size + 1) (W.alloc (.cells #[.int .i64 13, .string text, .string more, .int .i64 n, .int .u64 bits, .int .u64 high, .slice A b.length c, .slice K kids.length d] 45)) _ := Below.refl _ _
    have hs0 := hs.alloc (.cells #[.int .i64 13, .string text, .string more, .int .i64 n, .int .u64 bits, .int .u64 high, .slice A b.length c, .slice K kids.length d] 45)
    go_wp2_with fail
    refine (docText _ (W.heap.size + 1) (.slice none 0 0) [] text (OB.nil _ _) (by simp) (by simp) (by omega)).mono ?_
    rintro e w1 ⟨v1, rfl, h1⟩
    have hb1 := hb0.trans (h1.kept (OB.nil _ _) (by first | omega | (simp; done) | (simp; omega)))
    have hz1 := boxs hb1
    go_wp2_with fail
    go_ret
    exact HF.out v1 w1 ⟨by simpa [bs] using h1.own.mono (Nat.le_succ _), boxb hb1⟩
  by_cases k14 : k = 14
  · subst k14
    clear k1 k17 k2 k13
    have hlen := hl; simp [docValue, txt, i32, bs] at hlen
    have HF : Hid (∀ v1 w1, Made W (txt (bs text)) v1 w1 → After (Made W (docValue (.mk 14 text more n bits high b kids))) (.returned v1) w1) := Lib.hid fun v1 w1 h => ⟨v1, rfl, by rw [show docValue (.mk 14 text more n bits high b kids) = txt (bs text) from by simp [docValue, docBytesOf]]; exact h⟩
    go_enter Tryz.func18, Tryz.ntmps18
    have hb0 : Below (W.heap.size + 1) (W.alloc (.cells #[.int .i64 14, .string text, .string more, .int .i64 n, .int .u64 bits, .int .u64 high, .slice A b.length c, .slice K kids.length d] 45)) _ := Below.refl _ _
    have hs0 := hs.alloc (.cells #[.int .i64 14, .string text, .string more, .int .i64 n, .int .u64 bits, .int .u64 high, .slice A b.length c, .slice K kids.length d] 45)
    go_wp2_with fail
    refine (docText _ (W.heap.size + 1) (.slice none 0 0) [] text (OB.nil _ _) (by simp) (by simp) (by omega)).mono ?_
    rintro e w1 ⟨v1, rfl, h1⟩
    have hb1 := hb0.trans (h1.kept (OB.nil _ _) (by first | omega | (simp; done) | (simp; omega)))
    have hz1 := boxs hb1
    go_wp2_with fail
    go_ret
    exact HF.out v1 w1 ⟨by simpa [bs] using h1.own.mono (Nat.le_succ _), boxb hb1⟩
  by_cases k3 : k = 3
  · subst k3
    clear k1 k17 k2 k13 k14
    have hlen := hl; simp [docValue, i32] at hlen
    have HF : Hid (∀ v1 w1, Made W (docBytesOf kids) v1 w1 → After (Made W (docValue (.mk 3 text more n bits high b kids))) (.returned v1) w1) := Lib.hid fun v1 w1 h => ⟨v1, rfl, by rw [show docValue (.mk 3 text more n bits high b kids) = docBytesOf kids from by simp [docValue, docBytesOf]]; exact h⟩
    go_enter Tryz.func18, Tryz.ntmps18
    have hb0 : Below (W.heap.size + 1) (W.alloc (.cells #[.int .i64 3, .string text, .string more, .int .i64 n, .int .u64 bits, .int .u64 high, .slice A b.length c, .slice K kids.length d] 45)) _ := Below.refl _ _
    have hs0 := hs.alloc (.cells #[.int .i64 3, .string text, .string more, .int .i64 n, .int .u64 bits, .int .u64 high, .slice A b.length c, .slice K kids.length d] 45)
    go_wp2_with fail
    refine (HBN.out kids K d _ hwk (by omega) hd hd2 (by exact HKK.out _ (balloc (Below.refl _ _) (Nat.le_refl _) _))).mono ?_
    rintro e w1 ⟨v1, rfl, ho1, hb1⟩
    replace hb1 := hb1.mono (B' := W.heap.size + 1) (by simp)
    go_wp2_with fail
    go_ret
    exact HF.out v1 w1 ⟨ho1.mono (by simp), boxb hb1⟩
  by_cases k4 : k = 4
  · subst k4
    clear k1 k17 k2 k13 k14 k3
    have hlen := hl; simp [docValue, i32] at hlen
    have HF : Hid (∀ v1 w1, Made W (docBytesOf kids) v1 w1 → After (Made W (docValue (.mk 4 text more n bits high b kids))) (.returned v1) w1) := Lib.hid fun v1 w1 h => ⟨v1, rfl, by rw [show docValue (.mk 4 text more n bits high b kids) = docBytesOf kids from by simp [docValue, docBytesOf]]; exact h⟩
    go_enter Tryz.func18, Tryz.ntmps18
    have hb0 : Below (W.heap.size + 1) (W.alloc (.cells #[.int .i64 4, .string text, .string more, .int .i64 n, .int .u64 bits, .int .u64 high, .slice A b.length c, .slice K kids.length d] 45)) _ := Below.refl _ _
    have hs0 := hs.alloc (.cells #[.int .i64 4, .string text, .string more, .int .i64 n, .int .u64 bits, .int .u64 high, .slice A b.length c, .slice K kids.length d] 45)
    go_wp2_with fail
    refine (HBN.out kids K d _ hwk (by omega) hd hd2 (by exact HKK.out _ (balloc (Below.refl _ _) (Nat.le_refl _) _))).mono ?_
    rintro e w1 ⟨v1, rfl, ho1, hb1⟩
    replace hb1 := hb1.mono (B' := W.heap.size + 1) (by simp)
    go_wp2_with fail
    go_ret
    exact HF.out v1 w1 ⟨ho1.mono (by simp), boxb hb1⟩
  by_cases k5 : k = 5
  · subst k5
    clear k1 k17 k2 k13 k14 k3 k4
    by_cases n2 : n = 2
    · subst n2
      have hlen := hl; simp [docValue, i32] at hlen
      have HF : Hid (∀ v1 w1, Made W (i32 ((b.length : Int) + 4) ++ [2] ++ i32 (b.length : Int) ++ b) v1 w1 → After (Made W (docValue (.mk 5 text more 2 bits high b kids))) (.returned v1) w1) := Lib.hid fun v1 w1 h => ⟨v1, rfl, by rw [show docValue (.mk 5 text more 2 bits high b kids) = i32 ((b.length : Int) + 4) ++ [2] ++ i32 (b.length : Int) ++ b from by simp [docValue]]; exact h⟩
      go_enter Tryz.func18, Tryz.ntmps18
      have hb0 : Below (W.heap.size + 1) (W.alloc (.cells #[.int .i64 5, .string text, .string more, .int .i64 2, .int .u64 bits, .int .u64 high, .slice A b.length c, .slice K kids.length d] 45)) _ := Below.refl _ _
      have hs0 := hs.alloc (.cells #[.int .i64 5, .string text, .string more, .int .i64 2, .int .u64 bits, .int .u64 high, .slice A b.length c, .slice K kids.length d] 45)
      go_wp2_with fail
      refine (docInt32 _ (W.heap.size + 1) (.slice none 0 0) [] ((b.length : Int) + 4) (OB.nil _ _) (by simp) (by simp)).mono ?_
      rintro e w1 ⟨v1, rfl, h1⟩
      have hb1 := hb0.trans (h1.kept (OB.nil _ _) (by first | omega | (simp; done) | (simp; omega)))
      have hz1 := boxs hb1
      have q1_6 := boxc hb1 6
      simp only [List.getElem?_cons_succ, List.getElem?_cons_zero] at q1_6
      go_wp2_with (first | (refine wp_app (.tmp 42) (.tmp 43) 22 rfl rfl infoB Tryz.underlying22 _ (W.heap.size + 1) _ ([] ++ i32 ((b.length : Int) + 4)) _ _ [2] rfl rfl ((h1.own).alloc _) (SB.lit_ _ _ _ ?h1 (by first | (simp; done) | exact Nat.le_of_ble_eq_true rfl) _ rfl) (by first | omega | (simp; done) | (simp; omega)) (by first | omega | (simp [i32, txt, bs]; done) | (simp [i32, txt, bs]; omega)) ?_; (case h1 => simp [byv, ub_toNat]); intro v2 w2 h2; have hb2 := hb1.trans ((h2.pre (balloc (Below.refl _ _) (Nat.le_refl _) _)).kept h1.own (by omega)); have hz2 := boxs hb2; have q2_6 := boxc hb2 6; simp only [List.getElem?_cons_succ, List.getElem?_cons_zero] at q2_6) | fail)
      go_wp2_with fail
      refine (docInt32 w2 (W.heap.size + 1) v2 ([] ++ i32 ((b.length : Int) + 4) ++ [2]) (b.length : Int) h2.own (by omega) (by simp [i32, txt, bs])).mono ?_
      rintro e w3 ⟨v3, rfl, h3⟩
      have hb3 := hb2.trans (h3.kept (h2.own) (by first | omega | (simp; done) | (simp; omega)))
      have hz3 := boxs hb3
      have q3_6 := boxc hb3 6
      simp only [List.getElem?_cons_succ, List.getElem?_cons_zero] at q3_6
      have hs3 := hs0.keepB hb3 (by simp)
      go_wp2_with (first | (refine wp_app (.tmp 57) (.tmp 59) 22 rfl rfl infoB Tryz.underlying22 _ (W.heap.size + 1) _ ([] ++ i32 ((b.length : Int) + 4) ++ [2] ++ i32 (b.length : Int)) A c (b) rfl rfl (h3.own) (hs3) (by first | omega | (simp; done) | (simp; omega)) (by first | omega | (simp [i32, txt, bs]; done) | (simp [i32, txt, bs]; omega)) ?_; intro v4 w4 h4; have hb4 := hb3.trans (h4.kept h3.own (by omega))) | fail)
      go_ret
      exact HF.out v4 w4 ⟨by simpa using h4.own.mono (Nat.le_succ _), boxb hb4⟩
    · have en2 : (n == 2) = false := by simpa using n2
      have hlen := hl; simp [docValue, i32, n2] at hlen
      have HF : Hid (∀ v1 w1, Made W (i32 (b.length : Int) ++ [ub n] ++ b) v1 w1 → After (Made W (docValue (.mk 5 text more n bits high b kids))) (.returned v1) w1) := Lib.hid fun v1 w1 h => ⟨v1, rfl, by rw [show docValue (.mk 5 text more n bits high b kids) = i32 (b.length : Int) ++ [ub n] ++ b from by simp [docValue, n2]]; exact h⟩
      go_enter Tryz.func18, Tryz.ntmps18
      have hb0 : Below (W.heap.size + 1) (W.alloc (.cells #[.int .i64 5, .string text, .string more, .int .i64 n, .int .u64 bits, .int .u64 high, .slice A b.length c, .slice K kids.length d] 45)) _ := Below.refl _ _
      have hs0 := hs.alloc (.cells #[.int .i64 5, .string text, .string more, .int .i64 n, .int .u64 bits, .int .u64 high, .slice A b.length c, .slice K kids.length d] 45)
      go_wp2_with fail
      refine (docInt32 _ (W.heap.size + 1) (.slice none 0 0) [] (b.length : Int) (OB.nil _ _) (by simp) (by simp)).mono ?_
      rintro e w1 ⟨v1, rfl, h1⟩
      have hb1 := hb0.trans (h1.kept (OB.nil _ _) (by first | omega | (simp; done) | (simp; omega)))
      have hz1 := boxs hb1
      have q1_3 := boxc hb1 3
      have q1_6 := boxc hb1 6
      simp only [List.getElem?_cons_succ, List.getElem?_cons_zero] at q1_3 q1_6
      go_wp2_with (first | (refine wp_app (.tmp 51) (.tmp 55) 22 rfl rfl infoB Tryz.underlying22 _ (W.heap.size + 1) _ ([] ++ i32 (b.length : Int)) _ _ [ub n] rfl rfl ((h1.own).alloc _) (SB.lit_ _ _ _ ?h1 (by first | (simp; done) | exact Nat.le_of_ble_eq_true rfl) _ rfl) (by first | omega | (simp; done) | (simp; omega)) (by first | omega | (simp [i32, txt, bs]; done) | (simp [i32, txt, bs]; omega)) ?_; (case h1 => simp [byv, ub_toNat]); intro v2 w2 h2; have hb2 := hb1.trans ((h2.pre (balloc (Below.refl _ _) (Nat.le_refl _) _)).kept h1.own (by omega)); have hz2 := boxs hb2; have hs2 := hs0.keepB hb2 (by simp); have q2_6 := boxc hb2 6; simp only [List.getElem?_cons_succ, List.getElem?_cons_zero] at q2_6) | (refine wp_app (.tmp 57) (.tmp 59) 22 rfl rfl infoB Tryz.underlying22 _ (W.heap.size + 1) _ ([] ++ i32 (b.length : Int) ++ [ub n]) A c (b) rfl rfl (h2.own) (hs2) (by first | omega | (simp; done) | (simp; omega)) (by first | omega | (simp [i32, txt, bs]; done) | (simp [i32, txt, bs]; omega)) ?_; intro v4 w4 h4; have hb4 := hb2.trans (h4.kept h2.own (by omega))) | fail)
      go_ret
      exact HF.out v4 w4 ⟨by simpa using h4.own.mono (Nat.le_succ _), boxb hb4⟩
  by_cases k7 : k = 7
  · subst k7
    clear k1 k17 k2 k13 k14 k3 k4 k5
    have hlen := hl; simp [docValue] at hlen
    have HF : Hid (∀ v1 w1, Made W (b) v1 w1 → After (Made W (docValue (.mk 7 text more n bits high b kids))) (.returned v1) w1) := Lib.hid fun v1 w1 h => ⟨v1, rfl, by rw [show docValue (.mk 7 text more n bits high b kids) = b from by simp [docValue, docBytesOf]]; exact h⟩
    go_enter Tryz.func18, Tryz.ntmps18
    have hb0 : Below (W.heap.size + 1) (W.alloc (.cells #[.int .i64 7, .string text, .string more, .int .i64 n, .int .u64 bits, .int .u64 high, .slice A b.length c, .slice K kids.length d] 45)) _ := Below.refl _ _
    have hs0 := hs.alloc (.cells #[.int .i64 7, .string text, .string more, .int .i64 n, .int .u64 bits, .int .u64 high, .slice A b.length c, .slice K kids.length d] 45)
    go_wp2_with (first | (refine wp_app (.tmp 63) (.tmp 65) 22 rfl rfl infoB Tryz.underlying22 _ (W.heap.size + 1) _ ([]) A c (b) rfl rfl (OB.nil _ _) (hs0) (by first | omega | (simp; done) | (simp; omega)) (by first | omega | (simp [i32, txt, bs]; done) | (simp [i32, txt, bs]; omega)) ?_; intro v1 w1 h1; have hb1 := hb0.trans (h1.kept (OB.nil _ _) (by simp))) | fail)
    go_ret
    exact HF.out v1 w1 ⟨by simpa using h1.own.mono (Nat.le_succ _), boxb hb1⟩
  by_cases k8 : k = 8
  · subst k8
    clear k1 k17 k2 k13 k14 k3 k4 k5 k7
    have HF : Hid (∀ v1 w1, Made W ([ub n]) v1 w1 → After (Made W (docValue (.mk 8 text more n bits high b kids))) (.returned v1) w1) := Lib.hid fun v1 w1 h => ⟨v1, rfl, by rw [show docValue (.mk 8 text more n bits high b kids) = [ub n] from by simp [docValue, docBytesOf]]; exact h⟩
    go_enter Tryz.func18, Tryz.ntmps18
    have hb0 : Below (W.heap.size + 1) (W.alloc (.cells #[.int .i64 8, .string text, .string more, .int .i64 n, .int .u64 bits, .int .u64 high, .slice A b.length c, .slice K kids.length d] 45)) _ := Below.refl _ _
    have hs0 := hs.alloc (.cells #[.int .i64 8, .string text, .string more, .int .i64 n, .int .u64 bits, .int .u64 high, .slice A b.length c, .slice K kids.length d] 45)
    go_wp2_with (first | (refine wp_app (.tmp 69) (.tmp 73) 22 rfl rfl infoB Tryz.underlying22 _ (W.heap.size + 1) (.slice none 0 0) [] _ _ [ub n] rfl rfl ?a1 ?a2 ?a3 ?a4 ?_) | fail)
    case a1 => exact OB.nil _ _
    case a2 => have hh := SB.lit_ (E := 5) (W.alloc (.cells #[.int .i64 8, .string text, .string more, .int .i64 n, .int .u64 bits, .int .u64 high, .slice A b.length c, .slice K kids.length d] 45)) [ub n] [.int .u8 (n % 256)] (by simp [byv, ub_toNat]) (by show 1 ≤ 9223372036854775807; omega) 1 rfl; rw [show (W.alloc (.cells #[.int .i64 8, .string text, .string more, .int .i64 n, .int .u64 bits, .int .u64 high, .slice A b.length c, .slice K kids.length d] 45)).heap.size = W.heap.size + 1 from by simp] at hh; exact hh
    case a3 => first | omega | (simp; done) | (simp; omega)
    case a4 => show 0 + 1 ≤ 140737488355328; omega
    intro v1 w1 h1; have hb1 := hb0.trans ((h1.pre (balloc (Below.refl _ _) (Nat.le_refl _) _)).kept (OB.nil _ _) (by simp))
    go_wp2
    go_ret
    exact HF.out v1 w1 ⟨by simpa using h1.own.mono (Nat.le_succ _), boxb hb1⟩
  by_cases k9 : k = 9
  · subst k9
    clear k1 k17 k2 k13 k14 k3 k4 k5 k7 k8
    have HF : Hid (∀ v1 w1, Made W (i64 (n % 18446744073709551616)) v1 w1 → After (Made W (docValue (.mk 9 text more n bits high b kids))) (.returned v1) w1) := Lib.hid fun v1 w1 h => ⟨v1, rfl, by rw [show docValue (.mk 9 text more n bits high b kids) = i64 (n % 18446744073709551616) from by simp [docValue, docBytesOf]]; exact h⟩
    go_enter Tryz.func18, Tryz.ntmps18
    have hb0 : Below (W.heap.size + 1) (W.alloc (.cells #[.int .i64 9, .string text, .string more, .int .i64 n, .int .u64 bits, .int .u64 high, .slice A b.length c, .slice K kids.length d] 45)) _ := Below.refl _ _
    have hs0 := hs.alloc (.cells #[.int .i64 9, .string text, .string more, .int .i64 n, .int .u64 bits, .int .u64 high, .slice A b.length c, .slice K kids.length d] 45)
    go_wp2_with fail
    refine (docInt64 _ (W.heap.size + 1) (.slice none 0 0) [] _ (OB.nil _ _) (by simp) (by simp)).mono ?_
    rintro e w1 ⟨v1, rfl, h1⟩
    have hb1 := hb0.trans (h1.kept (OB.nil _ _) (by first | omega | (simp; done) | (simp; omega)))
    have hz1 := boxs hb1
    go_wp2_with fail
    go_ret
    exact HF.out v1 w1 ⟨by simpa [wrap_u64] using h1.own.mono (Nat.le_succ _), boxb hb1⟩
  by_cases k18 : k = 18
  · subst k18
    clear k1 k17 k2 k13 k14 k3 k4 k5 k7 k8 k9
    have HF : Hid (∀ v1 w1, Made W (i64 (n % 18446744073709551616)) v1 w1 → After (Made W (docValue (.mk 18 text more n bits high b kids))) (.returned v1) w1) := Lib.hid fun v1 w1 h => ⟨v1, rfl, by rw [show docValue (.mk 18 text more n bits high b kids) = i64 (n % 18446744073709551616) from by simp [docValue, docBytesOf]]; exact h⟩
    go_enter Tryz.func18, Tryz.ntmps18
    have hb0 : Below (W.heap.size + 1) (W.alloc (.cells #[.int .i64 18, .string text, .string more, .int .i64 n, .int .u64 bits, .int .u64 high, .slice A b.length c, .slice K kids.length d] 45)) _ := Below.refl _ _
    have hs0 := hs.alloc (.cells #[.int .i64 18, .string text, .string more, .int .i64 n, .int .u64 bits, .int .u64 high, .slice A b.length c, .slice K kids.length d] 45)
    go_wp2_with fail
    refine (docInt64 _ (W.heap.size + 1) (.slice none 0 0) [] _ (OB.nil _ _) (by simp) (by simp)).mono ?_
    rintro e w1 ⟨v1, rfl, h1⟩
    have hb1 := hb0.trans (h1.kept (OB.nil _ _) (by first | omega | (simp; done) | (simp; omega)))
    have hz1 := boxs hb1
    go_wp2_with fail
    go_ret
    exact HF.out v1 w1 ⟨by simpa [wrap_u64] using h1.own.mono (Nat.le_succ _), boxb hb1⟩
  by_cases k16 : k = 16
  · subst k16
    clear k1 k17 k2 k13 k14 k3 k4 k5 k7 k8 k9 k18
    have HF : Hid (∀ v1 w1, Made W (i32 n) v1 w1 → After (Made W (docValue (.mk 16 text more n bits high b kids))) (.returned v1) w1) := Lib.hid fun v1 w1 h => ⟨v1, rfl, by rw [show docValue (.mk 16 text more n bits high b kids) = i32 n from by simp [docValue, docBytesOf]]; exact h⟩
    go_enter Tryz.func18, Tryz.ntmps18
    have hb0 : Below (W.heap.size + 1) (W.alloc (.cells #[.int .i64 16, .string text, .string more, .int .i64 n, .int .u64 bits, .int .u64 high, .slice A b.length c, .slice K kids.length d] 45)) _ := Below.refl _ _
    have hs0 := hs.alloc (.cells #[.int .i64 16, .string text, .string more, .int .i64 n, .int .u64 bits, .int .u64 high, .slice A b.length c, .slice K kids.length d] 45)
    go_wp2_with fail
    refine (docInt32 _ (W.heap.size + 1) (.slice none 0 0) [] _ (OB.nil _ _) (by simp) (by simp)).mono ?_
    rintro e w1 ⟨v1, rfl, h1⟩
    have hb1 := hb0.trans (h1.kept (OB.nil _ _) (by first | omega | (simp; done) | (simp; omega)))
    have hz1 := boxs hb1
    go_wp2_with fail
    go_ret
    exact HF.out v1 w1 ⟨by simpa using h1.own.mono (Nat.le_succ _), boxb hb1⟩
  by_cases k11 : k = 11
  · subst k11
    clear k1 k17 k2 k13 k14 k3 k4 k5 k7 k8 k9 k18 k16
    have hlen := hl; simp [docValue, bs] at hlen
    have HF : Hid (∀ v1 w1, Made W (bs text ++ [0] ++ bs more ++ [0]) v1 w1 → After (Made W (docValue (.mk 11 text more n bits high b kids))) (.returned v1) w1) := Lib.hid fun v1 w1 h => ⟨v1, rfl, by rw [show docValue (.mk 11 text more n bits high b kids) = bs text ++ [0] ++ bs more ++ [0] from by simp [docValue, docBytesOf]]; exact h⟩
    go_enter Tryz.func18, Tryz.ntmps18
    have hb0 : Below (W.heap.size + 1) (W.alloc (.cells #[.int .i64 11, .string text, .string more, .int .i64 n, .int .u64 bits, .int .u64 high, .slice A b.length c, .slice K kids.length d] 45)) _ := Below.refl _ _
    have hs0 := hs.alloc (.cells #[.int .i64 11, .string text, .string more, .int .i64 n, .int .u64 bits, .int .u64 high, .slice A b.length c, .slice K kids.length d] 45)
    go_wp2_with (first | (refine wp_app_str (.tmp 91) (.tmp 93) 22 9 rfl rfl infoB Tryz.underlying22 Tryz.underlying9 _ (W.heap.size + 1) _ ([]) text rfl rfl (OB.nil _ _) (by first | omega | (simp; done) | (simp; omega)) (by first | omega | (simp [i32, txt, bs]; done) | (simp [i32, txt, bs]; omega)) ?_; intro v1 w1 h1; have hb1 := hb0.trans (h1.kept (OB.nil _ _) (by simp)); have hz1 := boxs hb1; have q1_2 := boxc hb1 2; simp only [List.getElem?_cons_succ, List.getElem?_cons_zero] at q1_2) | (refine wp_app (.tmp 95) (.tmp 96) 22 rfl rfl infoB Tryz.underlying22 _ (W.heap.size + 1) _ ([] ++ bs text) _ _ [0] rfl rfl ((h1.own).alloc _) (SB.lit_ _ _ _ ?h1 (by first | (simp; done) | exact Nat.le_of_ble_eq_true rfl) _ rfl) (by first | omega | (simp; done) | (simp; omega)) (by first | omega | (simp [i32, txt, bs]; done) | (simp [i32, txt, bs]; omega)) ?_; (case h1 => simp [byv, ub_toNat]); intro v2 w2 h2; have hb2 := hb1.trans ((h2.pre (balloc (Below.refl _ _) (Nat.le_refl _) _)).kept h1.own (by omega)); have hz2 := boxs hb2; have q2_2 := boxc hb2 2; simp only [List.getElem?_cons_succ, List.getElem?_cons_zero] at q2_2) | (refine wp_app_str (.tmp 98) (.tmp 100) 22 9 rfl rfl infoB Tryz.underlying22 Tryz.underlying9 _ (W.heap.size + 1) _ ([] ++ bs text ++ [0]) more rfl rfl (h2.own) (by first | omega | (simp; done) | (simp; omega)) (by first | omega | (simp [i32, txt, bs]; done) | (simp [i32, txt, bs]; omega)) ?_; intro v3 w3 h3; have hb3 := hb2.trans (h3.kept h2.own (by omega)); have hz3 := boxs hb3) | (refine wp_app (.tmp 102) (.tmp 103) 22 rfl rfl infoB Tryz.underlying22 _ (W.heap.size + 1) _ ([] ++ bs text ++ [0] ++ bs more) _ _ [0] rfl rfl ((h3.own).alloc _) (SB.lit_ _ _ _ ?h1 (by first | (simp; done) | exact Nat.le_of_ble_eq_true rfl) _ rfl) (by first | omega | (simp; done) | (simp; omega)) (by first | omega | (simp [i32, txt, bs]; done) | (simp [i32, txt, bs]; omega)) ?_; (case h1 => simp [byv, ub_toNat]); intro v4 w4 h4; have hb4 := hb3.trans ((h4.pre (balloc (Below.refl _ _) (Nat.le_refl _) _)).kept h3.own (by omega))) | fail)
    go_ret
    exact HF.out v4 w4 ⟨by simpa [bs] using h4.own.mono (Nat.le_succ _), boxb hb4⟩
  by_cases k12 : k = 12
  · subst k12
    clear k1 k17 k2 k13 k14 k3 k4 k5 k7 k8 k9 k18 k16 k11
    have hlen := hl; simp [docValue, txt, i32, bs] at hlen
    have HF : Hid (∀ v1 w1, Made W (txt (bs text) ++ b) v1 w1 → After (Made W (docValue (.mk 12 text more n bits high b kids))) (.returned v1) w1) := Lib.hid fun v1 w1 h => ⟨v1, rfl, by rw [show docValue (.mk 12 text more n bits high b kids) = txt (bs text) ++ b from by simp [docValue, docBytesOf]]; exact h⟩
    go_enter Tryz.func18, Tryz.ntmps18
    have hb0 : Below (W.heap.size + 1) (W.alloc (.cells #[.int .i64 12, .string text, .string more, .int .i64 n, .int .u64 bits, .int .u64 high, .slice A b.length c, .slice K kids.length d] 45)) _ := Below.refl _ _
    have hs0 := hs.alloc (.cells #[.int .i64 12, .string text, .string more, .int .i64 n, .int .u64 bits, .int .u64 high, .slice A b.length c, .slice K kids.length d] 45)
    go_wp2_with fail
    refine (docText _ (W.heap.size + 1) (.slice none 0 0) [] text (OB.nil _ _) (by simp) (by simp) (by omega)).mono ?_
    rintro e w1 ⟨v1, rfl, h1⟩
    have hb1 := hb0.trans (h1.kept (OB.nil _ _) (by first | omega | (simp; done) | (simp; omega)))
    have hz1 := boxs hb1
    have q1_6 := boxc hb1 6
    simp only [List.getElem?_cons_succ, List.getElem?_cons_zero] at q1_6
    have hs1 := hs0.keepB hb1 (by simp)
    go_wp2_with (first | (refine wp_app (.tmp 111) (.tmp 113) 22 rfl rfl infoB Tryz.underlying22 _ (W.heap.size + 1) _ ([] ++ txt (bs text)) A c (b) rfl rfl (h1.own) (hs1) (by first | omega | (simp; done) | (simp; omega)) (by first | omega | (simp [i32, txt, bs]; done) | (simp [i32, txt, bs]; omega)) ?_; intro v2 w2 h2; have hb2 := hb1.trans (h2.kept h1.own (by omega))) | fail)
    go_ret
    exact HF.out v2 w2 ⟨by simpa using h2.own.mono (Nat.le_succ _), boxb hb2⟩
  by_cases k15 : k = 15
  · subst k15
    clear k1 k17 k2 k13 k14 k3 k4 k5 k7 k8 k9 k18 k16 k11 k12
    have hlen : (txt (bs text)).length + (docBytesOf kids).length ≤ 1000000000000 := by have h := hl; simp [docValue, docBytesOf] at h ⊢; omega
    have hts : text.size ≤ 1000000000000 := by have h := hlen; simp [txt, bs] at h; omega
    have hke : (docElems kids).length ≤ 1000000000000 := by have h := hlen; simp [docBytesOf] at h; omega
    have HF : Hid (∀ v1 w1, Made W (i32 (4 + ((txt (bs text)).length : Int) + ((docBytesOf kids).length : Int)) ++ txt (bs text) ++ docBytesOf kids) v1 w1 → After (Made W (docValue (.mk 15 text more n bits high b kids))) (.returned v1) w1) := Lib.hid fun v1 w1 h => ⟨v1, rfl, by rw [show docValue (.mk 15 text more n bits high b kids) = i32 (4 + ((txt (bs text)).length : Int) + ((docBytesOf kids).length : Int)) ++ txt (bs text) ++ docBytesOf kids from by simp [docValue, docBytesOf]]; exact h⟩
    go_enter Tryz.func18, Tryz.ntmps18
    have hb0 : Below (W.heap.size + 1) (W.alloc (.cells #[.int .i64 15, .string text, .string more, .int .i64 n, .int .u64 bits, .int .u64 high, .slice A b.length c, .slice K kids.length d] 45)) _ := Below.refl _ _
    have hs0 := hs.alloc (.cells #[.int .i64 15, .string text, .string more, .int .i64 n, .int .u64 bits, .int .u64 high, .slice A b.length c, .slice K kids.length d] 45)
    go_wp2_with fail
    refine (docText _ (W.heap.size + 1) (.slice none 0 0) [] text (OB.nil _ _) (by simp) (by simp) (by omega)).mono ?_
    rintro e w1 ⟨v1, rfl, h1⟩
    have hb1 := hb0.trans (h1.kept (OB.nil _ _) (by first | omega | (simp; done) | (simp; omega)))
    have hz1 := boxs hb1
    have q1_7 := boxc hb1 7
    simp only [List.getElem?_cons_succ, List.getElem?_cons_zero] at q1_7
    go_wp2_with fail
    refine (HBN.out kids K d _ hwk (by omega) hd hd2 (by exact HKK.out _ (boxb hb1))).mono ?_
    rintro e w2 ⟨v2, rfl, ho2, hb2x⟩
    have hb2 := hb1.trans (hb2x.mono hz1)
    have hz2 := boxs hb2
    have hz21 := hb2x.size
    have ho1 := h1.own.keep hb2x
    simp only [List.nil_append] at ho1
    obtain ⟨A1, d1, rfl, hs1, -⟩ := ho1.sb
    obtain ⟨A2, d2, rfl, hs2, -⟩ := ho2.sb
    obtain ⟨lc, hlc⟩ : ∃ x, x = txt (bs text) := ⟨_, rfl⟩
    obtain ⟨ls, hls⟩ : ∃ x, x = docBytesOf kids := ⟨_, rfl⟩
    rw [← hlc, ← hls] at HF hlen
    have hlc2 : lc = txt text.data.toList := hlc
    rw [← hlc2] at hs1 ⊢
    rw [← hls] at hs2 ⊢
    clear hlc hls hlc2 ho1 ho2 h1
    go_wp2_with fail
    refine (docInt32 w2 w2.heap.size (.slice none 0 0) [] _ (OB.nil _ _) (Nat.le_refl _) (by simp)).mono ?_
    rintro e w3 ⟨v3, rfl, h3⟩
    have hb3 := h3.fresh
    have hz3 := h3.size
    have hs13 := hs1.keep hb3
    go_wp2_with (first | (refine wp_app (.tmp 131) (.tmp 132) 22 rfl rfl infoB Tryz.underlying22 _ w2.heap.size _ ([] ++ i32 (4 + (lc.length : Int) + (ls.length : Int))) _ _ (lc) rfl rfl (h3.own) (hs13) (by first | omega | (simp; done) | (simp; omega)) (by first | omega | (simp [i32, txt, bs]; done) | (simp [i32, txt, bs]; omega)) ?_; intro v4 w4 h4; have hb4 := hb3.trans (h4.kept h3.own hz3); have hz4 := hb4.size; have hs24 := hs2.keep hb4) | (refine wp_app (.tmp 134) (.tmp 135) 22 rfl rfl infoB Tryz.underlying22 _ w2.heap.size _ ([] ++ i32 (4 + (lc.length : Int) + (ls.length : Int)) ++ lc) _ _ (ls) rfl rfl (h4.own) (hs24) (by first | omega | (simp; done) | (simp; omega)) (by first | omega | (simp [i32, txt, bs]; done) | (simp [i32, txt, bs]; omega)) ?_; intro v5 w5 h5; have hb5 := hb2.trans ((hb4.trans (h5.kept h4.own hz4)).mono hz2)) | fail)
    go_ret
    exact HF.out v5 w5 ⟨by simpa using h5.own.mono (by omega), boxb hb5⟩
  by_cases k19 : k = 19
  · subst k19
    clear k1 k17 k2 k13 k14 k3 k4 k5 k7 k8 k9 k18 k16 k11 k12 k15
    have HF : Hid (∀ v1 w1, Made W (i64 bits ++ i64 high) v1 w1 → After (Made W (docValue (.mk 19 text more n bits high b kids))) (.returned v1) w1) := Lib.hid fun v1 w1 h => ⟨v1, rfl, by rw [show docValue (.mk 19 text more n bits high b kids) = i64 bits ++ i64 high from by simp [docValue, docBytesOf]]; exact h⟩
    go_enter Tryz.func18, Tryz.ntmps18
    have hb0 : Below (W.heap.size + 1) (W.alloc (.cells #[.int .i64 19, .string text, .string more, .int .i64 n, .int .u64 bits, .int .u64 high, .slice A b.length c, .slice K kids.length d] 45)) _ := Below.refl _ _
    have hs0 := hs.alloc (.cells #[.int .i64 19, .string text, .string more, .int .i64 n, .int .u64 bits, .int .u64 high, .slice A b.length c, .slice K kids.length d] 45)
    go_wp2_with fail
    refine (docInt64 _ (W.heap.size + 1) (.slice none 0 0) [] bits (OB.nil _ _) (by simp) (by simp)).mono ?_
    rintro e w1 ⟨v1, rfl, h1⟩
    have hb1 := hb0.trans (h1.kept (OB.nil _ _) (by first | omega | (simp; done) | (simp; omega)))
    have hz1 := boxs hb1
    have q1_5 := boxc hb1 5
    simp only [List.getElem?_cons_succ, List.getElem?_cons_zero] at q1_5
    go_wp2_with fail
    refine (docInt64 w1 (W.heap.size + 1) v1 ([] ++ i64 bits) high h1.own (by omega) (by simp [i64_len])).mono ?_
    rintro e w2 ⟨v2, rfl, h2⟩
    have hb2 := hb1.trans (h2.kept (h1.own) (by first | omega | (simp; done) | (simp; omega)))
    have hz2 := boxs hb2
    go_wp2_with fail
    go_ret
    exact HF.out v2 w2 ⟨by simpa using h2.own.mono (Nat.le_succ _), boxb hb2⟩
  have hne : (k == 1) = false ∧ (k == 17) = false ∧ (k == 2) = false ∧ (k == 13) = false ∧ (k == 14) = false ∧ (k == 3) = false ∧ (k == 4) = false ∧ (k == 5) = false ∧ (k == 7) = false ∧ (k == 8) = false ∧ (k == 9) = false ∧ (k == 18) = false ∧ (k == 16) = false ∧ (k == 11) = false ∧ (k == 12) = false ∧ (k == 15) = false ∧ (k == 19) = false := by simp only [beq_eq_false_iff_ne, ne_eq]; exact ⟨k1, k17, k2, k13, k14, k3, k4, k5, k7, k8, k9, k18, k16, k11, k12, k15, k19⟩
  obtain ⟨e1, e17, e2, e13, e14, e3, e4, e5, e7, e8, e9, e18, e16, e11, e12, e15, e19⟩ := hne
  have HF : Hid (∀ v1 w1, Made W (([] : List UInt8)) v1 w1 → After (Made W (docValue (.mk k text more n bits high b kids))) (.returned v1) w1) := Lib.hid fun v1 w1 h => ⟨v1, rfl, by rw [show docValue (.mk k text more n bits high b kids) = ([] : List UInt8) from by simp [docValue, k1, k17, k2, k13, k14, k3, k4, k5, k7, k8, k9, k18, k16, k11, k12, k15, k19]]; exact h⟩
  go_enter Tryz.func18, Tryz.ntmps18
  have hb0 : Below (W.heap.size + 1) (W.alloc (.cells #[.int .i64 k, .string text, .string more, .int .i64 n, .int .u64 bits, .int .u64 high, .slice A b.length c, .slice K kids.length d] 45)) _ := Below.refl _ _
  have hs0 := hs.alloc (.cells #[.int .i64 k, .string text, .string more, .int .i64 n, .int .u64 bits, .int .u64 high, .slice A b.length c, .slice K kids.length d] 45)
  go_wp2
  go_ret
  exact HF.out (.slice none 0 0) _ ⟨OB.nil _ _, boxb hb0⟩
theorem docValue_all (N : Nat) : ValueUpto N ∧ BytesUpto N := by
  induction N with
  | zero => exact ⟨fun v cs W h => absurd h (Nat.not_lt_zero _), fun ks K d W h => absurd h (Nat.not_lt_zero _)⟩
  | succ N ih => exact ⟨docValue_step N ih.2, docBytes_step N ih.1⟩
/-- DocValue: the bytes of a value. -/
theorem docValue_calls (v : Val) (cs : List Value) (W : World) (hl : (docValue v).length ≤ 1000000000000) (hv : RV W v cs) : Calls Tryz.prog 18 #[.agg cs.toArray] W (After (Made W (docValue v))) :=
  (docValue_all (wt v + 1)).1 v cs W (by omega) hl hv
theorem docBytes_calls (ks : List (ByteArray × Val)) (K : Option Addr) (d : Nat) (W : World) (hl : (docElems ks).length ≤ 1000000000000) (h1 : ks.length ≤ d) (h2 : d ≤ 9223372036854775807) (hk : ks = [] ∨ ∃ blk off, K = some ⟨blk, off, none⟩ ∧ RKs W blk off ks) :
    Calls Tryz.prog 40 #[.slice K ks.length d] W (After (Made W (docBytesOf ks))) :=
  (docValue_all (wtK ks + 1)).2 ks K d W (by omega) hl h1 h2 hk
theorem docElem_calls (nm : ByteArray) (v : Val) (c0 c1 c2 c3 c4 c5 c6 c7 : Value) (W : World) (hl : (docElemOf nm v).length ≤ 1000000000000) (hv : RV W v [c0, c1, c2, c3, c4, c5, c6, c7]) :
    Calls Tryz.prog 100 #[.agg #[.string nm, c0, c1, c2, c3, c4, c5, c6, c7]] W (After (Made W (docElemOf nm v))) :=
  docElem (wt v + 1) (docValue_all _).1 nm v c0 c1 c2 c3 c4 c5 c6 c7 W (by omega) hl hv
end Go.Proofs.YtohfgfbfohkkkaaGreatDoor.X
