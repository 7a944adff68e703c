/- Put together, without what nothing reaches: TkJ, DocAnyR. -/
import Derived.Test.YtbpopaegfhcdpaaGreatDoorMc
import Derived.Test.YtbpopaegfhcdpaaGreatDoorMf
import Derived.Test.YtbpopaegfhcdpaaGreatDoorMg
import Derived.Test.YtbpopaegfhcdpaaGreatDoorMh
import Derived.Test.YtbpopaegfhcdpaaGreatDoorMa
/- impl.Read and spec.DocTake tell the same, kind by kind. (gen_tkj.py) -/
set_option linter.unusedVariables false
set_option linter.unusedSimpArgs false
set_option maxRecDepth 100000
namespace Go.Proofs.YtbpopaegfhcdpaaGreatDoor.X
open Go.RowKit Go.Proofs.YtbpopaegfhcdpaaGreatDoorW.PrintLast Go.Proofs.YtbpopaegfhcdpaaGreatDoorW.PrintWords
open Go.Proofs.YtbpopaegfhcdpaaGreatDoor.PFnDocAnyLookup
namespace Tj
open Sp Al Av Aw Ck Tk
def Both (K : Int) (l : List UInt8) : Prop := ∃ text more n bits high b cnt, cnt ≤ l.length ∧ (∀ A c w, SB w A c l → Rr.RdOk K l text more n bits high b (l.drop cnt) A c w) ∧ (∀ A c w, SB w A c l → TkOk K l text more n bits high b cnt A c w)
def Neither (K : Int) (l : List UInt8) : Prop := (∀ A c w, SB w A c l → Rr.RdNo K l A c w) ∧ (∀ A c w, SB w A c l → TkNo K l A c w)
def Odd (K : Int) (l : List UInt8) : Prop := (K = 15 ∨ K = 5 ∧ ∃ h : 4 < l.length, l[4] = 2) ∧ (∀ A c w, SB w A c l → TkNo K l A c w)
def Told (K : Int) (l : List UInt8) : Prop := Both K l ∨ Neither K l ∨ Odd K l
theorem num_ex (l : List UInt8) : ∃ N b, numOf l = (N, b) := ⟨_, _, rfl⟩
theorem tkno (fu : Nat) (K : Int) (l : List UInt8) (hl : l.length ≤ 5000) (M : Int) (h3 : (K == 3) = false) (h4 : (K == 4) = false) (hLE : spec_DocLen.f fu K (ints l) = some (M, false)) : ∀ A c w, SB w A c l → TkNo K l A c w :=
  fun A c w hs => tk_no fu K A c l w hs hl M hLE false false _ _ _ rfl h3 h4 rfl (by simp)
theorem rl_of {l : List UInt8} {n : Nat} (h : numOf l = ((n : Int), true)) : readLen l = ((n : Int), true) := by
  rw [read_num, h]; simp
theorem rl_of1 {l : List UInt8} {n : Nat} (h : numOf l = ((n : Int) + 1, true)) : readLen l = ((n : Int) + 1, true) := by
  rw [read_num, h]; simp; omega
theorem num_take (x : List UInt8) (k : Nat) (h : (numOf (x.take k)).2 = true) : numOf (x.take k) = numOf x := by
  have h4 := num_long _ h
  rw [List.length_take] at h4
  match x, h4 with
  | b0 :: b1 :: b2 :: b3 :: r, h4 =>
    match k, h4 with
    | k + 4, _ => rfl
  | [], h4 => simp at h4
  | [_], h4 => simp at h4; omega
  | [_, _], h4 => simp at h4; omega
  | [_, _, _], h4 => simp at h4; omega
theorem text_told (K : Int) (hK : K = 2 ∨ K = 13 ∨ K = 14) (l : List UInt8) (hl : l.length ≤ 5000) : Told K l := by
  obtain ⟨N, b, hn⟩ := num_ex l
  have hlen := len_text K l hK
  rw [hn] at hlen
  by_cases h : b = true ∧ 1 ≤ N ∧ N + 4 ≤ (l.length : Int)
  · obtain ⟨rfl, h1, h2⟩ := h
    obtain ⟨n, rfl⟩ : ∃ n : Nat, N = (n : Int) + 1 := ⟨(N - 1).toNat, by omega⟩
    refine .inl ⟨⟨((l.drop 4).take n).toArray⟩, ⟨#[]⟩, 0, 0, 0, [], n + 5, by omega, fun A c w hs => ?_, fun A c w hs => ?_⟩
    · rcases hK with rfl | rfl | rfl
      · exact Rr.rd_2_ok A c l w hs hl n (rl_of1 hn) (by omega)
      · exact Rr.rd_13_ok A c l w hs hl n (rl_of1 hn) (by omega)
      · exact Rr.rd_14_ok A c l w hs hl n (rl_of1 hn) (by omega)
    · rcases hK with rfl | rfl | rfl
      · exact tk_2 A c l w hs hl n hn (by omega)
      · exact tk_13 A c l w hs hl n hn (by omega)
      · exact tk_14 A c l w hs hl n hn (by omega)
  · have hf : (b && (decide (1 ≤ N) && decide (N + 4 ≤ (l.length : Int)))) = false := by
      cases b with
      | false => rfl
      | true => have h' : ¬ (_ ∧ _) := fun g => h ⟨rfl, g⟩; rw [Bool.true_and, Bool.and_eq_false_iff, decide_eq_false_iff_not, decide_eq_false_iff_not]; omega
    simp only [hf] at hlen
    have hr : (readLen l).2 = false ∨ (l.length : Int) < (readLen l).1 + 4 ∨ (readLen l).1 = 0 := by
      rw [read_num, hn]
      cases b with
      | false => exact .inl rfl
      | true =>
        have h' : ¬ (_ ∧ _) := fun g => h ⟨rfl, g⟩
        simp only [Bool.true_and, decide_eq_false_iff_not]
        omega
    refine .inr (.inl ⟨fun A c w hs => ?_, tkno 5 K l hl _ ?_ ?_ hlen⟩)
    · rcases hK with rfl | rfl | rfl
      · exact Rr.rd_2_no A c l w hs hl hr
      · exact Rr.rd_13_no A c l w hs hl hr
      · exact Rr.rd_14_no A c l w hs hl hr
    · rcases hK with rfl | rfl | rfl <;> rfl
    · rcases hK with rfl | rfl | rfl <;> rfl
theorem doc_told (K : Int) (hK : K = 3 ∨ K = 4) (l : List UInt8) (hl : l.length ≤ 5000) : Told K l := by
  obtain ⟨N, b, hn⟩ := num_ex l
  have hlen := len_doc K l (by rcases hK with h | h <;> simp [h])
  rw [hn] at hlen
  have hnl : b = true → 4 ≤ l.length := fun h => num_long l (by rw [hn]; exact h)
  by_cases h : b = true ∧ 4 ≤ N ∧ N ≤ (l.length : Int)
  · obtain ⟨rfl, h1, h2⟩ := h
    obtain ⟨n, rfl⟩ : ∃ n : Nat, N = (n : Int) := ⟨N.toNat, by omega⟩
    refine .inl ⟨⟨#[]⟩, ⟨#[]⟩, 0, 0, 0, l.take n, n, by omega, fun A c w hs => ?_, fun A c w hs => ?_⟩
    · rcases hK with rfl | rfl
      · exact Ru.rd_3_ok A c l w hs hl n (rl_of hn) (by omega) (by omega)
      · exact Ru.rd_4_ok A c l w hs hl n (rl_of hn) (by omega) (by omega)
    · rcases hK with rfl | rfl
      · exact tk_3 A c l w hs hl n hn (by omega) (by omega)
      · exact tk_4 A c l w hs hl n hn (by omega) (by omega)
  · have hf : (b && (decide (5 ≤ N) && decide (N ≤ (l.length : Int)))) = false := by
      cases b with
      | false => rfl
      | true => have h' : ¬ (_ ∧ _) := fun g => h ⟨rfl, g⟩; rw [Bool.true_and, Bool.and_eq_false_iff, decide_eq_false_iff_not, decide_eq_false_iff_not]; omega
    simp only [hf] at hlen
    have hr : (readLen l).2 = false ∨ (readLen l).1 < 4 ∨ (l.length : Int) < (readLen l).1 := by
      rw [read_num, hn]
      cases b with
      | false => exact .inl rfl
      | true =>
        have h' : ¬ (_ ∧ _) := fun g => h ⟨rfl, g⟩
        simp only [Bool.true_and, decide_eq_false_iff_not]
        omega
    have hx : (b && (N == 4) && ((K == 3) || (K == 4))) = false := by
      cases b with
      | false => rfl
      | true =>
        have h4 := hnl rfl
        have h' : ¬ (_ ∧ _) := fun g => h ⟨rfl, g⟩
        have : (N == 4) = false := beq_eq_false_iff_ne.2 (by omega)
        rw [this]; rfl
    refine .inr (.inl ⟨fun A c w hs => ?_, fun A c w hs => tk_no 5 K A c l w hs hl N hlen _ _ _ b N hn rfl rfl rfl hx⟩)
    rcases hK with rfl | rfl
    · exact Rv.rd_3_no A c l w hs hl hr
    · exact Rv.rd_4_no A c l w hs hl hr
theorem ptr_told (l : List UInt8) (hl : l.length ≤ 5000) : Told 12 l := by
  obtain ⟨N, b, hn⟩ := num_ex l
  have hlen := len_ptr l
  rw [hn] at hlen
  by_cases h : b = true ∧ 1 ≤ N ∧ N + 16 ≤ (l.length : Int)
  · obtain ⟨rfl, h1, h2⟩ := h
    obtain ⟨n, rfl⟩ : ∃ n : Nat, N = (n : Int) + 1 := ⟨(N - 1).toNat, by omega⟩
    exact .inl ⟨⟨((l.drop 4).take n).toArray⟩, ⟨#[]⟩, 0, 0, 0, _, n + 17, by omega, fun A c w hs => Ry.rd_12_ok A c l w hs hl n (rl_of1 hn) (by omega), fun A c w hs => tk_12 A c l w hs hl n hn (by omega)⟩
  · have hf : (b && (decide (1 ≤ N) && decide (N + 16 ≤ (l.length : Int)))) = false := by
      cases b with
      | false => rfl
      | true => have h' : ¬ (_ ∧ _) := fun g => h ⟨rfl, g⟩; rw [Bool.true_and, Bool.and_eq_false_iff, decide_eq_false_iff_not, decide_eq_false_iff_not]; omega
    simp only [hf] at hlen
    refine .inr (.inl ⟨fun A c w hs => Ry.rd_12_no A c l w hs hl ?_, tkno 5 12 l hl _ rfl rfl hlen⟩)
    rw [read_num, hn]
    cases b with
    | false => exact .inl (.inl rfl)
    | true =>
      have h' : ¬ (_ ∧ _) := fun g => h ⟨rfl, g⟩
      simp only [Bool.true_and, decide_eq_false_iff_not]
      rcases Int.lt_or_le N 1 with h1 | h1
      · left; omega
      · rcases Int.lt_or_le (l.length : Int) (N + 4) with h2 | h2
        · left; omega
        · right
          exact ⟨(N - 1).toNat, by rw [decide_eq_true (by omega : (0 : Int) ≤ N), show (((N - 1).toNat : Nat) : Int) + 1 = N from by omega], by omega, by omega⟩
theorem cws_told (l : List UInt8) (hl : l.length ≤ 5000) : Told 15 l := by
  obtain ⟨N, b, hn⟩ := num_ex l
  have hlen := len_doc 15 l (by simp)
  rw [hn] at hlen
  by_cases h : b = true ∧ 5 ≤ N ∧ N ≤ (l.length : Int)
  · obtain ⟨rfl, h1, h2⟩ := h
    obtain ⟨NN, rfl⟩ : ∃ n : Nat, N = (n : Int) := ⟨N.toNat, by omega⟩
    have hNN : NN ≤ l.length := by omega
    have h5 : 5 ≤ NN := by omega
    clear h1 h2 hlen
    obtain ⟨l1, e1⟩ : ∃ x, x = (l.take NN).drop 4 := ⟨_, rfl⟩
    have e1' : l1 = (l.drop 4).take (NN - 4) := by rw [e1, List.drop_take]
    have hl1 : l1.length = NN - 4 := by rw [e1, List.length_drop, List.length_take, Nat.min_eq_left hNN]
    obtain ⟨K1, b1, hn1⟩ := num_ex l1
    have hk := len_text 2 l1 (by simp)
    rw [hn1] at hk
    by_cases h : b1 = true ∧ 1 ≤ K1 ∧ K1 + 4 ≤ (l1.length : Int)
    · obtain ⟨rfl, h1, h2⟩ := h
      obtain ⟨kk, rfl⟩ : ∃ n : Nat, K1 = (n : Int) + 1 := ⟨(K1 - 1).toNat, by omega⟩
      rw [decide_eq_true h1, decide_eq_true h2] at hk
      have hk' : spec_DocLen.f 5 2 (ints l1) = some (((kk + 5 : Nat) : Int), true) := by rw [hk, show ((kk + 5 : Nat) : Int) = (kk : Int) + 1 + 4 from by omega]; rfl
      have hkk : kk + 9 ≤ NN := by omega
      obtain ⟨l2, e2⟩ : ∃ x, x = (l.take NN).drop (kk + 9) := ⟨_, rfl⟩
      have e2' : l2 = (l.drop (kk + 9)).take (NN - (kk + 9)) := by rw [e2, List.drop_take]
      have hl2 : l2.length = NN - (kk + 9) := by rw [e2, List.length_drop, List.length_take, Nat.min_eq_left hNN]
      obtain ⟨M, tm, hn2⟩ := num_ex l2
      have hm := len_doc 3 l2 (by simp)
      rw [hn2] at hm
      have hMb := num_bd l2
      rw [hn2] at hMb
      by_cases h : (tm = true ∧ 5 ≤ M ∧ M ≤ (l2.length : Int)) ∧ (kk : Int) + 9 + M = NN
      · obtain ⟨⟨rfl, h3, h4⟩, h5'⟩ := h
        obtain ⟨m, rfl⟩ : ∃ n : Nat, M = (n : Int) := ⟨M.toNat, by omega⟩
        rw [decide_eq_true h3, decide_eq_true h4] at hm
        have hsum : kk + 9 + m = NN := by omega
        have hl3 : (l.drop 4).length = l.length - 4 := List.length_drop
        refine .inl ⟨⟨((l.drop 8).take kk).toArray⟩, ⟨#[]⟩, 0, 0, 0, (l.take NN).drop (kk + 9), NN, hNN, fun A c w hs => ?_, fun A c w hs => tk_15 A c l w hs hl NN hn h5 hNN l1 e1 kk hk' hkk l2 e2 m hm hsum⟩
        have hd2 : (l.drop 4).drop (kk + 5) = l.drop (kk + 9) := by rw [List.drop_drop]; congr 1; omega
        have hr1 : numOf (l.drop 4) = ((kk : Int) + 1, true) := by
          rw [← hn1, e1', num_take _ _ (by rw [← e1', hn1])]
        have hr2 : numOf (l.drop (kk + 9)) = ((m : Int), true) := by
          rw [← hn2, e2', num_take _ _ (by rw [← e2', hn2])]
        have h := Rw.rd_15_ok A c l w hs hl (l.drop 4) (l.drop (kk + 9)) NN kk m (rl_of hn) hNN rfl (rl_of1 hr1) (by rw [hl3]; omega) hd2.symm (rl_of hr2) (by omega) (by rw [List.length_drop]; omega)
        have x1 : ((l.drop 4).drop 4).take kk = (l.drop 8).take kk := by rw [List.drop_drop]
        have x2 : (l.drop (kk + 9)).take m = (l.take NN).drop (kk + 9) := by rw [← e2, e2', show NN - (kk + 9) = m from by omega]
        have x3 : (l.drop (kk + 9)).drop m = l.drop NN := by rw [List.drop_drop]; congr 1
        rw [x1, x2, x3] at h
        exact h
      · refine .inr (.inr ⟨.inl rfl, fun A c w hs => tk_15b A c l w hs hl NN hn h5 hNN l1 e1 kk hk' hkk l2 e2 M _ hm ?_⟩)
        rw [w64_in _ (by omega) (by omega)]
        by_cases hs2 : (kk : Int) + 9 + M = NN
        · have hx : (tm && (decide (5 ≤ M) && decide (M ≤ (l2.length : Int)))) = false := by
            cases tm with
            | false => rfl
            | true =>
              rw [Bool.true_and, Bool.and_eq_false_iff, decide_eq_false_iff_not, decide_eq_false_iff_not]
              by_cases g : 5 ≤ M
              · right; intro g2; exact h ⟨⟨rfl, g, g2⟩, hs2⟩
              · exact .inl g
          simp [hx]
        · rw [decide_eq_true (by omega : ((kk + 9 : Nat) : Int) + M ≠ (NN : Int))]
          simp
    · have hf : (b1 && (decide (1 ≤ K1) && decide (K1 + 4 ≤ (l1.length : Int)))) = false := by
        cases b1 with
        | false => rfl
        | true => have h' : ¬ (_ ∧ _) := fun g => h ⟨rfl, g⟩; rw [Bool.true_and, Bool.and_eq_false_iff, decide_eq_false_iff_not, decide_eq_false_iff_not]; omega
      simp only [hf] at hk
      exact .inr (.inr ⟨.inl rfl, fun A c w hs => tk_15a A c l w hs hl NN hn h5 hNN l1 e1 _ hk⟩)
  · have hf : (b && (decide (5 ≤ N) && decide (N ≤ (l.length : Int)))) = false := by
      cases b with
      | false => rfl
      | true => have h' : ¬ (_ ∧ _) := fun g => h ⟨rfl, g⟩; rw [Bool.true_and, Bool.and_eq_false_iff, decide_eq_false_iff_not, decide_eq_false_iff_not]; omega
    simp only [hf] at hlen
    exact .inr (.inr ⟨.inl rfl, tkno 5 15 l hl _ rfl rfl hlen⟩)
theorem bin_told (l : List UInt8) (hl : l.length ≤ 5000) : Told 5 l := by
  obtain ⟨N, b, hn⟩ := num_ex l
  have hlen := len_5 l
  rw [hn] at hlen
  by_cases h : b = true ∧ 0 ≤ N ∧ N + 5 ≤ (l.length : Int)
  · obtain ⟨rfl, h1, h2⟩ := h
    obtain ⟨n, rfl⟩ : ∃ n : Nat, N = (n : Int) := ⟨N.toNat, by omega⟩
    have h4 : 4 < l.length := by omega
    have hd : l.drop 4 = l[4] :: l.drop 5 := List.drop_eq_getElem_cons h4
    obtain ⟨r, hr⟩ : ∃ r, r = l.drop 5 := ⟨_, rfl⟩
    have hrl : r.length = l.length - 5 := by rw [hr, List.length_drop]
    have hd5 : ∀ k, r.drop k = l.drop (k + 5) := fun k => by rw [hr, List.drop_drop, Nat.add_comm]
    rw [← hr] at hd
    have hle : spec_DocLen.f 5 5 (ints l) = some ((n : Int) + 5, true) := by rw [hlen, decide_eq_true h1, decide_eq_true h2]; rfl
    by_cases ht : l[4] = 2
    · rw [ht] at hd
      obtain ⟨k, fine, hk⟩ := num_ex (r.take n)
      by_cases hg : fine = true ∧ k = (n : Int) - 4
      · obtain ⟨rfl, rfl⟩ := hg
        have h44 := num_long (r.take n) (by rw [hk])
        rw [List.length_take] at h44
        obtain ⟨k, hkn⟩ : ∃ k : Nat, k + 4 = n := ⟨n - 4, by omega⟩
        have hk' : numOf (r.take n) = ((k : Int), true) := by rw [hk, show (n : Int) - 4 = (k : Int) from by omega]
        have hkr : numOf r = ((k : Int), true) := by rw [← hk', num_take r n (by rw [hk])]
        refine .inl ⟨⟨#[]⟩, ⟨#[]⟩, 2, 0, 0, (r.drop 4).take k, n + 5, by omega, fun A c w hs => ?_, fun A c w hs => ?_⟩
        · have h := Rw.rd_5_old A c l w hs hl n k r (rl_of hn) hd (by omega) (rl_of hkr) (by omega)
          rw [hkn, hd5 n] at h
          exact h
        · exact tk_def 5 5 ⟨#[]⟩ ⟨#[]⟩ 2 0 0 _ _ A c l w hs hl _ hle rfl rfl rfl rfl rfl rfl rfl rfl (fun wx hb => pk_5o A c l wx (hs.keep hb) hl n r hn hd (by omega) k hk' hkn)
      · refine .inr (.inr ⟨.inr ⟨rfl, h4, ht⟩, fun A c w hs => tk_defno 5 5 A c l w hs hl _ hle rfl rfl rfl rfl rfl rfl rfl rfl (fun wx hb => pk_5n A c l wx (hs.keep hb) hl n r hn hd (by omega) k fine hk ?_)⟩)
        cases fine with
        | false => exact .inl rfl
        | true => exact .inr (fun h => hg ⟨rfl, h⟩)
    · refine .inl ⟨⟨#[]⟩, ⟨#[]⟩, (l[4].toNat : Int), 0, 0, r.take n, n + 5, by omega, fun A c w hs => ?_, fun A c w hs => ?_⟩
      · have h := Rw.rd_5_ok A c l w hs hl n l[4] r (rl_of hn) hd (by omega) ht
        rw [hd5] at h
        exact h
      · exact tk_def 5 5 ⟨#[]⟩ ⟨#[]⟩ _ 0 0 _ _ A c l w hs hl _ hle rfl rfl rfl rfl rfl rfl rfl rfl (fun wx hb => pk_5 A c l wx (hs.keep hb) hl n l[4] r hn hd (by omega) ht)
  · have hf : (b && (decide (0 ≤ N) && decide (N + 5 ≤ (l.length : Int)))) = false := by
      cases b with
      | false => rfl
      | true => have h' : ¬ (_ ∧ _) := fun g => h ⟨rfl, g⟩; rw [Bool.true_and, Bool.and_eq_false_iff, decide_eq_false_iff_not, decide_eq_false_iff_not]; omega
    simp only [hf] at hlen
    refine .inr (.inl ⟨fun A c w hs => Rw.rd_5_no A c l w hs hl ?_, tkno 5 5 l hl _ rfl rfl hlen⟩)
    unfold Rw.BinNo
    rw [read_num, hn]
    cases b with
    | false => exact .inl rfl
    | true =>
      rcases Int.lt_or_le N 0 with h1 | h1
      · left; simp; omega
      · have h4 := num_long l (by rw [hn])
        right
        have hd0 : decide (0 ≤ N) = true := decide_eq_true h1
        rcases Nat.lt_or_ge 4 l.length with h5 | h5
        · right
          refine ⟨l[4], l.drop 5, List.drop_eq_getElem_cons h5, by simp [hd0], ?_⟩
          rw [List.length_drop]
          have : ¬ N + 5 ≤ (l.length : Int) := fun h2 => h ⟨rfl, h1, h2⟩
          show ((l.length - 5 : Nat) : Int) < N
          omega
        · left
          exact ⟨by omega, by simp [hd0]⟩
theorem id_told (l : List UInt8) (hl : l.length ≤ 5000) : Told 7 l := by
  have hlen := len_7 l
  rcases Nat.lt_or_ge l.length 12 with h | h
  · rw [decide_eq_false (by omega)] at hlen
    exact .inr (.inl ⟨fun A c w hs => Rx.rd_7_no A c l w hs hl h, tkno 5 7 l hl _ rfl rfl hlen⟩)
  · rw [decide_eq_true h] at hlen
    have hm : (l.take 12).length = 12 := by rw [List.length_take]; omega
    have hlr : l = l.take 12 ++ l.drop 12 := (List.take_append_drop 12 l).symm
    exact .inl ⟨⟨#[]⟩, ⟨#[]⟩, 0, 0, 0, l.take 12, 12, h, fun A c w hs => Rx.rd_7_ok A c l w hs hl _ _ hlr hm, fun A c w hs => tk_def 5 7 ⟨#[]⟩ ⟨#[]⟩ 0 0 0 _ _ A c l w hs hl _ hlen rfl rfl rfl rfl rfl rfl rfl rfl (fun wx hb => pk_7 A c l wx (hs.keep hb) hl _ _ hm hlr)⟩
theorem leI_nat8 (b0 b1 b2 b3 b4 b5 b6 b7 : UInt8) : leI [b0, b1, b2, b3, b4, b5, b6, b7] = ((Lib.leNat [b0, b1, b2, b3, b4, b5, b6, b7] : Nat) : Int) := by
  simp only [leI, Lib.leNat]
  push_cast
  omega
theorem split8 {l : List UInt8} (h : 8 ≤ l.length) : ∃ b0 b1 b2 b3 b4 b5 b6 b7 r, l = b0 :: b1 :: b2 :: b3 :: b4 :: b5 :: b6 :: b7 :: r := by
  match l, h with
  | b0 :: b1 :: b2 :: b3 :: b4 :: b5 :: b6 :: b7 :: r, _ => exact ⟨_, _, _, _, _, _, _, _, _, rfl⟩
theorem told_1 (l : List UInt8) (hl : l.length ≤ 5000) : Told 1 l := by
  have hlen := len_1 l
  rcases Nat.lt_or_ge l.length 8 with h | h
  · rw [decide_eq_false (by omega)] at hlen
    exact .inr (.inl ⟨fun A c w hs => Rs.rd_1_no A c l w hs hl h, tkno 5 1 l hl _ rfl rfl hlen⟩)
  · rw [decide_eq_true h] at hlen
    obtain ⟨b0, b1, b2, b3, b4, b5, b6, b7, r, hlr⟩ := split8 h
    have hdr : l.drop 8 = r := by rw [hlr]; rfl
    refine .inl ⟨⟨#[]⟩, ⟨#[]⟩, 0, (Lib.leNat [b0, b1, b2, b3, b4, b5, b6, b7] : Nat), 0, [], 8, h, fun A c w hs => ?_, fun A c w hs => tk_def 5 1 ⟨#[]⟩ ⟨#[]⟩ _ _ _ _ _ A c l w hs hl _ hlen rfl rfl rfl rfl rfl rfl rfl rfl (fun wx hb => pk_1 A c l wx (hs.keep hb) hl b0 b1 b2 b3 b4 b5 b6 b7 r hlr)⟩
    have h9 := Rs.rd_1_ok A c l w hs hl b0 b1 b2 b3 b4 b5 b6 b7 r hlr
    rw [hdr]
    exact h9
theorem told_17 (l : List UInt8) (hl : l.length ≤ 5000) : Told 17 l := by
  have hlen := len_17 l
  rcases Nat.lt_or_ge l.length 8 with h | h
  · rw [decide_eq_false (by omega)] at hlen
    exact .inr (.inl ⟨fun A c w hs => Rt.rd_17_no A c l w hs hl h, tkno 5 17 l hl _ rfl rfl hlen⟩)
  · rw [decide_eq_true h] at hlen
    obtain ⟨b0, b1, b2, b3, b4, b5, b6, b7, r, hlr⟩ := split8 h
    have hdr : l.drop 8 = r := by rw [hlr]; rfl
    refine .inl ⟨⟨#[]⟩, ⟨#[]⟩, 0, (Lib.leNat [b0, b1, b2, b3, b4, b5, b6, b7] : Nat), 0, [], 8, h, fun A c w hs => ?_, fun A c w hs => tk_def 5 17 ⟨#[]⟩ ⟨#[]⟩ _ _ _ _ _ A c l w hs hl _ hlen rfl rfl rfl rfl rfl rfl rfl rfl (fun wx hb => pk_17 A c l wx (hs.keep hb) hl b0 b1 b2 b3 b4 b5 b6 b7 r hlr)⟩
    have h9 := Rt.rd_17_ok A c l w hs hl b0 b1 b2 b3 b4 b5 b6 b7 r hlr
    rw [hdr]
    exact h9
theorem told_9 (l : List UInt8) (hl : l.length ≤ 5000) : Told 9 l := by
  have hlen := len_9 l
  rcases Nat.lt_or_ge l.length 8 with h | h
  · rw [decide_eq_false (by omega)] at hlen
    exact .inr (.inl ⟨fun A c w hs => Rs.rd_9_no A c l w hs hl h, tkno 5 9 l hl _ rfl rfl hlen⟩)
  · rw [decide_eq_true h] at hlen
    obtain ⟨b0, b1, b2, b3, b4, b5, b6, b7, r, hlr⟩ := split8 h
    have hdr : l.drop 8 = r := by rw [hlr]; rfl
    refine .inl ⟨⟨#[]⟩, ⟨#[]⟩, wrap64 ((Lib.leNat [b0, b1, b2, b3, b4, b5, b6, b7] : Nat) : Int), 0, 0, [], 8, h, fun A c w hs => ?_, fun A c w hs => tk_def 5 9 ⟨#[]⟩ ⟨#[]⟩ _ _ _ _ _ A c l w hs hl _ hlen rfl rfl rfl rfl rfl rfl rfl rfl (fun wx hb => pk_9 A c l wx (hs.keep hb) hl b0 b1 b2 b3 b4 b5 b6 b7 r hlr)⟩
    have h9 := Rs.rd_9_ok A c l w hs hl b0 b1 b2 b3 b4 b5 b6 b7 r hlr
    rw [hdr]
    rw [leI_nat8] at h9
    exact h9
theorem told_18 (l : List UInt8) (hl : l.length ≤ 5000) : Told 18 l := by
  have hlen := len_18 l
  rcases Nat.lt_or_ge l.length 8 with h | h
  · rw [decide_eq_false (by omega)] at hlen
    exact .inr (.inl ⟨fun A c w hs => Rs.rd_18_no A c l w hs hl h, tkno 5 18 l hl _ rfl rfl hlen⟩)
  · rw [decide_eq_true h] at hlen
    obtain ⟨b0, b1, b2, b3, b4, b5, b6, b7, r, hlr⟩ := split8 h
    have hdr : l.drop 8 = r := by rw [hlr]; rfl
    refine .inl ⟨⟨#[]⟩, ⟨#[]⟩, wrap64 ((Lib.leNat [b0, b1, b2, b3, b4, b5, b6, b7] : Nat) : Int), 0, 0, [], 8, h, fun A c w hs => ?_, fun A c w hs => tk_def 5 18 ⟨#[]⟩ ⟨#[]⟩ _ _ _ _ _ A c l w hs hl _ hlen rfl rfl rfl rfl rfl rfl rfl rfl (fun wx hb => pk_18 A c l wx (hs.keep hb) hl b0 b1 b2 b3 b4 b5 b6 b7 r hlr)⟩
    have h9 := Rs.rd_18_ok A c l w hs hl b0 b1 b2 b3 b4 b5 b6 b7 r hlr
    rw [hdr]
    rw [leI_nat8] at h9
    exact h9
theorem told_16 (l : List UInt8) (hl : l.length ≤ 5000) : Told 16 l := by
  have hlen := len_16 l
  rcases Nat.lt_or_ge l.length 4 with h | h
  · rw [decide_eq_false (by omega)] at hlen
    exact .inr (.inl ⟨fun A c w hs => Rs.rd_16_no A c l w hs hl h, tkno 5 16 l hl _ rfl rfl hlen⟩)
  · rw [decide_eq_true h] at hlen
    obtain ⟨b0, b1, b2, b3, r, hlr⟩ : ∃ b0 b1 b2 b3 r, l = b0 :: b1 :: b2 :: b3 :: r := by
      match l, h with
      | b0 :: b1 :: b2 :: b3 :: r, _ => exact ⟨_, _, _, _, _, rfl⟩
    have hdr : l.drop 4 = r := by rw [hlr]; rfl
    refine .inl ⟨⟨#[]⟩, ⟨#[]⟩, wrap32 (leI [b0, b1, b2, b3]), 0, 0, [], 4, h, fun A c w hs => ?_, fun A c w hs => tk_def 5 16 ⟨#[]⟩ ⟨#[]⟩ _ _ _ _ _ A c l w hs hl _ hlen rfl rfl rfl rfl rfl rfl rfl rfl (fun wx hb => pk_16 A c l wx (hs.keep hb) hl b0 b1 b2 b3 r hlr)⟩
    rw [hdr]
    exact Rs.rd_16_ok A c l w hs hl b0 b1 b2 b3 r hlr
theorem told_19 (l : List UInt8) (hl : l.length ≤ 5000) : Told 19 l := by
  have hlen := len_19 l
  rcases Nat.lt_or_ge l.length 16 with h | h
  · rw [decide_eq_false (by omega)] at hlen
    exact .inr (.inl ⟨fun A c w hs => Rs.rd_19_no A c l w hs hl h, tkno 5 19 l hl _ rfl rfl hlen⟩)
  · rw [decide_eq_true h] at hlen
    obtain ⟨b0, b1, b2, b3, b4, b5, b6, b7, r1, hlr1⟩ := split8 (l := l) (by omega)
    obtain ⟨b8, b9, b10, b11, b12, b13, b14, b15, r, hlr2⟩ := split8 (l := r1) (by have h2 := congrArg List.length hlr1; simp at h2; omega)
    have hlr : l = b0 :: b1 :: b2 :: b3 :: b4 :: b5 :: b6 :: b7 :: b8 :: b9 :: b10 :: b11 :: b12 :: b13 :: b14 :: b15 :: r := by rw [hlr1, hlr2]
    have hdr : l.drop 16 = r := by rw [hlr]; rfl
    refine .inl ⟨⟨#[]⟩, ⟨#[]⟩, 0, (Lib.leNat [b0, b1, b2, b3, b4, b5, b6, b7] : Nat), (Lib.leNat [b8, b9, b10, b11, b12, b13, b14, b15] : Nat), [], 16, h, fun A c w hs => ?_, fun A c w hs => tk_def 5 19 ⟨#[]⟩ ⟨#[]⟩ _ _ _ _ _ A c l w hs hl _ hlen rfl rfl rfl rfl rfl rfl rfl rfl (fun wx hb => pk_19 A c l wx (hs.keep hb) hl b0 b1 b2 b3 b4 b5 b6 b7 b8 b9 b10 b11 b12 b13 b14 b15 r hlr)⟩
    rw [hdr]
    exact Rs.rd_19_ok A c l w hs hl b0 b1 b2 b3 b4 b5 b6 b7 b8 b9 b10 b11 b12 b13 b14 b15 r hlr
theorem told_8 (l : List UInt8) (hl : l.length ≤ 5000) : Told 8 l := by
  have hlen := len_8 l
  cases l with
  | nil => exact .inr (.inl ⟨fun A c w hs => Rs.rd_8_no A c [] w hs hl rfl, tkno 5 8 [] hl _ rfl rfl hlen⟩)
  | cons b0 r => exact .inl ⟨⟨#[]⟩, ⟨#[]⟩, (if decide (b0 = 1) = true then 1 else 0), 0, 0, [], 1, by simp, fun A c w hs => Rs.rd_8_ok A c _ w hs hl b0 r rfl, fun A c w hs => tk_8 A c _ w hs hl b0 r rfl⟩
theorem told_11 (l : List UInt8) (hl : l.length ≤ 5000) : Told 11 l := by
  obtain ⟨fu, hlen⟩ := len_11 l hl
  have e0 : ((0 : Int).toNat.toUInt8) = 0 := rfl
  rcases idx_split l with h1 | ⟨p1, r1, hl1, hp1⟩
  · have hn : (nmOf l).2 = false := by rw [e0] at h1; unfold nmOf; rw [h1]; rfl
    rw [hn, Bool.false_and] at hlen
    exact .inr (.inl ⟨fun A c w hs => Rs.rd_11_no A c l w hs hl (.inl h1), tkno _ 11 l hl _ rfl rfl hlen⟩)
  · have hn1 : nmOf l = ((p1.length : Int) + 1, true) := by
      unfold nmOf
      rw [hl1, show Lib.indexByte (p1 ++ 0 :: r1) 0 = p1.length from index_plain p1 _ hp1, if_neg (by omega)]
    have hd : l.drop (p1.length + 1) = r1 := by rw [hl1, List.drop_append, List.drop_of_length_le (by omega), show p1.length + 1 - p1.length = 1 from by omega]; simp
    rcases idx_split r1 with h2 | ⟨p2, r, hl2, hp2⟩
    · have hn : (nmOf r1).2 = false := by rw [e0] at h2; unfold nmOf; rw [h2]; rfl
      rw [hn1, show ((p1.length : Int) + 1).toNat = p1.length + 1 from by omega, hd, hn, Bool.and_false] at hlen
      exact .inr (.inl ⟨fun A c w hs => Rs.rd_11_no A c l w hs hl (.inr ⟨p1, r1, hl1, hp1, h2⟩), tkno _ 11 l hl _ rfl rfl hlen⟩)
    · have hlr : l = p1 ++ 0 :: (p2 ++ 0 :: r) := by rw [hl1, hl2]
      have hll : l.length = p1.length + p2.length + 2 + r.length := by rw [hlr]; simp; omega
      have hn2 : nmOf r1 = ((p2.length : Int) + 1, true) := by
        unfold nmOf
        rw [hl2, show Lib.indexByte (p2 ++ 0 :: r) 0 = p2.length from index_plain p2 _ hp2, if_neg (by omega)]
      rw [hn1, show ((p1.length : Int) + 1).toNat = p1.length + 1 from by omega, hd, hn2] at hlen
      have hdr : l.drop (p1.length + p2.length + 2) = r := by
        rw [show p1.length + p2.length + 2 = (p1.length + 1) + (p2.length + 1) from by omega, ← List.drop_drop, hd, hl2, List.drop_append, List.drop_of_length_le (by omega), show p2.length + 1 - p2.length = 1 from by omega]
        simp
      refine .inl ⟨⟨p1.toArray⟩, ⟨p2.toArray⟩, 0, 0, 0, [], p1.length + p2.length + 2, by omega, fun A c w hs => ?_, fun A c w hs => tk_def _ 11 _ _ _ _ _ _ _ A c l w hs hl _ hlen rfl rfl rfl rfl rfl rfl rfl rfl (fun wx hb => pk_11 A c l wx (hs.keep hb) hl p1 p2 r hp1 hp2 hlr)⟩
      rw [hdr]
      exact Rs.rd_11_ok A c l w hs hl p1 p2 r hp1 hp2 hlr
theorem told_6 (l : List UInt8) (hl : l.length ≤ 5000) : Told 6 l := by
  have hlen := len_6 l
  rw [decide_eq_true (Nat.zero_le _)] at hlen
  exact .inl ⟨⟨#[]⟩, ⟨#[]⟩, 0, 0, 0, [], 0, Nat.zero_le _, fun A c w hs => Rz.rd_6_ok A c l w hs hl, fun A c w hs => tk_def 5 6 _ _ _ _ _ _ _ A c l w hs hl _ hlen rfl rfl rfl rfl rfl rfl rfl rfl (fun wx hb => pk_6 A c l wx (hs.keep hb) hl)⟩
theorem told_10 (l : List UInt8) (hl : l.length ≤ 5000) : Told 10 l := by
  have hlen := len_10 l
  rw [decide_eq_true (Nat.zero_le _)] at hlen
  exact .inl ⟨⟨#[]⟩, ⟨#[]⟩, 0, 0, 0, [], 0, Nat.zero_le _, fun A c w hs => Rz.rd_10_ok A c l w hs hl, fun A c w hs => tk_def 5 10 _ _ _ _ _ _ _ A c l w hs hl _ hlen rfl rfl rfl rfl rfl rfl rfl rfl (fun wx hb => pk_10 A c l wx (hs.keep hb) hl)⟩
theorem told_127 (l : List UInt8) (hl : l.length ≤ 5000) : Told 127 l := by
  have hlen := len_127 l
  rw [decide_eq_true (Nat.zero_le _)] at hlen
  exact .inl ⟨⟨#[]⟩, ⟨#[]⟩, 0, 0, 0, [], 0, Nat.zero_le _, fun A c w hs => Rz.rd_127_ok A c l w hs hl, fun A c w hs => tk_def 5 127 _ _ _ _ _ _ _ A c l w hs hl _ hlen rfl rfl rfl rfl rfl rfl rfl rfl (fun wx hb => pk_127 A c l wx (hs.keep hb) hl)⟩
theorem told_255 (l : List UInt8) (hl : l.length ≤ 5000) : Told 255 l := by
  have hlen := len_255 l
  rw [decide_eq_true (Nat.zero_le _)] at hlen
  exact .inl ⟨⟨#[]⟩, ⟨#[]⟩, 0, 0, 0, [], 0, Nat.zero_le _, fun A c w hs => Rz.rd_255_ok A c l w hs hl, fun A c w hs => tk_def 5 255 _ _ _ _ _ _ _ A c l w hs hl _ hlen rfl rfl rfl rfl rfl rfl rfl rfl (fun wx hb => pk_255 A c l wx (hs.keep hb) hl)⟩
theorem told (K : Int) (hK : 0 ≤ K ∧ K < 256) (l : List UInt8) (hl : l.length ≤ 5000) : Told K l := by
  by_cases h2 : K = 2
  · subst h2; exact text_told 2 (by simp) l hl
  by_cases h13 : K = 13
  · subst h13; exact text_told 13 (by simp) l hl
  by_cases h14 : K = 14
  · subst h14; exact text_told 14 (by simp) l hl
  by_cases h3 : K = 3
  · subst h3; exact doc_told 3 (by simp) l hl
  by_cases h4 : K = 4
  · subst h4; exact doc_told 4 (by simp) l hl
  by_cases h12 : K = 12
  · subst h12; exact ptr_told l hl
  by_cases h15 : K = 15
  · subst h15; exact cws_told l hl
  by_cases h5 : K = 5
  · subst h5; exact bin_told l hl
  by_cases h7 : K = 7
  · subst h7; exact id_told l hl
  by_cases h1 : K = 1
  · subst h1; exact told_1 l hl
  by_cases h17 : K = 17
  · subst h17; exact told_17 l hl
  by_cases h9 : K = 9
  · subst h9; exact told_9 l hl
  by_cases h18 : K = 18
  · subst h18; exact told_18 l hl
  by_cases h16 : K = 16
  · subst h16; exact told_16 l hl
  by_cases h19 : K = 19
  · subst h19; exact told_19 l hl
  by_cases h8 : K = 8
  · subst h8; exact told_8 l hl
  by_cases h11 : K = 11
  · subst h11; exact told_11 l hl
  by_cases h6 : K = 6
  · subst h6; exact told_6 l hl
  by_cases h10 : K = 10
  · subst h10; exact told_10 l hl
  by_cases h127 : K = 127
  · subst h127; exact told_127 l hl
  by_cases h255 : K = 255
  · subst h255; exact told_255 l hl
  have hlen := len_no K l ⟨h6, h10, h255, h127, h8, h16, h1, h9, h18, h17, h7, h19, h2, h13, h14, h3, h4, h15, h5, h12, h11⟩
  refine .inr (.inl ⟨fun A c w hs => Rz.rd_K_no A c l w hs hl K hK.1 hK.2 (by simpa using h1) (by simpa using h2) (by simpa using h3) (by simpa using h4) (by simpa using h5) (by simpa using h7) (by simpa using h8) (by simpa using h9) (by simpa using h11) (by simpa using h12) (by simpa using h13) (by simpa using h14) (by simpa using h15) (by simpa using h16) (by simpa using h17) (by simpa using h18) (by simpa using h19) ?_, tkno 5 K l hl _ (by simpa using h3) (by simpa using h4) hlen⟩)
  rw [val_none l K (by simp [valBase, h6, h10, h255, h127, h8, h16, h1, h9, h18, h17, h7, h19, h2, h13, h14, h3, h4, h15, h5, h12, h11])]
end Tj
end Go.Proofs.YtbpopaegfhcdpaaGreatDoor.X


/- The law FnDocAnyRead. (gen_ar.py) -/
set_option linter.unusedVariables false
set_option linter.unusedSimpArgs false
set_option maxRecDepth 100000
namespace Go.Proofs.YtbpopaegfhcdpaaGreatDoor.X
open Go.RowKit Go.Proofs.YtbpopaegfhcdpaaGreatDoorW.PrintLast
namespace Ar
open Sp Al Av Aw Tk Tj
def R4.T9 : Bool × List (List Nat × List Nat) := (true, [([], []), ([0, 0], [0]), ([1], [1]), ([1], [1]), ([2, 3, 1], [1, 2, 3]), ([1, 4], [1, 4]), ([5, 1], [5]), ([6], [6]), ([7, 6], [6, 7]), ([6], [6]), ([6], [6]), ([9, 10, 6], [6, 9, 10]), ([11, 6], [6, 11]), ([8, 12, 6], [6, 8, 12]), ([6, 13], [6, 13]), ([14, 6], [14]), ([15], [15]), ([16, 15], [15, 16]), ([17, 15, 15], [15, 17]), ([18], [18]), ([18], [18]), ([19, 20, 18, 18], [18, 19, 20]), ([18, 21, 15], [15, 18, 21]), ([15, 22], [15, 22]), ([23, 21, 0, 1, 2, 3, 4, 5, 6, 7, 8, 9, 10, 11, 12, 13, 14, 15, 16, 17, 18, 19, 20, 21, 22, 23], [23])])
def R4.B9 : List Nat := [0, 1, 3, 3, 15, 31, 63, 127, 255, 127, 127, 1663, 3711, 8191, 16383, 32767, 65535, 131071, 262143, 524287, 524287, 2097151, 4194303, 8388607, 16777215]
theorem R4.tab9 : rtab .any (opsOf Tryz.f4 9) = R4.T9 := by kernel_rfl
theorem R4.bits9 : waitsOk R4.T9.2 R4.B9 = true := by kernel_rfl
theorem wf8 {n : Int} (h : (Lit.int .u8 n).wf = true) : 0 ≤ n ∧ n < 256 := by
  simp [Lit.wf, IntKind.bits, IntKind.signed, IntKind.min, IntKind.max] at h ⊢; omega
theorem docModest (A : Option Addr) (c p : Nat) (b : Bool) (hb : b = decide ((p : Int) ≤ 5000)) (w : World) :
    Calls Tryz.prog 14 #[.slice A p c] w fun e w' => e = .returned (.bool b) ∧ Below w.heap.size w w' := by
  have hb2 := hb.symm
  clear hb
  go_enter Tryz.func14, Tryz.ntmps14
  go_wp2
  go_ret
  exact ⟨rfl, Below.refl _ _⟩
theorem copyOf (A : Option Addr) (c : Nat) (L : List UInt8) (w wx : World) (hs : SB w A c L) (hl : L.length ≤ 5000) (hb : Below w.heap.size w wx) :
    Calls Tryz.prog 13 #[.slice A L.length c] wx fun e w' => (∃ A1 c1, e = .returned (.slice A1 L.length c1) ∧ SB w' A1 c1 L) ∧ Below wx.heap.size wx w' :=
  (fresh_of (docCopy A c L wx (hs.keep hb) (by omega))).mono fun e w' ⟨A1, c1, a1, a2, a3, a4⟩ => ⟨⟨A1, c1, a1, a2⟩, a4⟩
theorem ar_long (kq : Int) (hK : 0 ≤ kq ∧ kq < 256) (A : Option Addr) (c : Nat) (l : List UInt8) (w : World) (h : 2147483647 < l.length) : Calls Tryz.prog 4 #[.int .u8 kq, .slice A l.length c] w fun e w' => e = .returned (.bool true) ∧ Below w.heap.size w w' := by
  obtain ⟨p, hp⟩ : ∃ p, p = l.length := ⟨_, rfl⟩
  rw [← hp] at h ⊢
  have b1 : decide ((2147483647 : Int) < (p : Int)) = true := decide_eq_true (by omega)
  clear hp
  go_enter Tryz.func4, Tryz.ntmps4
  go_wp2_with fail
  go_ret
  exact ⟨rfl, Below.refl _ _⟩
theorem ar_mid (kq : Int) (hK : 0 ≤ kq ∧ kq < 256) (A : Option Addr) (c : Nat) (l : List UInt8) (w : World) (h0 : l.length ≤ 2147483647) (h : 5000 < l.length) : Calls Tryz.prog 4 #[.int .u8 kq, .slice A l.length c] w fun e w' => e = .returned (.bool true) ∧ Below w.heap.size w w' := by
  obtain ⟨p, hp⟩ : ∃ p, p = l.length := ⟨_, rfl⟩
  rw [← hp] at h h0 ⊢
  have HM := Lib.hid (docModest A c p false (decide_eq_false (by omega)).symm w)
  have b1 : decide ((2147483647 : Int) < (p : Int)) = false := decide_eq_false (by omega)
  clear hp h h0
  go_enter Tryz.func4, Tryz.ntmps4
  go_wp2_with fail
  refine HM.out.mono ?_
  rintro e w1 ⟨rfl, hb1⟩
  have HB1 := Lib.hid hb1
  clear hb1 HM
  go_wp2_with fail
  go_ret
  exact ⟨rfl, HB1.out⟩
set_option maxHeartbeats 2000000 in
theorem ar_odd (kq : Int) (hK : 0 ≤ kq ∧ kq < 256) (A : Option Addr) (c : Nat) (l : List UInt8) (w : World) (hl : l.length ≤ 5000) (hag : ∀ wx, Below w.heap.size w wx → Calls Tryz.prog 15 #[.int .i64 kq, .slice A l.length c] wx fun e w' => e = .returned (.bool false) ∧ Below wx.heap.size wx w') : Calls Tryz.prog 4 #[.int .u8 kq, .slice A l.length c] w fun e w' => e = .returned (.bool true) ∧ Below w.heap.size w w' := by
  have HAG := Lib.hid hag
  have i1 : wrap64 kq = kq := w64_in kq (by omega) (by omega)
  obtain ⟨p, hp⟩ : ∃ p, p = l.length := ⟨_, rfl⟩
  rw [← hp] at HAG hl ⊢
  have HM := Lib.hid (docModest A c p true (decide_eq_true (by omega)).symm w)
  have b1 : decide ((2147483647 : Int) < (p : Int)) = false := decide_eq_false (by omega)
  clear hp hl hag hK
  go_enter Tryz.func4, Tryz.ntmps4
  go_wp2_with fail
  refine HM.out.mono ?_
  rintro e w1 ⟨rfl, hb1⟩
  have HB1 := Lib.hid hb1
  clear hb1 HM
  go_wp2_with fail
  refine (HAG.out _ HB1.out).mono ?_
  rintro e w2 ⟨rfl, hb2⟩
  have HB2 := Lib.hid (bthen HB1.out hb2)
  clear hb2 HB1 HAG
  go_wp2_with fail
  go_ret
  exact ⟨rfl, HB2.out⟩
set_option maxHeartbeats 8000000 in
theorem ar_ok (kq : Int) (hK : 0 ≤ kq ∧ kq < 256) (A : Option Addr) (c : Nat) (l : List UInt8) (w : World) (hs : SB w A c l) (hl : l.length ≤ 5000) (hag : ∀ wx, Below w.heap.size w wx → Calls Tryz.prog 15 #[.int .i64 kq, .slice A l.length c] wx fun e w' => e = .returned (.bool true) ∧ Below wx.heap.size wx w') (text more : ByteArray) (n bits high : Int) (b : List UInt8) (cnt : Nat) (hcl : cnt ≤ l.length) (hrd : ∀ A c w, SB w A c l → Rr.RdOk kq l text more n bits high b (l.drop cnt) A c w) (htk : ∀ A c w, SB w A c l → TkOk kq l text more n bits high b cnt A c w) : Calls Tryz.prog 4 #[.int .u8 kq, .slice A l.length c] w fun e w' => e = .returned (.bool true) ∧ Below w.heap.size w w' := by
  have HAG := Lib.hid hag
  have HT := Lib.hid (fun wx (hb : Below w.heap.size w wx) => htk A c wx (hs.keep hb))
  have HRD := Lib.hid hrd
  unfold TkOk at HT
  unfold Rr.RdOk at HRD
  have HCp := Lib.hid (fun wx (hb : Below w.heap.size w wx) => copyOf A c l w wx hs hl hb)
  have i1 : wrap64 kq = kq := w64_in kq (by omega) (by omega)
  obtain ⟨p, hp⟩ : ∃ p, p = l.length := ⟨_, rfl⟩
  obtain ⟨A9, x9, s9⟩ := SB.from_ (P := Tryz.prog) Tryz.underlying22 rfl rfl .i64 A c l cnt (hcl) hs.le
  obtain ⟨rr, hrr⟩ : ∃ x, x = l.drop cnt := ⟨_, rfl⟩
  have hrl : l.length - cnt = rr.length := by rw [hrr, List.length_drop]
  rw [hrl] at x9
  rw [← hrr] at HRD
  obtain ⟨ZR, hZR⟩ : ∃ z : ByteArray, z = ⟨rr.toArray⟩ := ⟨_, rfl⟩
  have HZ9 : Hid (∀ W, Below w.heap.size w W → (convert 22 9 (.slice A9 rr.length (c - cnt))).run Tryz.prog W = .ok (.string ZR) W) := Lib.hid fun W h => by rw [hZR, hrr]; have h2 := str_of (s9 W (hs.keep h)); rw [← hrr] at h2 ⊢; exact h2
  have HZ : Hid (∀ A6 c6 W, SB W A6 c6 rr → (convert 22 9 (.slice A6 rr.length c6)).run Tryz.prog W = .ok (.string ZR) W) := Lib.hid fun A6 c6 W h => by rw [hZR]; exact str_of h
  have HAw := Lib.hid docAwake
  have HDS := Lib.hid (fun A1 A2 c1 c2 wx (h1 : SB wx A1 c1 b) (h2 : SB wx A2 c2 b) => docSame kq text more n bits high b A1 A2 c1 c2 wx h1 h2)
  obtain ⟨q, hq⟩ : ∃ q, q = b.length := ⟨_, rfl⟩
  rw [← hq] at HT HDS
  obtain ⟨m, hm⟩ : ∃ q, q = rr.length := ⟨_, rfl⟩
  rw [← hq, ← hm] at HRD
  rw [← hm] at x9 HZ9 HZ
  rw [← hp] at HAG HT HRD HCp x9 hl ⊢
  have HM := Lib.hid (docModest A c p true (decide_eq_true (by omega)).symm w)
  have b1 : decide ((2147483647 : Int) < (p : Int)) = false := decide_eq_false (by omega)
  clear hs hl hag hK hrd htk s9 hrr hrl hZR hm hq hcl hp
  go_enter Tryz.func4, Tryz.ntmps4
  go_wp2_with fail
  refine HM.out.mono ?_
  rintro e w1 ⟨rfl, hb1⟩
  have HB1 := Lib.hid hb1
  clear hb1 HM
  go_wp2_with fail
  refine (HAG.out _ HB1.out).mono ?_
  rintro e w2 ⟨rfl, hb2⟩
  have HB2 := Lib.hid (bthen HB1.out hb2)
  clear hb2 HB1 HAG
  go_wp2_with fail
  refine (HT.out _ HB2.out).mono ?_
  rintro e w3 ⟨⟨A3, c3, rfl, hs3⟩, hb3⟩
  have HB3 := Lib.hid (bthen HB2.out hb3)
  have HS3 := Lib.hid hs3
  clear hs3
  clear hb3 HT HB2
  go_wp2_with fail
  refine (HCp.out _ (balloc HB3.out HB3.out.size _)).mono ?_
  rintro e w4 ⟨⟨A4, c4, rfl, hs4⟩, hb4⟩
  have hx4 : Below (w3.heap.size + 1) (w3.alloc (.cells #[.int .i64 kq, .string text, .string more, .int .i64 n, .int .u64 bits, .int .u64 high, .slice A3 q c3, .slice none 0 0] 27)) w4 := by simpa using hb4
  have p0 := boxc hx4 0
  have p1 := boxc hx4 1
  have p2 := boxc hx4 2
  have p3 := boxc hx4 3
  have p4 := boxc hx4 4
  have p5 := boxc hx4 5
  have p6 := boxc hx4 6
  have p7 := boxc hx4 7
  simp only [List.getElem?_cons_succ, List.getElem?_cons_zero] at p0 p1 p2 p3 p4 p5 p6 p7
  have HB4 := Lib.hid (bthen HB3.out (boxb hx4))
  have HS4 := Lib.hid hs4
  have HS34 := Lib.hid (HS3.out.keep (boxb hx4))
  clear hb4 hs4 hx4 HCp HB3 HS3
  go_wp2_with fail
  refine (HRD.out A4 c4 w4 HS4.out).mono ?_
  rintro e w5 ⟨⟨A5, c5, A6, c6, rfl, hs5, hs6⟩, hb5⟩
  have HS5 := Lib.hid hs5
  have r0 := (hb5.cell (World.block_lt_of_cell? _ _ p0)).trans p0
  have r1 := (hb5.cell (World.block_lt_of_cell? _ _ p1)).trans p1
  have r2 := (hb5.cell (World.block_lt_of_cell? _ _ p2)).trans p2
  have r3 := (hb5.cell (World.block_lt_of_cell? _ _ p3)).trans p3
  have r4 := (hb5.cell (World.block_lt_of_cell? _ _ p4)).trans p4
  have r5 := (hb5.cell (World.block_lt_of_cell? _ _ p5)).trans p5
  have r6 := (hb5.cell (World.block_lt_of_cell? _ _ p6)).trans p6
  have r7 := (hb5.cell (World.block_lt_of_cell? _ _ p7)).trans p7
  have HB5 := Lib.hid (bthen HB4.out hb5)
  have HS6 := Lib.hid hs6
  have HS35 := Lib.hid (HS34.out.keep hb5)
  have hlt3 : w3.heap.size < w5.heap.size := World.block_lt_of_cell? _ _ r0
  clear hb5 hs5 HS34 hs6 HRD HS4 HB4 p0 p1 p2 p3 p4 p5 p6 p7
  go_wp2_with fail
  have hbW : Below w5.heap.size w5 (w5.alloc (.cells #[.int .i64 kq, .string text, .string more, .int .i64 n, .int .u64 bits, .int .u64 high, .slice A5 q c5, .slice none 0 0] 27)) := balloc (Below.refl _ _) (Nat.le_refl _) _
  have u0 : (w5.alloc (.cells #[.int .i64 kq, .string text, .string more, .int .i64 n, .int .u64 bits, .int .u64 high, .slice A5 q c5, .slice none 0 0] 27)).cell? ⟨w3.heap.size, 0, none⟩ = some (.int .i64 kq) := (hbW.cell (World.block_lt_of_cell? _ _ r0)).trans r0
  have u1 : (w5.alloc (.cells #[.int .i64 kq, .string text, .string more, .int .i64 n, .int .u64 bits, .int .u64 high, .slice A5 q c5, .slice none 0 0] 27)).cell? ⟨w3.heap.size, 1, none⟩ = some (.string text) := (hbW.cell (World.block_lt_of_cell? _ _ r1)).trans r1
  have u2 : (w5.alloc (.cells #[.int .i64 kq, .string text, .string more, .int .i64 n, .int .u64 bits, .int .u64 high, .slice A5 q c5, .slice none 0 0] 27)).cell? ⟨w3.heap.size, 2, none⟩ = some (.string more) := (hbW.cell (World.block_lt_of_cell? _ _ r2)).trans r2
  have u3 : (w5.alloc (.cells #[.int .i64 kq, .string text, .string more, .int .i64 n, .int .u64 bits, .int .u64 high, .slice A5 q c5, .slice none 0 0] 27)).cell? ⟨w3.heap.size, 3, none⟩ = some (.int .i64 n) := (hbW.cell (World.block_lt_of_cell? _ _ r3)).trans r3
  have u4 : (w5.alloc (.cells #[.int .i64 kq, .string text, .string more, .int .i64 n, .int .u64 bits, .int .u64 high, .slice A5 q c5, .slice none 0 0] 27)).cell? ⟨w3.heap.size, 4, none⟩ = some (.int .u64 bits) := (hbW.cell (World.block_lt_of_cell? _ _ r4)).trans r4
  have u5 : (w5.alloc (.cells #[.int .i64 kq, .string text, .string more, .int .i64 n, .int .u64 bits, .int .u64 high, .slice A5 q c5, .slice none 0 0] 27)).cell? ⟨w3.heap.size, 5, none⟩ = some (.int .u64 high) := (hbW.cell (World.block_lt_of_cell? _ _ r5)).trans r5
  have u6 : (w5.alloc (.cells #[.int .i64 kq, .string text, .string more, .int .i64 n, .int .u64 bits, .int .u64 high, .slice A5 q c5, .slice none 0 0] 27)).cell? ⟨w3.heap.size, 6, none⟩ = some (.slice A3 q c3) := (hbW.cell (World.block_lt_of_cell? _ _ r6)).trans r6
  have u7 : (w5.alloc (.cells #[.int .i64 kq, .string text, .string more, .int .i64 n, .int .u64 bits, .int .u64 high, .slice A5 q c5, .slice none 0 0] 27)).cell? ⟨w3.heap.size, 7, none⟩ = some (.slice none 0 0) := (hbW.cell (World.block_lt_of_cell? _ _ r7)).trans r7
  have hnw : (w5.alloc (.cells #[.int .i64 kq, .string text, .string more, .int .i64 n, .int .u64 bits, .int .u64 high, .slice A5 q c5, .slice none 0 0] 27)).heap[w5.heap.size]? = some (.cells #[.int .i64 kq, .string text, .string more, .int .i64 n, .int .u64 bits, .int .u64 high, .slice A5 q c5, .slice none 0 0] 27 (0, 0)) := heap_alloc_new w5 _
  have v0 : (w5.alloc (.cells #[.int .i64 kq, .string text, .string more, .int .i64 n, .int .u64 bits, .int .u64 high, .slice A5 q c5, .slice none 0 0] 27)).cell? ⟨w5.heap.size, 0, none⟩ = some (.int .i64 kq) := by simp only [World.cell?, hnw]; rfl
  have v1 : (w5.alloc (.cells #[.int .i64 kq, .string text, .string more, .int .i64 n, .int .u64 bits, .int .u64 high, .slice A5 q c5, .slice none 0 0] 27)).cell? ⟨w5.heap.size, 1, none⟩ = some (.string text) := by simp only [World.cell?, hnw]; rfl
  have v2 : (w5.alloc (.cells #[.int .i64 kq, .string text, .string more, .int .i64 n, .int .u64 bits, .int .u64 high, .slice A5 q c5, .slice none 0 0] 27)).cell? ⟨w5.heap.size, 2, none⟩ = some (.string more) := by simp only [World.cell?, hnw]; rfl
  have v3 : (w5.alloc (.cells #[.int .i64 kq, .string text, .string more, .int .i64 n, .int .u64 bits, .int .u64 high, .slice A5 q c5, .slice none 0 0] 27)).cell? ⟨w5.heap.size, 3, none⟩ = some (.int .i64 n) := by simp only [World.cell?, hnw]; rfl
  have v4 : (w5.alloc (.cells #[.int .i64 kq, .string text, .string more, .int .i64 n, .int .u64 bits, .int .u64 high, .slice A5 q c5, .slice none 0 0] 27)).cell? ⟨w5.heap.size, 4, none⟩ = some (.int .u64 bits) := by simp only [World.cell?, hnw]; rfl
  have v5 : (w5.alloc (.cells #[.int .i64 kq, .string text, .string more, .int .i64 n, .int .u64 bits, .int .u64 high, .slice A5 q c5, .slice none 0 0] 27)).cell? ⟨w5.heap.size, 5, none⟩ = some (.int .u64 high) := by simp only [World.cell?, hnw]; rfl
  have v6 : (w5.alloc (.cells #[.int .i64 kq, .string text, .string more, .int .i64 n, .int .u64 bits, .int .u64 high, .slice A5 q c5, .slice none 0 0] 27)).cell? ⟨w5.heap.size, 6, none⟩ = some (.slice A5 q c5) := by simp only [World.cell?, hnw]; rfl
  have v7 : (w5.alloc (.cells #[.int .i64 kq, .string text, .string more, .int .i64 n, .int .u64 bits, .int .u64 high, .slice A5 q c5, .slice none 0 0] 27)).cell? ⟨w5.heap.size, 7, none⟩ = some (.slice none 0 0) := by simp only [World.cell?, hnw]; rfl
  have HBW := Lib.hid hbW
  have HBW5 := Lib.hid (HB5.out.trans (hbW.mono HB5.out.size))
  have HU := Lib.hid (And.intro u0 v0)
  clear hnw hbW HU r0 r1 r2 r3 r4 r5 r6 r7
  refine start_ (n := 25) (S := fun w' => w'.cell? ⟨w3.heap.size, 0, none⟩ = some (.int .i64 kq) ∧ w'.cell? ⟨w3.heap.size, 1, none⟩ = some (.string text) ∧ w'.cell? ⟨w3.heap.size, 2, none⟩ = some (.string more) ∧ w'.cell? ⟨w3.heap.size, 3, none⟩ = some (.int .i64 n) ∧ w'.cell? ⟨w3.heap.size, 4, none⟩ = some (.int .u64 bits) ∧ w'.cell? ⟨w3.heap.size, 5, none⟩ = some (.int .u64 high) ∧ w'.cell? ⟨w3.heap.size, 6, none⟩ = some (.slice A3 q c3) ∧ w'.cell? ⟨w3.heap.size, 7, none⟩ = some (.slice none 0 0) ∧ w'.cell? ⟨w5.heap.size, 0, none⟩ = some (.int .i64 kq) ∧ w'.cell? ⟨w5.heap.size, 1, none⟩ = some (.string text) ∧ w'.cell? ⟨w5.heap.size, 2, none⟩ = some (.string more) ∧ w'.cell? ⟨w5.heap.size, 3, none⟩ = some (.int .i64 n) ∧ w'.cell? ⟨w5.heap.size, 4, none⟩ = some (.int .u64 bits) ∧ w'.cell? ⟨w5.heap.size, 5, none⟩ = some (.int .u64 high) ∧ w'.cell? ⟨w5.heap.size, 6, none⟩ = some (.slice A5 q c5) ∧ w'.cell? ⟨w5.heap.size, 7, none⟩ = some (.slice none 0 0) ∧ (convert 22 9 (.slice A6 m c6)).run Tryz.prog w' = .ok (.string ZR) w' ∧ (convert 22 9 (.slice A9 m (c - cnt))).run Tryz.prog w' = .ok (.string ZR) w') (ds := []) #[false, false, false, false, false, false, false, false, false, false, false, false, false, false, false, false, false, false, false, false, false, false, false, false, false] (by kernel_rfl) rfl rfl ⟨(by exact u0), (by exact u1), (by exact u2), (by exact u3), (by exact u4), (by exact u5), (by exact u6), (by exact u7), (by exact v0), (by exact v1), (by exact v2), (by exact v3), (by exact v4), (by exact v5), (by exact v6), (by exact v7), (HZ.out _ _ _ (HS6.out.keep (bdrew HBW.out))), (HZ9.out _ (bdrew HBW5.out))⟩ (fun hHeld => ?_)
  refine with_tabW R4.tab9 R4.bits9 (fun HT_ HW_ => ?_)
  refine one_ (i := 0) (N := some 43) #[true, false, false, false, false, false, false, false, false, false, false, false, false, false, false, false, false, false, false, false, false, false, false, false, false] rfl rfl (one_of HT_.out (by kernel_rfl)) (by decide) (fun K hK => ?_)
  refine goes_ Tryz.func18 (by kernel_rfl) rfl #[] (by rfl) rfl rfl (by first | rfl | simp) ?_
  with_reducible refine (HAw.out _).mono ?_
  rintro e w6 ⟨rfl, hb6⟩
  refine ⟨_, rfl, ?_⟩
  have hB6 : Below w5.heap.size w5 w6 := (bdrew HBW.out).trans (hb6.mono (by have h := HBW.out.size; exact h))
  have HB6 := HB5.out.trans (hB6.mono HB5.out.size)
  refine hK.out _ _ ⟨((hb6.cell (World.block_lt_of_cell? _ _ hHeld.1)).trans hHeld.1), ((hb6.cell (World.block_lt_of_cell? _ _ hHeld.2.1)).trans hHeld.2.1), ((hb6.cell (World.block_lt_of_cell? _ _ hHeld.2.2.1)).trans hHeld.2.2.1), ((hb6.cell (World.block_lt_of_cell? _ _ hHeld.2.2.2.1)).trans hHeld.2.2.2.1), ((hb6.cell (World.block_lt_of_cell? _ _ hHeld.2.2.2.2.1)).trans hHeld.2.2.2.2.1), ((hb6.cell (World.block_lt_of_cell? _ _ hHeld.2.2.2.2.2.1)).trans hHeld.2.2.2.2.2.1), ((hb6.cell (World.block_lt_of_cell? _ _ hHeld.2.2.2.2.2.2.1)).trans hHeld.2.2.2.2.2.2.1), ((hb6.cell (World.block_lt_of_cell? _ _ hHeld.2.2.2.2.2.2.2.1)).trans hHeld.2.2.2.2.2.2.2.1), ((hb6.cell (World.block_lt_of_cell? _ _ hHeld.2.2.2.2.2.2.2.2.1)).trans hHeld.2.2.2.2.2.2.2.2.1), ((hb6.cell (World.block_lt_of_cell? _ _ hHeld.2.2.2.2.2.2.2.2.2.1)).trans hHeld.2.2.2.2.2.2.2.2.2.1), ((hb6.cell (World.block_lt_of_cell? _ _ hHeld.2.2.2.2.2.2.2.2.2.2.1)).trans hHeld.2.2.2.2.2.2.2.2.2.2.1), ((hb6.cell (World.block_lt_of_cell? _ _ hHeld.2.2.2.2.2.2.2.2.2.2.2.1)).trans hHeld.2.2.2.2.2.2.2.2.2.2.2.1), ((hb6.cell (World.block_lt_of_cell? _ _ hHeld.2.2.2.2.2.2.2.2.2.2.2.2.1)).trans hHeld.2.2.2.2.2.2.2.2.2.2.2.2.1), ((hb6.cell (World.block_lt_of_cell? _ _ hHeld.2.2.2.2.2.2.2.2.2.2.2.2.2.1)).trans hHeld.2.2.2.2.2.2.2.2.2.2.2.2.2.1), ((hb6.cell (World.block_lt_of_cell? _ _ hHeld.2.2.2.2.2.2.2.2.2.2.2.2.2.2.1)).trans hHeld.2.2.2.2.2.2.2.2.2.2.2.2.2.2.1), ((hb6.cell (World.block_lt_of_cell? _ _ hHeld.2.2.2.2.2.2.2.2.2.2.2.2.2.2.2.1)).trans hHeld.2.2.2.2.2.2.2.2.2.2.2.2.2.2.2.1), (HZ.out _ _ _ (HS6.out.keep hB6)), (HZ9.out _ HB6)⟩ (fun hHeld => ?_)
  clear hK K
  refine norm_ (a' := ?_) ?_ ?_
  rotate_left
  · show Act.put _ (some 43) _ = _
    simp only [Act.put, List.setIfInBounds_toArray, List.set_cons_zero, List.set_cons_succ, i64_w, i32_w]
    rfl
  refine pure_ (i := 1) (N := some 44) (v := ?_) (a' := ?_) #[true, true, false, false, false, false, false, false, false, false, false, false, false, false, false, false, false, false, false, false, false, false, false, false, false] rfl rfl (any_of HT_.out (by kernel_rfl)) (fun _ _ _ h => h) (Or.inl ⟨by rfl, ?_⟩) ?_ ?_
  rotate_left
  · intro w'
    go_simp
    with_reducible rfl
  rotate_left
  · simp only [Act.put, List.setIfInBounds_toArray, List.set_cons_zero, List.set_cons_succ, i64_w, i32_w]
    rfl
  refine pure_ (i := 2) (N := some 45) (v := ?_) (a' := ?_) #[true, true, true, false, false, false, false, false, false, false, false, false, false, false, false, false, false, false, false, false, false, false, false, false, false] rfl rfl (any_of HT_.out (by kernel_rfl)) (fun _ _ _ h => h) (Or.inl ⟨by rfl, ?_⟩) ?_ ?_
  rotate_left
  · intro w'
    go_simp
    with_reducible rfl
  rotate_left
  · simp only [Act.put, List.setIfInBounds_toArray, List.set_cons_zero, List.set_cons_succ, i64_w, i32_w]
    rfl
  refine pure_ (i := 3) (N := some 46) (v := ?_) (a' := ?_) #[true, true, true, true, false, false, false, false, false, false, false, false, false, false, false, false, false, false, false, false, false, false, false, false, false] rfl rfl (any_of HT_.out (by kernel_rfl)) (fun _ _ _ h => h) (Or.inl ⟨by rfl, ?_⟩) ?_ ?_
  rotate_left
  · intro w'
    go_simp
    with_reducible rfl
  rotate_left
  · simp only [Act.put, List.setIfInBounds_toArray, List.set_cons_zero, List.set_cons_succ, i64_w, i32_w]
    rfl
  refine pure_ (i := 4) (N := some 47) (v := ?_) (a' := ?_) #[true, true, true, true, true, false, false, false, false, false, false, false, false, false, false, false, false, false, false, false, false, false, false, false, false] rfl rfl (any_of HT_.out (by kernel_rfl)) (fun _ _ _ h => h) (Or.inl ⟨by rfl, ?_⟩) ?_ ?_
  rotate_left
  · intro w'
    go_simp
    with_reducible rfl
  rotate_left
  · simp only [Act.put, List.setIfInBounds_toArray, List.set_cons_zero, List.set_cons_succ, i64_w, i32_w]
    rfl
  refine pure_ (i := 5) (N := some 48) (v := ?_) (a' := ?_) #[true, true, true, true, true, true, false, false, false, false, false, false, false, false, false, false, false, false, false, false, false, false, false, false, false] rfl rfl (any_of HT_.out (by kernel_rfl)) (fun _ _ _ h => h) (Or.inl ⟨by rfl, ?_⟩) ?_ ?_
  rotate_left
  · intro w'
    go_simp
    with_reducible rfl
  rotate_left
  · simp only [Act.put, List.setIfInBounds_toArray, List.set_cons_zero, List.set_cons_succ, i64_w, i32_w]
    rfl
  refine pure_ (i := 6) (N := some 49) (v := ?_) (a' := ?_) #[true, true, true, true, true, true, true, false, false, false, false, false, false, false, false, false, false, false, false, false, false, false, false, false, false] rfl rfl (any_of HT_.out (by kernel_rfl)) (fun _ _ _ h => h) (Or.inl ⟨by rfl, ?_⟩) ?_ ?_
  rotate_left
  · intro w'
    go_simp
    with_reducible rfl
  rotate_left
  · simp only [Act.put, List.setIfInBounds_toArray, List.set_cons_zero, List.set_cons_succ, i64_w, i32_w]
    rfl
  refine pure_ (i := 7) (N := some 50) (v := ?_) (a' := ?_) #[true, true, true, true, true, true, true, true, false, false, false, false, false, false, false, false, false, false, false, false, false, false, false, false, false] rfl rfl (any_of HT_.out (by kernel_rfl)) (fun _ _ _ h => h) (Or.inl ⟨by rfl, ?_⟩) ?_ ?_
  rotate_left
  · intro w'
    go_simp
    with_reducible rfl
  rotate_left
  · simp only [Act.put, List.setIfInBounds_toArray, List.set_cons_zero, List.set_cons_succ, i64_w, i32_w]
    rfl
  refine pure_ (i := 9) (N := some 52) (v := ?_) (a' := ?_) #[true, true, true, true, true, true, true, true, false, true, false, false, false, false, false, false, false, false, false, false, false, false, false, false, false] rfl rfl (any_of HT_.out (by kernel_rfl)) (fun _ _ _ h => h) (Or.inl ⟨by rfl, ?_⟩) ?_ ?_
  rotate_left
  · intro w'
    go_simp
    with_reducible rfl
  rotate_left
  · simp only [Act.put, List.setIfInBounds_toArray, List.set_cons_zero, List.set_cons_succ, i64_w, i32_w]
    rfl
  refine pure_ (i := 10) (N := some 53) (v := ?_) (a' := ?_) #[true, true, true, true, true, true, true, true, false, true, true, false, false, false, false, false, false, false, false, false, false, false, false, false, false] rfl rfl (any_of HT_.out (by kernel_rfl)) (fun _ _ _ h => h) (Or.inl ⟨by rfl, ?_⟩) ?_ ?_
  rotate_left
  · intro w'
    go_simp
    with_reducible rfl
  rotate_left
  · simp only [Act.put, List.setIfInBounds_toArray, List.set_cons_zero, List.set_cons_succ, i64_w, i32_w]
    rfl
  refine pure_ (i := 11) (N := some 54) (v := ?_) (a' := ?_) #[true, true, true, true, true, true, true, true, false, true, true, true, false, false, false, false, false, false, false, false, false, false, false, false, false] rfl rfl (any_of HT_.out (by kernel_rfl)) (fun _ _ _ h => h) (Or.inl ⟨by rfl, ?_⟩) ?_ ?_
  rotate_left
  · intro w'
    go_simp
    with_reducible rfl
  rotate_left
  · simp only [Act.put, List.setIfInBounds_toArray, List.set_cons_zero, List.set_cons_succ, i64_w, i32_w]
    rfl
  refine take_ (i := 8) (N := some 51) (v := ?_) (a' := ?_) #[true, true, true, true, true, true, true, true, true, true, true, true, false, false, false, false, false, false, false, false, false, false, false, false, false] rfl rfl (take_ofW HT_.out HW_.out (by kernel_rfl)) (fun _ _ _ h => h) (Or.inl ⟨by rfl, ?_⟩) hHeld ?_ ?_
  rotate_left
  · rintro w' ⟨s0, s1, s2, s3, s4, s5, s6, s7, s8, s9, s10, s11, s12, s13, s14, s15, s16, s17⟩
    go_simp
    with_reducible rfl
  rotate_left
  · simp only [Act.put, List.setIfInBounds_toArray, List.set_cons_zero, List.set_cons_succ, i64_w, i32_w]
    rfl
  refine take_ (i := 12) (N := some 55) (v := ?_) (a' := ?_) #[true, true, true, true, true, true, true, true, true, true, true, true, true, false, false, false, false, false, false, false, false, false, false, false, false] rfl rfl (take_ofW HT_.out HW_.out (by kernel_rfl)) (fun _ _ _ h => h) (Or.inl ⟨by rfl, ?_⟩) hHeld ?_ ?_
  rotate_left
  · rintro w' ⟨s0, s1, s2, s3, s4, s5, s6, s7, s8, s9, s10, s11, s12, s13, s14, s15, s16, s17⟩
    go_simp
    with_reducible rfl
  rotate_left
  · simp only [Act.put, List.setIfInBounds_toArray, List.set_cons_zero, List.set_cons_succ, i64_w, i32_w]
    rfl
  refine pure_ (i := 13) (N := some 56) (v := ?_) (a' := ?_) #[true, true, true, true, true, true, true, true, true, true, true, true, true, true, false, false, false, false, false, false, false, false, false, false, false] rfl rfl (any_of HT_.out (by kernel_rfl)) (fun _ _ _ h => h) (Or.inl ⟨by rfl, ?_⟩) ?_ ?_
  rotate_left
  · intro w'
    go_simp
    with_reducible rfl
  rotate_left
  · simp only [Act.put, List.setIfInBounds_toArray, List.set_cons_zero, List.set_cons_succ, i64_w, i32_w]
    rfl
  refine pure_ (i := 14) (N := some 57) (v := ?_) (a' := ?_) #[true, true, true, true, true, true, true, true, true, true, true, true, true, true, true, false, false, false, false, false, false, false, false, false, false] rfl rfl (any_of HT_.out (by kernel_rfl)) (fun _ _ _ h => h) (Or.inl ⟨by rfl, ?_⟩) ?_ ?_
  rotate_left
  · intro w'
    go_simp
    with_reducible rfl
  rotate_left
  · simp only [Act.put, List.setIfInBounds_toArray, List.set_cons_zero, List.set_cons_succ, i64_w, i32_w]
    rfl
  refine pure_ (i := 15) (N := some 58) (v := ?_) (a' := ?_) #[true, true, true, true, true, true, true, true, true, true, true, true, true, true, true, true, false, false, false, false, false, false, false, false, false] rfl rfl (any_of HT_.out (by kernel_rfl)) (fun _ _ _ h => h) (Or.inl ⟨by rfl, ?_⟩) ?_ ?_
  rotate_left
  · intro w'
    go_simp
    with_reducible rfl
  rotate_left
  · simp only [Act.put, List.setIfInBounds_toArray, List.set_cons_zero, List.set_cons_succ, i64_w, i32_w]
    rfl
  refine pure_ (i := 16) (N := some 59) (v := ?_) (a' := ?_) #[true, true, true, true, true, true, true, true, true, true, true, true, true, true, true, true, true, false, false, false, false, false, false, false, false] rfl rfl (any_of HT_.out (by kernel_rfl)) (fun _ _ _ h => h) (Or.inl ⟨by rfl, ?_⟩) ?_ ?_
  rotate_left
  · intro w'
    go_simp
    with_reducible rfl
  rotate_left
  · simp only [Act.put, List.setIfInBounds_toArray, List.set_cons_zero, List.set_cons_succ, i64_w, i32_w]
    rfl
  refine pure_ (i := 17) (N := some 60) (v := ?_) (a' := ?_) #[true, true, true, true, true, true, true, true, true, true, true, true, true, true, true, true, true, true, false, false, false, false, false, false, false] rfl rfl (any_of HT_.out (by kernel_rfl)) (fun _ _ _ h => h) (Or.inl ⟨by rfl, ?_⟩) ?_ ?_
  rotate_left
  · intro w'
    go_simp
    with_reducible rfl
  rotate_left
  · simp only [Act.put, List.setIfInBounds_toArray, List.set_cons_zero, List.set_cons_succ, i64_w, i32_w]
    rfl
  refine pure_ (i := 18) (N := some 61) (v := ?_) (a' := ?_) #[true, true, true, true, true, true, true, true, true, true, true, true, true, true, true, true, true, true, true, false, false, false, false, false, false] rfl rfl (any_of HT_.out (by kernel_rfl)) (fun _ _ _ h => h) (Or.inl ⟨by rfl, ?_⟩) ?_ ?_
  rotate_left
  · intro w'
    go_simp
    with_reducible rfl
  rotate_left
  · simp only [Act.put, List.setIfInBounds_toArray, List.set_cons_zero, List.set_cons_succ, i64_w, i32_w]
    rfl
  refine take_ (i := 19) (N := some 62) (v := ?_) (a' := ?_) #[true, true, true, true, true, true, true, true, true, true, true, true, true, true, true, true, true, true, true, true, false, false, false, false, false] rfl rfl (take_ofW HT_.out HW_.out (by kernel_rfl)) (fun _ _ _ h => h) (Or.inl ⟨by rfl, ?_⟩) hHeld ?_ ?_
  rotate_left
  · rintro w' ⟨s0, s1, s2, s3, s4, s5, s6, s7, s8, s9, s10, s11, s12, s13, s14, s15, s16, s17⟩
    go_simp
    with_reducible rfl
  rotate_left
  · simp only [Act.put, List.setIfInBounds_toArray, List.set_cons_zero, List.set_cons_succ, i64_w, i32_w]
    rfl
  refine take_ (i := 20) (N := some 63) (v := ?_) (a' := ?_) #[true, true, true, true, true, true, true, true, true, true, true, true, true, true, true, true, true, true, true, true, true, false, false, false, false] rfl rfl (take_ofW HT_.out HW_.out (by kernel_rfl)) (fun _ _ _ h => h) (Or.inl ⟨by rfl, ?_⟩) hHeld ?_ ?_
  rotate_left
  · rintro w' ⟨s0, s1, s2, s3, s4, s5, s6, s7, s8, s9, s10, s11, s12, s13, s14, s15, s16, s17⟩
    go_simp
    with_reducible rfl
  rotate_left
  · simp only [Act.put, List.setIfInBounds_toArray, List.set_cons_zero, List.set_cons_succ, i64_w, i32_w]
    rfl
  refine one_ (i := 21) (N := some 64) #[true, true, true, true, true, true, true, true, true, true, true, true, true, true, true, true, true, true, true, true, true, true, false, false, false] rfl rfl (one_of HT_.out (by kernel_rfl)) (by decide) (fun K hK => ?_)
  refine goes_ Tryz.func19 (by kernel_rfl) rfl #[.agg #[.int .i64 kq, .string text, .string more, .int .i64 n, .int .u64 bits, .int .u64 high, .slice A5 q c5, .slice none 0 0], .agg #[.int .i64 kq, .string text, .string more, .int .i64 n, .int .u64 bits, .int .u64 high, .slice A3 q c3, .slice none 0 0]] (by rfl) rfl rfl (by simp only [List.map_toArray, List.map_cons, List.map_nil]; rfl) ?_
  with_reducible refine (HDS.out _ _ _ _ _ (HS5.out.keep hB6) (HS35.out.keep hB6)).mono ?_
  rintro e w7 ⟨rfl, hb7⟩
  refine ⟨_, rfl, ?_⟩
  have HB7 := HB6.trans (hb7.mono HB6.size)
  refine hK.out _ _ ⟨((hb7.cell (World.block_lt_of_cell? _ _ hHeld.1)).trans hHeld.1), ((hb7.cell (World.block_lt_of_cell? _ _ hHeld.2.1)).trans hHeld.2.1), ((hb7.cell (World.block_lt_of_cell? _ _ hHeld.2.2.1)).trans hHeld.2.2.1), ((hb7.cell (World.block_lt_of_cell? _ _ hHeld.2.2.2.1)).trans hHeld.2.2.2.1), ((hb7.cell (World.block_lt_of_cell? _ _ hHeld.2.2.2.2.1)).trans hHeld.2.2.2.2.1), ((hb7.cell (World.block_lt_of_cell? _ _ hHeld.2.2.2.2.2.1)).trans hHeld.2.2.2.2.2.1), ((hb7.cell (World.block_lt_of_cell? _ _ hHeld.2.2.2.2.2.2.1)).trans hHeld.2.2.2.2.2.2.1), ((hb7.cell (World.block_lt_of_cell? _ _ hHeld.2.2.2.2.2.2.2.1)).trans hHeld.2.2.2.2.2.2.2.1), ((hb7.cell (World.block_lt_of_cell? _ _ hHeld.2.2.2.2.2.2.2.2.1)).trans hHeld.2.2.2.2.2.2.2.2.1), ((hb7.cell (World.block_lt_of_cell? _ _ hHeld.2.2.2.2.2.2.2.2.2.1)).trans hHeld.2.2.2.2.2.2.2.2.2.1), ((hb7.cell (World.block_lt_of_cell? _ _ hHeld.2.2.2.2.2.2.2.2.2.2.1)).trans hHeld.2.2.2.2.2.2.2.2.2.2.1), ((hb7.cell (World.block_lt_of_cell? _ _ hHeld.2.2.2.2.2.2.2.2.2.2.2.1)).trans hHeld.2.2.2.2.2.2.2.2.2.2.2.1), ((hb7.cell (World.block_lt_of_cell? _ _ hHeld.2.2.2.2.2.2.2.2.2.2.2.2.1)).trans hHeld.2.2.2.2.2.2.2.2.2.2.2.2.1), ((hb7.cell (World.block_lt_of_cell? _ _ hHeld.2.2.2.2.2.2.2.2.2.2.2.2.2.1)).trans hHeld.2.2.2.2.2.2.2.2.2.2.2.2.2.1), ((hb7.cell (World.block_lt_of_cell? _ _ hHeld.2.2.2.2.2.2.2.2.2.2.2.2.2.2.1)).trans hHeld.2.2.2.2.2.2.2.2.2.2.2.2.2.2.1), ((hb7.cell (World.block_lt_of_cell? _ _ hHeld.2.2.2.2.2.2.2.2.2.2.2.2.2.2.2.1)).trans hHeld.2.2.2.2.2.2.2.2.2.2.2.2.2.2.2.1), (HZ.out _ _ _ (HS6.out.keep (hB6.trans (hb7.mono hB6.size)))), (HZ9.out _ HB7)⟩ (fun hHeld => ?_)
  clear hK K
  refine norm_ (a' := ?_) ?_ ?_
  rotate_left
  · show Act.put _ (some 64) _ = _
    simp only [Act.put, List.setIfInBounds_toArray, List.set_cons_zero, List.set_cons_succ, i64_w, i32_w]
    rfl
  refine pure_ (i := 22) (N := some 65) (v := ?_) (a' := ?_) #[true, true, true, true, true, true, true, true, true, true, true, true, true, true, true, true, true, true, true, true, true, true, true, false, false] rfl rfl (any_of HT_.out (by kernel_rfl)) (fun _ _ _ h => h) (Or.inl ⟨by rfl, ?_⟩) ?_ ?_
  rotate_left
  · intro w'
    go_simp
    with_reducible rfl
  rotate_left
  · simp only [Act.put, List.setIfInBounds_toArray, List.set_cons_zero, List.set_cons_succ, i64_w, i32_w]
    rfl
  refine pure_ (i := 23) (N := some 66) (v := ?_) (a' := ?_) #[true, true, true, true, true, true, true, true, true, true, true, true, true, true, true, true, true, true, true, true, true, true, true, true, false] rfl rfl (any_of HT_.out (by kernel_rfl)) (fun _ _ _ h => h) (Or.inl ⟨by rfl, ?_⟩) ?_ ?_
  rotate_left
  · intro w'
    go_simp
    with_reducible rfl
  rotate_left
  · simp only [Act.put, List.setIfInBounds_toArray, List.set_cons_zero, List.set_cons_succ, i64_w, i32_w]
    rfl
  refine pure_ (i := 24) (N := some 4) (v := ?_) (a' := ?_) #[true, true, true, true, true, true, true, true, true, true, true, true, true, true, true, true, true, true, true, true, true, true, true, true, true] rfl rfl (any_of HT_.out (by kernel_rfl)) (fun _ _ _ h => h) (Or.inl ⟨by rfl, ?_⟩) ?_ ?_
  rotate_left
  · intro w'
    go_simp
    with_reducible rfl
  rotate_left
  · simp only [Act.put, List.setIfInBounds_toArray, List.set_cons_zero, List.set_cons_succ, i64_w, i32_w]
    rfl
  refine done_ (done_of HT_.out (by kernel_rfl)) ?_
  have HE := Lib.hid HB7
  clear hHeld
  go_wp2_with fail
  go_ret
  exact ⟨by first | rfl | simp, HE.out⟩
set_option maxHeartbeats 8000000 in
theorem ar_no (kq : Int) (hK : 0 ≤ kq ∧ kq < 256) (A : Option Addr) (c : Nat) (l : List UInt8) (w : World) (hs : SB w A c l) (hl : l.length ≤ 5000) (hag : ∀ wx, Below w.heap.size w wx → Calls Tryz.prog 15 #[.int .i64 kq, .slice A l.length c] wx fun e w' => e = .returned (.bool true) ∧ Below wx.heap.size wx w') (hrd : ∀ A c w, SB w A c l → Rr.RdNo kq l A c w) (htk : ∀ A c w, SB w A c l → TkNo kq l A c w) : Calls Tryz.prog 4 #[.int .u8 kq, .slice A l.length c] w fun e w' => e = .returned (.bool true) ∧ Below w.heap.size w w' := by
  have HAG := Lib.hid hag
  have HT := Lib.hid (fun wx (hb : Below w.heap.size w wx) => htk A c wx (hs.keep hb))
  have HRD := Lib.hid hrd
  unfold TkNo at HT
  unfold Rr.RdNo at HRD
  have HCp := Lib.hid (fun wx (hb : Below w.heap.size w wx) => copyOf A c l w wx hs hl hb)
  have i1 : wrap64 kq = kq := w64_in kq (by omega) (by omega)
  obtain ⟨p, hp⟩ : ∃ p, p = l.length := ⟨_, rfl⟩
  obtain ⟨A9, x9, s9⟩ := SB.from_ (P := Tryz.prog) Tryz.underlying22 rfl rfl .i64 A c l 0 (Nat.zero_le _) hs.le
  obtain ⟨rr, hrr⟩ : ∃ x, x = l.drop 0 := ⟨_, rfl⟩
  have hrl : l.length - 0 = rr.length := by rw [hrr, List.length_drop]
  rw [hrl] at x9
  obtain ⟨ZR, hZR⟩ : ∃ z : ByteArray, z = ⟨rr.toArray⟩ := ⟨_, rfl⟩
  have HZ9 : Hid (∀ W, Below w.heap.size w W → (convert 22 9 (.slice A9 rr.length (c))).run Tryz.prog W = .ok (.string ZR) W) := Lib.hid fun W h => by rw [hZR, hrr]; have h2 := str_of (s9 W (hs.keep h)); rw [← hrr] at h2 ⊢; exact h2
  have HZ : Hid (∀ A6 c6 W, SB W A6 c6 rr → (convert 22 9 (.slice A6 rr.length c6)).run Tryz.prog W = .ok (.string ZR) W) := Lib.hid fun A6 c6 W h => by rw [hZR]; exact str_of h
  have HAw := Lib.hid docAwake
  obtain ⟨m, hm⟩ : ∃ q, q = rr.length := ⟨_, rfl⟩
  rw [← hm] at x9 HZ9 HZ
  rw [← hp] at HAG HT HRD HCp x9 hl ⊢
  have HM := Lib.hid (docModest A c p true (decide_eq_true (by omega)).symm w)
  have b1 : decide ((2147483647 : Int) < (p : Int)) = false := decide_eq_false (by omega)
  have hmp : m = p := by rw [hm, hrr, hp]; simp
  have hrL : rr = l := by rw [hrr]; simp
  rw [hrL] at HZ
  subst hmp
  have h00 : ((0 : Nat) : Int) = 0 := rfl
  rw [h00] at x9
  clear hs hl hag hK hrd htk s9 hrr hrl hZR hm h00 hrL hp
  go_enter Tryz.func4, Tryz.ntmps4
  go_wp2_with fail
  refine HM.out.mono ?_
  rintro e w1 ⟨rfl, hb1⟩
  have HB1 := Lib.hid hb1
  clear hb1 HM
  go_wp2_with fail
  refine (HAG.out _ HB1.out).mono ?_
  rintro e w2 ⟨rfl, hb2⟩
  have HB2 := Lib.hid (bthen HB1.out hb2)
  clear hb2 HB1 HAG
  go_wp2_with fail
  refine (HT.out _ HB2.out).mono ?_
  rintro e w3 ⟨rfl, hb3⟩
  have HB3 := Lib.hid (bthen HB2.out hb3)
  clear hb3 HT HB2
  go_wp2_with fail
  refine (HCp.out _ (balloc HB3.out HB3.out.size _)).mono ?_
  rintro e w4 ⟨⟨A4, c4, rfl, hs4⟩, hb4⟩
  have hx4 : Below (w3.heap.size + 1) (w3.alloc (.cells #[.int .i64 0, .string ⟨#[]⟩, .string ⟨#[]⟩, .int .i64 0, .int .u64 0, .int .u64 0, .slice none 0 0, .slice none 0 0] 27)) w4 := by simpa using hb4
  have p0 := boxc hx4 0
  have p1 := boxc hx4 1
  have p2 := boxc hx4 2
  have p3 := boxc hx4 3
  have p4 := boxc hx4 4
  have p5 := boxc hx4 5
  have p6 := boxc hx4 6
  have p7 := boxc hx4 7
  simp only [List.getElem?_cons_succ, List.getElem?_cons_zero] at p0 p1 p2 p3 p4 p5 p6 p7
  have HB4 := Lib.hid (bthen HB3.out (boxb hx4))
  have HS4 := Lib.hid hs4
  clear hb4 hs4 hx4 HCp HB3 
  go_wp2_with fail
  refine (HRD.out A4 c4 w4 HS4.out).mono ?_
  rintro e w5 ⟨⟨A6, c6, rfl, hs6⟩, hb5⟩
  have r0 := (hb5.cell (World.block_lt_of_cell? _ _ p0)).trans p0
  have r1 := (hb5.cell (World.block_lt_of_cell? _ _ p1)).trans p1
  have r2 := (hb5.cell (World.block_lt_of_cell? _ _ p2)).trans p2
  have r3 := (hb5.cell (World.block_lt_of_cell? _ _ p3)).trans p3
  have r4 := (hb5.cell (World.block_lt_of_cell? _ _ p4)).trans p4
  have r5 := (hb5.cell (World.block_lt_of_cell? _ _ p5)).trans p5
  have r6 := (hb5.cell (World.block_lt_of_cell? _ _ p6)).trans p6
  have r7 := (hb5.cell (World.block_lt_of_cell? _ _ p7)).trans p7
  have HB5 := Lib.hid (bthen HB4.out hb5)
  have HS6 := Lib.hid hs6
  have hlt3 : w3.heap.size < w5.heap.size := World.block_lt_of_cell? _ _ r0
  clear hb5  hs6 HRD HS4 HB4 p0 p1 p2 p3 p4 p5 p6 p7
  go_wp2_with fail
  have hbW : Below w5.heap.size w5 (w5.alloc (.cells #[.int .i64 0, .string ⟨#[]⟩, .string ⟨#[]⟩, .int .i64 0, .int .u64 0, .int .u64 0, .slice none 0 0, .slice none 0 0] 27)) := balloc (Below.refl _ _) (Nat.le_refl _) _
  have u0 : (w5.alloc (.cells #[.int .i64 0, .string ⟨#[]⟩, .string ⟨#[]⟩, .int .i64 0, .int .u64 0, .int .u64 0, .slice none 0 0, .slice none 0 0] 27)).cell? ⟨w3.heap.size, 0, none⟩ = some (.int .i64 0) := (hbW.cell (World.block_lt_of_cell? _ _ r0)).trans r0
  have u1 : (w5.alloc (.cells #[.int .i64 0, .string ⟨#[]⟩, .string ⟨#[]⟩, .int .i64 0, .int .u64 0, .int .u64 0, .slice none 0 0, .slice none 0 0] 27)).cell? ⟨w3.heap.size, 1, none⟩ = some (.string ⟨#[]⟩) := (hbW.cell (World.block_lt_of_cell? _ _ r1)).trans r1
  have u2 : (w5.alloc (.cells #[.int .i64 0, .string ⟨#[]⟩, .string ⟨#[]⟩, .int .i64 0, .int .u64 0, .int .u64 0, .slice none 0 0, .slice none 0 0] 27)).cell? ⟨w3.heap.size, 2, none⟩ = some (.string ⟨#[]⟩) := (hbW.cell (World.block_lt_of_cell? _ _ r2)).trans r2
  have u3 : (w5.alloc (.cells #[.int .i64 0, .string ⟨#[]⟩, .string ⟨#[]⟩, .int .i64 0, .int .u64 0, .int .u64 0, .slice none 0 0, .slice none 0 0] 27)).cell? ⟨w3.heap.size, 3, none⟩ = some (.int .i64 0) := (hbW.cell (World.block_lt_of_cell? _ _ r3)).trans r3
  have u4 : (w5.alloc (.cells #[.int .i64 0, .string ⟨#[]⟩, .string ⟨#[]⟩, .int .i64 0, .int .u64 0, .int .u64 0, .slice none 0 0, .slice none 0 0] 27)).cell? ⟨w3.heap.size, 4, none⟩ = some (.int .u64 0) := (hbW.cell (World.block_lt_of_cell? _ _ r4)).trans r4
  have u5 : (w5.alloc (.cells #[.int .i64 0, .string ⟨#[]⟩, .string ⟨#[]⟩, .int .i64 0, .int .u64 0, .int .u64 0, .slice none 0 0, .slice none 0 0] 27)).cell? ⟨w3.heap.size, 5, none⟩ = some (.int .u64 0) := (hbW.cell (World.block_lt_of_cell? _ _ r5)).trans r5
  have u6 : (w5.alloc (.cells #[.int .i64 0, .string ⟨#[]⟩, .string ⟨#[]⟩, .int .i64 0, .int .u64 0, .int .u64 0, .slice none 0 0, .slice none 0 0] 27)).cell? ⟨w3.heap.size, 6, none⟩ = some (.slice none 0 0) := (hbW.cell (World.block_lt_of_cell? _ _ r6)).trans r6
  have u7 : (w5.alloc (.cells #[.int .i64 0, .string ⟨#[]⟩, .string ⟨#[]⟩, .int .i64 0, .int .u64 0, .int .u64 0, .slice none 0 0, .slice none 0 0] 27)).cell? ⟨w3.heap.size, 7, none⟩ = some (.slice none 0 0) := (hbW.cell (World.block_lt_of_cell? _ _ r7)).trans r7
  have hnw : (w5.alloc (.cells #[.int .i64 0, .string ⟨#[]⟩, .string ⟨#[]⟩, .int .i64 0, .int .u64 0, .int .u64 0, .slice none 0 0, .slice none 0 0] 27)).heap[w5.heap.size]? = some (.cells #[.int .i64 0, .string ⟨#[]⟩, .string ⟨#[]⟩, .int .i64 0, .int .u64 0, .int .u64 0, .slice none 0 0, .slice none 0 0] 27 (0, 0)) := heap_alloc_new w5 _
  have v0 : (w5.alloc (.cells #[.int .i64 0, .string ⟨#[]⟩, .string ⟨#[]⟩, .int .i64 0, .int .u64 0, .int .u64 0, .slice none 0 0, .slice none 0 0] 27)).cell? ⟨w5.heap.size, 0, none⟩ = some (.int .i64 0) := by simp only [World.cell?, hnw]; rfl
  have v1 : (w5.alloc (.cells #[.int .i64 0, .string ⟨#[]⟩, .string ⟨#[]⟩, .int .i64 0, .int .u64 0, .int .u64 0, .slice none 0 0, .slice none 0 0] 27)).cell? ⟨w5.heap.size, 1, none⟩ = some (.string ⟨#[]⟩) := by simp only [World.cell?, hnw]; rfl
  have v2 : (w5.alloc (.cells #[.int .i64 0, .string ⟨#[]⟩, .string ⟨#[]⟩, .int .i64 0, .int .u64 0, .int .u64 0, .slice none 0 0, .slice none 0 0] 27)).cell? ⟨w5.heap.size, 2, none⟩ = some (.string ⟨#[]⟩) := by simp only [World.cell?, hnw]; rfl
  have v3 : (w5.alloc (.cells #[.int .i64 0, .string ⟨#[]⟩, .string ⟨#[]⟩, .int .i64 0, .int .u64 0, .int .u64 0, .slice none 0 0, .slice none 0 0] 27)).cell? ⟨w5.heap.size, 3, none⟩ = some (.int .i64 0) := by simp only [World.cell?, hnw]; rfl
  have v4 : (w5.alloc (.cells #[.int .i64 0, .string ⟨#[]⟩, .string ⟨#[]⟩, .int .i64 0, .int .u64 0, .int .u64 0, .slice none 0 0, .slice none 0 0] 27)).cell? ⟨w5.heap.size, 4, none⟩ = some (.int .u64 0) := by simp only [World.cell?, hnw]; rfl
  have v5 : (w5.alloc (.cells #[.int .i64 0, .string ⟨#[]⟩, .string ⟨#[]⟩, .int .i64 0, .int .u64 0, .int .u64 0, .slice none 0 0, .slice none 0 0] 27)).cell? ⟨w5.heap.size, 5, none⟩ = some (.int .u64 0) := by simp only [World.cell?, hnw]; rfl
  have v6 : (w5.alloc (.cells #[.int .i64 0, .string ⟨#[]⟩, .string ⟨#[]⟩, .int .i64 0, .int .u64 0, .int .u64 0, .slice none 0 0, .slice none 0 0] 27)).cell? ⟨w5.heap.size, 6, none⟩ = some (.slice none 0 0) := by simp only [World.cell?, hnw]; rfl
  have v7 : (w5.alloc (.cells #[.int .i64 0, .string ⟨#[]⟩, .string ⟨#[]⟩, .int .i64 0, .int .u64 0, .int .u64 0, .slice none 0 0, .slice none 0 0] 27)).cell? ⟨w5.heap.size, 7, none⟩ = some (.slice none 0 0) := by simp only [World.cell?, hnw]; rfl
  have HBW := Lib.hid hbW
  have HBW5 := Lib.hid (HB5.out.trans (hbW.mono HB5.out.size))
  have HU := Lib.hid (And.intro u0 v0)
  clear hnw hbW HU r0 r1 r2 r3 r4 r5 r6 r7
  refine start_ (n := 25) (S := fun w' => w'.cell? ⟨w3.heap.size, 0, none⟩ = some (.int .i64 0) ∧ w'.cell? ⟨w3.heap.size, 1, none⟩ = some (.string ⟨#[]⟩) ∧ w'.cell? ⟨w3.heap.size, 2, none⟩ = some (.string ⟨#[]⟩) ∧ w'.cell? ⟨w3.heap.size, 3, none⟩ = some (.int .i64 0) ∧ w'.cell? ⟨w3.heap.size, 4, none⟩ = some (.int .u64 0) ∧ w'.cell? ⟨w3.heap.size, 5, none⟩ = some (.int .u64 0) ∧ w'.cell? ⟨w3.heap.size, 6, none⟩ = some (.slice none 0 0) ∧ w'.cell? ⟨w3.heap.size, 7, none⟩ = some (.slice none 0 0) ∧ w'.cell? ⟨w5.heap.size, 0, none⟩ = some (.int .i64 0) ∧ w'.cell? ⟨w5.heap.size, 1, none⟩ = some (.string ⟨#[]⟩) ∧ w'.cell? ⟨w5.heap.size, 2, none⟩ = some (.string ⟨#[]⟩) ∧ w'.cell? ⟨w5.heap.size, 3, none⟩ = some (.int .i64 0) ∧ w'.cell? ⟨w5.heap.size, 4, none⟩ = some (.int .u64 0) ∧ w'.cell? ⟨w5.heap.size, 5, none⟩ = some (.int .u64 0) ∧ w'.cell? ⟨w5.heap.size, 6, none⟩ = some (.slice none 0 0) ∧ w'.cell? ⟨w5.heap.size, 7, none⟩ = some (.slice none 0 0) ∧ (convert 22 9 (.slice A6 m c6)).run Tryz.prog w' = .ok (.string ZR) w' ∧ (convert 22 9 (.slice A9 m (c))).run Tryz.prog w' = .ok (.string ZR) w') (ds := []) #[false, false, false, false, false, false, false, false, false, false, false, false, false, false, false, false, false, false, false, false, false, false, false, false, false] (by kernel_rfl) rfl rfl ⟨(by exact u0), (by exact u1), (by exact u2), (by exact u3), (by exact u4), (by exact u5), (by exact u6), (by exact u7), (by exact v0), (by exact v1), (by exact v2), (by exact v3), (by exact v4), (by exact v5), (by exact v6), (by exact v7), (HZ.out _ _ _ (HS6.out.keep (bdrew HBW.out))), (HZ9.out _ (bdrew HBW5.out))⟩ (fun hHeld => ?_)
  refine with_tabW R4.tab9 R4.bits9 (fun HT_ HW_ => ?_)
  refine one_ (i := 0) (N := some 43) #[true, false, false, false, false, false, false, false, false, false, false, false, false, false, false, false, false, false, false, false, false, false, false, false, false] rfl rfl (one_of HT_.out (by kernel_rfl)) (by decide) (fun K hK => ?_)
  refine goes_ Tryz.func18 (by kernel_rfl) rfl #[] (by rfl) rfl rfl (by first | rfl | simp) ?_
  with_reducible refine (HAw.out _).mono ?_
  rintro e w6 ⟨rfl, hb6⟩
  refine ⟨_, rfl, ?_⟩
  have hB6 : Below w5.heap.size w5 w6 := (bdrew HBW.out).trans (hb6.mono (by have h := HBW.out.size; exact h))
  have HB6 := HB5.out.trans (hB6.mono HB5.out.size)
  refine hK.out _ _ ⟨((hb6.cell (World.block_lt_of_cell? _ _ hHeld.1)).trans hHeld.1), ((hb6.cell (World.block_lt_of_cell? _ _ hHeld.2.1)).trans hHeld.2.1), ((hb6.cell (World.block_lt_of_cell? _ _ hHeld.2.2.1)).trans hHeld.2.2.1), ((hb6.cell (World.block_lt_of_cell? _ _ hHeld.2.2.2.1)).trans hHeld.2.2.2.1), ((hb6.cell (World.block_lt_of_cell? _ _ hHeld.2.2.2.2.1)).trans hHeld.2.2.2.2.1), ((hb6.cell (World.block_lt_of_cell? _ _ hHeld.2.2.2.2.2.1)).trans hHeld.2.2.2.2.2.1), ((hb6.cell (World.block_lt_of_cell? _ _ hHeld.2.2.2.2.2.2.1)).trans hHeld.2.2.2.2.2.2.1), ((hb6.cell (World.block_lt_of_cell? _ _ hHeld.2.2.2.2.2.2.2.1)).trans hHeld.2.2.2.2.2.2.2.1), ((hb6.cell (World.block_lt_of_cell? _ _ hHeld.2.2.2.2.2.2.2.2.1)).trans hHeld.2.2.2.2.2.2.2.2.1), ((hb6.cell (World.block_lt_of_cell? _ _ hHeld.2.2.2.2.2.2.2.2.2.1)).trans hHeld.2.2.2.2.2.2.2.2.2.1), ((hb6.cell (World.block_lt_of_cell? _ _ hHeld.2.2.2.2.2.2.2.2.2.2.1)).trans hHeld.2.2.2.2.2.2.2.2.2.2.1), ((hb6.cell (World.block_lt_of_cell? _ _ hHeld.2.2.2.2.2.2.2.2.2.2.2.1)).trans hHeld.2.2.2.2.2.2.2.2.2.2.2.1), ((hb6.cell (World.block_lt_of_cell? _ _ hHeld.2.2.2.2.2.2.2.2.2.2.2.2.1)).trans hHeld.2.2.2.2.2.2.2.2.2.2.2.2.1), ((hb6.cell (World.block_lt_of_cell? _ _ hHeld.2.2.2.2.2.2.2.2.2.2.2.2.2.1)).trans hHeld.2.2.2.2.2.2.2.2.2.2.2.2.2.1), ((hb6.cell (World.block_lt_of_cell? _ _ hHeld.2.2.2.2.2.2.2.2.2.2.2.2.2.2.1)).trans hHeld.2.2.2.2.2.2.2.2.2.2.2.2.2.2.1), ((hb6.cell (World.block_lt_of_cell? _ _ hHeld.2.2.2.2.2.2.2.2.2.2.2.2.2.2.2.1)).trans hHeld.2.2.2.2.2.2.2.2.2.2.2.2.2.2.2.1), (HZ.out _ _ _ (HS6.out.keep hB6)), (HZ9.out _ HB6)⟩ (fun hHeld => ?_)
  clear hK K
  refine norm_ (a' := ?_) ?_ ?_
  rotate_left
  · show Act.put _ (some 43) _ = _
    simp only [Act.put, List.setIfInBounds_toArray, List.set_cons_zero, List.set_cons_succ, i64_w, i32_w]
    rfl
  refine pure_ (i := 1) (N := some 44) (v := ?_) (a' := ?_) #[true, true, false, false, false, false, false, false, false, false, false, false, false, false, false, false, false, false, false, false, false, false, false, false, false] rfl rfl (any_of HT_.out (by kernel_rfl)) (fun _ _ _ h => h) (Or.inl ⟨by rfl, ?_⟩) ?_ ?_
  rotate_left
  · intro w'
    go_simp
    with_reducible rfl
  rotate_left
  · simp only [Act.put, List.setIfInBounds_toArray, List.set_cons_zero, List.set_cons_succ, i64_w, i32_w]
    rfl
  refine pure_ (i := 2) (N := some 45) (v := ?_) (a' := ?_) #[true, true, true, false, false, false, false, false, false, false, false, false, false, false, false, false, false, false, false, false, false, false, false, false, false] rfl rfl (any_of HT_.out (by kernel_rfl)) (fun _ _ _ h => h) (Or.inl ⟨by rfl, ?_⟩) ?_ ?_
  rotate_left
  · intro w'
    go_simp
    with_reducible rfl
  rotate_left
  · simp only [Act.put, List.setIfInBounds_toArray, List.set_cons_zero, List.set_cons_succ, i64_w, i32_w]
    rfl
  refine pure_ (i := 3) (N := some 46) (v := ?_) (a' := ?_) #[true, true, true, true, false, false, false, false, false, false, false, false, false, false, false, false, false, false, false, false, false, false, false, false, false] rfl rfl (any_of HT_.out (by kernel_rfl)) (fun _ _ _ h => h) (Or.inl ⟨by rfl, ?_⟩) ?_ ?_
  rotate_left
  · intro w'
    go_simp
    with_reducible rfl
  rotate_left
  · simp only [Act.put, List.setIfInBounds_toArray, List.set_cons_zero, List.set_cons_succ, i64_w, i32_w]
    rfl
  refine pure_ (i := 4) (N := some 47) (v := ?_) (a' := ?_) #[true, true, true, true, true, false, false, false, false, false, false, false, false, false, false, false, false, false, false, false, false, false, false, false, false] rfl rfl (any_of HT_.out (by kernel_rfl)) (fun _ _ _ h => h) (Or.inl ⟨by rfl, ?_⟩) ?_ ?_
  rotate_left
  · intro w'
    go_simp
    with_reducible rfl
  rotate_left
  · simp only [Act.put, List.setIfInBounds_toArray, List.set_cons_zero, List.set_cons_succ, i64_w, i32_w]
    rfl
  refine pure_ (i := 5) (N := some 48) (v := ?_) (a' := ?_) #[true, true, true, true, true, true, false, false, false, false, false, false, false, false, false, false, false, false, false, false, false, false, false, false, false] rfl rfl (any_of HT_.out (by kernel_rfl)) (fun _ _ _ h => h) (Or.inl ⟨by rfl, ?_⟩) ?_ ?_
  rotate_left
  · intro w'
    go_simp
    with_reducible rfl
  rotate_left
  · simp only [Act.put, List.setIfInBounds_toArray, List.set_cons_zero, List.set_cons_succ, i64_w, i32_w]
    rfl
  refine pure_ (i := 6) (N := some 49) (v := ?_) (a' := ?_) #[true, true, true, true, true, true, true, false, false, false, false, false, false, false, false, false, false, false, false, false, false, false, false, false, false] rfl rfl (any_of HT_.out (by kernel_rfl)) (fun _ _ _ h => h) (Or.inl ⟨by rfl, ?_⟩) ?_ ?_
  rotate_left
  · intro w'
    go_simp
    with_reducible rfl
  rotate_left
  · simp only [Act.put, List.setIfInBounds_toArray, List.set_cons_zero, List.set_cons_succ, i64_w, i32_w]
    rfl
  refine pure_ (i := 7) (N := some 50) (v := ?_) (a' := ?_) #[true, true, true, true, true, true, true, true, false, false, false, false, false, false, false, false, false, false, false, false, false, false, false, false, false] rfl rfl (any_of HT_.out (by kernel_rfl)) (fun _ _ _ h => h) (Or.inl ⟨by rfl, ?_⟩) ?_ ?_
  rotate_left
  · intro w'
    go_simp
    with_reducible rfl
  rotate_left
  · simp only [Act.put, List.setIfInBounds_toArray, List.set_cons_zero, List.set_cons_succ, i64_w, i32_w]
    rfl
  refine pure_ (i := 9) (N := some 52) (v := ?_) (a' := ?_) #[true, true, true, true, true, true, true, true, false, true, false, false, false, false, false, false, false, false, false, false, false, false, false, false, false] rfl rfl (any_of HT_.out (by kernel_rfl)) (fun _ _ _ h => h) (Or.inl ⟨by rfl, ?_⟩) ?_ ?_
  rotate_left
  · intro w'
    go_simp
    with_reducible rfl
  rotate_left
  · simp only [Act.put, List.setIfInBounds_toArray, List.set_cons_zero, List.set_cons_succ, i64_w, i32_w]
    rfl
  refine pure_ (i := 10) (N := some 53) (v := ?_) (a' := ?_) #[true, true, true, true, true, true, true, true, false, true, true, false, false, false, false, false, false, false, false, false, false, false, false, false, false] rfl rfl (any_of HT_.out (by kernel_rfl)) (fun _ _ _ h => h) (Or.inl ⟨by rfl, ?_⟩) ?_ ?_
  rotate_left
  · intro w'
    go_simp
    with_reducible rfl
  rotate_left
  · simp only [Act.put, List.setIfInBounds_toArray, List.set_cons_zero, List.set_cons_succ, i64_w, i32_w]
    rfl
  refine pure_ (i := 11) (N := some 54) (v := ?_) (a' := ?_) #[true, true, true, true, true, true, true, true, false, true, true, true, false, false, false, false, false, false, false, false, false, false, false, false, false] rfl rfl (any_of HT_.out (by kernel_rfl)) (fun _ _ _ h => h) (Or.inl ⟨by rfl, ?_⟩) ?_ ?_
  rotate_left
  · intro w'
    go_simp
    with_reducible rfl
  rotate_left
  · simp only [Act.put, List.setIfInBounds_toArray, List.set_cons_zero, List.set_cons_succ, i64_w, i32_w]
    rfl
  refine take_ (i := 8) (N := some 51) (v := ?_) (a' := ?_) #[true, true, true, true, true, true, true, true, true, true, true, true, false, false, false, false, false, false, false, false, false, false, false, false, false] rfl rfl (take_ofW HT_.out HW_.out (by kernel_rfl)) (fun _ _ _ h => h) (Or.inl ⟨by rfl, ?_⟩) hHeld ?_ ?_
  rotate_left
  · rintro w' ⟨s0, s1, s2, s3, s4, s5, s6, s7, s8, s9, s10, s11, s12, s13, s14, s15, s16, s17⟩
    go_simp
    with_reducible rfl
  rotate_left
  · simp only [Act.put, List.setIfInBounds_toArray, List.set_cons_zero, List.set_cons_succ, i64_w, i32_w]
    rfl
  refine take_ (i := 12) (N := some 55) (v := ?_) (a' := ?_) #[true, true, true, true, true, true, true, true, true, true, true, true, true, false, false, false, false, false, false, false, false, false, false, false, false] rfl rfl (take_ofW HT_.out HW_.out (by kernel_rfl)) (fun _ _ _ h => h) (Or.inl ⟨by rfl, ?_⟩) hHeld ?_ ?_
  rotate_left
  · rintro w' ⟨s0, s1, s2, s3, s4, s5, s6, s7, s8, s9, s10, s11, s12, s13, s14, s15, s16, s17⟩
    go_simp
    with_reducible rfl
  rotate_left
  · simp only [Act.put, List.setIfInBounds_toArray, List.set_cons_zero, List.set_cons_succ, i64_w, i32_w]
    rfl
  refine pure_ (i := 13) (N := some 56) (v := ?_) (a' := ?_) #[true, true, true, true, true, true, true, true, true, true, true, true, true, true, false, false, false, false, false, false, false, false, false, false, false] rfl rfl (any_of HT_.out (by kernel_rfl)) (fun _ _ _ h => h) (Or.inl ⟨by rfl, ?_⟩) ?_ ?_
  rotate_left
  · intro w'
    go_simp
    with_reducible rfl
  rotate_left
  · simp only [Act.put, List.setIfInBounds_toArray, List.set_cons_zero, List.set_cons_succ, i64_w, i32_w]
    rfl
  refine pure_ (i := 14) (N := some 57) (v := ?_) (a' := ?_) #[true, true, true, true, true, true, true, true, true, true, true, true, true, true, true, false, false, false, false, false, false, false, false, false, false] rfl rfl (any_of HT_.out (by kernel_rfl)) (fun _ _ _ h => h) (Or.inl ⟨by rfl, ?_⟩) ?_ ?_
  rotate_left
  · intro w'
    go_simp
    with_reducible rfl
  rotate_left
  · simp only [Act.put, List.setIfInBounds_toArray, List.set_cons_zero, List.set_cons_succ, i64_w, i32_w]
    rfl
  refine pure_ (i := 15) (N := some 58) (v := ?_) (a' := ?_) #[true, true, true, true, true, true, true, true, true, true, true, true, true, true, true, true, false, false, false, false, false, false, false, false, false] rfl rfl (any_of HT_.out (by kernel_rfl)) (fun _ _ _ h => h) (Or.inl ⟨by rfl, ?_⟩) ?_ ?_
  rotate_left
  · intro w'
    go_simp
    with_reducible rfl
  rotate_left
  · simp only [Act.put, List.setIfInBounds_toArray, List.set_cons_zero, List.set_cons_succ, i64_w, i32_w]
    rfl
  refine pure_ (i := 16) (N := some 59) (v := ?_) (a' := ?_) #[true, true, true, true, true, true, true, true, true, true, true, true, true, true, true, true, true, false, false, false, false, false, false, false, false] rfl rfl (any_of HT_.out (by kernel_rfl)) (fun _ _ _ h => h) (Or.inl ⟨by rfl, ?_⟩) ?_ ?_
  rotate_left
  · intro w'
    go_simp
    with_reducible rfl
  rotate_left
  · simp only [Act.put, List.setIfInBounds_toArray, List.set_cons_zero, List.set_cons_succ, i64_w, i32_w]
    rfl
  refine pure_ (i := 17) (N := some 60) (v := ?_) (a' := ?_) #[true, true, true, true, true, true, true, true, true, true, true, true, true, true, true, true, true, true, false, false, false, false, false, false, false] rfl rfl (any_of HT_.out (by kernel_rfl)) (fun _ _ _ h => h) (Or.inl ⟨by rfl, ?_⟩) ?_ ?_
  rotate_left
  · intro w'
    go_simp
    with_reducible rfl
  rotate_left
  · simp only [Act.put, List.setIfInBounds_toArray, List.set_cons_zero, List.set_cons_succ, i64_w, i32_w]
    rfl
  refine pure_ (i := 18) (N := some 61) (v := ?_) (a' := ?_) #[true, true, true, true, true, true, true, true, true, true, true, true, true, true, true, true, true, true, true, false, false, false, false, false, false] rfl rfl (any_of HT_.out (by kernel_rfl)) (fun _ _ _ h => h) (Or.inl ⟨by rfl, ?_⟩) ?_ ?_
  rotate_left
  · intro w'
    go_simp
    with_reducible rfl
  rotate_left
  · simp only [Act.put, List.setIfInBounds_toArray, List.set_cons_zero, List.set_cons_succ, i64_w, i32_w]
    rfl
  refine pure_ (i := 19) (N := some 62) (v := undef) (a' := ?_) #[true, true, true, true, true, true, true, true, true, true, true, true, true, true, true, true, true, true, true, true, false, false, false, false, false] rfl rfl (any_of HT_.out (by kernel_rfl)) (fun _ _ _ h => h) (Or.inr ⟨by rfl, rfl⟩) ?_ ?_
  rotate_left
  · simp only [Act.put, List.setIfInBounds_toArray, List.set_cons_zero, List.set_cons_succ, i64_w, i32_w]
    rfl
  refine pure_ (i := 20) (N := some 63) (v := undef) (a' := ?_) #[true, true, true, true, true, true, true, true, true, true, true, true, true, true, true, true, true, true, true, true, true, false, false, false, false] rfl rfl (any_of HT_.out (by kernel_rfl)) (fun _ _ _ h => h) (Or.inr ⟨by rfl, rfl⟩) ?_ ?_
  rotate_left
  · simp only [Act.put, List.setIfInBounds_toArray, List.set_cons_zero, List.set_cons_succ, i64_w, i32_w]
    rfl
  refine pure_ (i := 21) (N := some 64) (v := undef) (a' := ?_) #[true, true, true, true, true, true, true, true, true, true, true, true, true, true, true, true, true, true, true, true, true, true, false, false, false] rfl rfl (any_of HT_.out (by kernel_rfl)) (fun _ _ _ h => h) (Or.inr ⟨by rfl, rfl⟩) ?_ ?_
  rotate_left
  · simp only [Act.put, List.setIfInBounds_toArray, List.set_cons_zero, List.set_cons_succ, i64_w, i32_w]
    rfl
  refine pure_ (i := 22) (N := some 65) (v := ?_) (a' := ?_) #[true, true, true, true, true, true, true, true, true, true, true, true, true, true, true, true, true, true, true, true, true, true, true, false, false] rfl rfl (any_of HT_.out (by kernel_rfl)) (fun _ _ _ h => h) (Or.inl ⟨by rfl, ?_⟩) ?_ ?_
  rotate_left
  · intro w'
    go_simp
    with_reducible rfl
  rotate_left
  · simp only [Act.put, List.setIfInBounds_toArray, List.set_cons_zero, List.set_cons_succ, i64_w, i32_w]
    rfl
  refine pure_ (i := 23) (N := some 66) (v := ?_) (a' := ?_) #[true, true, true, true, true, true, true, true, true, true, true, true, true, true, true, true, true, true, true, true, true, true, true, true, false] rfl rfl (any_of HT_.out (by kernel_rfl)) (fun _ _ _ h => h) (Or.inl ⟨by rfl, ?_⟩) ?_ ?_
  rotate_left
  · intro w'
    go_simp
    with_reducible rfl
  rotate_left
  · simp only [Act.put, List.setIfInBounds_toArray, List.set_cons_zero, List.set_cons_succ, i64_w, i32_w]
    rfl
  refine pure_ (i := 24) (N := some 4) (v := ?_) (a' := ?_) #[true, true, true, true, true, true, true, true, true, true, true, true, true, true, true, true, true, true, true, true, true, true, true, true, true] rfl rfl (any_of HT_.out (by kernel_rfl)) (fun _ _ _ h => h) (Or.inl ⟨by rfl, ?_⟩) ?_ ?_
  rotate_left
  · intro w'
    go_simp
    with_reducible rfl
  rotate_left
  · simp only [Act.put, List.setIfInBounds_toArray, List.set_cons_zero, List.set_cons_succ, i64_w, i32_w]
    rfl
  refine done_ (done_of HT_.out (by kernel_rfl)) ?_
  have HE := Lib.hid HB6
  clear hHeld
  go_wp2_with fail
  go_ret
  exact ⟨by first | rfl | simp, HE.out⟩
theorem fnDocAnyRead_walk (kq : Int) (hK : 0 ≤ kq ∧ kq < 256) (A : Option Addr) (c : Nat) (l : List UInt8) (w : World) (hs : SB w A c l) : Calls Tryz.prog 4 #[.int .u8 kq, .slice A l.length c] w fun e w' => e = .returned (.bool true) ∧ Below w.heap.size w w' := by
  by_cases h1 : 2147483647 < l.length
  · exact ar_long kq hK A c l w h1
  by_cases h2 : 5000 < l.length
  · exact ar_mid kq hK A c l w (by omega) h2
  have hl : l.length ≤ 5000 := by omega
  have hns : ¬ (kq = 15 ∨ kq = 5 ∧ ∃ h : 4 < l.length, l[4] = 2) → ∀ wx, Below w.heap.size w wx → Calls Tryz.prog 15 #[.int .i64 kq, .slice A l.length c] wx fun e w' => e = .returned (.bool true) ∧ Below wx.heap.size wx w' := by
    intro hn wx hb
    by_cases h5 : kq = 5
    · subst h5
      rcases Nat.lt_or_ge 4 l.length with h4 | h4
      · exact ag_bin A c l wx (hs.keep hb) hl h4 (fun h => hn (.inr ⟨rfl, h4, h⟩))
      · exact ag_short A c l wx (hs.keep hb) hl h4
    · exact ag_else A c l wx (hs.keep hb) hl kq (by simpa using h5) (by simpa using fun h => hn (.inl h))
  rcases told kq hK l hl with ⟨text, more, n, bits, high, b, cnt, hc, h3, h4⟩ | ⟨h3, h4⟩ | ⟨ho, h4⟩
  · refine ar_ok kq hK A c l w hs hl ?_ text more n bits high b cnt hc h3 h4
    by_cases hn : kq = 15 ∨ kq = 5 ∧ ∃ h : 4 < l.length, l[4] = 2
    · intro wx hb
      rcases hn with rfl | ⟨rfl, h5, h6⟩
      · exact ag_15o A c l wx (hs.keep hb) hl text more n bits high b cnt (h4 A c wx (hs.keep hb))
      · exact ag_5o A c l wx (hs.keep hb) hl h5 h6 text more n bits high b cnt (h4 A c wx (hs.keep hb))
    · exact hns hn
  · by_cases hn : kq = 15 ∨ kq = 5 ∧ ∃ h : 4 < l.length, l[4] = 2
    · refine ar_odd kq hK A c l w hl ?_
      intro wx hb
      rcases hn with rfl | ⟨rfl, h5, h6⟩
      · exact ag_15n A c l wx (hs.keep hb) hl (h4 A c wx (hs.keep hb))
      · exact ag_5n A c l wx (hs.keep hb) hl h5 h6 (h4 A c wx (hs.keep hb))
    · exact ar_no kq hK A c l w hs hl (hns hn) h3 h4
  · refine ar_odd kq hK A c l w hl ?_
    intro wx hb
    rcases ho with rfl | ⟨rfl, h5, h6⟩
    · exact ag_15n A c l wx (hs.keep hb) hl (h4 A c wx (hs.keep hb))
    · exact ag_5n A c l wx (hs.keep hb) hl h5 h6 (h4 A c wx (hs.keep hb))
end Ar
end Go.Proofs.YtbpopaegfhcdpaaGreatDoor.X


