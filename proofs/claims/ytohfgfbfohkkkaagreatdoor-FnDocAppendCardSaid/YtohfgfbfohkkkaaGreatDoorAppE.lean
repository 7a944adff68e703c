/- bsoncore's Append..Element functions, by kind, on bytes of the call's own; impl.id. (gen_appe.py) -/
import Derived.Test.YtohfgfbfohkkkaaGreatDoorApp
import Derived.Test.YtohfgfbfohkkkaaGreatDoorWLast
import Derived.Test.YtohfgfbfohkkkaaGreatDoorWTab
import Derived.Laws.CopyOwn
set_option linter.unusedVariables false
set_option linter.unusedSimpArgs false
set_option maxRecDepth 100000
namespace Go.Proofs.YtohfgfbfohkkkaaGreatDoor.X
open Go.RowKit Go.Proofs.YtohfgfbfohkkkaaGreatDoorW.PrintLast
namespace Ap
def R159.T1 : Bool × List (List Nat × List Nat) := (true, [([], []), ([], []), ([0, 1], [0, 1]), ([], []), ([2, 3, 2], [2, 3]), ([4, 4, 0, 1, 2, 3, 4], [4])])
def R159.B1 : List Nat := [0, 0, 3, 0, 15, 31]
theorem R159.tab1 : rtab .any (opsOf Tryz.f159 1) = R159.T1 := by kernel_rfl
theorem R159.bits1 : waitsOk R159.T1.2 R159.B1 = true := by kernel_rfl
def R164.T1 : Bool × List (List Nat × List Nat) := (true, [([], []), ([], []), ([0, 1], [0, 1]), ([], []), ([], []), ([2, 3, 4, 2], [2, 3, 4]), ([5, 5, 0, 1, 2, 3, 4, 5], [5])])
def R164.B1 : List Nat := [0, 0, 3, 0, 0, 31, 63]
theorem R164.tab1 : rtab .any (opsOf Tryz.f164 1) = R164.T1 := by kernel_rfl
theorem R164.bits1 : waitsOk R164.T1.2 R164.B1 = true := by kernel_rfl
theorem sizeU8 : (Tryz.prog.info? 5).map (·.size) = some 1 := by kernel_rfl
theorem hd_len (k : Int) (s : ByteArray) : (hd k s.data.toList).length = s.size + 2 := by simp [hd, size_data]
theorem eDbl (W : World) (base : Nat) (v : Value) (l : List UInt8) (s : ByteArray) (hp : plainB s.data.toList = true) (hs0 : s.size ≤ 1000000) (n : Int) (h0 : 0 ≤ n) (h1 : n ≤ 18446744073709551615) (HO : OB 5 W base v l) (hbase : base ≤ W.heap.size) (hl : l.length ≤ 90000000) :
    Calls Tryz.prog 153 #[v, .string s, .float .f64 n.toNat] W (After fun v1 w1 => App (E := 5) W base v (l ++ (hd 1 s.data.toList ++ i64 n)) v1 w1) := by
  have HH := Lib.hid (Hd.appHeaderN W base v l 1 s (by omega) (by omega) hp hs0 HO hbase (by omega))
  have HC := Lib.hid (fun v1 w1 (h : App (E := 5) W base v (l ++ hd 1 s.data.toList) v1 w1) => appDbl w1 base v1 (l ++ hd 1 s.data.toList) n h0 h1 h.own (by have := h.size; omega) (by rw [List.length_append, hd_len]; omega))
  rw [← List.append_assoc]
  obtain ⟨l1, hl1⟩ : ∃ x, x = l ++ hd 1 s.data.toList := ⟨_, rfl⟩
  rw [← hl1] at HH HC ⊢
  obtain ⟨l2, hl2⟩ : ∃ x, x = l1 ++ i64 n := ⟨_, rfl⟩
  rw [← hl2] at HC ⊢
  clear hl1 hl2 HO hp hs0 h0 h1
  go_enter Tryz.func153, Tryz.ntmps153
  go_wp2_with fail
  refine HH.out.mono ?_
  rintro e w1 ⟨v1, rfl, h⟩
  have H2 := Lib.hid (HC.out v1 w1 h)
  have H1 := Lib.hid h
  clear h HH HC
  go_wp2_with fail
  refine H2.out.mono ?_
  rintro e w2 ⟨v2, rfl, h⟩
  have HE := Lib.hid (H1.out.trans h)
  clear h H1 H2
  go_wp2_with fail
  go_ret
  exact ⟨v2, rfl, HE.out⟩
theorem eStr (W : World) (base : Nat) (v : Value) (l : List UInt8) (s : ByteArray) (hp : plainB s.data.toList = true) (hs0 : s.size ≤ 1000000) (t : ByteArray) (ht : t.size ≤ 1000000) (HO : OB 5 W base v l) (hbase : base ≤ W.heap.size) (hl : l.length ≤ 90000000) :
    Calls Tryz.prog 154 #[v, .string s, .string t] W (After fun v1 w1 => App (E := 5) W base v (l ++ (hd 2 s.data.toList ++ txt t.data.toList)) v1 w1) := by
  have HH := Lib.hid (Hd.appHeaderN W base v l 2 s (by omega) (by omega) hp hs0 HO hbase (by omega))
  have HC := Lib.hid (fun v1 w1 (h : App (E := 5) W base v (l ++ hd 2 s.data.toList) v1 w1) => appStr w1 base v1 (l ++ hd 2 s.data.toList) t ht h.own (by have := h.size; omega) (by rw [List.length_append, hd_len]; omega))
  rw [← List.append_assoc]
  obtain ⟨l1, hl1⟩ : ∃ x, x = l ++ hd 2 s.data.toList := ⟨_, rfl⟩
  rw [← hl1] at HH HC ⊢
  obtain ⟨l2, hl2⟩ : ∃ x, x = l1 ++ txt t.data.toList := ⟨_, rfl⟩
  rw [← hl2] at HC ⊢
  clear hl1 hl2 HO hp hs0 ht
  go_enter Tryz.func154, Tryz.ntmps154
  go_wp2_with fail
  refine HH.out.mono ?_
  rintro e w1 ⟨v1, rfl, h⟩
  have H2 := Lib.hid (HC.out v1 w1 h)
  have H1 := Lib.hid h
  clear h HH HC
  go_wp2_with fail
  refine H2.out.mono ?_
  rintro e w2 ⟨v2, rfl, h⟩
  have HE := Lib.hid (H1.out.trans h)
  clear h H1 H2
  go_wp2_with fail
  go_ret
  exact ⟨v2, rfl, HE.out⟩
theorem eJs (W : World) (base : Nat) (v : Value) (l : List UInt8) (s : ByteArray) (hp : plainB s.data.toList = true) (hs0 : s.size ≤ 1000000) (t : ByteArray) (ht : t.size ≤ 1000000) (HO : OB 5 W base v l) (hbase : base ≤ W.heap.size) (hl : l.length ≤ 90000000) :
    Calls Tryz.prog 165 #[v, .string s, .string t] W (After fun v1 w1 => App (E := 5) W base v (l ++ (hd 13 s.data.toList ++ txt t.data.toList)) v1 w1) := by
  have HH := Lib.hid (Hd.appHeaderN W base v l 13 s (by omega) (by omega) hp hs0 HO hbase (by omega))
  have HC := Lib.hid (fun v1 w1 (h : App (E := 5) W base v (l ++ hd 13 s.data.toList) v1 w1) => appJs w1 base v1 (l ++ hd 13 s.data.toList) t ht h.own (by have := h.size; omega) (by rw [List.length_append, hd_len]; omega))
  rw [← List.append_assoc]
  obtain ⟨l1, hl1⟩ : ∃ x, x = l ++ hd 13 s.data.toList := ⟨_, rfl⟩
  rw [← hl1] at HH HC ⊢
  obtain ⟨l2, hl2⟩ : ∃ x, x = l1 ++ txt t.data.toList := ⟨_, rfl⟩
  rw [← hl2] at HC ⊢
  clear hl1 hl2 HO hp hs0 ht
  go_enter Tryz.func165, Tryz.ntmps165
  go_wp2_with fail
  refine HH.out.mono ?_
  rintro e w1 ⟨v1, rfl, h⟩
  have H2 := Lib.hid (HC.out v1 w1 h)
  have H1 := Lib.hid h
  clear h HH HC
  go_wp2_with fail
  refine H2.out.mono ?_
  rintro e w2 ⟨v2, rfl, h⟩
  have HE := Lib.hid (H1.out.trans h)
  clear h H1 H2
  go_wp2_with fail
  go_ret
  exact ⟨v2, rfl, HE.out⟩
theorem eSym (W : World) (base : Nat) (v : Value) (l : List UInt8) (s : ByteArray) (hp : plainB s.data.toList = true) (hs0 : s.size ≤ 1000000) (t : ByteArray) (ht : t.size ≤ 1000000) (HO : OB 5 W base v l) (hbase : base ≤ W.heap.size) (hl : l.length ≤ 90000000) :
    Calls Tryz.prog 166 #[v, .string s, .string t] W (After fun v1 w1 => App (E := 5) W base v (l ++ (hd 14 s.data.toList ++ txt t.data.toList)) v1 w1) := by
  have HH := Lib.hid (Hd.appHeaderN W base v l 14 s (by omega) (by omega) hp hs0 HO hbase (by omega))
  have HC := Lib.hid (fun v1 w1 (h : App (E := 5) W base v (l ++ hd 14 s.data.toList) v1 w1) => appSym w1 base v1 (l ++ hd 14 s.data.toList) t ht h.own (by have := h.size; omega) (by rw [List.length_append, hd_len]; omega))
  rw [← List.append_assoc]
  obtain ⟨l1, hl1⟩ : ∃ x, x = l ++ hd 14 s.data.toList := ⟨_, rfl⟩
  rw [← hl1] at HH HC ⊢
  obtain ⟨l2, hl2⟩ : ∃ x, x = l1 ++ txt t.data.toList := ⟨_, rfl⟩
  rw [← hl2] at HC ⊢
  clear hl1 hl2 HO hp hs0 ht
  go_enter Tryz.func166, Tryz.ntmps166
  go_wp2_with fail
  refine HH.out.mono ?_
  rintro e w1 ⟨v1, rfl, h⟩
  have H2 := Lib.hid (HC.out v1 w1 h)
  have H1 := Lib.hid h
  clear h HH HC
  go_wp2_with fail
  refine H2.out.mono ?_
  rintro e w2 ⟨v2, rfl, h⟩
  have HE := Lib.hid (H1.out.trans h)
  clear h H1 H2
  go_wp2_with fail
  go_ret
  exact ⟨v2, rfl, HE.out⟩
theorem eDoc (W : World) (base : Nat) (v : Value) (l : List UInt8) (s : ByteArray) (hp : plainB s.data.toList = true) (hs0 : s.size ≤ 1000000) (A : Option Addr) (c : Nat) (m : List UInt8) (hs : SB W A c m) (hsp : Sep v A m) (hm : m.length ≤ 1000000) (HO : OB 5 W base v l) (hbase : base ≤ W.heap.size) (hl : l.length ≤ 90000000) :
    Calls Tryz.prog 155 #[v, .string s, .slice A m.length c] W (After fun v1 w1 => App (E := 5) W base v (l ++ (hd 3 s.data.toList ++ m)) v1 w1) := by
  have HH := Lib.hid (Hd.appHeaderN W base v l 3 s (by omega) (by omega) hp hs0 HO hbase (by omega))
  have HC := Lib.hid (fun v1 w1 (h : App (E := 5) W base v (l ++ hd 3 s.data.toList) v1 w1) => appDocB w1 base v1 (l ++ hd 3 s.data.toList) A c m (sb_next h hs hsp) (by omega) h.own (by have := h.size; omega) (by rw [List.length_append, hd_len]; omega))
  rw [← List.append_assoc]
  obtain ⟨l1, hl1⟩ : ∃ x, x = l ++ hd 3 s.data.toList := ⟨_, rfl⟩
  rw [← hl1] at HH HC ⊢
  obtain ⟨l2, hl2⟩ : ∃ x, x = l1 ++ m := ⟨_, rfl⟩
  rw [← hl2] at HC ⊢
  clear hl1 hl2 HO hp hs0 hs hsp hm
  go_enter Tryz.func155, Tryz.ntmps155
  go_wp2_with fail
  refine HH.out.mono ?_
  rintro e w1 ⟨v1, rfl, h⟩
  have H2 := Lib.hid (HC.out v1 w1 h)
  have H1 := Lib.hid h
  clear h HH HC
  go_wp2_with fail
  refine H2.out.mono ?_
  rintro e w2 ⟨v2, rfl, h⟩
  have HE := Lib.hid (H1.out.trans h)
  clear h H1 H2
  go_wp2_with fail
  go_ret
  exact ⟨v2, rfl, HE.out⟩
theorem eArr (W : World) (base : Nat) (v : Value) (l : List UInt8) (s : ByteArray) (hp : plainB s.data.toList = true) (hs0 : s.size ≤ 1000000) (A : Option Addr) (c : Nat) (m : List UInt8) (hs : SB W A c m) (hsp : Sep v A m) (hm : m.length ≤ 1000000) (HO : OB 5 W base v l) (hbase : base ≤ W.heap.size) (hl : l.length ≤ 90000000) :
    Calls Tryz.prog 156 #[v, .string s, .slice A m.length c] W (After fun v1 w1 => App (E := 5) W base v (l ++ (hd 4 s.data.toList ++ m)) v1 w1) := by
  have HH := Lib.hid (Hd.appHeaderN W base v l 4 s (by omega) (by omega) hp hs0 HO hbase (by omega))
  have HC := Lib.hid (fun v1 w1 (h : App (E := 5) W base v (l ++ hd 4 s.data.toList) v1 w1) => appArrB w1 base v1 (l ++ hd 4 s.data.toList) A c m (sb_next h hs hsp) (by omega) h.own (by have := h.size; omega) (by rw [List.length_append, hd_len]; omega))
  rw [← List.append_assoc]
  obtain ⟨l1, hl1⟩ : ∃ x, x = l ++ hd 4 s.data.toList := ⟨_, rfl⟩
  rw [← hl1] at HH HC ⊢
  obtain ⟨l2, hl2⟩ : ∃ x, x = l1 ++ m := ⟨_, rfl⟩
  rw [← hl2] at HC ⊢
  clear hl1 hl2 HO hp hs0 hs hsp hm
  go_enter Tryz.func156, Tryz.ntmps156
  go_wp2_with fail
  refine HH.out.mono ?_
  rintro e w1 ⟨v1, rfl, h⟩
  have H2 := Lib.hid (HC.out v1 w1 h)
  have H1 := Lib.hid h
  clear h HH HC
  go_wp2_with fail
  refine H2.out.mono ?_
  rintro e w2 ⟨v2, rfl, h⟩
  have HE := Lib.hid (H1.out.trans h)
  clear h H1 H2
  go_wp2_with fail
  go_ret
  exact ⟨v2, rfl, HE.out⟩
theorem eBin (W : World) (base : Nat) (v : Value) (l : List UInt8) (s : ByteArray) (hp : plainB s.data.toList = true) (hs0 : s.size ≤ 1000000) (n : Int) (hn0 : 0 ≤ n) (hn1 : n ≤ 255) (A : Option Addr) (c : Nat) (m : List UInt8) (hs : SB W A c m) (hsp : Sep v A m) (hm : m.length ≤ 1000000) (HO : OB 5 W base v l) (hbase : base ≤ W.heap.size) (hl : l.length ≤ 90000000) :
    Calls Tryz.prog 157 #[v, .string s, .int .u8 n, .slice A m.length c] W (After fun v1 w1 => App (E := 5) W base v (l ++ (hd 5 s.data.toList ++ binB n m)) v1 w1) := by
  have HH := Lib.hid (Hd.appHeaderN W base v l 5 s (by omega) (by omega) hp hs0 HO hbase (by omega))
  have HC := Lib.hid (fun v1 w1 (h : App (E := 5) W base v (l ++ hd 5 s.data.toList) v1 w1) => appBin w1 base v1 (l ++ hd 5 s.data.toList) n hn0 hn1 A c m (sb_next h hs hsp) (sep_next h hs hsp) hm h.own (by have := h.size; omega) (by rw [List.length_append, hd_len]; omega))
  rw [← List.append_assoc]
  obtain ⟨l1, hl1⟩ : ∃ x, x = l ++ hd 5 s.data.toList := ⟨_, rfl⟩
  rw [← hl1] at HH HC ⊢
  obtain ⟨l2, hl2⟩ : ∃ x, x = l1 ++ binB n m := ⟨_, rfl⟩
  rw [← hl2] at HC ⊢
  clear hl1 hl2 HO hp hs0 hs hsp hm hn0 hn1
  go_enter Tryz.func157, Tryz.ntmps157
  go_wp2_with fail
  refine HH.out.mono ?_
  rintro e w1 ⟨v1, rfl, h⟩
  have H2 := Lib.hid (HC.out v1 w1 h)
  have H1 := Lib.hid h
  clear h HH HC
  go_wp2_with fail
  refine H2.out.mono ?_
  rintro e w2 ⟨v2, rfl, h⟩
  have HE := Lib.hid (H1.out.trans h)
  clear h H1 H2
  go_wp2_with fail
  go_ret
  exact ⟨v2, rfl, HE.out⟩
theorem eUnd (W : World) (base : Nat) (v : Value) (l : List UInt8) (s : ByteArray) (hp : plainB s.data.toList = true) (hs0 : s.size ≤ 1000000) (HO : OB 5 W base v l) (hbase : base ≤ W.heap.size) (hl : l.length ≤ 90000000) :
    Calls Tryz.prog 158 #[v, .string s] W (After fun v1 w1 => App (E := 5) W base v (l ++ hd 6 s.data.toList) v1 w1) := by
  have HH := Lib.hid (Hd.appHeaderN W base v l 6 s (by omega) (by omega) hp hs0 HO hbase (by omega))
  obtain ⟨l1, hl1⟩ : ∃ x, x = l ++ hd 6 s.data.toList := ⟨_, rfl⟩
  rw [← hl1] at HH ⊢
  clear hl1 HO hp hs0
  go_enter Tryz.func158, Tryz.ntmps158
  go_wp2_with fail
  refine HH.out.mono ?_
  rintro e w1 ⟨v1, rfl, h⟩
  have HE := Lib.hid h
  clear h HH
  go_wp2_with fail
  go_ret
  exact ⟨v1, rfl, HE.out⟩
theorem eNull (W : World) (base : Nat) (v : Value) (l : List UInt8) (s : ByteArray) (hp : plainB s.data.toList = true) (hs0 : s.size ≤ 1000000) (HO : OB 5 W base v l) (hbase : base ≤ W.heap.size) (hl : l.length ≤ 90000000) :
    Calls Tryz.prog 162 #[v, .string s] W (After fun v1 w1 => App (E := 5) W base v (l ++ hd 10 s.data.toList) v1 w1) := by
  have HH := Lib.hid (Hd.appHeaderN W base v l 10 s (by omega) (by omega) hp hs0 HO hbase (by omega))
  obtain ⟨l1, hl1⟩ : ∃ x, x = l ++ hd 10 s.data.toList := ⟨_, rfl⟩
  rw [← hl1] at HH ⊢
  clear hl1 HO hp hs0
  go_enter Tryz.func162, Tryz.ntmps162
  go_wp2_with fail
  refine HH.out.mono ?_
  rintro e w1 ⟨v1, rfl, h⟩
  have HE := Lib.hid h
  clear h HH
  go_wp2_with fail
  go_ret
  exact ⟨v1, rfl, HE.out⟩
theorem eMax (W : World) (base : Nat) (v : Value) (l : List UInt8) (s : ByteArray) (hp : plainB s.data.toList = true) (hs0 : s.size ≤ 1000000) (HO : OB 5 W base v l) (hbase : base ≤ W.heap.size) (hl : l.length ≤ 90000000) :
    Calls Tryz.prog 172 #[v, .string s] W (After fun v1 w1 => App (E := 5) W base v (l ++ hd 127 s.data.toList) v1 w1) := by
  have HH := Lib.hid (Hd.appHeaderN W base v l 127 s (by omega) (by omega) hp hs0 HO hbase (by omega))
  obtain ⟨l1, hl1⟩ : ∃ x, x = l ++ hd 127 s.data.toList := ⟨_, rfl⟩
  rw [← hl1] at HH ⊢
  clear hl1 HO hp hs0
  go_enter Tryz.func172, Tryz.ntmps172
  go_wp2_with fail
  refine HH.out.mono ?_
  rintro e w1 ⟨v1, rfl, h⟩
  have HE := Lib.hid h
  clear h HH
  go_wp2_with fail
  go_ret
  exact ⟨v1, rfl, HE.out⟩
theorem eMin (W : World) (base : Nat) (v : Value) (l : List UInt8) (s : ByteArray) (hp : plainB s.data.toList = true) (hs0 : s.size ≤ 1000000) (HO : OB 5 W base v l) (hbase : base ≤ W.heap.size) (hl : l.length ≤ 90000000) :
    Calls Tryz.prog 173 #[v, .string s] W (After fun v1 w1 => App (E := 5) W base v (l ++ hd 255 s.data.toList) v1 w1) := by
  have HH := Lib.hid (Hd.appHeaderN W base v l 255 s (by omega) (by omega) hp hs0 HO hbase (by omega))
  obtain ⟨l1, hl1⟩ : ∃ x, x = l ++ hd 255 s.data.toList := ⟨_, rfl⟩
  rw [← hl1] at HH ⊢
  clear hl1 HO hp hs0
  go_enter Tryz.func173, Tryz.ntmps173
  go_wp2_with fail
  refine HH.out.mono ?_
  rintro e w1 ⟨v1, rfl, h⟩
  have HE := Lib.hid h
  clear h HH
  go_wp2_with fail
  go_ret
  exact ⟨v1, rfl, HE.out⟩
theorem eBool (W : World) (base : Nat) (v : Value) (l : List UInt8) (s : ByteArray) (hp : plainB s.data.toList = true) (hs0 : s.size ≤ 1000000) (b : Bool) (HO : OB 5 W base v l) (hbase : base ≤ W.heap.size) (hl : l.length ≤ 90000000) :
    Calls Tryz.prog 160 #[v, .string s, .bool b] W (After fun v1 w1 => App (E := 5) W base v (l ++ (hd 8 s.data.toList ++ [if b then 1 else 0])) v1 w1) := by
  have HH := Lib.hid (Hd.appHeaderN W base v l 8 s (by omega) (by omega) hp hs0 HO hbase (by omega))
  have HC := Lib.hid (fun v1 w1 (h : App (E := 5) W base v (l ++ hd 8 s.data.toList) v1 w1) => appBool w1 base v1 (l ++ hd 8 s.data.toList) b h.own (by have := h.size; omega) (by rw [List.length_append, hd_len]; omega))
  rw [← List.append_assoc]
  obtain ⟨l1, hl1⟩ : ∃ x, x = l ++ hd 8 s.data.toList := ⟨_, rfl⟩
  rw [← hl1] at HH HC ⊢
  obtain ⟨l2, hl2⟩ : ∃ x, x = l1 ++ [if b then 1 else 0] := ⟨_, rfl⟩
  rw [← hl2] at HC ⊢
  clear hl1 hl2 HO hp hs0
  go_enter Tryz.func160, Tryz.ntmps160
  go_wp2_with fail
  refine HH.out.mono ?_
  rintro e w1 ⟨v1, rfl, h⟩
  have H2 := Lib.hid (HC.out v1 w1 h)
  have H1 := Lib.hid h
  clear h HH HC
  go_wp2_with fail
  refine H2.out.mono ?_
  rintro e w2 ⟨v2, rfl, h⟩
  have HE := Lib.hid (H1.out.trans h)
  clear h H1 H2
  go_wp2_with fail
  go_ret
  exact ⟨v2, rfl, HE.out⟩
theorem eDate (W : World) (base : Nat) (v : Value) (l : List UInt8) (s : ByteArray) (hp : plainB s.data.toList = true) (hs0 : s.size ≤ 1000000) (n : Int) (h0 : -9223372036854775808 ≤ n) (h1 : n ≤ 9223372036854775807) (HO : OB 5 W base v l) (hbase : base ≤ W.heap.size) (hl : l.length ≤ 90000000) :
    Calls Tryz.prog 161 #[v, .string s, .int .i64 n] W (After fun v1 w1 => App (E := 5) W base v (l ++ (hd 9 s.data.toList ++ i64 (n % 18446744073709551616))) v1 w1) := by
  have HH := Lib.hid (Hd.appHeaderN W base v l 9 s (by omega) (by omega) hp hs0 HO hbase (by omega))
  have HC := Lib.hid (fun v1 w1 (h : App (E := 5) W base v (l ++ hd 9 s.data.toList) v1 w1) => appDate w1 base v1 (l ++ hd 9 s.data.toList) n h0 h1 h.own (by have := h.size; omega) (by rw [List.length_append, hd_len]; omega))
  rw [← List.append_assoc]
  obtain ⟨l1, hl1⟩ : ∃ x, x = l ++ hd 9 s.data.toList := ⟨_, rfl⟩
  rw [← hl1] at HH HC ⊢
  obtain ⟨l2, hl2⟩ : ∃ x, x = l1 ++ i64 (n % 18446744073709551616) := ⟨_, rfl⟩
  rw [← hl2] at HC ⊢
  clear hl1 hl2 HO hp hs0 h0 h1
  go_enter Tryz.func161, Tryz.ntmps161
  go_wp2_with fail
  refine HH.out.mono ?_
  rintro e w1 ⟨v1, rfl, h⟩
  have H2 := Lib.hid (HC.out v1 w1 h)
  have H1 := Lib.hid h
  clear h HH HC
  go_wp2_with fail
  refine H2.out.mono ?_
  rintro e w2 ⟨v2, rfl, h⟩
  have HE := Lib.hid (H1.out.trans h)
  clear h H1 H2
  go_wp2_with fail
  go_ret
  exact ⟨v2, rfl, HE.out⟩
theorem eI64 (W : World) (base : Nat) (v : Value) (l : List UInt8) (s : ByteArray) (hp : plainB s.data.toList = true) (hs0 : s.size ≤ 1000000) (n : Int) (h0 : -9223372036854775808 ≤ n) (h1 : n ≤ 9223372036854775807) (HO : OB 5 W base v l) (hbase : base ≤ W.heap.size) (hl : l.length ≤ 90000000) :
    Calls Tryz.prog 170 #[v, .string s, .int .i64 n] W (After fun v1 w1 => App (E := 5) W base v (l ++ (hd 18 s.data.toList ++ i64 (n % 18446744073709551616))) v1 w1) := by
  have HH := Lib.hid (Hd.appHeaderN W base v l 18 s (by omega) (by omega) hp hs0 HO hbase (by omega))
  have HC := Lib.hid (fun v1 w1 (h : App (E := 5) W base v (l ++ hd 18 s.data.toList) v1 w1) => appI64 w1 base v1 (l ++ hd 18 s.data.toList) n h0 h1 h.own (by have := h.size; omega) (by rw [List.length_append, hd_len]; omega))
  rw [← List.append_assoc]
  obtain ⟨l1, hl1⟩ : ∃ x, x = l ++ hd 18 s.data.toList := ⟨_, rfl⟩
  rw [← hl1] at HH HC ⊢
  obtain ⟨l2, hl2⟩ : ∃ x, x = l1 ++ i64 (n % 18446744073709551616) := ⟨_, rfl⟩
  rw [← hl2] at HC ⊢
  clear hl1 hl2 HO hp hs0 h0 h1
  go_enter Tryz.func170, Tryz.ntmps170
  go_wp2_with fail
  refine HH.out.mono ?_
  rintro e w1 ⟨v1, rfl, h⟩
  have H2 := Lib.hid (HC.out v1 w1 h)
  have H1 := Lib.hid h
  clear h HH HC
  go_wp2_with fail
  refine H2.out.mono ?_
  rintro e w2 ⟨v2, rfl, h⟩
  have HE := Lib.hid (H1.out.trans h)
  clear h H1 H2
  go_wp2_with fail
  go_ret
  exact ⟨v2, rfl, HE.out⟩
theorem eRegex (W : World) (base : Nat) (v : Value) (l : List UInt8) (s : ByteArray) (hp : plainB s.data.toList = true) (hs0 : s.size ≤ 1000000) (t m : ByteArray) (ht : plainB t.data.toList = true) (hm : plainB m.data.toList = true) (ht1 : t.size ≤ 1000000) (hm1 : m.size ≤ 1000000) (HO : OB 5 W base v l) (hbase : base ≤ W.heap.size) (hl : l.length ≤ 90000000) :
    Calls Tryz.prog 163 #[v, .string s, .string t, .string m] W (After fun v1 w1 => App (E := 5) W base v (l ++ (hd 11 s.data.toList ++ (t.data.toList ++ [0] ++ m.data.toList ++ [0]))) v1 w1) := by
  have HH := Lib.hid (Hd.appHeaderN W base v l 11 s (by omega) (by omega) hp hs0 HO hbase (by omega))
  have HC := Lib.hid (fun v1 w1 (h : App (E := 5) W base v (l ++ hd 11 s.data.toList) v1 w1) => appRegex w1 base v1 (l ++ hd 11 s.data.toList) t m ht hm ht1 hm1 h.own (by have := h.size; omega) (by rw [List.length_append, hd_len]; omega))
  rw [← List.append_assoc]
  obtain ⟨l1, hl1⟩ : ∃ x, x = l ++ hd 11 s.data.toList := ⟨_, rfl⟩
  rw [← hl1] at HH HC ⊢
  obtain ⟨l2, hl2⟩ : ∃ x, x = l1 ++ (t.data.toList ++ [0] ++ m.data.toList ++ [0]) := ⟨_, rfl⟩
  rw [← hl2] at HC ⊢
  clear hl1 hl2 HO hp hs0 ht hm ht1 hm1
  go_enter Tryz.func163, Tryz.ntmps163
  go_wp2_with fail
  refine HH.out.mono ?_
  rintro e w1 ⟨v1, rfl, h⟩
  have H2 := Lib.hid (HC.out v1 w1 h)
  have H1 := Lib.hid h
  clear h HH HC
  go_wp2_with fail
  refine H2.out.mono ?_
  rintro e w2 ⟨v2, rfl, h⟩
  have HE := Lib.hid (H1.out.trans h)
  clear h H1 H2
  go_wp2_with fail
  go_ret
  exact ⟨v2, rfl, HE.out⟩
theorem eCws (W : World) (base : Nat) (v : Value) (l : List UInt8) (s : ByteArray) (hp : plainB s.data.toList = true) (hs0 : s.size ≤ 1000000) (t : ByteArray) (ht : t.size ≤ 1000000) (A : Option Addr) (c : Nat) (m : List UInt8) (hs : SB W A c m) (hsp : Sep v A m) (hm : m.length ≤ 1000000) (HO : OB 5 W base v l) (hbase : base ≤ W.heap.size) (hl : l.length ≤ 90000000) :
    Calls Tryz.prog 167 #[v, .string s, .string t, .slice A m.length c] W (After fun v1 w1 => App (E := 5) W base v (l ++ (hd 15 s.data.toList ++ (i32 (4 + ((txt t.data.toList).length : Int) + (m.length : Int)) ++ txt t.data.toList ++ m))) v1 w1) := by
  have HH := Lib.hid (Hd.appHeaderN W base v l 15 s (by omega) (by omega) hp hs0 HO hbase (by omega))
  have HC := Lib.hid (fun v1 w1 (h : App (E := 5) W base v (l ++ hd 15 s.data.toList) v1 w1) => appCws w1 base v1 (l ++ hd 15 s.data.toList) t ht A c m (sb_next h hs hsp) (sep_next h hs hsp) hm h.own (by have := h.size; omega) (by rw [List.length_append, hd_len]; omega))
  rw [← List.append_assoc]
  obtain ⟨l1, hl1⟩ : ∃ x, x = l ++ hd 15 s.data.toList := ⟨_, rfl⟩
  rw [← hl1] at HH HC ⊢
  obtain ⟨l2, hl2⟩ : ∃ x, x = l1 ++ (i32 (4 + ((txt t.data.toList).length : Int) + (m.length : Int)) ++ txt t.data.toList ++ m) := ⟨_, rfl⟩
  rw [← hl2] at HC ⊢
  clear hl1 hl2 HO hp hs0 hs hsp hm ht
  go_enter Tryz.func167, Tryz.ntmps167
  go_wp2_with fail
  refine HH.out.mono ?_
  rintro e w1 ⟨v1, rfl, h⟩
  have H2 := Lib.hid (HC.out v1 w1 h)
  have H1 := Lib.hid h
  clear h HH HC
  go_wp2_with fail
  refine H2.out.mono ?_
  rintro e w2 ⟨v2, rfl, h⟩
  have HE := Lib.hid (H1.out.trans h)
  clear h H1 H2
  go_wp2_with fail
  go_ret
  exact ⟨v2, rfl, HE.out⟩
theorem eI32 (W : World) (base : Nat) (v : Value) (l : List UInt8) (s : ByteArray) (hp : plainB s.data.toList = true) (hs0 : s.size ≤ 1000000) (n : Int) (h0 : -2147483648 ≤ n) (h1 : n ≤ 2147483647) (HO : OB 5 W base v l) (hbase : base ≤ W.heap.size) (hl : l.length ≤ 90000000) :
    Calls Tryz.prog 168 #[v, .string s, .int .i32 n] W (After fun v1 w1 => App (E := 5) W base v (l ++ (hd 16 s.data.toList ++ i32 n)) v1 w1) := by
  have HH := Lib.hid (Hd.appHeaderN W base v l 16 s (by omega) (by omega) hp hs0 HO hbase (by omega))
  have HC := Lib.hid (fun v1 w1 (h : App (E := 5) W base v (l ++ hd 16 s.data.toList) v1 w1) => appI32 w1 base v1 (l ++ hd 16 s.data.toList) n h0 h1 h.own (by have := h.size; omega) (by rw [List.length_append, hd_len]; omega))
  rw [← List.append_assoc]
  obtain ⟨l1, hl1⟩ : ∃ x, x = l ++ hd 16 s.data.toList := ⟨_, rfl⟩
  rw [← hl1] at HH HC ⊢
  obtain ⟨l2, hl2⟩ : ∃ x, x = l1 ++ i32 n := ⟨_, rfl⟩
  rw [← hl2] at HC ⊢
  clear hl1 hl2 HO hp hs0 h0 h1
  go_enter Tryz.func168, Tryz.ntmps168
  go_wp2_with fail
  refine HH.out.mono ?_
  rintro e w1 ⟨v1, rfl, h⟩
  have H2 := Lib.hid (HC.out v1 w1 h)
  have H1 := Lib.hid h
  clear h HH HC
  go_wp2_with fail
  refine H2.out.mono ?_
  rintro e w2 ⟨v2, rfl, h⟩
  have HE := Lib.hid (H1.out.trans h)
  clear h H1 H2
  go_wp2_with fail
  go_ret
  exact ⟨v2, rfl, HE.out⟩
theorem eTime (W : World) (base : Nat) (v : Value) (l : List UInt8) (s : ByteArray) (hp : plainB s.data.toList = true) (hs0 : s.size ≤ 1000000) (t i : Int) (ht0 : 0 ≤ t) (ht1 : t ≤ 4294967295) (hi0 : 0 ≤ i) (hi1 : i ≤ 4294967295) (HO : OB 5 W base v l) (hbase : base ≤ W.heap.size) (hl : l.length ≤ 90000000) :
    Calls Tryz.prog 169 #[v, .string s, .int .u32 t, .int .u32 i] W (After fun v1 w1 => App (E := 5) W base v (l ++ (hd 17 s.data.toList ++ (i32 i ++ i32 t))) v1 w1) := by
  have HH := Lib.hid (Hd.appHeaderN W base v l 17 s (by omega) (by omega) hp hs0 HO hbase (by omega))
  have HC := Lib.hid (fun v1 w1 (h : App (E := 5) W base v (l ++ hd 17 s.data.toList) v1 w1) => appTime w1 base v1 (l ++ hd 17 s.data.toList) t i ht0 ht1 hi0 hi1 h.own (by have := h.size; omega) (by rw [List.length_append, hd_len]; omega))
  rw [← List.append_assoc]
  obtain ⟨l1, hl1⟩ : ∃ x, x = l ++ hd 17 s.data.toList := ⟨_, rfl⟩
  rw [← hl1] at HH HC ⊢
  obtain ⟨l2, hl2⟩ : ∃ x, x = l1 ++ (i32 i ++ i32 t) := ⟨_, rfl⟩
  rw [← hl2] at HC ⊢
  clear hl1 hl2 HO hp hs0 ht0 ht1 hi0 hi1
  go_enter Tryz.func169, Tryz.ntmps169
  go_wp2_with fail
  refine HH.out.mono ?_
  rintro e w1 ⟨v1, rfl, h⟩
  have H2 := Lib.hid (HC.out v1 w1 h)
  have H1 := Lib.hid h
  clear h HH HC
  go_wp2_with fail
  refine H2.out.mono ?_
  rintro e w2 ⟨v2, rfl, h⟩
  have HE := Lib.hid (H1.out.trans h)
  clear h H1 H2
  go_wp2_with fail
  go_ret
  exact ⟨v2, rfl, HE.out⟩
theorem eDec (W : World) (base : Nat) (v : Value) (l : List UInt8) (s : ByteArray) (hp : plainB s.data.toList = true) (hs0 : s.size ≤ 1000000) (t i : Int) (ht0 : 0 ≤ t) (ht1 : t ≤ 18446744073709551615) (hi0 : 0 ≤ i) (hi1 : i ≤ 18446744073709551615) (HO : OB 5 W base v l) (hbase : base ≤ W.heap.size) (hl : l.length ≤ 90000000) :
    Calls Tryz.prog 171 #[v, .string s, .int .u64 t, .int .u64 i] W (After fun v1 w1 => App (E := 5) W base v (l ++ (hd 19 s.data.toList ++ (i64 i ++ i64 t))) v1 w1) := by
  have HH := Lib.hid (Hd.appHeaderN W base v l 19 s (by omega) (by omega) hp hs0 HO hbase (by omega))
  have HC := Lib.hid (fun v1 w1 (h : App (E := 5) W base v (l ++ hd 19 s.data.toList) v1 w1) => appDec w1 base v1 (l ++ hd 19 s.data.toList) t i ht0 ht1 hi0 hi1 h.own (by have := h.size; omega) (by rw [List.length_append, hd_len]; omega))
  rw [← List.append_assoc]
  obtain ⟨l1, hl1⟩ : ∃ x, x = l ++ hd 19 s.data.toList := ⟨_, rfl⟩
  rw [← hl1] at HH HC ⊢
  obtain ⟨l2, hl2⟩ : ∃ x, x = l1 ++ (i64 i ++ i64 t) := ⟨_, rfl⟩
  rw [← hl2] at HC ⊢
  clear hl1 hl2 HO hp hs0 ht0 ht1 hi0 hi1
  go_enter Tryz.func171, Tryz.ntmps171
  go_wp2_with fail
  refine HH.out.mono ?_
  rintro e w1 ⟨v1, rfl, h⟩
  have H2 := Lib.hid (HC.out v1 w1 h)
  have H1 := Lib.hid h
  clear h HH HC
  go_wp2_with fail
  refine H2.out.mono ?_
  rintro e w2 ⟨v2, rfl, h⟩
  have HE := Lib.hid (H1.out.trans h)
  clear h H1 H2
  go_wp2_with fail
  go_ret
  exact ⟨v2, rfl, HE.out⟩
theorem eOid (W : World) (base : Nat) (v : Value) (l : List UInt8) (s : ByteArray) (hp : plainB s.data.toList = true) (hs0 : s.size ≤ 1000000) (m : List UInt8) (hm : m.length = 12) (HO : OB 5 W base v l) (hbase : base ≤ W.heap.size) (hl : l.length ≤ 90000000) :
    Calls Tryz.prog 159 #[v, .string s, oid12 m] W (After fun v1 w1 => App (E := 5) W base v (l ++ (hd 7 s.data.toList ++ m)) v1 w1) := by
  obtain ⟨A, c, rfl, hs, -⟩ := HO.sb
  have HH := Lib.hid (fun wx (hx : Below W.heap.size W wx) => Hd.appHeaderN wx base (.slice A l.length c) l 7 s (by omega) (by omega) hp hs0 (HO.keep hx) (by have := hx.size; omega) (by omega))
  have HC := Lib.hid (fun v1 w0 w1 (h : App (E := 5) w0 base (.slice A l.length c) (l ++ hd 7 s.data.toList) v1 w1) (hz : base ≤ w0.heap.size) => appOid w1 base v1 (l ++ hd 7 s.data.toList) m hm h.own (by have := h.size; omega) (by rw [List.length_append, hd_len]; omega))
  obtain ⟨b0, b1, b2, b3, b4, b5, b6, b7, b8, b9, b10, b11, hmb⟩ := oid_split hm
  have HOO := Lib.hid HO
  have HZ := Lib.hid hbase
  have e1 : oid12 m = .agg #[.int .u8 b0.toNat, .int .u8 b1.toNat, .int .u8 b2.toNat, .int .u8 b3.toNat, .int .u8 b4.toNat, .int .u8 b5.toNat, .int .u8 b6.toNat, .int .u8 b7.toNat, .int .u8 b8.toNat, .int .u8 b9.toNat, .int .u8 b10.toNat, .int .u8 b11.toNat] := by rw [hmb]; rfl
  rw [← List.append_assoc]
  rw [e1] at HC ⊢
  obtain ⟨l1, hl1⟩ : ∃ x, x = l ++ hd 7 s.data.toList := ⟨_, rfl⟩
  rw [← hl1] at HH HC ⊢
  obtain ⟨l2, hl2⟩ : ∃ x, x = l1 ++ m := ⟨_, rfl⟩
  rw [← hl2] at HC ⊢
  have hB : Below W.heap.size W (W.alloc (.cells #[.int .u8 b0.toNat, .int .u8 b1.toNat, .int .u8 b2.toNat, .int .u8 b3.toNat, .int .u8 b4.toNat, .int .u8 b5.toNat, .int .u8 b6.toNat, .int .u8 b7.toNat, .int .u8 b8.toNat, .int .u8 b9.toNat, .int .u8 b10.toNat, .int .u8 b11.toNat] 113)) := balloc (Below.refl _ _) (Nat.le_refl _) _
  have HNW := Lib.hid (heap_alloc_new W (.cells #[.int .u8 b0.toNat, .int .u8 b1.toNat, .int .u8 b2.toNat, .int .u8 b3.toNat, .int .u8 b4.toNat, .int .u8 b5.toNat, .int .u8 b6.toNat, .int .u8 b7.toNat, .int .u8 b8.toNat, .int .u8 b9.toNat, .int .u8 b10.toNat, .int .u8 b11.toNat] 113))
  clear hl1 hl2 HO hp hs0 hm hs e1 hmb hbase
  go_enter Tryz.func159, Tryz.ntmps159
  go_wp2_with fail
  refine start_ (n := 6) (S := fun w' => w'.cell? ⟨W.heap.size, 0, none⟩ = some (.int .u8 b0.toNat) ∧ w'.cell? ⟨W.heap.size, 1, none⟩ = some (.int .u8 b1.toNat) ∧ w'.cell? ⟨W.heap.size, 2, none⟩ = some (.int .u8 b2.toNat) ∧ w'.cell? ⟨W.heap.size, 3, none⟩ = some (.int .u8 b3.toNat) ∧ w'.cell? ⟨W.heap.size, 4, none⟩ = some (.int .u8 b4.toNat) ∧ w'.cell? ⟨W.heap.size, 5, none⟩ = some (.int .u8 b5.toNat) ∧ w'.cell? ⟨W.heap.size, 6, none⟩ = some (.int .u8 b6.toNat) ∧ w'.cell? ⟨W.heap.size, 7, none⟩ = some (.int .u8 b7.toNat) ∧ w'.cell? ⟨W.heap.size, 8, none⟩ = some (.int .u8 b8.toNat) ∧ w'.cell? ⟨W.heap.size, 9, none⟩ = some (.int .u8 b9.toNat) ∧ w'.cell? ⟨W.heap.size, 10, none⟩ = some (.int .u8 b10.toNat) ∧ w'.cell? ⟨W.heap.size, 11, none⟩ = some (.int .u8 b11.toNat)) (ds := [4]) #[false, false, false, false, false, false] (by kernel_rfl) rfl rfl ⟨(by go_simp), (by go_simp), (by go_simp), (by go_simp), (by go_simp), (by go_simp), (by go_simp), (by go_simp), (by go_simp), (by go_simp), (by go_simp), (by go_simp)⟩ (fun hHeld => ?_)
  refine with_tabW R159.tab1 R159.bits1 (fun HT_ HW_ => ?_)
  refine pure_ (i := 0) (N := some 7) (v := ?_) (a' := ?_) #[true, false, false, false, false, false] rfl rfl (any_of HT_.out (by kernel_rfl)) (fun _ _ _ h => h) (Or.inl ⟨by rfl, ?_⟩) ?_ ?_
  rotate_left
  · intro w'
    go_simp
    with_reducible rfl
  rotate_left
  · simp only [Act.put, List.setIfInBounds_toArray, List.set_cons_zero, List.set_cons_succ, i64_w, i32_w]
    rfl
  refine pure_ (i := 1) (N := some 8) (v := ?_) (a' := ?_) #[true, true, false, false, false, false] rfl rfl (any_of HT_.out (by kernel_rfl)) (fun _ _ _ h => h) (Or.inl ⟨by rfl, ?_⟩) ?_ ?_
  rotate_left
  · intro w'
    go_simp
    with_reducible rfl
  rotate_left
  · simp only [Act.put, List.setIfInBounds_toArray, List.set_cons_zero, List.set_cons_succ, i64_w, i32_w]
    rfl
  refine take_ (i := 3) (N := some 10) (v := ?_) (a' := ?_) #[true, true, false, true, false, false] rfl rfl (take_ofW HT_.out HW_.out (by kernel_rfl)) (fun _ _ _ h => h) (Or.inl ⟨by rfl, ?_⟩) hHeld ?_ ?_
  rotate_left
  · rintro w' ⟨s0, s1, s2, s3, s4, s5, s6, s7, s8, s9, s10, s11⟩
    go_simp
    with_reducible rfl
  rotate_left
  · simp only [Act.put, List.setIfInBounds_toArray, List.set_cons_zero, List.set_cons_succ, i64_w, i32_w]
    rfl
  refine one_ (i := 2) (N := some 9) #[true, true, true, true, false, false] rfl rfl (one_of HT_.out (by kernel_rfl)) (by decide) (fun K hK => ?_)
  refine goes_ Tryz.func145 (by kernel_rfl) rfl #[.slice A l.length c, .int .u8 7, .string s] (by rfl) rfl rfl (by simp only [List.map_toArray, List.map_cons, List.map_nil]; rfl) ?_
  with_reducible refine (HH.out _ (by exact bdrew hB)).mono ?_
  rintro e w3 ⟨v3, rfl, h3⟩
  refine ⟨_, rfl, ?_⟩
  have hne3 : some W.heap.size ≠ (Value.slice A l.length c).ownBlock := fun e => by have := (HOO.out.lt _ e.symm).2; omega
  have hx3 : w3.heap[W.heap.size]? = _ := (h3.grown.block W.heap.size (by simp) hne3).trans HNW.out
  have HB3 := Lib.hid (h3.pre (bdrew hB))
  have HC3 := Lib.hid (HC.out v3 _ w3 h3 (by have := HZ.out; simp; omega))
  have r0 : w3.cell? ⟨W.heap.size, 0, none⟩ = some (.int .u8 b0.toNat) := by simp only [World.cell?, hx3]; rfl
  have r1 : w3.cell? ⟨W.heap.size, 1, none⟩ = some (.int .u8 b1.toNat) := by simp only [World.cell?, hx3]; rfl
  have r2 : w3.cell? ⟨W.heap.size, 2, none⟩ = some (.int .u8 b2.toNat) := by simp only [World.cell?, hx3]; rfl
  have r3 : w3.cell? ⟨W.heap.size, 3, none⟩ = some (.int .u8 b3.toNat) := by simp only [World.cell?, hx3]; rfl
  have r4 : w3.cell? ⟨W.heap.size, 4, none⟩ = some (.int .u8 b4.toNat) := by simp only [World.cell?, hx3]; rfl
  have r5 : w3.cell? ⟨W.heap.size, 5, none⟩ = some (.int .u8 b5.toNat) := by simp only [World.cell?, hx3]; rfl
  have r6 : w3.cell? ⟨W.heap.size, 6, none⟩ = some (.int .u8 b6.toNat) := by simp only [World.cell?, hx3]; rfl
  have r7 : w3.cell? ⟨W.heap.size, 7, none⟩ = some (.int .u8 b7.toNat) := by simp only [World.cell?, hx3]; rfl
  have r8 : w3.cell? ⟨W.heap.size, 8, none⟩ = some (.int .u8 b8.toNat) := by simp only [World.cell?, hx3]; rfl
  have r9 : w3.cell? ⟨W.heap.size, 9, none⟩ = some (.int .u8 b9.toNat) := by simp only [World.cell?, hx3]; rfl
  have r10 : w3.cell? ⟨W.heap.size, 10, none⟩ = some (.int .u8 b10.toNat) := by simp only [World.cell?, hx3]; rfl
  have r11 : w3.cell? ⟨W.heap.size, 11, none⟩ = some (.int .u8 b11.toNat) := by simp only [World.cell?, hx3]; rfl
  refine hK.out _ _ ⟨r0, r1, r2, r3, r4, r5, r6, r7, r8, r9, r10, r11⟩ (fun hHeld => ?_)
  clear hK K
  refine norm_ (a' := ?_) ?_ ?_
  rotate_left
  · show Act.put _ (some 9) _ = _
    simp only [Act.put, List.setIfInBounds_toArray, List.set_cons_zero, List.set_cons_succ, i64_w, i32_w]
    rfl
  refine last_ (i := 4) (N := some 11) #[true, true, true, true, true, false] rfl rfl (one_of HT_.out (by kernel_rfl)) (by decide) (fun K hK => ?_)
  refine goes_ Tryz.func86 (by kernel_rfl) rfl #[v3, .agg #[.int .u8 b0.toNat, .int .u8 b1.toNat, .int .u8 b2.toNat, .int .u8 b3.toNat, .int .u8 b4.toNat, .int .u8 b5.toNat, .int .u8 b6.toNat, .int .u8 b7.toNat, .int .u8 b8.toNat, .int .u8 b9.toNat, .int .u8 b10.toNat, .int .u8 b11.toNat]] (by rfl) rfl rfl (by simp only [List.map_toArray, List.map_cons, List.map_nil]; rfl) ?_
  with_reducible refine (HC3.out).mono ?_
  rintro e w4 ⟨v4, rfl, h4⟩
  refine ⟨_, rfl, ?_⟩
  refine hK.out _ _ ?_
  clear hK K
  refine norm_ (a' := ?_) ?_ ?_
  rotate_left
  · show Act.put _ (some 11) _ = _
    simp only [Act.put, List.setIfInBounds_toArray, List.set_cons_zero, List.set_cons_succ, i64_w, i32_w]
    rfl
  refine pure_ (i := 5) (N := some 6) (v := ?_) (a' := ?_) #[true, true, true, true, true, true] rfl rfl (any_of HT_.out (by kernel_rfl)) (fun _ _ _ h => h) (Or.inl ⟨by rfl, ?_⟩) ?_ ?_
  rotate_left
  · intro w'
    go_simp
    with_reducible rfl
  rotate_left
  · simp only [Act.put, List.setIfInBounds_toArray, List.set_cons_zero, List.set_cons_succ, i64_w, i32_w]
    rfl
  refine done_ (done_of HT_.out (by kernel_rfl)) ?_
  have HE := Lib.hid (HB3.out.trans h4)
  clear h4
  go_wp2_with fail
  go_ret
  exact ⟨v4, rfl, HE.out⟩
theorem eDbp (W : World) (base : Nat) (v : Value) (l : List UInt8) (s : ByteArray) (hp : plainB s.data.toList = true) (hs0 : s.size ≤ 1000000) (t : ByteArray) (ht : t.size ≤ 1000000) (m : List UInt8) (hm : m.length = 12) (HO : OB 5 W base v l) (hbase : base ≤ W.heap.size) (hl : l.length ≤ 90000000) :
    Calls Tryz.prog 164 #[v, .string s, .string t, oid12 m] W (After fun v1 w1 => App (E := 5) W base v (l ++ (hd 12 s.data.toList ++ (txt t.data.toList ++ m))) v1 w1) := by
  obtain ⟨A, c, rfl, hs, -⟩ := HO.sb
  have HH := Lib.hid (fun wx (hx : Below W.heap.size W wx) => Hd.appHeaderN wx base (.slice A l.length c) l 12 s (by omega) (by omega) hp hs0 (HO.keep hx) (by have := hx.size; omega) (by omega))
  have HC := Lib.hid (fun v1 w0 w1 (h : App (E := 5) w0 base (.slice A l.length c) (l ++ hd 12 s.data.toList) v1 w1) (hz : base ≤ w0.heap.size) => appDbp w1 base v1 (l ++ hd 12 s.data.toList) t ht m hm h.own (by have := h.size; omega) (by rw [List.length_append, hd_len]; omega))
  obtain ⟨b0, b1, b2, b3, b4, b5, b6, b7, b8, b9, b10, b11, hmb⟩ := oid_split hm
  have HOO := Lib.hid HO
  have HZ := Lib.hid hbase
  have e1 : oid12 m = .agg #[.int .u8 b0.toNat, .int .u8 b1.toNat, .int .u8 b2.toNat, .int .u8 b3.toNat, .int .u8 b4.toNat, .int .u8 b5.toNat, .int .u8 b6.toNat, .int .u8 b7.toNat, .int .u8 b8.toNat, .int .u8 b9.toNat, .int .u8 b10.toNat, .int .u8 b11.toNat] := by rw [hmb]; rfl
  rw [← List.append_assoc]
  rw [e1] at HC ⊢
  obtain ⟨l1, hl1⟩ : ∃ x, x = l ++ hd 12 s.data.toList := ⟨_, rfl⟩
  rw [← hl1] at HH HC ⊢
  obtain ⟨l2, hl2⟩ : ∃ x, x = l1 ++ (txt t.data.toList ++ m) := ⟨_, rfl⟩
  rw [← hl2] at HC ⊢
  have hB : Below W.heap.size W (W.alloc (.cells #[.int .u8 b0.toNat, .int .u8 b1.toNat, .int .u8 b2.toNat, .int .u8 b3.toNat, .int .u8 b4.toNat, .int .u8 b5.toNat, .int .u8 b6.toNat, .int .u8 b7.toNat, .int .u8 b8.toNat, .int .u8 b9.toNat, .int .u8 b10.toNat, .int .u8 b11.toNat] 113)) := balloc (Below.refl _ _) (Nat.le_refl _) _
  have HNW := Lib.hid (heap_alloc_new W (.cells #[.int .u8 b0.toNat, .int .u8 b1.toNat, .int .u8 b2.toNat, .int .u8 b3.toNat, .int .u8 b4.toNat, .int .u8 b5.toNat, .int .u8 b6.toNat, .int .u8 b7.toNat, .int .u8 b8.toNat, .int .u8 b9.toNat, .int .u8 b10.toNat, .int .u8 b11.toNat] 113))
  clear hl1 hl2 HO hp hs0 hm hs e1 hmb hbase ht
  go_enter Tryz.func164, Tryz.ntmps164
  go_wp2_with fail
  refine start_ (n := 7) (S := fun w' => w'.cell? ⟨W.heap.size, 0, none⟩ = some (.int .u8 b0.toNat) ∧ w'.cell? ⟨W.heap.size, 1, none⟩ = some (.int .u8 b1.toNat) ∧ w'.cell? ⟨W.heap.size, 2, none⟩ = some (.int .u8 b2.toNat) ∧ w'.cell? ⟨W.heap.size, 3, none⟩ = some (.int .u8 b3.toNat) ∧ w'.cell? ⟨W.heap.size, 4, none⟩ = some (.int .u8 b4.toNat) ∧ w'.cell? ⟨W.heap.size, 5, none⟩ = some (.int .u8 b5.toNat) ∧ w'.cell? ⟨W.heap.size, 6, none⟩ = some (.int .u8 b6.toNat) ∧ w'.cell? ⟨W.heap.size, 7, none⟩ = some (.int .u8 b7.toNat) ∧ w'.cell? ⟨W.heap.size, 8, none⟩ = some (.int .u8 b8.toNat) ∧ w'.cell? ⟨W.heap.size, 9, none⟩ = some (.int .u8 b9.toNat) ∧ w'.cell? ⟨W.heap.size, 10, none⟩ = some (.int .u8 b10.toNat) ∧ w'.cell? ⟨W.heap.size, 11, none⟩ = some (.int .u8 b11.toNat)) (ds := [5]) #[false, false, false, false, false, false, false] (by kernel_rfl) rfl rfl ⟨(by go_simp), (by go_simp), (by go_simp), (by go_simp), (by go_simp), (by go_simp), (by go_simp), (by go_simp), (by go_simp), (by go_simp), (by go_simp), (by go_simp)⟩ (fun hHeld => ?_)
  refine with_tabW R164.tab1 R164.bits1 (fun HT_ HW_ => ?_)
  refine pure_ (i := 0) (N := some 9) (v := ?_) (a' := ?_) #[true, false, false, false, false, false, false] rfl rfl (any_of HT_.out (by kernel_rfl)) (fun _ _ _ h => h) (Or.inl ⟨by rfl, ?_⟩) ?_ ?_
  rotate_left
  · intro w'
    go_simp
    with_reducible rfl
  rotate_left
  · simp only [Act.put, List.setIfInBounds_toArray, List.set_cons_zero, List.set_cons_succ, i64_w, i32_w]
    rfl
  refine pure_ (i := 1) (N := some 10) (v := ?_) (a' := ?_) #[true, true, false, false, false, false, false] rfl rfl (any_of HT_.out (by kernel_rfl)) (fun _ _ _ h => h) (Or.inl ⟨by rfl, ?_⟩) ?_ ?_
  rotate_left
  · intro w'
    go_simp
    with_reducible rfl
  rotate_left
  · simp only [Act.put, List.setIfInBounds_toArray, List.set_cons_zero, List.set_cons_succ, i64_w, i32_w]
    rfl
  refine pure_ (i := 3) (N := some 12) (v := ?_) (a' := ?_) #[true, true, false, true, false, false, false] rfl rfl (any_of HT_.out (by kernel_rfl)) (fun _ _ _ h => h) (Or.inl ⟨by rfl, ?_⟩) ?_ ?_
  rotate_left
  · intro w'
    go_simp
    with_reducible rfl
  rotate_left
  · simp only [Act.put, List.setIfInBounds_toArray, List.set_cons_zero, List.set_cons_succ, i64_w, i32_w]
    rfl
  refine take_ (i := 4) (N := some 13) (v := ?_) (a' := ?_) #[true, true, false, true, true, false, false] rfl rfl (take_ofW HT_.out HW_.out (by kernel_rfl)) (fun _ _ _ h => h) (Or.inl ⟨by rfl, ?_⟩) hHeld ?_ ?_
  rotate_left
  · rintro w' ⟨s0, s1, s2, s3, s4, s5, s6, s7, s8, s9, s10, s11⟩
    go_simp
    with_reducible rfl
  rotate_left
  · simp only [Act.put, List.setIfInBounds_toArray, List.set_cons_zero, List.set_cons_succ, i64_w, i32_w]
    rfl
  refine one_ (i := 2) (N := some 11) #[true, true, true, true, true, false, false] rfl rfl (one_of HT_.out (by kernel_rfl)) (by decide) (fun K hK => ?_)
  refine goes_ Tryz.func145 (by kernel_rfl) rfl #[.slice A l.length c, .int .u8 12, .string s] (by rfl) rfl rfl (by simp only [List.map_toArray, List.map_cons, List.map_nil]; rfl) ?_
  with_reducible refine (HH.out _ (by exact bdrew hB)).mono ?_
  rintro e w3 ⟨v3, rfl, h3⟩
  refine ⟨_, rfl, ?_⟩
  have hne3 : some W.heap.size ≠ (Value.slice A l.length c).ownBlock := fun e => by have := (HOO.out.lt _ e.symm).2; omega
  have hx3 : w3.heap[W.heap.size]? = _ := (h3.grown.block W.heap.size (by simp) hne3).trans HNW.out
  have HB3 := Lib.hid (h3.pre (bdrew hB))
  have HC3 := Lib.hid (HC.out v3 _ w3 h3 (by have := HZ.out; simp; omega))
  have r0 : w3.cell? ⟨W.heap.size, 0, none⟩ = some (.int .u8 b0.toNat) := by simp only [World.cell?, hx3]; rfl
  have r1 : w3.cell? ⟨W.heap.size, 1, none⟩ = some (.int .u8 b1.toNat) := by simp only [World.cell?, hx3]; rfl
  have r2 : w3.cell? ⟨W.heap.size, 2, none⟩ = some (.int .u8 b2.toNat) := by simp only [World.cell?, hx3]; rfl
  have r3 : w3.cell? ⟨W.heap.size, 3, none⟩ = some (.int .u8 b3.toNat) := by simp only [World.cell?, hx3]; rfl
  have r4 : w3.cell? ⟨W.heap.size, 4, none⟩ = some (.int .u8 b4.toNat) := by simp only [World.cell?, hx3]; rfl
  have r5 : w3.cell? ⟨W.heap.size, 5, none⟩ = some (.int .u8 b5.toNat) := by simp only [World.cell?, hx3]; rfl
  have r6 : w3.cell? ⟨W.heap.size, 6, none⟩ = some (.int .u8 b6.toNat) := by simp only [World.cell?, hx3]; rfl
  have r7 : w3.cell? ⟨W.heap.size, 7, none⟩ = some (.int .u8 b7.toNat) := by simp only [World.cell?, hx3]; rfl
  have r8 : w3.cell? ⟨W.heap.size, 8, none⟩ = some (.int .u8 b8.toNat) := by simp only [World.cell?, hx3]; rfl
  have r9 : w3.cell? ⟨W.heap.size, 9, none⟩ = some (.int .u8 b9.toNat) := by simp only [World.cell?, hx3]; rfl
  have r10 : w3.cell? ⟨W.heap.size, 10, none⟩ = some (.int .u8 b10.toNat) := by simp only [World.cell?, hx3]; rfl
  have r11 : w3.cell? ⟨W.heap.size, 11, none⟩ = some (.int .u8 b11.toNat) := by simp only [World.cell?, hx3]; rfl
  refine hK.out _ _ ⟨r0, r1, r2, r3, r4, r5, r6, r7, r8, r9, r10, r11⟩ (fun hHeld => ?_)
  clear hK K
  refine norm_ (a' := ?_) ?_ ?_
  rotate_left
  · show Act.put _ (some 11) _ = _
    simp only [Act.put, List.setIfInBounds_toArray, List.set_cons_zero, List.set_cons_succ, i64_w, i32_w]
    rfl
  refine last_ (i := 5) (N := some 14) #[true, true, true, true, true, true, false] rfl rfl (one_of HT_.out (by kernel_rfl)) (by decide) (fun K hK => ?_)
  refine goes_ Tryz.func91 (by kernel_rfl) rfl #[v3, .string t, .agg #[.int .u8 b0.toNat, .int .u8 b1.toNat, .int .u8 b2.toNat, .int .u8 b3.toNat, .int .u8 b4.toNat, .int .u8 b5.toNat, .int .u8 b6.toNat, .int .u8 b7.toNat, .int .u8 b8.toNat, .int .u8 b9.toNat, .int .u8 b10.toNat, .int .u8 b11.toNat]] (by rfl) rfl rfl (by simp only [List.map_toArray, List.map_cons, List.map_nil]; rfl) ?_
  with_reducible refine (HC3.out).mono ?_
  rintro e w4 ⟨v4, rfl, h4⟩
  refine ⟨_, rfl, ?_⟩
  refine hK.out _ _ ?_
  clear hK K
  refine norm_ (a' := ?_) ?_ ?_
  rotate_left
  · show Act.put _ (some 14) _ = _
    simp only [Act.put, List.setIfInBounds_toArray, List.set_cons_zero, List.set_cons_succ, i64_w, i32_w]
    rfl
  refine pure_ (i := 6) (N := some 8) (v := ?_) (a' := ?_) #[true, true, true, true, true, true, true] rfl rfl (any_of HT_.out (by kernel_rfl)) (fun _ _ _ h => h) (Or.inl ⟨by rfl, ?_⟩) ?_ ?_
  rotate_left
  · intro w'
    go_simp
    with_reducible rfl
  rotate_left
  · simp only [Act.put, List.setIfInBounds_toArray, List.set_cons_zero, List.set_cons_succ, i64_w, i32_w]
    rfl
  refine done_ (done_of HT_.out (by kernel_rfl)) ?_
  have HE := Lib.hid (HB3.out.trans h4)
  clear h4
  go_wp2_with fail
  go_ret
  exact ⟨v4, rfl, HE.out⟩
theorem set12 (w : World) (B t : Nat) (c0 c1 c2 c3 c4 c5 c6 c7 c8 c9 c10 c11 : Value) (h : w.heap[B]? = some (.cells #[c0, c1, c2, c3, c4, c5, c6, c7, c8, c9, c10, c11] t (0, 0))) : ((((((((((((w.setCell ⟨B, 0, none⟩ c0).setCell ⟨B, 1, none⟩ c1).setCell ⟨B, 2, none⟩ c2).setCell ⟨B, 3, none⟩ c3).setCell ⟨B, 4, none⟩ c4).setCell ⟨B, 5, none⟩ c5).setCell ⟨B, 6, none⟩ c6).setCell ⟨B, 7, none⟩ c7).setCell ⟨B, 8, none⟩ c8).setCell ⟨B, 9, none⟩ c9).setCell ⟨B, 10, none⟩ c10).setCell ⟨B, 11, none⟩ c11).heap[B]? = some (.cells #[c0, c1, c2, c3, c4, c5, c6, c7, c8, c9, c10, c11] t (0, 0)) := by
  have h0 := heap_setCell_same _ B 0 _ _ c0 h
  have h1 := heap_setCell_same _ B 1 _ _ c1 h0
  have h2 := heap_setCell_same _ B 2 _ _ c2 h1
  have h3 := heap_setCell_same _ B 3 _ _ c3 h2
  have h4 := heap_setCell_same _ B 4 _ _ c4 h3
  have h5 := heap_setCell_same _ B 5 _ _ c5 h4
  have h6 := heap_setCell_same _ B 6 _ _ c6 h5
  have h7 := heap_setCell_same _ B 7 _ _ c7 h6
  have h8 := heap_setCell_same _ B 8 _ _ c8 h7
  have h9 := heap_setCell_same _ B 9 _ _ c9 h8
  have h10 := heap_setCell_same _ B 10 _ _ c10 h9
  have h11 := heap_setCell_same _ B 11 _ _ c11 h10
  simpa using h11
theorem implId (A : Option Addr) (c : Nat) (m : List UInt8) (w : World) (hs : SB w A c m) (hm : m.length = 12) :
    Calls Tryz.prog 87 #[.slice A m.length c] w fun e w' => e = .returned (oid12 m) ∧ Below w.heap.size w w' := by
  rw [hm]
  obtain ⟨b, off, rfl, hc⟩ := hs.cells (by omega)
  have HSRC : Hid (∀ j v, (byv m)[j]? = some v → (w.alloc (.cells #[.int .u8 0, .int .u8 0, .int .u8 0, .int .u8 0, .int .u8 0, .int .u8 0, .int .u8 0, .int .u8 0, .int .u8 0, .int .u8 0, .int .u8 0, .int .u8 0] 113)).cell? ((⟨b, off, none⟩ : Addr).add j) = some v) := Lib.hid fun j v hj => by
    have hj2 : j < m.length := by
      have := (List.getElem?_eq_some_iff.1 hj).1
      simpa [byv] using this
    have e : (⟨b, off, none⟩ : Addr).add j = ⟨b, off + j, none⟩ := by unfold Addr.add; split <;> simp_all
    rw [e]
    have h1 := hc j hj2
    have h2 := ((balloc (Below.refl w.heap.size w) (Nat.le_refl _) (.cells #[.int .u8 0, .int .u8 0, .int .u8 0, .int .u8 0, .int .u8 0, .int .u8 0, .int .u8 0, .int .u8 0, .int .u8 0, .int .u8 0, .int .u8 0, .int .u8 0] 113)).cell (World.block_lt_of_cell? _ _ h1)).trans h1
    rw [h2]
    have h3 : (byv m)[j]? = some (.int .u8 ((m[j]).toNat : Int)) := by simp [byv, hj2]
    exact h3.symm.trans hj
  have HLEN : Hid ((byv m).length = 12) := Lib.hid (by simp [byv, hm])
  have HONE : Hid (∀ v ∈ byv m, v.oneCell' = true) := Lib.hid (byv_one _)
  have HNEW : Hid ((w.alloc (.cells #[.int .u8 0, .int .u8 0, .int .u8 0, .int .u8 0, .int .u8 0, .int .u8 0, .int .u8 0, .int .u8 0, .int .u8 0, .int .u8 0, .int .u8 0, .int .u8 0] 113)).heap[w.heap.size]? = some (.cells ([.int .u8 0, .int .u8 0, .int .u8 0, .int .u8 0, .int .u8 0, .int .u8 0, .int .u8 0, .int .u8 0, .int .u8 0, .int .u8 0, .int .u8 0, .int .u8 0] : List Value).toArray 113 (0, 0))) := Lib.hid (heap_alloc_new w _)
  obtain ⟨b0, b1, b2, b3, b4, b5, b6, b7, b8, b9, b10, b11, hmb⟩ := oid_split hm
  have e1 : oid12 m = .agg #[.int .u8 b0.toNat, .int .u8 b1.toNat, .int .u8 b2.toNat, .int .u8 b3.toNat, .int .u8 b4.toNat, .int .u8 b5.toNat, .int .u8 b6.toNat, .int .u8 b7.toNat, .int .u8 b8.toNat, .int .u8 b9.toNat, .int .u8 b10.toNat, .int .u8 b11.toNat] := by rw [hmb]; rfl
  have HBV : Hid (byv m = [.int .u8 b0.toNat, .int .u8 b1.toNat, .int .u8 b2.toNat, .int .u8 b3.toNat, .int .u8 b4.toNat, .int .u8 b5.toNat, .int .u8 b6.toNat, .int .u8 b7.toNat, .int .u8 b8.toNat, .int .u8 b9.toNat, .int .u8 b10.toNat, .int .u8 b11.toNat]) := Lib.hid (by rw [hmb]; rfl)
  rw [e1]
  clear hc hs hm hmb e1
  go_enter Tryz.func87, Tryz.ntmps87
  go_wp2_with (first | (refine wpList_copy_splice rfl (.tmp 3) (.tmp 4) 22 22 rfl 5 Tryz.underlying22 sizeU8 (some ⟨w.heap.size, 0, none⟩) (some ⟨b, off, none⟩) 12 12 12 c rfl rfl w.heap.size 0 [.int .u8 0, .int .u8 0, .int .u8 0, .int .u8 0, .int .u8 0, .int .u8 0, .int .u8 0, .int .u8 0, .int .u8 0, .int .u8 0, .int .u8 0, .int .u8 0] 113 HNEW.out (byv m) (by rw [HLEN.out]; rfl) (fun _ => ⟨rfl, _, rfl, HSRC.out⟩) (by rw [HLEN.out]; decide) HONE.out w.heap.size w (balloc (Below.refl _ _) (Nat.le_refl _) _) (Nat.le_refl _) ?_) | fail)
  intro w2 hg2 hb2
  have hx2 : w2.heap[w.heap.size]? = some (.cells #[.int .u8 b0.toNat, .int .u8 b1.toNat, .int .u8 b2.toNat, .int .u8 b3.toNat, .int .u8 b4.toNat, .int .u8 b5.toNat, .int .u8 b6.toNat, .int .u8 b7.toNat, .int .u8 b8.toNat, .int .u8 b9.toNat, .int .u8 b10.toNat, .int .u8 b11.toNat] 113 (0, 0)) := by
    have h := hg2.out
    rw [HBV.out] at h
    simpa [splice] using h
  have hlt2 : w.heap.size < w2.heap.size := (Array.getElem?_eq_some_iff.1 hx2).1
  have p0 : w2.cell? ⟨w.heap.size, 0, none⟩ = some (.int .u8 b0.toNat) := by simp only [World.cell?, hx2]; rfl
  have z0 : w2.frozen? ⟨w.heap.size, 0, none⟩ = false := by simp only [World.frozen?, hx2]; rfl
  have p1 : w2.cell? ⟨w.heap.size, 1, none⟩ = some (.int .u8 b1.toNat) := by simp only [World.cell?, hx2]; rfl
  have z1 : w2.frozen? ⟨w.heap.size, 1, none⟩ = false := by simp only [World.frozen?, hx2]; rfl
  have p2 : w2.cell? ⟨w.heap.size, 2, none⟩ = some (.int .u8 b2.toNat) := by simp only [World.cell?, hx2]; rfl
  have z2 : w2.frozen? ⟨w.heap.size, 2, none⟩ = false := by simp only [World.frozen?, hx2]; rfl
  have p3 : w2.cell? ⟨w.heap.size, 3, none⟩ = some (.int .u8 b3.toNat) := by simp only [World.cell?, hx2]; rfl
  have z3 : w2.frozen? ⟨w.heap.size, 3, none⟩ = false := by simp only [World.frozen?, hx2]; rfl
  have p4 : w2.cell? ⟨w.heap.size, 4, none⟩ = some (.int .u8 b4.toNat) := by simp only [World.cell?, hx2]; rfl
  have z4 : w2.frozen? ⟨w.heap.size, 4, none⟩ = false := by simp only [World.frozen?, hx2]; rfl
  have p5 : w2.cell? ⟨w.heap.size, 5, none⟩ = some (.int .u8 b5.toNat) := by simp only [World.cell?, hx2]; rfl
  have z5 : w2.frozen? ⟨w.heap.size, 5, none⟩ = false := by simp only [World.frozen?, hx2]; rfl
  have p6 : w2.cell? ⟨w.heap.size, 6, none⟩ = some (.int .u8 b6.toNat) := by simp only [World.cell?, hx2]; rfl
  have z6 : w2.frozen? ⟨w.heap.size, 6, none⟩ = false := by simp only [World.frozen?, hx2]; rfl
  have p7 : w2.cell? ⟨w.heap.size, 7, none⟩ = some (.int .u8 b7.toNat) := by simp only [World.cell?, hx2]; rfl
  have z7 : w2.frozen? ⟨w.heap.size, 7, none⟩ = false := by simp only [World.frozen?, hx2]; rfl
  have p8 : w2.cell? ⟨w.heap.size, 8, none⟩ = some (.int .u8 b8.toNat) := by simp only [World.cell?, hx2]; rfl
  have z8 : w2.frozen? ⟨w.heap.size, 8, none⟩ = false := by simp only [World.frozen?, hx2]; rfl
  have p9 : w2.cell? ⟨w.heap.size, 9, none⟩ = some (.int .u8 b9.toNat) := by simp only [World.cell?, hx2]; rfl
  have z9 : w2.frozen? ⟨w.heap.size, 9, none⟩ = false := by simp only [World.frozen?, hx2]; rfl
  have p10 : w2.cell? ⟨w.heap.size, 10, none⟩ = some (.int .u8 b10.toNat) := by simp only [World.cell?, hx2]; rfl
  have z10 : w2.frozen? ⟨w.heap.size, 10, none⟩ = false := by simp only [World.frozen?, hx2]; rfl
  have p11 : w2.cell? ⟨w.heap.size, 11, none⟩ = some (.int .u8 b11.toNat) := by simp only [World.cell?, hx2]; rfl
  have z11 : w2.frozen? ⟨w.heap.size, 11, none⟩ = false := by simp only [World.frozen?, hx2]; rfl
  have HX2 := Lib.hid hx2
  have HB2 := Lib.hid hb2
  clear hg2 hx2 hb2 HSRC HLEN HONE HNEW HBV
  go_wp2_with fail
  have hb2 := HB2.out
  have hbig : Below w.heap.size w ((((((((((((w2.setCell ⟨w.heap.size, 0, none⟩ (.int .u8 b0.toNat)).setCell ⟨w.heap.size, 1, none⟩ (.int .u8 b1.toNat)).setCell ⟨w.heap.size, 2, none⟩ (.int .u8 b2.toNat)).setCell ⟨w.heap.size, 3, none⟩ (.int .u8 b3.toNat)).setCell ⟨w.heap.size, 4, none⟩ (.int .u8 b4.toNat)).setCell ⟨w.heap.size, 5, none⟩ (.int .u8 b5.toNat)).setCell ⟨w.heap.size, 6, none⟩ (.int .u8 b6.toNat)).setCell ⟨w.heap.size, 7, none⟩ (.int .u8 b7.toNat)).setCell ⟨w.heap.size, 8, none⟩ (.int .u8 b8.toNat)).setCell ⟨w.heap.size, 9, none⟩ (.int .u8 b9.toNat)).setCell ⟨w.heap.size, 10, none⟩ (.int .u8 b10.toNat)).setCell ⟨w.heap.size, 11, none⟩ (.int .u8 b11.toNat)) := ((((((((((((hb2.setCell (Nat.le_refl _) _).setCell (Nat.le_refl _) _).setCell (Nat.le_refl _) _).setCell (Nat.le_refl _) _).setCell (Nat.le_refl _) _).setCell (Nat.le_refl _) _).setCell (Nat.le_refl _) _).setCell (Nat.le_refl _) _).setCell (Nat.le_refl _) _).setCell (Nat.le_refl _) _).setCell (Nat.le_refl _) _).setCell (Nat.le_refl _) _)
  have hx9' := set12 w2 w.heap.size _ _ _ _ _ _ _ _ _ _ _ _ _ HX2.out
  generalize hw9 : ((((((((((((w2.setCell ⟨w.heap.size, 0, none⟩ (.int .u8 b0.toNat)).setCell ⟨w.heap.size, 1, none⟩ (.int .u8 b1.toNat)).setCell ⟨w.heap.size, 2, none⟩ (.int .u8 b2.toNat)).setCell ⟨w.heap.size, 3, none⟩ (.int .u8 b3.toNat)).setCell ⟨w.heap.size, 4, none⟩ (.int .u8 b4.toNat)).setCell ⟨w.heap.size, 5, none⟩ (.int .u8 b5.toNat)).setCell ⟨w.heap.size, 6, none⟩ (.int .u8 b6.toNat)).setCell ⟨w.heap.size, 7, none⟩ (.int .u8 b7.toNat)).setCell ⟨w.heap.size, 8, none⟩ (.int .u8 b8.toNat)).setCell ⟨w.heap.size, 9, none⟩ (.int .u8 b9.toNat)).setCell ⟨w.heap.size, 10, none⟩ (.int .u8 b10.toNat)).setCell ⟨w.heap.size, 11, none⟩ (.int .u8 b11.toNat)) = w9 at hbig hx9' ⊢
  have t0 : w9.cell? ⟨w.heap.size, 0, none⟩ = some (.int .u8 b0.toNat) := by simp only [World.cell?, hx9']; rfl
  have t1 : w9.cell? ⟨w.heap.size, 1, none⟩ = some (.int .u8 b1.toNat) := by simp only [World.cell?, hx9']; rfl
  have t2 : w9.cell? ⟨w.heap.size, 2, none⟩ = some (.int .u8 b2.toNat) := by simp only [World.cell?, hx9']; rfl
  have t3 : w9.cell? ⟨w.heap.size, 3, none⟩ = some (.int .u8 b3.toNat) := by simp only [World.cell?, hx9']; rfl
  have t4 : w9.cell? ⟨w.heap.size, 4, none⟩ = some (.int .u8 b4.toNat) := by simp only [World.cell?, hx9']; rfl
  have t5 : w9.cell? ⟨w.heap.size, 5, none⟩ = some (.int .u8 b5.toNat) := by simp only [World.cell?, hx9']; rfl
  have t6 : w9.cell? ⟨w.heap.size, 6, none⟩ = some (.int .u8 b6.toNat) := by simp only [World.cell?, hx9']; rfl
  have t7 : w9.cell? ⟨w.heap.size, 7, none⟩ = some (.int .u8 b7.toNat) := by simp only [World.cell?, hx9']; rfl
  have t8 : w9.cell? ⟨w.heap.size, 8, none⟩ = some (.int .u8 b8.toNat) := by simp only [World.cell?, hx9']; rfl
  have t9 : w9.cell? ⟨w.heap.size, 9, none⟩ = some (.int .u8 b9.toNat) := by simp only [World.cell?, hx9']; rfl
  have t10 : w9.cell? ⟨w.heap.size, 10, none⟩ = some (.int .u8 b10.toNat) := by simp only [World.cell?, hx9']; rfl
  have t11 : w9.cell? ⟨w.heap.size, 11, none⟩ = some (.int .u8 b11.toNat) := by simp only [World.cell?, hx9']; rfl
  exact bodyPost_ret (v := .agg #[.int .u8 b0.toNat, .int .u8 b1.toNat, .int .u8 b2.toNat, .int .u8 b3.toNat, .int .u8 b4.toNat, .int .u8 b5.toNat, .int .u8 b6.toNat, .int .u8 b7.toNat, .int .u8 b8.toNat, .int .u8 b9.toNat, .int .u8 b10.toNat, .int .u8 b11.toNat]) (by simp [results, Tryz.results87, go_sem, t0, t1, t2, t3, t4, t5, t6, t7, t8, t9, t10, t11]) rfl ⟨rfl, hbig⟩
end Ap
end Go.Proofs.YtohfgfbfohkkkaaGreatDoor.X
