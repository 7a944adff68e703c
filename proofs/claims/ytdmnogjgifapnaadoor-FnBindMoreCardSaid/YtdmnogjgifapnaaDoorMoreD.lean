/- RawRead and RawValidate of a right document and what follows it. -/
import Derived.Test.YtdmnogjgifapnaaDoorMoreI
import Derived.Test.YtdmnogjgifapnaaDoorMorePl
set_option linter.unusedVariables false
set_option linter.unusedSimpArgs false
set_option maxRecDepth 100000
namespace Go.Proofs.YtdmnogjgifapnaaDoor.X
open Go.RowKit
theorem doc_len (v : Val) (hf : fine v 1000 65536 = true) (hk : v.kind = 3) : (docElems v.kids).length ≤ 1000000 := by
  obtain ⟨h1, h2, h3⟩ := fine_len hf (by omega)
  obtain ⟨k, t, m, n, bi, hi, b, ks⟩ := v
  have h4 : bytesK ks ≤ bytesN (.mk k t m n bi hi b ks) := by simp only [bytesN]; omega
  have h5 : nodesK ks ≤ nodes (.mk k t m n bi hi b ks) := by simp only [nodes]; omega
  have := docElems_len ks
  show (docElems ks).length ≤ 1000000
  omega
theorem rawRead_doc (W : World) (A : Option Addr) (c : Nat) (v : Val) (hf : fine v 1000 65536 = true) (hk : v.kind = 3) (more : List UInt8) (n : Int) (hs : SB W A c (docBytesOf v.kids ++ more)) (hn : 1 ≤ n) (hn2 : n ≤ 100) :
    Calls Tryd.prog 22 #[.slice A (docBytesOf v.kids ++ more).length c, .int .i64 n] W fun e w' => ∃ A2 c2, e = .returned (.tuple #[.slice A2 (docBytesOf v.kids).length c2, .int .i64 0]) ∧ SB w' A2 c2 (docBytesOf v.kids) ∧ Below W.heap.size W w' := by
  have hl := doc_len v hf hk
  obtain ⟨b0, b1, b2, b3, e1, e2⟩ := leI_i32 (((docElems v.kids).length : Int) + 5) (by omega) (by omega)
  have e3 : docBytesOf v.kids = b0 :: b1 :: b2 :: b3 :: (docElems v.kids ++ [0]) := by unfold docBytesOf; rw [e1]; simp
  have e4 : docBytesOf v.kids ++ more = b0 :: b1 :: b2 :: b3 :: (docElems v.kids ++ 0 :: more) := by rw [e3]; simp
  have e5 : (docBytesOf v.kids).length = (docElems v.kids).length + 5 := by rw [e3]; simp
  rw [e4] at hs
  rw [e5, e4, e3]
  exact rawRead W A c b0 b1 b2 b3 (docElems v.kids) more n _ rfl hs e2 (by omega) hn hn2
theorem rawVal_doc (W : World) (A : Option Addr) (c : Nat) (v : Val) (hf : fine v 1000 65536 = true) (hk : v.kind = 3) (more : List UInt8) (hm : more.length ≤ 1000) (hs : SB W A c (docBytesOf v.kids ++ more)) :
    Calls Tryd.prog 23 #[.slice A (docBytesOf v.kids ++ more).length c] W fun e w' => e = .returned (.int .i64 0) ∧ Below W.heap.size W w' := by
  have hl := doc_len v hf hk
  obtain ⟨h1, h2, h3⟩ := fine_len hf (by omega)
  obtain ⟨k, hkids⟩ := right_kids h3 hk
  have hL : Dv.Lf (v.kids.map elq) 0 = (docElems v.kids).length := by unfold Dv.Lf; rw [List.drop_zero, fl_els]
  have e1 : docBytesOf v.kids ++ more = i32 ((Dv.Lf (v.kids.map elq) 0 : Int) + 5) ++ (Dv.fl (v.kids.map elq) ++ 0 :: more) := by
    rw [hL, fl_els]; unfold docBytesOf; simp
  have e2 : (docBytesOf v.kids ++ more).length ≤ 2000000000 := by
    rw [e1, hL, fl_els]; simp [i32_len]; omega
  exact rawVal2 A _ c W (Dv.docValidate A c (v.kids.map elq) more _ W e1 (els_ok k v.kids 0 200 hkids (by omega)) e2 hs)
end Go.Proofs.YtdmnogjgifapnaaDoor.X
