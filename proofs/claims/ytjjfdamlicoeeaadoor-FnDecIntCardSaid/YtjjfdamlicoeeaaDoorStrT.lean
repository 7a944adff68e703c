/- The text that stands in the array of 48 bytes, as it is cut out and read. -/
import Derived.Test.YtjjfdamlicoeeaaDoorStrP
import Derived.Test.YtjjfdamlicoeeaaDoorItoa
import Derived.Lib.ItoaLen
set_option linter.unusedVariables false
set_option linter.unusedSimpArgs false
set_option maxRecDepth 100000
namespace Go.Proofs.YtjjfdamlicoeeaaDoor.X
open Go.RowKit
/-- The bytes from n on. -/
def txtL (R : Nat → Int) (n : Nat) : List UInt8 := (List.range (48 - n)).map fun k => ub (R (n + k))
theorem txtL_len (R : Nat → Int) (n : Nat) : (txtL R n).length = 48 - n := by simp [txtL]
def txtB (R : Nat → Int) (n : Nat) : ByteArray := ⟨(txtL R n).toArray⟩
theorem txtB_size (R : Nat → Int) (n : Nat) : (txtB R n).size ≤ 48 := by
  have := txtL_len R n
  simp only [txtB, ByteArray.size, List.size_toArray]
  omega
theorem slice48 (B : Nat) (q : Int) (h1 : 1 ≤ q) (h2 : q ≤ 48) (R : Nat → Int) (hR : ∀ j, 0 ≤ R j ∧ R j ≤ 255) :
    ∃ A, (∀ W : World, (Instr.sliceAt 107 (.pointer (some ⟨B, 0, none⟩)) (some (.int .i64 q)) none none).run Tryd.prog W = .ok (.slice A (48 - q.toNat) (48 - q.toNat)) W) ∧
      ∀ W : World, (∀ j, j < 48 → W.cell? ⟨B, j, none⟩ = some (.int .u8 (R j))) → (convert 38 9 (.slice A (48 - q.toNat) (48 - q.toNat))).run Tryd.prog W = .ok (.string (txtB R q.toNat)) W := by
  have e48 : Tryd.prog.arrayLen 107 = 48 := by kernel_rfl
  have ee : Tryd.prog.elem 107 = 5 := by kernel_rfl
  have hs : ∀ W : World, (sizeOf 5).run Tryd.prog W = .ok 1 W := fun W => by rfl
  refine ⟨if 48 = q.toNat then some ⟨B, 0, none⟩ else some ((⟨B, 0, none⟩ : Addr).add (q.toNat * 1)), fun W => ?_, fun W hc => ?_⟩
  · have h := run_sliceAt_array_l (P := Tryd.prog) W 107 ⟨B, 0, none⟩ (by rw [e48, ee]; exact Tryd.underlying107) .i64 q (by omega) (by rw [e48]; omega)
    rw [h, ee, hs, e48]
    simp only [Result.andThen, slicedAt]
    split <;> rfl
  · have hsb : SB W (if 48 = q.toNat then some ⟨B, 0, none⟩ else some ((⟨B, 0, none⟩ : Addr).add (q.toNat * 1))) (48 - q.toNat) (txtL R q.toNat) := by
      refine ⟨by rw [txtL_len]; exact Nat.le_refl _, by omega, fun hp => ?_⟩
      rw [txtL_len] at hp
      rw [if_neg (by omega)]
      refine ⟨B, q.toNat, ?_, fun j hj => ?_⟩
      · have : (⟨B, 0, none⟩ : Addr).add (q.toNat * 1) = ⟨B, q.toNat, none⟩ := by unfold Addr.add; rw [if_neg (by omega)]; simp
        rw [this]
      · rw [txtL_len] at hj
        rw [hc _ (by omega)]
        have hb := hR (q.toNat + j)
        simp only [txtL, List.getElem_map, List.getElem_range, ub_toNat]
        congr 2
        omega
    have h := run_string (P := Tryd.prog) Tryd.underlying38 Tryd.underlying5 Tryd.underlying9 W _ _ _ hsb
    rw [txtL_len] at h
    exact h
def itB (n : Int) : ByteArray := ⟨(Lib.itoa n).toArray⟩
theorem itB_size (n : Int) (h0 : -9223372036854775808 ≤ n) (h1 : n ≤ 9223372036854775807) : (itB n).size ≤ 21 := by
  have := Lib.itoa_length_le n h0 h1
  simpa [itB, ByteArray.size] using this
/-- The text of what the loops leave. -/
def finT (sg : Int) (T : DS) : ByteArray :=
  if 0 < T.exp then txtB (setR T.R (T.last - 1) 45) (T.last - 1 + sg).toNat ++ ⟨#[69, 43]⟩ ++ itB T.exp
  else if T.exp < 0 then txtB (setR T.R (T.last - 1) 45) (T.last - 1 + sg).toNat ++ ⟨#[69]⟩ ++ itB T.exp
  else txtB (setR T.R (T.last - 1) 45) (T.last - 1 + sg).toNat
end Go.Proofs.YtjjfdamlicoeeaaDoor.X
