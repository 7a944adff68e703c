/- Blocks of bytes known whole. -/
import Derived.Test.YtfhbnlbdmfjhlaaGreatDoorWords
import Derived.Laws.CopyOwn
import Derived.Deep.RegionLaw
import Derived.Outline
import Derived.Laws.MakeOwn
import Derived.Laws.OwnMore
set_option linter.unusedVariables false
set_option linter.unusedSimpArgs false
set_option maxRecDepth 100000
namespace Go.Proofs.YtfhbnlbdmfjhlaaGreatDoor.X
open Go.RowKit
def Buf (W : World) (g : Nat) (t : TypeId) (L : List UInt8) : Prop := W.heap[g]? = some (.cells (byv L).toArray t (0, 0))
theorem sizeU8 : (Tryz.prog.info? 5).map (·.size) = some 1 := by kernel_rfl
theorem Buf.sb {w : World} {g : Nat} {t : TypeId} {L : List UInt8} (h : Buf w g t L) (hl : L.length ≤ 9223372036854775807) : SB w (some ⟨g, 0, none⟩) L.length L := by
  refine ⟨Nat.le_refl _, hl, fun _ => ⟨g, 0, rfl, fun j hj => ?_⟩⟩
  unfold Buf at h
  rw [Nat.zero_add]
  simp only [World.cell?, h]
  have := byv_get L j hj
  simp [this]
theorem Buf.keep {w w1 : World} {g B : Nat} {t : TypeId} {L : List UInt8} (h : Buf w g t L) (hb : Below B w w1) (hg : g < B) : Buf w1 g t L := by
  unfold Buf at h ⊢
  exact (hb.block g hg).trans h
theorem Buf.src {w : World} {g : Nat} {t : TypeId} {L : List UInt8} (h : Buf w g t L) : ∀ j v, (byv L)[j]? = some v → w.cell? ((⟨g, 0, none⟩ : Addr).add j) = some v := by
  intro j v hv
  have hadd : (⟨g, 0, none⟩ : Addr).add j = ⟨g, j, none⟩ := by unfold Addr.add; split <;> simp_all
  unfold Buf at h
  rw [hadd]
  simp only [World.cell?, h]
  simp [hv]
theorem made_bytes (n : Nat) : (madeCells #[.int .u8 0] n).toList = byv (List.replicate n 0) := by
  rw [toList_madeCells_one]; simp [byv]
theorem run_makeN {P : Program} (t e : TypeId) (z : Value) (bytes : Nat) (ht : P.underlying t = some (.slice e)) (hinfo : (P.info? e).map (fun i => (i.zero, i.size, i.bytes)) = some (some z, 1, bytes)) (hz1 : z.cells = #[z])
    (kl kc : IntKind) (n : Nat) (hbytes : bytes * n ≤ 281474976710656) (h63 : n ≤ 9223372036854775807) (w : World) :
    (Instr.makeSlice t (.int kl (n : Int)) (.int kc (n : Int))).run P w = .ok (.slice (some ⟨w.heap.size, 0, none⟩) n n) (w.alloc (.cells (madeCells #[z] n) e)) := by
  obtain ⟨i, hi, hzz⟩ := Option.map_eq_some_iff.1 hinfo
  simp only [Prod.mk.injEq] at hzz
  obtain ⟨hz, hs, hb⟩ := hzz
  have hb' : (i.bytes : Int) * (n : Int) ≤ 281474976710656 := by
    have h : ((i.bytes * n : Nat) : Int) ≤ 281474976710656 := by rw [hb]; omega
    rwa [Int.natCast_mul] at h
  have hr := run_make (P := P) w t e i z ht hi hz kl kc n n (by omega) (by omega) hb' (by omega)
  simp only [Int.toNat_natCast, hs, Nat.mul_one, hz1] at hr
  exact hr
theorem infoM : (Tryz.prog.info? 5).map (fun i => (i.zero, i.size, i.bytes)) = some (some (.int .u8 0), 1, 1) := by kernel_rfl
theorem splice_head (a b c d : UInt8) (n : Nat) : splice (byv (List.replicate (n + 4) 0)) 0 (byv [a, b, c, d]) = byv ([a, b, c, d] ++ List.replicate n 0) := by
  simp [splice, byv]
theorem Buf.lt {w : World} {g : Nat} {t : TypeId} {L : List UInt8} (h : Buf w g t L) : g < w.heap.size := (Array.getElem?_eq_some_iff.1 h).1
theorem buf_step (L R : List UInt8) (off i k : Nat) (h1 : off + i + k ≤ L.length) (h2 : i ≤ R.length) :
    (L.take off ++ (R.take i ++ L.drop (off + i))).take (off + i) ++ ((R.drop i).take k ++ (L.take off ++ (R.take i ++ L.drop (off + i))).drop (off + i + k)) = L.take off ++ (R.take (i + k) ++ L.drop (off + (i + k))) := by
  have e1 : (L.take off).length = off := by rw [List.length_take]; omega
  have e2 : (R.take i).length = i := by rw [List.length_take]; omega
  have e3 : L.take off ++ (R.take i ++ L.drop (off + i)) = (L.take off ++ R.take i) ++ L.drop (off + i) := by rw [List.append_assoc]
  have e4 : (L.take off ++ R.take i).length = off + i := by rw [List.length_append, e1, e2]
  have e5 : ((L.take off ++ R.take i) ++ L.drop (off + i)).drop (off + i + k) = L.drop (off + (i + k)) := by
    rw [← List.drop_drop, List.drop_left' e4, List.drop_drop, Nat.add_assoc]
  rw [e3, List.take_left' e4, e5, List.take_add, List.append_assoc, List.append_assoc]
theorem w64F {m i k : Nat} (h : i + k ≤ m) (h2 : m ≤ 9223372036854775807) : wrap64 ((i : Int) + k) = (i : Int) + k := by unfold wrap64; omega
theorem Buf.drew {W : World} {g : Nat} {t : TypeId} {L : List UInt8} (h : Buf W g t L) : Buf W.drew g t L := by
  unfold Buf at h ⊢
  exact h
theorem measF {m i k : Nat} (h1 : 1 ≤ k) (h2 : i + k ≤ m) : m - ((i : Int) + k).toNat < m - (i : Int).toNat := by omega
end Go.Proofs.YtfhbnlbdmfjhlaaGreatDoor.X
