import Derived.Test.Qxb6609067aFmtBase
import Derived.Test.Qxb6609067aFmtPlainB
import Derived.Lib.IndexBytes
namespace Go.Proofs.Qxb6609067aFmt
open Go.RowKit

theorem ba_ext {a b : ByteArray} (h : a.data.toList = b.data.toList) : a = b := by
  obtain ⟨⟨a⟩⟩ := a
  obtain ⟨⟨b⟩⟩ := b
  simp at h
  rw [h]

theorem seg_list (s : ByteArray) (p b : Nat) : (s.extract p (p + b)).data.toList = (s.data.toList.drop p).take b := by
  rw [Lib.extract_data]; congr 1; omega

theorem seg_size (s : ByteArray) (p b : Nat) (h : p + b ≤ s.size) : (s.extract p (p + b)).size = b := by
  rw [ByteArray.size_extract]; omega

theorem seg_head (s : ByteArray) (p b q : Nat) (h : q ≤ b) : (s.extract p (p + b)).extract 0 q = s.extract p (p + q) := by
  apply ba_ext
  rw [Lib.extract_data, seg_list, seg_list, List.drop_zero, List.take_take]
  congr 1
  omega

theorem seg_tail (s : ByteArray) (p b q : Nat) (h : p + b ≤ s.size) : (s.extract p (p + b)).extract (q + 1) (s.extract p (p + b)).size = s.extract (p + q + 1) (p + b) := by
  apply ba_ext
  rw [seg_size s p b h, Lib.extract_data, seg_list, Lib.extract_data, List.drop_take, List.drop_drop, List.take_take]
  congr 1
  omega

/-- The pairs of written words, up to the first that is none. -/
def pairsL : List ByteArray → List (ByteArray × ByteArray) × Bool
  | [] => ([], false)
  | x :: r => if Pl.eqAt 0 0 x.data.toList ≤ 0 then ([], true) else
    ((x.extract 0 (Pl.eqAt 0 0 x.data.toList).toNat, x.extract ((Pl.eqAt 0 0 x.data.toList).toNat + 1) x.size) :: (pairsL r).1, (pairsL r).2)

end Go.Proofs.Qxb6609067aFmt
