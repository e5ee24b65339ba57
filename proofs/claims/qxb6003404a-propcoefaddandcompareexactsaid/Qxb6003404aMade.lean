/-
  A ROW THAT 'make' HAS LAID (the like of QuoLaw's, apart from that text's imports).
-/
import Derived.Test.Qxb6003404aMem
import Derived.OwnWalk
namespace Go.Proofs.Qxb6003404a
open Go.RowKit

theorem Try.info28w : (Try.prog.info? 28).map (fun i => (i.zero, i.size, i.bytes)) = some (some (.int .u64 0), 1, 8) := by kernel_rfl

/-- A row that 'make' has laid. -/
theorem laid_row {w : World} {base g n : Nat} (h : w.ownsRow base 28 1 (.slice (some ⟨g, 0, none⟩) n n) n (madeCells (Value.int .u64 0).cells (n * 1)).toList) :
    RowAt w g 0 (List.replicate n 0) ∧ FreeAt w g 0 n ∧ (0 < n → g < w.heap.size) := by
  have e : (madeCells (Value.int .u64 0).cells (n * 1)).toList = List.replicate n (Value.int .u64 0) := by
    rw [Nat.mul_one]
    exact toList_madeCells_one _ _
  rw [e] at h
  have hc : ∀ j, j < n → w.cell? ⟨g, j, none⟩ = some (.int .u64 0) := by
    intro j hj
    rw [h.cellAt j (by omega)]
    simp [hj]
  refine ⟨?_, ?_, ?_⟩
  · intro j hj
    simp at hj
    rw [Nat.zero_add, hc j hj]
    simp [List.getD, hj]
  · intro j _
    rw [Nat.zero_add]
    exact h.frozenAt j
  · intro _
    exact (h.lt g rfl).2

end Go.Proofs.Qxb6003404a
