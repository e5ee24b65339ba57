/-
  WORDS THAT CAME IN: a slice of words among the arguments, as natural numbers in a row.
-/
import Derived.Test.Qxb6003404aMem
import Derived.ProofKit
namespace Go.Proofs.Qxb6003404a
open Go.ChangeShapes Go.WideShapes Go.ChangeAt Go.RowKit

theorem nat_of_wf {x : Int} (h : (Lit.int .u64 x).wf = true) : ∃ n : Nat, x = (n : Int) ∧ n < 18446744073709551616 := by
  simp [Lit.wf, IntKind.min, IntKind.max, IntKind.signed, IntKind.bits] at h
  exact ⟨x.toNat, by omega, by omega⟩

/-- A row of words that came in, as natural numbers. -/
theorem nats_of_row {w : World} {x : Addr} {len : Nat} {zs : List Int} (h0 : len ≠ 0) (hl : len ≤ zs.length) (hcell : ∀ i, i < zs.length → w.cell? (x.add i) = some (.int .u64 (zs.getD i 0))) (hwz : ∀ n ∈ zs, (Lit.int .u64 n).wf = true) :
    ∃ b off zn, x = ⟨b, off, none⟩ ∧ b < w.heap.size ∧ zn.length = len ∧ Words zn ∧ RowAt w b off zn := by
  obtain ⟨b, off, spot⟩ := x
  have hspot : spot = none := by simpa [Addr.add] using World.cell?_spot (hcell 0 (by omega))
  subst hspot
  refine ⟨b, off, (zs.take len).map Int.toNat, rfl, ?_, by simp; omega, ?_, ?_⟩
  · have h := hcell 0 (by omega)
    rw [add_plain] at h
    exact World.block_lt_of_cell? _ _ h
  · intro y hy
    simp only [List.mem_map] at hy
    obtain ⟨z, hz, rfl⟩ := hy
    obtain ⟨n, hn, hlt⟩ := nat_of_wf (hwz z (List.mem_of_mem_take hz))
    omega
  · intro j hj
    have hj' : j < len := by simp at hj; omega
    have h1 := hcell j (by omega)
    rw [add_plain] at h1
    have e1 : zs.getD j 0 = zs[j]'(by omega) := by simp [List.getD, show j < zs.length by omega]
    obtain ⟨n, hn, _⟩ := nat_of_wf (hwz _ (List.getElem_mem (show j < zs.length by omega)))
    have e : ((zs.take len).map Int.toNat).getD j 0 = n := by
      simp only [List.getD, List.getElem?_map, List.getElem?_take_of_lt hj', List.getElem?_eq_getElem (show j < zs.length by omega), hn]
      rfl
    rw [e, ← hn, ← e1]
    exact h1
end Go.Proofs.Qxb6003404a
