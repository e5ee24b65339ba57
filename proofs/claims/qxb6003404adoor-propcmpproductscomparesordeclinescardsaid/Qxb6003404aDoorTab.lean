/-
  THE LISTED TABLE decimal.pow10Small: what the row's condition gives; the witness's start; the table read again. Shared by the seat's three rows.
-/
import Derived.Test.Qxb6003404aDoorDigWalk
import Derived.ProofKit
import Derived.LaidMore
import Derived.Lib.LaidTab
import Derived.Stop.Joined
import Derived.ChangeVars
namespace Go.Proofs.Qxb6003404aDoor
open Go.ChangeShapes Go.WideShapes Go.ChangeAt Go.RowKit

theorem own : ownKnob Tryd.prog.godebug = none := by kernel_rfl
/-- The variable's name, off the given row. -/
abbrev powName : String := Rows.propDigits64CountsDigitsRow.named.headD ""
abbrev powLaid : List (String × DataW Unit) := Rows.propDigits64CountsDigitsRow.laid
theorem gPow : Tryd.prog.globalNamed powName = some 0 := by kernel_rfl
theorem tPow : (Tryd.prog.globals[0]?).map (·.type) = some 41 := by kernel_rfl
theorem cells41 : Tryd.prog.cellsOf 41 = 20 := by kernel_rfl
theorem cells22 : Tryd.prog.cellsOf 22 = 1 := by kernel_rfl

def pows : List Int := [1, 10, 100, 1000, 10000, 100000, 1000000, 10000000, 100000000, 1000000000, 10000000000, 100000000000, 1000000000000, 10000000000000, 100000000000000, 1000000000000000, 10000000000000000, 100000000000000000, 1000000000000000000, 10000000000000000000]
theorem pows_at : ∀ i : Fin 20, pows.getD i.val 0 = ((10 ^ i.val : Nat) : Int) := by decide +kernel
def powCells : Array Value := (pows.map fun z => Value.int .u64 z).toArray

/-- The door's own heap meets the condition. -/
theorem door_met (os : Os) (args : Array Value) : laidMetH Tryd.prog powLaid ((World.doorLaid Tryd.prog 558 os).forCall (fun _ _ => 0) ⟨#[], args, []⟩).memory :=
  laidMetH_of_parts3 (fuel := 8) (laidMet_of_run' 8 (by kernel_rfl) (by kernel_rfl)) (by kernel_rfl) (by kernel_rfl)

theorem tab_of_laid {W : World} (h : laidMetH Tryd.prog powLaid W) : Lib.TabIs Tryd.prog W powName .u64 pows := by
  rw [MakeChecks.laidMetH_plain _ _ _ (by kernel_rfl)] at h
  have h' : laidMet Tryd.prog ((powName, Lib.tabData .u64 pows) :: []) W := h
  exact Lib.tabIs_of_head gPow tPow Tryd.underlying41 Tryd.underlying22 cells22 cells41 h'

theorem pow10At_of {W : World} (h : Lib.TabIs Tryd.prog W powName .u64 pows) : Pow10At W := by
  intro i hi
  have := h.cell gPow i (by simpa [pows] using hi)
  rw [this, pows_at ⟨i, hi⟩]

theorem reads_table {H : Type} (enc : TypeId × Value → H) (W : World) (sp : Nat → Bool) : DataW.trod enc Tryd.prog W 0 sp true 3 41 powCells.toList = some (Lib.tabData .u64 pows, []) := by kernel_rfl

theorem vars_again {H : Type} (enc : TypeId × Value → H) {W : World} (h : W.var? Tryd.prog powName = some powCells) (sp : Nat → Bool) :
    DataW.TrodVars enc Tryd.prog W sp [powName] [Lib.tabData .u64 pows] (MemPlace.row ⟨0, 0, none⟩ powCells.size) :=
  ⟨0, 41, powCells, 3, [], [], gPow, tPow, h, reads_table enc W sp, rfl, by simp⟩
end Go.Proofs.Qxb6003404aDoor
