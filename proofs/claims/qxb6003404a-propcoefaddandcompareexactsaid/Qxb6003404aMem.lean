/-
  WORDS IN MEMORY: a row of words in one block, from an offset on; what stores, new blocks and draws do to it.
-/
import Derived.Test.Qxb6003404aRows
import Derived.WalkKit
import Derived.WalkSpells
import Derived.WalkLawsBesides
import Derived.Test.Qxb6003404aValPlain
namespace Go.Proofs.Qxb6003404a
open Go.RowKit

/-- The words zs lie in block b from offset off on. -/
def RowAt (w : World) (b off : Nat) (zs : List Nat) : Prop := ∀ j, j < zs.length → w.cell? ⟨b, off + j, none⟩ = some (.int .u64 ((zs.getD j 0 : Nat) : Int))
/-- The n cells from there on may be written. -/
def FreeAt (w : World) (b off n : Nat) : Prop := ∀ j, j < n → w.frozen? ⟨b, off + j, none⟩ = false

theorem RowAt.set {w : World} {b off : Nat} {zs : List Nat} (h : RowAt w b off zs) (i v : Nat) (hi : i < zs.length) : RowAt (w.setCell ⟨b, off + i, none⟩ (.int .u64 (v : Int))) b off (zs.set i v) := by
  intro j hj
  rw [List.length_set] at hj
  by_cases e : j = i
  · subst e
    rw [World.cell?_setCell_same _ _ _ (h j hj)]
    simp [List.getD, hj]
  · rw [World.cell?_setCell_other _ _ _ _ (by intro h; injection h with _ h2; omega), h j hj]
    simp [List.getD, Ne.symm e]

theorem RowAt.far {w : World} {b off : Nat} {zs : List Nat} (h : RowAt w b off zs) (a : Addr) (u : Value) (hne : a.block ≠ b) : RowAt (w.setCell a u) b off zs := by
  intro j hj
  rw [World.cell?_setCell_other _ _ _ _ (by rintro rfl; exact hne rfl)]
  exact h j hj

theorem RowAt.apart {w : World} {b off : Nat} {zs : List Nat} (h : RowAt w b off zs) (o : Nat) (u : Value) (hne : o < off ∨ off + zs.length ≤ o) : RowAt (w.setCell ⟨b, o, none⟩ u) b off zs := by
  intro j hj
  rw [World.cell?_setCell_other _ _ _ _ (by intro h; injection h with _ h2; omega)]
  exact h j hj

theorem FreeAt.setCell {w : World} {b off n : Nat} (h : FreeAt w b off n) (a : Addr) (u : Value) : FreeAt (w.setCell a u) b off n := by
  intro j hj
  rw [World.frozen?_setCell]
  exact h j hj

theorem RowAt.grown {w w' : World} {b off : Nat} {zs : List Nat} {row : Option Nat} (h : RowAt w b off zs) (hg : w.grownBy w' row) (hb : b < w.heap.size) (hne : some b ≠ row) : RowAt w' b off zs := by
  intro j hj
  rw [World.cell?_of_block (w := w) (hg.block b hb hne)]
  exact h j hj
theorem FreeAt.grown {w w' : World} {b off n : Nat} {row : Option Nat} (h : FreeAt w b off n) (hg : w.grownBy w' row) (hb : b < w.heap.size) (hne : some b ≠ row) : FreeAt w' b off n := by
  intro j hj
  rw [World.frozen?_of_block (w := w) (hg.block b hb hne)]
  exact h j hj

theorem RowAt.alloc {w : World} {b off : Nat} {zs : List Nat} (h : RowAt w b off zs) (hb : b < w.heap.size) (o : Obj) : RowAt (w.alloc o) b off zs := h.grown (World.grownBy_alloc w o none) hb (by simp)
theorem FreeAt.alloc {w : World} {b off n : Nat} (h : FreeAt w b off n) (hb : b < w.heap.size) (o : Obj) : FreeAt (w.alloc o) b off n := h.grown (World.grownBy_alloc w o none) hb (by simp)
theorem RowAt.drewN {w : World} {b off : Nat} {zs : List Nat} (h : RowAt w b off zs) (n : Nat) : RowAt (w.drewN n) b off zs := h
theorem FreeAt.drewN {w : World} {b off m : Nat} (h : FreeAt w b off m) (n : Nat) : FreeAt (w.drewN n) b off m := h

theorem gb_trans {a b c : World} {row : Option Nat} (h : a.grownBy b row) (k : b.grownBy c row) : a.grownBy c row :=
  ⟨k.os.trans h.os, k.tape.trans h.tape, k.output.trans h.output, Nat.le_trans h.size k.size, fun i hi hne => (k.block i (Nat.lt_of_lt_of_le hi h.size) hne).trans (h.block i hi hne)⟩
theorem gb_drewN (w : World) (n : Nat) (row : Option Nat) : w.grownBy (w.drewN n) row := ⟨rfl, rfl, rfl, Nat.le_refl _, fun _ _ _ => rfl⟩
theorem gb_setCell (w : World) (b o : Nat) (u : Value) : w.grownBy (w.setCell ⟨b, o, none⟩ u) (some b) :=
  ⟨rfl, rfl, rfl, by simp, fun k _ hne => Below.heap_setCell w _ u k (by rintro rfl; exact hne rfl)⟩
/-- What turned nothing old turned no row but this. -/
theorem gb_weaken {w w' : World} (h : w.grownBy w' none) (row : Option Nat) : w.grownBy w' row := ⟨h.os, h.tape, h.output, h.size, fun k hk _ => h.block k hk (by simp)⟩
theorem gb_below {w w' : World} (h : w.grownBy w' none) : Below w.heap.size w w' := ⟨h.os, h.tape, h.output, h.size, fun k hk => h.block k hk (by simp)⟩
theorem below_gb {w w' : World} (h : Below w.heap.size w w') : w.grownBy w' none := ⟨h.os, h.tape, h.output, h.size, fun k hk _ => h.block k hk⟩
/-- Writes into a block that was not there yet. -/
theorem gb_new {a b c : World} {g : Nat} (h : a.grownBy b none) (k : b.grownBy c (some g)) (hg : a.heap.size ≤ g) : a.grownBy c none :=
  ⟨k.os.trans h.os, k.tape.trans h.tape, k.output.trans h.output, Nat.le_trans h.size k.size, fun i hi _ => (k.block i (Nat.lt_of_lt_of_le hi h.size) (by intro e; injection e with e; omega)).trans (h.block i hi (by simp))⟩
end Go.Proofs.Qxb6003404a
