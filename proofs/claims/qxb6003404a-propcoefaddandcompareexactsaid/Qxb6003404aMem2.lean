/-
  WORDS IN MEMORY, MORE: a slice that is only read ('Src'); what a function that writes one row leaves of the rest ('Wrote').
-/
import Derived.Test.Qxb6003404aMem
import Derived.Test.Qxb6003404aListPlain
namespace Go.Proofs.Qxb6003404a
open Go.RowKit

/-- A slice at address a that holds the words zs, in a block that is there and is not block z. -/
def Src (w : World) (z : Nat) (a : Option Addr) (zs : List Nat) : Prop := zs = [] ∨ ∃ b off, a = some ⟨b, off, none⟩ ∧ b < w.heap.size ∧ b ≠ z ∧ RowAt w b off zs

/-- Of what was there, nothing has turned but cells of block b from lo to hi; no mark has turned in it. -/
def Wrote (w w' : World) (b lo hi : Nat) : Prop := w.grownBy w' (some b) ∧ (∀ o, o < lo ∨ hi ≤ o → w'.cell? ⟨b, o, none⟩ = w.cell? ⟨b, o, none⟩) ∧ (∀ o, w'.frozen? ⟨b, o, none⟩ = w.frozen? ⟨b, o, none⟩)

theorem Wrote.refl (w : World) (b lo hi : Nat) : Wrote w w b lo hi := ⟨World.grownBy.refl _ _, fun _ _ => rfl, fun _ => rfl⟩
theorem Wrote.trans {a b c : World} {g lo hi : Nat} (h : Wrote a b g lo hi) (k : Wrote b c g lo hi) : Wrote a c g lo hi :=
  ⟨gb_trans h.1 k.1, fun o ho => (k.2.1 o ho).trans (h.2.1 o ho), fun o => (k.2.2 o).trans (h.2.2 o)⟩
theorem Wrote.drewN {a b : World} {g lo hi : Nat} (h : Wrote a b g lo hi) (n : Nat) : Wrote a (b.drewN n) g lo hi := ⟨gb_trans h.1 (gb_drewN _ _ _), h.2.1, h.2.2⟩
theorem Wrote.setCell {a b : World} {g lo hi : Nat} (h : Wrote a b g lo hi) (o : Nat) (u : Value) (h1 : lo ≤ o) (h2 : o < hi) : Wrote a (b.setCell ⟨g, o, none⟩ u) g lo hi := by
  refine ⟨gb_trans h.1 (gb_setCell _ _ _ _), fun p hp => ?_, fun p => ?_⟩
  · rw [World.cell?_setCell_other _ _ _ _ (by intro e; injection e with _ e2; omega)]
    exact h.2.1 p hp
  · rw [World.frozen?_setCell]
    exact h.2.2 p
/-- What turned nothing old. -/
theorem Wrote.of_grown {w w' : World} (h : w.grownBy w' none) (b lo hi : Nat) (hb : b < w.heap.size) : Wrote w w' b lo hi :=
  ⟨gb_weaken h _, fun o _ => World.cell?_of_block (w := w) (h.block b hb (by simp)), fun o => World.frozen?_of_block (w := w) (h.block b hb (by simp))⟩
theorem Wrote.wider {w w' : World} {b lo hi lo' hi' : Nat} (h : Wrote w w' b lo hi) (h1 : lo' ≤ lo) (h2 : hi ≤ hi') : Wrote w w' b lo' hi' := ⟨h.1, fun o ho => h.2.1 o (by omega), h.2.2⟩

theorem Wrote.size {w w' : World} {b lo hi : Nat} (h : Wrote w w' b lo hi) : w.heap.size ≤ w'.heap.size := h.1.size
theorem Wrote.free {w w' : World} {b lo hi off n : Nat} (h : Wrote w w' b lo hi) (hf : FreeAt w b off n) : FreeAt w' b off n := fun j hj => (h.2.2 _).trans (hf j hj)
theorem Wrote.row {w w' : World} {b lo hi c off : Nat} {zs : List Nat} (h : Wrote w w' b lo hi) (hr : RowAt w c off zs) (hc : c < w.heap.size) (hne : c ≠ b) : RowAt w' c off zs := hr.grown h.1 hc (by intro e; injection e with e; exact hne e)
/-- A row of the same block, outside what was written. -/
theorem Wrote.row_out {w w' : World} {b lo hi off : Nat} {zs : List Nat} (h : Wrote w w' b lo hi) (hr : RowAt w b off zs) (ho : off + zs.length ≤ lo ∨ hi ≤ off) : RowAt w' b off zs := by
  intro j hj
  rw [h.2.1 (off + j) (by omega)]
  exact hr j hj
theorem Wrote.src {w w' : World} {b lo hi : Nat} {a : Option Addr} {zs : List Nat} (h : Wrote w w' b lo hi) (hs : Src w b a zs) : Src w' b a zs := by
  rcases hs with hs | ⟨c, off, ha, hc, hne, hr⟩
  · exact .inl hs
  · exact .inr ⟨c, off, ha, Nat.lt_of_lt_of_le hc h.size, hne, h.row hr hc hne⟩

theorem Src.drewN {w : World} {z : Nat} {a : Option Addr} {zs : List Nat} (h : Src w z a zs) (n : Nat) : Src (w.drewN n) z a zs := h
theorem Src.grown {w w' : World} {z : Nat} {a : Option Addr} {zs : List Nat} (h : Src w z a zs) (hg : w.grownBy w' none) : Src w' z a zs := by
  rcases h with h | ⟨b, off, ha, hb, hne, hr⟩
  · exact .inl h
  · exact .inr ⟨b, off, ha, Nat.lt_of_lt_of_le hb hg.size, hne, hr.grown hg hb (by simp)⟩
/-- Where the one block that was written is not there yet. -/
theorem Src.other {w : World} {z z' : Nat} {a : Option Addr} {zs : List Nat} (h : Src w z a zs) (hz : w.heap.size ≤ z') : Src w z' a zs := by
  rcases h with h | ⟨b, off, ha, hb, _, hr⟩
  · exact .inl h
  · exact .inr ⟨b, off, ha, hb, by omega, hr⟩
/-- The words up to k. -/
theorem RowAt.take {w : World} {b off : Nat} {zs : List Nat} (h : RowAt w b off zs) (k : Nat) : RowAt w b off (zs.take k) := by
  intro j hj
  have hj' : j < k ∧ j < zs.length := by simp at hj; omega
  rw [h j hj'.2]
  simp only [List.getD]
  rw [List.getElem?_take_of_lt hj'.1]
theorem Src.take {w : World} {z : Nat} {a : Option Addr} {zs : List Nat} (h : Src w z a zs) (k : Nat) : Src w z a (zs.take k) := by
  rcases h with rfl | ⟨b, off, ha, hb, hne, hr⟩
  · left; simp
  · exact .inr ⟨b, off, ha, hb, hne, hr.take k⟩
/-- A word of it. -/
theorem Src.at {w : World} {z : Nat} {a : Option Addr} {zs : List Nat} (h : Src w z a zs) {j : Nat} (hj : j < zs.length) : ∃ b off, a = some ⟨b, off, none⟩ ∧ b < w.heap.size ∧ b ≠ z ∧ RowAt w b off zs := by
  rcases h with rfl | h
  · simp at hj
  · exact h
end Go.Proofs.Qxb6003404a
