/-
  PLAIN MATHEMATICS (no Go in sight): a sum and a difference worked out word by word; and the row that is written so.
-/
import Derived.Test.Qxb6003404aMem2
import Derived.Test.Qxb6003404aAddWalk
namespace Go.Proofs.Qxb6003404a
open Go.RowKit

/-- The first j words of the sum are out, c is carried. -/
def AddInv (xs ys ds : List Nat) (j c : Nat) : Prop := ds.length = j ∧ Words ds ∧ val ds + 18446744073709551616 ^ j * c = val (xs.take j) + val (ys.take j)
/-- The first j words of the difference are out, c is borrowed. -/
def SubInv (xs ys ds : List Nat) (j c : Nat) : Prop := ds.length = j ∧ Words ds ∧ val ds + val (ys.take j) = val (xs.take j) + 18446744073709551616 ^ j * c

theorem AddInv.start (xs ys : List Nat) : AddInv xs ys [] 0 0 := ⟨rfl, (by intro x hx; simp at hx), by simp [val]⟩
theorem SubInv.start (xs ys : List Nat) : SubInv xs ys [] 0 0 := ⟨rfl, (by intro x hx; simp at hx), by simp [val]⟩

theorem add_lin {B P D c s co x y X Y : Nat} (h1 : D + P * c = X + Y) (h2 : s + co * B = x + y + c) : D + P * s + P * B * co = X + P * x + (Y + P * y) := by
  have e : P * (s + co * B) = P * (x + y + c) := by rw [h2]
  rw [Nat.mul_add, Nat.mul_add, Nat.mul_add, ← Nat.mul_assoc, Nat.mul_right_comm] at e
  omega
theorem sub_lin {B P D c s co x y X Y : Nat} (h1 : D + Y = X + P * c) (h2 : s + y + c = x + co * B) : D + P * s + (Y + P * y) = X + P * x + P * B * co := by
  have e : P * (s + y + c) = P * (x + co * B) := by rw [h2]
  rw [Nat.mul_add, Nat.mul_add, Nat.mul_add, ← Nat.mul_assoc, Nat.mul_right_comm] at e
  omega

theorem AddInv.step {xs ys ds : List Nat} {j c s co : Nat} (h : AddInv xs ys ds j c) (hs : IsSum (xs.getD j 0) (ys.getD j 0) c s co) : AddInv xs ys (ds ++ [s]) (j + 1) co := by
  obtain ⟨h1, h2, h3⟩ := h
  obtain ⟨s1, _, s3⟩ := hs
  refine ⟨by simp [h1], words_snoc h2 s1, ?_⟩
  rw [val_snoc, h1, val_take_succ, val_take_succ, Nat.pow_succ]
  exact add_lin h3 s3
theorem SubInv.step {xs ys ds : List Nat} {j c s co : Nat} (h : SubInv xs ys ds j c) (hs : IsDiff (xs.getD j 0) (ys.getD j 0) c s co) : SubInv xs ys (ds ++ [s]) (j + 1) co := by
  obtain ⟨h1, h2, h3⟩ := h
  obtain ⟨s1, _, s3⟩ := hs
  refine ⟨by simp [h1], words_snoc h2 s1, ?_⟩
  rw [val_snoc, h1, val_take_succ, val_take_succ, Nat.pow_succ]
  exact sub_lin h3 s3

/-- The words ds are written at b from off on, and nothing else is. -/
def Out (w w' : World) (b off : Nat) (ds : List Nat) : Prop := RowAt w' b off ds ∧ Wrote w w' b off (off + ds.length)
theorem Out.start (w : World) (b off : Nat) : Out w w b off [] := ⟨fun j hj => by simp at hj, Wrote.refl _ _ _ _⟩
theorem RowAt.snoc {w : World} {b off v : Nat} {ds : List Nat} {u : Value} (h : RowAt w b off ds) (hc : w.cell? ⟨b, off + ds.length, none⟩ = some u) : RowAt (w.setCell ⟨b, off + ds.length, none⟩ (.int .u64 (v : Int))) b off (ds ++ [v]) := by
  intro j hj
  by_cases e : j = ds.length
  · subst e
    rw [World.cell?_setCell_same _ _ _ hc]
    simp [List.getD]
  · have hj' : j < ds.length := by simp at hj; omega
    rw [World.cell?_setCell_other _ _ _ _ (by intro h; injection h with _ h2; omega), h j hj']
    simp only [List.getD]
    rw [List.getElem?_append_left hj']
theorem Out.step {w w' : World} {b off j v : Nat} {ds zs : List Nat} (h : Out w w' b off ds) (hz : RowAt w b off zs) (hl : ds.length = j) (hj : j < zs.length) : Out w (w'.setCell ⟨b, off + j, none⟩ (.int .u64 (v : Int))) b off (ds ++ [v]) := by
  subst hl
  refine ⟨h.1.snoc ((h.2.2.1 _ (by omega)).trans (hz _ hj)), ?_⟩
  have e : off + (ds ++ [v]).length = off + ds.length + 1 := by simp; omega
  rw [e]
  exact (h.2.wider (Nat.le_refl _) (Nat.le_succ _)).setCell _ _ (by omega) (by omega)
/-- The cell that is next to be written. -/
theorem Out.cell {w w' : World} {b off j : Nat} {ds zs : List Nat} (h : Out w w' b off ds) (hz : RowAt w b off zs) (hl : ds.length = j) (hj : j < zs.length) : w'.cell? ⟨b, off + j, none⟩ = some (.int .u64 ((zs.getD j 0 : Nat) : Int)) := by
  subst hl
  exact (h.2.2.1 _ (by omega)).trans (hz _ hj)

theorem getD_over (ys : List Nat) (j : Nat) (h : ys.length ≤ j) : ys.getD j 0 = 0 := by
  simp [List.getD, h]
end Go.Proofs.Qxb6003404a
