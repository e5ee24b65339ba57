/-
  COEFFICIENTS IN MEMORY, MORE: a coef that a variable's own block holds; THE WALKS of ZZCoefIsLarge (21), ZZCoefNeg (22), ZZCoefWords (23).
-/
import Derived.Test.Qxb6003404aCoef
import Derived.Test.Qxb6003404aCoefAdd
namespace Go.Proofs.Qxb6003404a
open Go.RowKit

theorem cell_laid (w : World) (A : Array Value) (t : TypeId) (o : Nat) : (w.alloc (.cells A t)).cell? ⟨w.heap.size, o, none⟩ = A[o]? := by
  unfold World.cell?
  rw [show (w.alloc (.cells A t)).heap[(⟨w.heap.size, o, none⟩ : Addr).block]? = some (.cells A t) from heap_alloc_new w _]
  rfl

theorem frozen_laid (w : World) (A : Array Value) (t : TypeId) (o : Nat) : (w.alloc (.cells A t)).frozen? ⟨w.heap.size, o, none⟩ = false := by
  unfold World.frozen?
  rw [show (w.alloc (.cells A t)).heap[(⟨w.heap.size, o, none⟩ : Addr).block]? = some (.cells A t) from heap_alloc_new w _]
  simp

/-- A coef that has just been laid. -/
theorem coef_laid (w : World) (neg : Bool) (n : Nat) (us : List Nat) (f : Nat → Nat) (hf : ∀ i, f i = us.getD i 0) (hl : us.length = n) (hn : n ≤ 12) (hw : Words us) (ht : Trimmed us) :
    CoefAt (w.alloc (.cells #[.bool neg, .int .i64 (n : Int), .int .u64 (f 0 : Int), .int .u64 (f 1 : Int), .int .u64 (f 2 : Int), .int .u64 (f 3 : Int), .int .u64 (f 4 : Int), .int .u64 (f 5 : Int), .int .u64 (f 6 : Int), .int .u64 (f 7 : Int), .int .u64 (f 8 : Int), .int .u64 (f 9 : Int), .int .u64 (f 10 : Int), .int .u64 (f 11 : Int), .pointer none] 41)) w.heap.size neg us := by
  refine ⟨by simp, by omega, hw, ht, cell_laid _ _ _ _, ?_, ?_, cell_laid _ _ _ _⟩
  · rw [cell_laid, hl]
    rfl
  · intro j hj
    rw [cell_laid, ← hf]
    have : j = 0 ∨ j = 1 ∨ j = 2 ∨ j = 3 ∨ j = 4 ∨ j = 5 ∨ j = 6 ∨ j = 7 ∨ j = 8 ∨ j = 9 ∨ j = 10 ∨ j = 11 := by omega
    rcases this with rfl | rfl | rfl | rfl | rfl | rfl | rfl | rfl | rfl | rfl | rfl | rfl <;> rfl

theorem fresh_laid (w : World) :
    Fresh (w.alloc (.cells #[.bool false, .int .i64 0, .int .u64 0, .int .u64 0, .int .u64 0, .int .u64 0, .int .u64 0, .int .u64 0, .int .u64 0, .int .u64 0, .int .u64 0, .int .u64 0, .int .u64 0, .int .u64 0, .pointer none] 41)) w.heap.size := by
  refine ⟨by simp, cell_laid _ _ _ _, cell_laid _ _ _ _, ?_, cell_laid _ _ _ _, fun o => frozen_laid _ _ _ _⟩
  intro j hj
  rw [cell_laid, getD_zeros]
  have hj' : j < 12 := by simpa using hj
  have : j = 0 ∨ j = 1 ∨ j = 2 ∨ j = 3 ∨ j = 4 ∨ j = 5 ∨ j = 6 ∨ j = 7 ∨ j = 8 ∨ j = 9 ∨ j = 10 ∨ j = 11 := by omega
  rcases this with rfl | rfl | rfl | rfl | rfl | rfl | rfl | rfl | rfl | rfl | rfl | rfl <;> rfl

theorem isLarge_any (b : Nat) (neg : Bool) (us : List Nat) (w : World) (h : Hid (CoefAt w b neg us)) :
    Calls Try.prog 21 #[.pointer (some ⟨b, 0, none⟩)] w fun e w' => e = .returned (.bool false) ∧ w' = w := by
  have c14 := h.out.2.2.2.2.2.2.2
  go_enter Try.func21, Try.ntmps21
  go_wp2
  go_ret
  exact ⟨rfl, rfl⟩

theorem coefNeg_any (b : Nat) (neg : Bool) (us : List Nat) (w : World) (h : Hid (CoefAt w b neg us)) :
    Calls Try.prog 22 #[.pointer (some ⟨b, 0, none⟩)] w fun e w' => e = .returned (.bool neg) ∧ w' = w := by
  have c0 := h.out.2.2.2.2.1
  go_enter Try.func22, Try.ntmps22
  go_wp2
  go_ret
  exact ⟨rfl, rfl⟩

theorem coefWords_any (b n : Nat) (neg : Bool) (us : List Nat) (w : World) (hn : Hid (us.length = n)) (h : Hid (CoefAt w b neg us)) :
    Calls Try.prog 23 #[.pointer (some ⟨b, 0, none⟩)] w fun e w' => e = .returned (.slice (some ⟨b, 2, none⟩) n 12) ∧ ∃ q, w' = w.drewN q := by
  have c1 := h.out.2.2.2.2.2.1
  have h12 := h.out.2.1
  rw [hn.out] at c1 h12
  have hn0 : (0 : Int) ≤ (n : Int) := by omega
  have hn1 : (n : Int) ≤ 12 := by omega
  go_enter Try.func23, Try.ntmps23
  go_wp2
  go_quiet (fail)
  go_wp2
  go_ret
  exact ⟨rfl, _, rfl⟩

theorem Src.row {w w' : World} {c : Nat} {a : Option Addr} {zs : List Nat} (h : Src w c a zs) (hg : w.grownBy w' (some c)) : Src w' c a zs := by
  rcases h with h | ⟨b, off, ha, hb, hne, hr⟩
  · exact .inl h
  · exact .inr ⟨b, off, ha, Nat.lt_of_lt_of_le hb hg.size, hne, hr.grown hg hb (by intro e; injection e with e; exact hne e)⟩
end Go.Proofs.Qxb6003404a
