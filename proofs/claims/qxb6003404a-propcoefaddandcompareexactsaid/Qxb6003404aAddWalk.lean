/-
  math/bits.Add64 (83), Sub64 (85): the model's own entries, at this dump; Add (62), Sub (63) walked over them.
-/
import Derived.Test.Qxb6003404aRows
import Derived.WalkKit
import Derived.WalkSpells
import Derived.Shelf.Spec.BitsCarry
namespace Go.Proofs.Qxb6003404a
open Go.RowKit

/-- The sum's word and the carry out. -/
def IsSum (x y c s co : Nat) : Prop := s < 18446744073709551616 ∧ co ≤ 1 ∧ s + co * 18446744073709551616 = x + y + c
/-- The difference's word and the borrow out. -/
def IsDiff (x y b d bo : Nat) : Prop := d < 18446744073709551616 ∧ bo ≤ 1 ∧ d + y + b = x + bo * 18446744073709551616

theorem add64_run (x y c s co : Nat) (hx : x < 18446744073709551616) (hy : y < 18446744073709551616) (hc : c ≤ 1) (hs : Hid (IsSum x y c s co)) (w : World) :
    (callFunc 83 #[.int .u64 (x : Int), .int .u64 (y : Int), .int .u64 (c : Int)]).run Try.prog w = .ok (.value (.tuple #[.int .u64 (s : Int), .int .u64 (co : Int)])) w := by
  rw [run_callFunc_extern Try.func83 (by kernel_rfl) (by kernel_rfl) (by kernel_rfl) (e := add64Entry) (by kernel_rfl), run_add64 x y c (by omega) (by omega) (by omega) (by omega)]
  simp only [Result.andThen]
  obtain ⟨h1, h2, h3⟩ := hs.out
  have e1 : ((x : Int) + (y : Int) + (c : Int)) % 18446744073709551616 = (s : Int) := by omega
  have e2 : ((x : Int) + (y : Int) + (c : Int)) / 18446744073709551616 = (co : Int) := by omega
  rw [e1, e2]

theorem sub64_run (x y b d bo : Nat) (hx : x < 18446744073709551616) (hy : y < 18446744073709551616) (hb : b ≤ 1) (hs : Hid (IsDiff x y b d bo)) (w : World) :
    (callFunc 85 #[.int .u64 (x : Int), .int .u64 (y : Int), .int .u64 (b : Int)]).run Try.prog w = .ok (.value (.tuple #[.int .u64 (d : Int), .int .u64 (bo : Int)])) w := by
  rw [run_callFunc_extern Try.func85 (by kernel_rfl) (by kernel_rfl) (by kernel_rfl) (e := sub64Entry) (by kernel_rfl), run_sub64 x y b hb]
  obtain ⟨h1, h2, h3⟩ := hs.out
  have e1 : (x + 18446744073709551616 - y - b) % 18446744073709551616 = d := by omega
  have e2 : (if x < y + b then 1 else 0 : Nat) = bo := by split <;> omega
  rw [e1, e2]
  rfl

theorem isSum_ex (x y c : Nat) (hx : x < 18446744073709551616) (hy : y < 18446744073709551616) (hc : c ≤ 1) : ∃ s co, IsSum x y c s co := by
  by_cases h : x + y + c < 18446744073709551616
  · exact ⟨x + y + c, 0, h, by omega, by omega⟩
  · exact ⟨x + y + c - 18446744073709551616, 1, by omega, by omega, by omega⟩

theorem isDiff_ex (x y b : Nat) (hx : x < 18446744073709551616) (hy : y < 18446744073709551616) (hb : b ≤ 1) : ∃ d bo, IsDiff x y b d bo := by
  by_cases h : y + b ≤ x
  · exact ⟨x - y - b, 0, by omega, by omega, by omega⟩
  · exact ⟨x + 18446744073709551616 - y - b, 1, by omega, by omega, by omega⟩

theorem add_any (x y c : Nat) (hx : x < 18446744073709551616) (hy : y < 18446744073709551616) (hc : c ≤ 1) (w : World) :
    Calls Try.prog 62 #[.int .u64 (x : Int), .int .u64 (y : Int), .int .u64 (c : Int)] w fun e w' => (∃ s co : Nat, IsSum x y c s co ∧ e = .returned (.tuple #[.int .u64 (s : Int), .int .u64 (co : Int)])) ∧ w' = w := by
  obtain ⟨s, co, h⟩ := isSum_ex x y c hx hy hc
  have H : Hid (IsSum x y c s co) := h
  clear h
  go_enter Try.func62, Try.ntmps62
  go_wp2_with (simp only [add64_run x y c s co hx hy hc H])
  go_ret2
  exact ⟨⟨s, co, H, rfl⟩, rfl⟩

theorem sub_any (x y b : Nat) (hx : x < 18446744073709551616) (hy : y < 18446744073709551616) (hb : b ≤ 1) (w : World) :
    Calls Try.prog 63 #[.int .u64 (x : Int), .int .u64 (y : Int), .int .u64 (b : Int)] w fun e w' => (∃ d bo : Nat, IsDiff x y b d bo ∧ e = .returned (.tuple #[.int .u64 (d : Int), .int .u64 (bo : Int)])) ∧ w' = w := by
  obtain ⟨d, bo, h⟩ := isDiff_ex x y b hx hy hb
  have H : Hid (IsDiff x y b d bo) := h
  clear h
  go_enter Try.func63, Try.ntmps63
  go_wp2_with (simp only [sub64_run x y b d bo hx hy hb H])
  go_ret2
  exact ⟨⟨d, bo, H, rfl⟩, rfl⟩

theorem add0_any (x y : Nat) (hx : x < 18446744073709551616) (hy : y < 18446744073709551616) (w : World) :
    Calls Try.prog 62 #[.int .u64 (x : Int), .int .u64 (y : Int), .int .u64 0] w fun e w' => (∃ s co : Nat, IsSum x y 0 s co ∧ e = .returned (.tuple #[.int .u64 (s : Int), .int .u64 (co : Int)])) ∧ w' = w :=
  add_any x y 0 hx hy (by omega) w
end Go.Proofs.Qxb6003404a
