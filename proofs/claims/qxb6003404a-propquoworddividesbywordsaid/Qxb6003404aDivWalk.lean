/-
  THE WALKS of LeadingZeros (51), Len (66), LeadingZeros64 (89), Div64 (68), Div (52).
-/
import Derived.Test.Qxb6003404aLen
import Derived.Test.Qxb6003404aBitPlain
import Derived.Test.Qxb6003404aMul
namespace Go.Proofs.Qxb6003404a
open Go.RowKit

theorem ret_i64 {a b : Int} (h : a = b) : Ending.returned (.int .i64 a) = .returned (.int .i64 b) := by rw [h]

theorem len64_L (u L : Nat) (hu : u < 18446744073709551616) (hL : Lib.bitLen u = L) (w : World) :
    Calls Try.prog 88 #[.int .u64 (u : Int)] w fun e w' => e = .returned (.int .i64 (L : Int)) ∧ w' = w := by
  have := len64_any (u : Int) w (by omega) (by omega)
  simpa [hL] using this

theorem len_L (u L : Nat) (hu : u < 18446744073709551616) (hL : Hid (Lib.bitLen u = L)) (w : World) :
    Calls Try.prog 66 #[.int .u64 (u : Int)] w fun e w' => e = .returned (.int .i64 (L : Int)) ∧ w' = w := by
  go_enter Try.func66, Try.ntmps66
  go_wp2_with (go_at_call 88; refine (len64_L u L hu hL.out _).mono ?_; rintro e w' ⟨rfl, rfl⟩)
  go_ret
  exact ⟨rfl, rfl⟩

theorem lz_s (u s : Nat) (hu : u < 18446744073709551616) (hs : Hid (s + Lib.bitLen u = 64)) (w : World) :
    Calls Try.prog 51 #[.int .u64 (u : Int)] w fun e w' => e = .returned (.int .i64 (s : Int)) ∧ w' = w := by
  obtain ⟨L, hL⟩ : ∃ L, Lib.bitLen u = L := ⟨_, rfl⟩
  have HL : Hid (Lib.bitLen u = L) := hL
  have hsL : s + L = 64 := by have := hs.out; omega
  have HS : Hid (s + L = 64) := hsL
  have h64 : L ≤ 64 := by omega
  clear hL hsL hs
  go_enter Try.func51, Try.ntmps51
  go_wp2_with (go_at_call 66; refine (len_L u L hu HL _).mono ?_; rintro e w' ⟨rfl, rfl⟩)
  go_ret
  exact ⟨ret_i64 (by have := HS.out; omega), rfl⟩

theorem lz64_s (u s : Nat) (hu : u < 18446744073709551616) (hs : Hid (s + Lib.bitLen u = 64)) (w : World) :
    Calls Try.prog 89 #[.int .u64 (u : Int)] w fun e w' => e = .returned (.int .i64 (s : Int)) ∧ w' = w := by
  obtain ⟨L, hL⟩ : ∃ L, Lib.bitLen u = L := ⟨_, rfl⟩
  have HL : Hid (Lib.bitLen u = L) := hL
  have hsL : s + L = 64 := by have := hs.out; omega
  have HS : Hid (s + L = 64) := hsL
  have h64 : L ≤ 64 := by omega
  clear hL hsL hs
  go_enter Try.func89, Try.ntmps89
  go_wp2_with (go_at_call 88; refine (len64_L u L hu HL.out _).mono ?_; rintro e w' ⟨rfl, rfl⟩)
  go_ret
  exact ⟨ret_i64 (by have := HS.out; omega), rfl⟩

theorem lz64_top (u : Nat) (h0 : 9223372036854775808 ≤ u) (hu : u < 18446744073709551616) (w : World) :
    Calls Try.prog 89 #[.int .u64 (u : Int)] w fun e w' => e = .returned (.int .i64 0) ∧ w' = w :=
  lz64_s u 0 hu (show _ = _ by rw [Bit.bitLen_top u h0 hu]) w
end Go.Proofs.Qxb6003404a
