/-
  THE WALKS of decimal.digits64 (16), ZZdigits64 (6), PropDigits64CountsDigits (3).
-/
import Derived.Test.Qxb6003404aDoorLen
import Derived.Test.Qxb6003404aDoorDigPlain
import Derived.WalkKit
import Derived.WalkSpells
namespace Go.Proofs.Qxb6003404aDoor
open Go.RowKit

theorem ret_i64 {a b : Int} (h : a = b) : Ending.returned (.int .i64 a) = .returned (.int .i64 b) := by rw [h]

/-- The table's cells, as the row's condition gives them. -/
def Pow10At (w : World) : Prop := ∀ i : Nat, i < 20 → w.cell? ⟨0, i, none⟩ = some (.int .u64 ((10 ^ i : Nat) : Int))

theorem len64_L (u L : Nat) (hu : u < 18446744073709551616) (hL : Lib.bitLen u = L) (w : World) :
    Calls Tryd.prog 21 #[.int .u64 (u : Int)] w fun e w' => e = .returned (.int .i64 (L : Int)) ∧ w' = w := by
  have := len64_any (u : Int) w (by omega) (by omega)
  simpa [hL] using this

theorem digits64_core (u L p : Nat) (hu : u < 18446744073709551616) (HL : Hid (Lib.bitLen u = L)) (hL : L ≤ 64)
    (w : World) (hc : w.cell? ⟨0, L * 1233 / 4096, none⟩ = some (.int .u64 (p : Int))) :
    Calls Tryd.prog 16 #[.int .u64 (u : Int)] w fun e w' => (∃ m : Nat, Hid (m = max (if p ≤ u then L * 1233 / 4096 + 1 else L * 1233 / 4096) 1) ∧ e = .returned (.int .i64 (m : Int))) ∧ w' = w := by
  have hn : L * 1233 / 4096 < 20 := by omega
  by_cases hpu : p ≤ u
  · go_enter Tryd.func16, Tryd.ntmps16
    go_wp2_with (go_at_call 21; refine (len64_L u L hu HL.out _).mono ?_; rintro e w' ⟨rfl, rfl⟩)
    go_ret
    exact ⟨⟨max (L * 1233 / 4096 + 1) 1, show _ = _ by omega, ret_i64 (by omega)⟩, rfl⟩
  · go_enter Tryd.func16, Tryd.ntmps16
    go_wp2_with (go_at_call 21; refine (len64_L u L hu HL.out _).mono ?_; rintro e w' ⟨rfl, rfl⟩)
    go_ret
    exact ⟨⟨max (L * 1233 / 4096) 1, show _ = _ by omega, ret_i64 (by omega)⟩, rfl⟩

theorem pow_lt {n : Nat} (h : n < 20) : 10 ^ n < 18446744073709551616 := by
  have : 10 ^ n ≤ 10 ^ 19 := Nat.pow_le_pow_right (by omega) (by omega)
  have : (10 : Nat) ^ 19 = 10000000000000000000 := by decide
  omega

theorem digits64_any (u : Nat) (hu : u < 18446744073709551616) (w : World) (ht : Pow10At w) :
    Calls Tryd.prog 16 #[.int .u64 (u : Int)] w fun e w' => (∃ m : Nat, Dig.IsDig u m ∧ e = .returned (.int .i64 (m : Int))) ∧ w' = w := by
  have hL := Dig.bitLen_le64 u hu
  have hn : Lib.bitLen u * 1233 / 4096 < 20 := by omega
  refine (digits64_core u _ (10 ^ (Lib.bitLen u * 1233 / 4096)) hu rfl hL w (ht _ hn)).mono ?_
  rintro e w' ⟨⟨m, hm, he⟩, hw⟩
  exact ⟨⟨m, hm.out ▸ Dig.isDig_est u hu _ rfl, he⟩, hw⟩

theorem zzdigits64_any (u : Nat) (hu : u < 18446744073709551616) (w : World) (ht : Pow10At w) :
    Calls Tryd.prog 6 #[.int .u64 (u : Int)] w fun e w' => (∃ m : Nat, Dig.IsDig u m ∧ e = .returned (.int .i64 (m : Int))) ∧ w' = w := by
  go_enter Tryd.func6, Tryd.ntmps6
  go_wp2_with (go_at_call 16; refine (digits64_any u hu _ ht).mono ?_; rintro e w' ⟨⟨m, hm, rfl⟩, rfl⟩)
  go_ret
  exact ⟨⟨m, hm, rfl⟩, rfl⟩

theorem dig_walk (u : Nat) (hu : u < 18446744073709551616) (w : World) (ht : Pow10At w) :
    Calls Tryd.prog 3 #[.int .u64 (u : Int)] w fun e w' => e = .returned (.bool true) ∧ w' = w := by
  go_enter Tryd.func3, Tryd.ntmps3
  go_wp2
  go_loop [3, 4] (fun n v => ∃ k y : Nat, n = .int .i64 (k : Int) ∧ v = .int .u64 (y : Int) ∧ y = u / 10 ^ (k - 1) ∧ 1 ≤ k ∧ (k = 1 ∨ 10 ^ (k - 1) ≤ u)) (fun _ v => (intOf v).toNat)
  case atStart => exact ⟨1, u, rfl, rfl, by simp, by omega, .inl rfl⟩
  case round =>
    obtain ⟨k, y, rfl, rfl, hy, hk, hl⟩ := hrel
    have h20 := Dig.isDig_le20 hu hl
    have hyu : y ≤ u := hy ▸ Nat.div_le_self _ _
    by_cases h10 : 10 ≤ y
    · obtain ⟨s1, s2⟩ := Dig.step hy hk h10
      have HY : Hid (y / 10 = u / 10 ^ (k + 1 - 1)) := s1
      have HL : Hid (10 ^ (k + 1 - 1) ≤ u) := s2
      clear hy hl s1 s2
      go_wp2
      go_round
      case rel => exact ⟨k + 1, y / 10, by go_num, by go_num, HY.out, by omega, .inr HL.out⟩
      case measure => simp [intOf]; omega
    · have HD : Hid (Dig.IsDig u k) := Dig.stop hy hk hl (by omega)
      clear hy hl
      go_wp2_with (go_at_call 6; refine (zzdigits64_any u hu _ ht).mono ?_; rintro e w' ⟨⟨m, hm, rfl⟩, rfl⟩; obtain rfl := Dig.isDig_unique hm HD.out)
      go_ret
      exact ⟨rfl, rfl⟩
end Go.Proofs.Qxb6003404aDoor
