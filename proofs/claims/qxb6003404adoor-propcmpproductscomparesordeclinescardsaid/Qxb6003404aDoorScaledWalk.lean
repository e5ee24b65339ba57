/-
  THE WALKS of cmpScaled (24) and zzTimesPow10Cmp (18): each compares x 10^k with y.
-/
import Derived.Test.Qxb6003404aDoorCmpWalk
namespace Go.Proofs.Qxb6003404aDoor
open Go.RowKit

theorem IsProd.zero {x p hi lo q : Nat} (hp : IsProd x p hi lo) (hq : x * p = q) (h : hi = 0) : lo = q := by
  obtain ⟨_, _, h3⟩ := hp
  omega
theorem IsProd.over {x p hi lo q : Nat} (hp : IsProd x p hi lo) (hq : x * p = q) (h : ¬ hi = 0) : 18446744073709551616 ≤ q := by
  obtain ⟨_, _, h3⟩ := hp
  omega

/-- k < 20: the table's power is p. -/
theorem cmpScaled_core (x k y p : Nat) (c : Int) (hx : x < 18446744073709551616) (hy : y < 18446744073709551616) (hp : p < 18446744073709551616) (hk : k < 20)
    (hc : Hid (cmp3 ((x * p : Nat) : Int) (y : Int) = c)) (w : World) (ht : w.cell? ⟨0, k, none⟩ = some (.int .u64 (p : Int))) :
    Calls Tryd.prog 24 #[.int .u64 (x : Int), .int .i64 (k : Int), .int .u64 (y : Int)] w fun e w' => e = .returned (.int .i64 c) ∧ w' = w := by
  go_enter Tryd.func24, Tryd.ntmps24
  go_wp2_with (first | (go_at_call 31; refine (mul64_any x p hx hp _).mono ?_; rintro e w' ⟨⟨hi, lo, hpr, rfl⟩, rfl⟩; have HP : Hid (IsProd x p hi lo) := hpr; clear hpr) | (go_at_call 32; refine (compareU_any _ _ _).mono ?_; rintro e w' ⟨rfl, rfl⟩))
  · go_ret
    have hz : ((hi : Int) != 0) = true := by assumption
    have := HP.out.over rfl (by simpa using hz)
    exact ⟨ret_i64 (by rw [← hc.out]; exact (cmp3_gt (by omega)).symm), rfl⟩
  · go_ret
    have hz : ((hi : Int) != 0) = false := by assumption
    have := HP.out.zero rfl (by simpa using hz)
    exact ⟨ret_i64 (by rw [this]; exact hc.out), rfl⟩

theorem cmpScaled_any (x : Nat) (k : Int) (y K : Nat) (c : Int) (hx : x < 18446744073709551616) (hx1 : 1 ≤ x) (hy : y < 18446744073709551616) (hk : Hid (k = (K : Int)))
    (hc : Hid (cmp3 ((x * 10 ^ K : Nat) : Int) (y : Int) = c)) (w : World) (ht : Pow10At w) :
    Calls Tryd.prog 24 #[.int .u64 (x : Int), .int .i64 k, .int .u64 (y : Int)] w fun e w' => e = .returned (.int .i64 c) ∧ w' = w := by
  rw [hk.out]
  by_cases h20 : K < 20
  · exact cmpScaled_core x K y (10 ^ K) c hx hy (pow_lt h20) h20 hc w (ht K h20)
  · have h : c = 1 := by rw [← hc.out]; exact scaled_big hx1 hy (by omega)
    subst h
    clear hc hk ht
    go_enter Tryd.func24, Tryd.ntmps24
    go_wp2
    go_ret
    exact ⟨rfl, rfl⟩

theorem timesPow10_any (x : Nat) (k : Int) (y K : Nat) (c : Int) (hx : x < 18446744073709551616) (hy : y < 18446744073709551616) (hk : Hid (k = (K : Int))) (hk1 : k ≤ 9223372036854775807)
    (hc : Hid (cmp3 ((x * 10 ^ K : Nat) : Int) (y : Int) = c)) (w : World) :
    Calls Tryd.prog 18 #[.int .u64 (x : Int), .int .i64 k, .int .u64 (y : Int)] w fun e w' => e = .returned (.int .i64 c) ∧ w' = w := by
  have hk' := hk.out
  subst hk'
  clear hk
  go_enter Tryd.func18, Tryd.ntmps18
  go_wp2
  go_loop [0, 7] (fun t i => ∃ j z : Nat, i = .int .i64 (j : Int) ∧ t = .int .u64 (z : Int) ∧ j ≤ K ∧ z < 18446744073709551616 ∧ Hid (z = x * 10 ^ j)) (fun _ i => K - (intOf i).toNat)
  case atStart => exact ⟨0, x, rfl, rfl, by omega, hx, show _ = _ by simp⟩
  case round =>
    obtain ⟨j, z, rfl, rfl, hj, hz, HZ⟩ := hrel
    by_cases hlt : j < K
    · by_cases ho : y / 10 < z
      · have h1 : c = 1 := by rw [← hc.out]; exact times_out hlt (HZ.out ▸ ho)
        subst h1
        clear hc HZ
        go_wp2
        go_ret
        exact ⟨rfl, rfl⟩
      · obtain ⟨s1, s2⟩ := times_step (x := x) (j := j) hy (HZ.out ▸ (by omega))
        have HN : Hid (z * 10 = x * 10 ^ (j + 1)) := (show _ = _ by rw [HZ.out]; exact s1)
        have hz2 : z * 10 < 18446744073709551616 := by rw [HN.out]; exact s2
        clear s1 s2 HZ
        go_wp2
        go_round
        case rel => exact ⟨j + 1, z * 10, by go_num, by go_num, by omega, hz2, HN⟩
        case measure => simp [intOf]; omega
    · have hjk : j = K := by omega
      subst hjk
      have HC : Hid (cmp3 (z : Int) (y : Int) = c) := (show _ = _ by rw [HZ.out]; exact hc.out)
      clear HZ hc
      go_wp2_with (go_at_call 20; refine (zzCmpU_any _ _ _).mono ?_; rintro e w' ⟨rfl, rfl⟩)
      go_ret
      exact ⟨ret_i64 HC.out, rfl⟩
end Go.Proofs.Qxb6003404aDoor
