/-
  THE WALK of PropMulSmallAddSmallDetectOverflow (3).
-/
import Derived.Test.Qxb6003404aSmallWalk
namespace Go.Proofs.Qxb6003404a
open Go.RowKit

theorem prod_bd (x y : Int) (h : x.natAbs * y.natAbs ≤ 9223372036854775807) : -9223372036854775807 ≤ x * y ∧ x * y ≤ 9223372036854775807 := by
  have e : (x * y).natAbs = x.natAbs * y.natAbs := Int.natAbs_mul x y
  omega

/-- zzAbs64, its answer under a name. -/
theorem zzAbs64_n (x : Int) (a : Nat) (h0 : -9223372036854775808 ≤ x) (h1 : x ≤ 9223372036854775807) (ha : Hid (x.natAbs = a)) (w : World) :
    Calls Try.prog 7 #[.int .i64 x] w fun e w' => e = .returned (.int .u64 (a : Int)) ∧ w' = w := by
  have := zzAbs64_any x h0 h1 w
  rw [ha.out] at this
  exact this


set_option maxHeartbeats 1000000 in
theorem law_no (x y : Int) (ax ay : Nat) (hx0 : -9223372036854775808 ≤ x) (hx1 : x ≤ 9223372036854775807) (hy0 : -9223372036854775808 ≤ y) (hy1 : y ≤ 9223372036854775807)
    (hax : Hid (x.natAbs = ax)) (hay : Hid (y.natAbs = ay)) (H : Hid (9223372036854775807 < x.natAbs * y.natAbs))
    (b1 : ((ax : Int) == 0) = false) (b2 : ((ay : Int) == 0) = false) (b4 : 1 ≤ ay) (b3 : decide ((ax : Int) ≤ 9223372036854775807 / (ay : Int)) = false) (w : World) :
    Calls Try.prog 3 #[.int .i64 x, .int .i64 y] w fun e w' => e = .returned (.bool true) ∧ w' = w := by
  by_cases a : (-9223372036854775808 < x + y ∧ x + y ≤ 9223372036854775807)
  · obtain ⟨s0, s1⟩ := a
    by_cases b : 0 < y
    · have c : decide (x ≤ 9223372036854775807 - y) = true := by simp; omega
      go_enter Try.func3, Try.ntmps3
      go_wp2_with (first | (go_at_call 7; refine (zzAbs64_n _ _ (by assumption) (by assumption) (by assumption) _).mono ?_; rintro e w' ⟨rfl, rfl⟩) | (go_at_call 8; refine (zzmul_no x y hx0 hx1 hy0 hy1 H _).mono ?_; rintro e w' ⟨rfl, rfl⟩) | (go_at_call 9; refine (zzadd_yes x y hx0 hx1 hy0 hy1 s0 s1 _).mono ?_; rintro e w' ⟨rfl, rfl⟩))
      go_ret
      exact ⟨rfl, rfl⟩
    · have c : decide (-9223372036854775808 - y < x) = true := by simp; omega
      go_enter Try.func3, Try.ntmps3
      go_wp2_with (first | (go_at_call 7; refine (zzAbs64_n _ _ (by assumption) (by assumption) (by assumption) _).mono ?_; rintro e w' ⟨rfl, rfl⟩) | (go_at_call 8; refine (zzmul_no x y hx0 hx1 hy0 hy1 H _).mono ?_; rintro e w' ⟨rfl, rfl⟩) | (go_at_call 9; refine (zzadd_yes x y hx0 hx1 hy0 hy1 s0 s1 _).mono ?_; rintro e w' ⟨rfl, rfl⟩))
      go_ret
      exact ⟨rfl, rfl⟩
  · have HS : Hid (x + y ≤ -9223372036854775808 ∨ 9223372036854775807 < x + y) := (show _ ∨ _ by omega)
    by_cases b : 0 < y
    · have c : decide (x ≤ 9223372036854775807 - y) = false := by simp; omega
      clear a
      go_enter Try.func3, Try.ntmps3
      go_wp2_with (first | (go_at_call 7; refine (zzAbs64_n _ _ (by assumption) (by assumption) (by assumption) _).mono ?_; rintro e w' ⟨rfl, rfl⟩) | (go_at_call 8; refine (zzmul_no x y hx0 hx1 hy0 hy1 H _).mono ?_; rintro e w' ⟨rfl, rfl⟩) | (go_at_call 9; refine (zzadd_no x y hx0 hx1 hy0 hy1 HS.out _).mono ?_; rintro e w' ⟨rfl, rfl⟩))
      go_ret
      exact ⟨rfl, rfl⟩
    · have c : decide (-9223372036854775808 - y < x) = false := by simp; omega
      clear a
      go_enter Try.func3, Try.ntmps3
      go_wp2_with (first | (go_at_call 7; refine (zzAbs64_n _ _ (by assumption) (by assumption) (by assumption) _).mono ?_; rintro e w' ⟨rfl, rfl⟩) | (go_at_call 8; refine (zzmul_no x y hx0 hx1 hy0 hy1 H _).mono ?_; rintro e w' ⟨rfl, rfl⟩) | (go_at_call 9; refine (zzadd_no x y hx0 hx1 hy0 hy1 HS.out _).mono ?_; rintro e w' ⟨rfl, rfl⟩))
      go_ret
      exact ⟨rfl, rfl⟩

set_option maxHeartbeats 1000000 in
theorem law_x0 (x y : Int) (ax ay : Nat) (hx0 : -9223372036854775808 ≤ x) (hx1 : x ≤ 9223372036854775807) (hy0 : -9223372036854775808 ≤ y) (hy1 : y ≤ 9223372036854775807)
    (hax : Hid (x.natAbs = ax)) (hay : Hid (y.natAbs = ay)) (H : Hid (x.natAbs * y.natAbs ≤ 9223372036854775807)) (pb0 : -9223372036854775807 ≤ x * y) (pb1 : x * y ≤ 9223372036854775807)
    (b1 : ((ax : Int) == 0) = true) (w : World) :
    Calls Try.prog 3 #[.int .i64 x, .int .i64 y] w fun e w' => e = .returned (.bool true) ∧ w' = w := by
  by_cases a : (-9223372036854775808 < x + y ∧ x + y ≤ 9223372036854775807)
  · obtain ⟨s0, s1⟩ := a
    by_cases b : 0 < y
    · have c : decide (x ≤ 9223372036854775807 - y) = true := by simp; omega
      go_enter Try.func3, Try.ntmps3
      go_wp2_with (first | (go_at_call 7; refine (zzAbs64_n _ _ (by assumption) (by assumption) (by assumption) _).mono ?_; rintro e w' ⟨rfl, rfl⟩) | (go_at_call 8; refine (zzmul_yes x y hx0 hx1 hy0 hy1 H _).mono ?_; rintro e w' ⟨rfl, rfl⟩) | (go_at_call 9; refine (zzadd_yes x y hx0 hx1 hy0 hy1 s0 s1 _).mono ?_; rintro e w' ⟨rfl, rfl⟩))
      go_ret
      exact ⟨rfl, rfl⟩
    · have c : decide (-9223372036854775808 - y < x) = true := by simp; omega
      go_enter Try.func3, Try.ntmps3
      go_wp2_with (first | (go_at_call 7; refine (zzAbs64_n _ _ (by assumption) (by assumption) (by assumption) _).mono ?_; rintro e w' ⟨rfl, rfl⟩) | (go_at_call 8; refine (zzmul_yes x y hx0 hx1 hy0 hy1 H _).mono ?_; rintro e w' ⟨rfl, rfl⟩) | (go_at_call 9; refine (zzadd_yes x y hx0 hx1 hy0 hy1 s0 s1 _).mono ?_; rintro e w' ⟨rfl, rfl⟩))
      go_ret
      exact ⟨rfl, rfl⟩
  · have HS : Hid (x + y ≤ -9223372036854775808 ∨ 9223372036854775807 < x + y) := (show _ ∨ _ by omega)
    by_cases b : 0 < y
    · have c : decide (x ≤ 9223372036854775807 - y) = false := by simp; omega
      clear a
      go_enter Try.func3, Try.ntmps3
      go_wp2_with (first | (go_at_call 7; refine (zzAbs64_n _ _ (by assumption) (by assumption) (by assumption) _).mono ?_; rintro e w' ⟨rfl, rfl⟩) | (go_at_call 8; refine (zzmul_yes x y hx0 hx1 hy0 hy1 H _).mono ?_; rintro e w' ⟨rfl, rfl⟩) | (go_at_call 9; refine (zzadd_no x y hx0 hx1 hy0 hy1 HS.out _).mono ?_; rintro e w' ⟨rfl, rfl⟩))
      go_ret
      exact ⟨rfl, rfl⟩
    · have c : decide (-9223372036854775808 - y < x) = false := by simp; omega
      clear a
      go_enter Try.func3, Try.ntmps3
      go_wp2_with (first | (go_at_call 7; refine (zzAbs64_n _ _ (by assumption) (by assumption) (by assumption) _).mono ?_; rintro e w' ⟨rfl, rfl⟩) | (go_at_call 8; refine (zzmul_yes x y hx0 hx1 hy0 hy1 H _).mono ?_; rintro e w' ⟨rfl, rfl⟩) | (go_at_call 9; refine (zzadd_no x y hx0 hx1 hy0 hy1 HS.out _).mono ?_; rintro e w' ⟨rfl, rfl⟩))
      go_ret
      exact ⟨rfl, rfl⟩

set_option maxHeartbeats 1000000 in
theorem law_y0 (x y : Int) (ax ay : Nat) (hx0 : -9223372036854775808 ≤ x) (hx1 : x ≤ 9223372036854775807) (hy0 : -9223372036854775808 ≤ y) (hy1 : y ≤ 9223372036854775807)
    (hax : Hid (x.natAbs = ax)) (hay : Hid (y.natAbs = ay)) (H : Hid (x.natAbs * y.natAbs ≤ 9223372036854775807)) (pb0 : -9223372036854775807 ≤ x * y) (pb1 : x * y ≤ 9223372036854775807)
    (b1 : ((ax : Int) == 0) = false) (b2 : ((ay : Int) == 0) = true) (w : World) :
    Calls Try.prog 3 #[.int .i64 x, .int .i64 y] w fun e w' => e = .returned (.bool true) ∧ w' = w := by
  by_cases a : (-9223372036854775808 < x + y ∧ x + y ≤ 9223372036854775807)
  · obtain ⟨s0, s1⟩ := a
    by_cases b : 0 < y
    · have c : decide (x ≤ 9223372036854775807 - y) = true := by simp; omega
      go_enter Try.func3, Try.ntmps3
      go_wp2_with (first | (go_at_call 7; refine (zzAbs64_n _ _ (by assumption) (by assumption) (by assumption) _).mono ?_; rintro e w' ⟨rfl, rfl⟩) | (go_at_call 8; refine (zzmul_yes x y hx0 hx1 hy0 hy1 H _).mono ?_; rintro e w' ⟨rfl, rfl⟩) | (go_at_call 9; refine (zzadd_yes x y hx0 hx1 hy0 hy1 s0 s1 _).mono ?_; rintro e w' ⟨rfl, rfl⟩))
      go_ret
      exact ⟨rfl, rfl⟩
    · have c : decide (-9223372036854775808 - y < x) = true := by simp; omega
      go_enter Try.func3, Try.ntmps3
      go_wp2_with (first | (go_at_call 7; refine (zzAbs64_n _ _ (by assumption) (by assumption) (by assumption) _).mono ?_; rintro e w' ⟨rfl, rfl⟩) | (go_at_call 8; refine (zzmul_yes x y hx0 hx1 hy0 hy1 H _).mono ?_; rintro e w' ⟨rfl, rfl⟩) | (go_at_call 9; refine (zzadd_yes x y hx0 hx1 hy0 hy1 s0 s1 _).mono ?_; rintro e w' ⟨rfl, rfl⟩))
      go_ret
      exact ⟨rfl, rfl⟩
  · have HS : Hid (x + y ≤ -9223372036854775808 ∨ 9223372036854775807 < x + y) := (show _ ∨ _ by omega)
    by_cases b : 0 < y
    · have c : decide (x ≤ 9223372036854775807 - y) = false := by simp; omega
      clear a
      go_enter Try.func3, Try.ntmps3
      go_wp2_with (first | (go_at_call 7; refine (zzAbs64_n _ _ (by assumption) (by assumption) (by assumption) _).mono ?_; rintro e w' ⟨rfl, rfl⟩) | (go_at_call 8; refine (zzmul_yes x y hx0 hx1 hy0 hy1 H _).mono ?_; rintro e w' ⟨rfl, rfl⟩) | (go_at_call 9; refine (zzadd_no x y hx0 hx1 hy0 hy1 HS.out _).mono ?_; rintro e w' ⟨rfl, rfl⟩))
      go_ret
      exact ⟨rfl, rfl⟩
    · have c : decide (-9223372036854775808 - y < x) = false := by simp; omega
      clear a
      go_enter Try.func3, Try.ntmps3
      go_wp2_with (first | (go_at_call 7; refine (zzAbs64_n _ _ (by assumption) (by assumption) (by assumption) _).mono ?_; rintro e w' ⟨rfl, rfl⟩) | (go_at_call 8; refine (zzmul_yes x y hx0 hx1 hy0 hy1 H _).mono ?_; rintro e w' ⟨rfl, rfl⟩) | (go_at_call 9; refine (zzadd_no x y hx0 hx1 hy0 hy1 HS.out _).mono ?_; rintro e w' ⟨rfl, rfl⟩))
      go_ret
      exact ⟨rfl, rfl⟩

set_option maxHeartbeats 1000000 in
theorem law_le (x y : Int) (ax ay : Nat) (hx0 : -9223372036854775808 ≤ x) (hx1 : x ≤ 9223372036854775807) (hy0 : -9223372036854775808 ≤ y) (hy1 : y ≤ 9223372036854775807)
    (hax : Hid (x.natAbs = ax)) (hay : Hid (y.natAbs = ay)) (H : Hid (x.natAbs * y.natAbs ≤ 9223372036854775807)) (pb0 : -9223372036854775807 ≤ x * y) (pb1 : x * y ≤ 9223372036854775807)
    (b1 : ((ax : Int) == 0) = false) (b2 : ((ay : Int) == 0) = false) (b4 : 1 ≤ ay) (b3 : decide ((ax : Int) ≤ 9223372036854775807 / (ay : Int)) = true) (w : World) :
    Calls Try.prog 3 #[.int .i64 x, .int .i64 y] w fun e w' => e = .returned (.bool true) ∧ w' = w := by
  by_cases a : (-9223372036854775808 < x + y ∧ x + y ≤ 9223372036854775807)
  · obtain ⟨s0, s1⟩ := a
    by_cases b : 0 < y
    · have c : decide (x ≤ 9223372036854775807 - y) = true := by simp; omega
      go_enter Try.func3, Try.ntmps3
      go_wp2_with (first | (go_at_call 7; refine (zzAbs64_n _ _ (by assumption) (by assumption) (by assumption) _).mono ?_; rintro e w' ⟨rfl, rfl⟩) | (go_at_call 8; refine (zzmul_yes x y hx0 hx1 hy0 hy1 H _).mono ?_; rintro e w' ⟨rfl, rfl⟩) | (go_at_call 9; refine (zzadd_yes x y hx0 hx1 hy0 hy1 s0 s1 _).mono ?_; rintro e w' ⟨rfl, rfl⟩))
      go_ret
      exact ⟨rfl, rfl⟩
    · have c : decide (-9223372036854775808 - y < x) = true := by simp; omega
      go_enter Try.func3, Try.ntmps3
      go_wp2_with (first | (go_at_call 7; refine (zzAbs64_n _ _ (by assumption) (by assumption) (by assumption) _).mono ?_; rintro e w' ⟨rfl, rfl⟩) | (go_at_call 8; refine (zzmul_yes x y hx0 hx1 hy0 hy1 H _).mono ?_; rintro e w' ⟨rfl, rfl⟩) | (go_at_call 9; refine (zzadd_yes x y hx0 hx1 hy0 hy1 s0 s1 _).mono ?_; rintro e w' ⟨rfl, rfl⟩))
      go_ret
      exact ⟨rfl, rfl⟩
  · have HS : Hid (x + y ≤ -9223372036854775808 ∨ 9223372036854775807 < x + y) := (show _ ∨ _ by omega)
    by_cases b : 0 < y
    · have c : decide (x ≤ 9223372036854775807 - y) = false := by simp; omega
      clear a
      go_enter Try.func3, Try.ntmps3
      go_wp2_with (first | (go_at_call 7; refine (zzAbs64_n _ _ (by assumption) (by assumption) (by assumption) _).mono ?_; rintro e w' ⟨rfl, rfl⟩) | (go_at_call 8; refine (zzmul_yes x y hx0 hx1 hy0 hy1 H _).mono ?_; rintro e w' ⟨rfl, rfl⟩) | (go_at_call 9; refine (zzadd_no x y hx0 hx1 hy0 hy1 HS.out _).mono ?_; rintro e w' ⟨rfl, rfl⟩))
      go_ret
      exact ⟨rfl, rfl⟩
    · have c : decide (-9223372036854775808 - y < x) = false := by simp; omega
      clear a
      go_enter Try.func3, Try.ntmps3
      go_wp2_with (first | (go_at_call 7; refine (zzAbs64_n _ _ (by assumption) (by assumption) (by assumption) _).mono ?_; rintro e w' ⟨rfl, rfl⟩) | (go_at_call 8; refine (zzmul_yes x y hx0 hx1 hy0 hy1 H _).mono ?_; rintro e w' ⟨rfl, rfl⟩) | (go_at_call 9; refine (zzadd_no x y hx0 hx1 hy0 hy1 HS.out _).mono ?_; rintro e w' ⟨rfl, rfl⟩))
      go_ret
      exact ⟨rfl, rfl⟩

theorem law_any (x y : Int) (hx0 : -9223372036854775808 ≤ x) (hx1 : x ≤ 9223372036854775807) (hy0 : -9223372036854775808 ≤ y) (hy1 : y ≤ 9223372036854775807) (w : World) :
    Calls Try.prog 3 #[.int .i64 x, .int .i64 y] w fun e w' => e = .returned (.bool true) ∧ w' = w := by
  by_cases H : x.natAbs * y.natAbs ≤ 9223372036854775807
  · obtain ⟨pb0, pb1⟩ := prod_bd x y H
    by_cases a : x.natAbs = 0
    · exact law_x0 x y _ _ hx0 hx1 hy0 hy1 rfl rfl H pb0 pb1 (by rw [a]; rfl) w
    · have b1 : ((x.natAbs : Int) == 0) = false := beq_false_of_ne (by omega)
      by_cases b : y.natAbs = 0
      · exact law_y0 x y _ _ hx0 hx1 hy0 hy1 rfl rfl H pb0 pb1 b1 (by rw [b]; rfl) w
      · have b2 : ((y.natAbs : Int) == 0) = false := beq_false_of_ne (by omega)
        have q := (quo_fits x.natAbs y.natAbs (by omega)).2 H
        have q' : (x.natAbs : Int) ≤ ((9223372036854775807 / y.natAbs : Nat) : Int) := Int.ofNat_le.2 q
        rw [Int.natCast_ediv] at q'
        exact law_le x y _ _ hx0 hx1 hy0 hy1 rfl rfl H pb0 pb1 b1 b2 (by omega) (decide_eq_true q') w
  · have ha : x.natAbs ≠ 0 := fun h => H (by rw [h]; omega)
    have hb : y.natAbs ≠ 0 := fun h => H (by rw [h]; omega)
    have q := mt (quo_fits x.natAbs y.natAbs (by omega)).1 H
    have q' : ¬ (x.natAbs : Int) ≤ ((9223372036854775807 / y.natAbs : Nat) : Int) := fun h => q (Int.ofNat_le.1 h)
    rw [Int.natCast_ediv] at q'
    exact law_no x y _ _ hx0 hx1 hy0 hy1 rfl rfl (Nat.lt_of_not_le H) (beq_false_of_ne (by omega)) (beq_false_of_ne (by omega)) (by omega) (decide_eq_false q') w
end Go.Proofs.Qxb6003404a
