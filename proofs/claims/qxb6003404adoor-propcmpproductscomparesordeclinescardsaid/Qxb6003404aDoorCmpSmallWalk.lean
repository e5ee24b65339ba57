/-
  THE WALKS of cmpSmall (17), ZZcmpSmall (7), zzCmpScaledModel (8), PropCmpSmallComparesScaled (4).
-/
import Derived.Test.Qxb6003404aDoorScaledWalk
namespace Go.Proofs.Qxb6003404aDoor
open Go.RowKit

/-- An int64. -/
def I64 (x : Int) : Prop := -9223372036854775808 ≤ x ∧ x ≤ 9223372036854775807

theorem cmpSmall_same (a b s : Int) (w : World) :
    Calls Tryd.prog 17 #[.int .i64 a, .int .i64 s, .int .i64 b, .int .i64 s] w fun e w' => e = .returned (.int .i64 (cmp3 a b)) ∧ w' = w := by
  go_enter Tryd.func17, Tryd.ntmps17
  go_wp2_with (go_at_call 22; refine (compare64_any _ _ _).mono ?_; rintro e w' ⟨rfl, rfl⟩)
  go_ret
  exact ⟨rfl, rfl⟩

theorem cmpSmall_sign (a m b n sa sb : Int) (hn : (m == n) = false) (hsa : cmp3 a 0 = sa) (hsb : cmp3 b 0 = sb) (hd : (sa != sb) = true) (w : World) :
    Calls Tryd.prog 17 #[.int .i64 a, .int .i64 m, .int .i64 b, .int .i64 n] w fun e w' => e = .returned (.int .i64 (cmp3 sa sb)) ∧ w' = w := by
  go_enter Tryd.func17, Tryd.ntmps17
  go_wp2_with (first | (go_at_call 22; refine (compare64_any _ _ _).mono ?_; rintro e w' ⟨rfl, rfl⟩) | (go_at_call 23; refine (compareInt_any _ _ _).mono ?_; rintro e w' ⟨rfl, rfl⟩))
  go_ret
  exact ⟨rfl, rfl⟩

theorem cmpSmall_zero (a m b n : Int) (hn : (m == n) = false) (hsa : cmp3 a 0 = 0) (hsb : cmp3 b 0 = 0) (w : World) :
    Calls Tryd.prog 17 #[.int .i64 a, .int .i64 m, .int .i64 b, .int .i64 n] w fun e w' => e = .returned (.int .i64 (cmp3 0 0)) ∧ w' = w := by
  go_enter Tryd.func17, Tryd.ntmps17
  go_wp2_with (first | (go_at_call 22; refine (compare64_any _ _ _).mono ?_; rintro e w' ⟨rfl, rfl⟩) | (go_at_call 23; refine (compareInt_any _ _ _).mono ?_; rintro e w' ⟨rfl, rfl⟩))
  go_ret
  exact ⟨rfl, rfl⟩

theorem cmpSmall_lt (a m b n c r : Int) (K : Nat) (sa : Int) (hs : sa = 1 ∨ sa = -1) (hlt : m < n) (has : 0 ≤ m) (hbs : n ≤ 9223372036854775807) (hsa : cmp3 a 0 = sa) (hsb : cmp3 b 0 = sa)
    (ha : I64 a) (hb : I64 b) (ha0 : Hid (1 ≤ a.natAbs)) (hK : Hid (n - m = (K : Int))) (hc : Hid (cmp3 ((a.natAbs * 10 ^ K : Nat) : Int) (b.natAbs : Int) = c)) (hc0 : -1 ≤ c) (hc1 : c ≤ 1) (hr : Hid (sa * c = r)) (w : World) (ht : Pow10At w) :
    Calls Tryd.prog 17 #[.int .i64 a, .int .i64 m, .int .i64 b, .int .i64 n] w fun e w' => e = .returned (.int .i64 r) ∧ w' = w := by
  obtain ⟨a0, a1⟩ := ha
  obtain ⟨b0, b1⟩ := hb
  rcases hs with rfl | rfl
  all_goals
    go_enter Tryd.func17, Tryd.ntmps17
    go_wp2_with (first | (go_at_call 22; refine (compare64_any _ _ _).mono ?_; rintro e w' ⟨rfl, rfl⟩) | (go_at_call 25; refine (abs64_any _ (by assumption) (by assumption) _).mono ?_; rintro e w' ⟨rfl, rfl⟩) | (go_at_call 24; refine (cmpScaled_any a.natAbs _ b.natAbs K c (by omega) ha0.out (by omega) hK hc _ ht).mono ?_; rintro e w' ⟨rfl, rfl⟩))
    go_ret
    exact ⟨ret_i64 (by have := hr.out; omega), rfl⟩

theorem cmpSmall_gt (a m b n c r : Int) (K : Nat) (sa : Int) (hs : sa = 1 ∨ sa = -1) (hlt : n < m) (hbs : 0 ≤ n) (has : m ≤ 9223372036854775807) (hsa : cmp3 a 0 = sa) (hsb : cmp3 b 0 = sa)
    (ha : I64 a) (hb : I64 b) (hb0 : Hid (1 ≤ b.natAbs)) (hK : Hid (m - n = (K : Int))) (hc : Hid (cmp3 ((b.natAbs * 10 ^ K : Nat) : Int) (a.natAbs : Int) = c)) (hc0 : -1 ≤ c) (hc1 : c ≤ 1) (hr : Hid (-sa * c = r)) (w : World) (ht : Pow10At w) :
    Calls Tryd.prog 17 #[.int .i64 a, .int .i64 m, .int .i64 b, .int .i64 n] w fun e w' => e = .returned (.int .i64 r) ∧ w' = w := by
  obtain ⟨a0, a1⟩ := ha
  obtain ⟨b0, b1⟩ := hb
  rcases hs with rfl | rfl
  all_goals
    go_enter Tryd.func17, Tryd.ntmps17
    go_wp2_with (first | (go_at_call 22; refine (compare64_any _ _ _).mono ?_; rintro e w' ⟨rfl, rfl⟩) | (go_at_call 25; refine (abs64_any _ (by assumption) (by assumption) _).mono ?_; rintro e w' ⟨rfl, rfl⟩) | (go_at_call 24; refine (cmpScaled_any b.natAbs _ a.natAbs K c (by omega) hb0.out (by omega) hK hc _ ht).mono ?_; rintro e w' ⟨rfl, rfl⟩))
    go_ret
    exact ⟨ret_i64 (by have := hr.out; omega), rfl⟩

theorem model_sign (a m b n sa sb : Int) (hsa : cmp3 a 0 = sa) (hsb : cmp3 b 0 = sb) (hd : (sa != sb) = true) (w : World) :
    Calls Tryd.prog 8 #[.int .i64 a, .int .i64 m, .int .i64 b, .int .i64 n] w fun e w' => e = .returned (.int .i64 (cmp3 sa sb)) ∧ w' = w := by
  go_enter Tryd.func8, Tryd.ntmps8
  go_wp2_with (first | (go_at_call 10; refine (zzSign64_any _ _).mono ?_; rintro e w' ⟨rfl, rfl⟩) | (go_at_call 11; refine (zzCmpInt_any _ _ _).mono ?_; rintro e w' ⟨rfl, rfl⟩))
  go_ret
  exact ⟨rfl, rfl⟩

theorem model_zero (a m b n : Int) (hsa : cmp3 a 0 = 0) (hsb : cmp3 b 0 = 0) (w : World) :
    Calls Tryd.prog 8 #[.int .i64 a, .int .i64 m, .int .i64 b, .int .i64 n] w fun e w' => e = .returned (.int .i64 (cmp3 0 0)) ∧ w' = w := by
  go_enter Tryd.func8, Tryd.ntmps8
  go_wp2_with (first | (go_at_call 10; refine (zzSign64_any _ _).mono ?_; rintro e w' ⟨rfl, rfl⟩) | (go_at_call 11; refine (zzCmpInt_any _ _ _).mono ?_; rintro e w' ⟨rfl, rfl⟩))
  go_ret
  exact ⟨rfl, rfl⟩

theorem model_le (a m b n c r : Int) (K : Nat) (sa : Int) (hs : sa = 1 ∨ sa = -1) (hlt : m ≤ n) (has : 0 ≤ m) (hbs : n ≤ 9223372036854775807) (hsa : cmp3 a 0 = sa) (hsb : cmp3 b 0 = sa)
    (ha : I64 a) (hb : I64 b) (hK : Hid (n - m = (K : Int))) (hc : Hid (cmp3 ((a.natAbs * 10 ^ K : Nat) : Int) (b.natAbs : Int) = c)) (hc0 : -1 ≤ c) (hc1 : c ≤ 1) (hr : Hid (sa * c = r)) (w : World) :
    Calls Tryd.prog 8 #[.int .i64 a, .int .i64 m, .int .i64 b, .int .i64 n] w fun e w' => e = .returned (.int .i64 r) ∧ w' = w := by
  obtain ⟨a0, a1⟩ := ha
  obtain ⟨b0, b1⟩ := hb
  rcases hs with rfl | rfl
  all_goals
    go_enter Tryd.func8, Tryd.ntmps8
    go_wp2_with (first | (go_at_call 10; refine (zzSign64_any _ _).mono ?_; rintro e w' ⟨rfl, rfl⟩) | (go_at_call 13; refine (zzAbs64_any _ (by assumption) (by assumption) _).mono ?_; rintro e w' ⟨rfl, rfl⟩) | (go_at_call 18; refine (timesPow10_any a.natAbs _ b.natAbs K c (by omega) (by omega) hK (by omega) hc _).mono ?_; rintro e w' ⟨rfl, rfl⟩))
    go_ret
    exact ⟨ret_i64 (by have := hr.out; omega), rfl⟩

theorem model_gt (a m b n c r : Int) (K : Nat) (sa : Int) (hs : sa = 1 ∨ sa = -1) (hlt : n < m) (hbs : 0 ≤ n) (has : m ≤ 9223372036854775807) (hsa : cmp3 a 0 = sa) (hsb : cmp3 b 0 = sa)
    (ha : I64 a) (hb : I64 b) (hK : Hid (m - n = (K : Int))) (hc : Hid (cmp3 ((b.natAbs * 10 ^ K : Nat) : Int) (a.natAbs : Int) = c)) (hc0 : -1 ≤ c) (hc1 : c ≤ 1) (hr : Hid (-sa * c = r)) (w : World) :
    Calls Tryd.prog 8 #[.int .i64 a, .int .i64 m, .int .i64 b, .int .i64 n] w fun e w' => e = .returned (.int .i64 r) ∧ w' = w := by
  obtain ⟨a0, a1⟩ := ha
  obtain ⟨b0, b1⟩ := hb
  rcases hs with rfl | rfl
  all_goals
    go_enter Tryd.func8, Tryd.ntmps8
    go_wp2_with (first | (go_at_call 10; refine (zzSign64_any _ _).mono ?_; rintro e w' ⟨rfl, rfl⟩) | (go_at_call 13; refine (zzAbs64_any _ (by assumption) (by assumption) _).mono ?_; rintro e w' ⟨rfl, rfl⟩) | (go_at_call 18; refine (timesPow10_any b.natAbs _ a.natAbs K c (by omega) (by omega) hK (by omega) hc _).mono ?_; rintro e w' ⟨rfl, rfl⟩))
    go_ret
    exact ⟨ret_i64 (by have := hr.out; omega), rfl⟩

/-- Both answer r. -/
def Both (a m b n r : Int) : Prop :=
  (∀ w, Pow10At w → Calls Tryd.prog 17 #[.int .i64 a, .int .i64 m, .int .i64 b, .int .i64 n] w fun e w' => e = .returned (.int .i64 r) ∧ w' = w) ∧
  (∀ w, Calls Tryd.prog 8 #[.int .i64 a, .int .i64 m, .int .i64 b, .int .i64 n] w fun e w' => e = .returned (.int .i64 r) ∧ w' = w)

/-- Of two signs: the sign decides. -/
theorem both_sign (a m b n sa sb : Int) (hsa : cmp3 a 0 = sa) (hsb : cmp3 b 0 = sb) (hd : (sa != sb) = true) (he : cmp3 a b = cmp3 sa sb) : Both a m b n (cmp3 sa sb) := by
  refine ⟨fun w _ => ?_, fun w => model_sign a m b n sa sb hsa hsb hd w⟩
  by_cases h : m = n
  · subst h
    rw [← he]
    exact cmpSmall_same a b m w
  · exact cmpSmall_sign a m b n sa sb (beq_false_of_ne h) hsa hsb hd w

/-- Of one sign. -/
theorem both_one (a m b n : Int) (sa : Int) (hs : (sa = 1 ∧ 0 < a ∧ 0 < b) ∨ (sa = -1 ∧ a < 0 ∧ b < 0)) (hm0 : 0 ≤ m) (hn0 : 0 ≤ n) (hm1 : m ≤ 9223372036854775807) (hn1 : n ≤ 9223372036854775807) (ha : I64 a) (hb : I64 b) :
    ∃ r, Both a m b n r := by
  have hs' : sa = 1 ∨ sa = -1 := by omega
  have hsa : cmp3 a 0 = sa := by
    rcases hs with ⟨rfl, h, _⟩ | ⟨rfl, h, _⟩
    · exact cmp3_gt h
    · exact cmp3_lt h
  have hsb : cmp3 b 0 = sa := by
    rcases hs with ⟨rfl, _, h⟩ | ⟨rfl, _, h⟩
    · exact cmp3_gt h
    · exact cmp3_lt h
  by_cases hmn : m ≤ n
  · obtain ⟨K, hK⟩ := Int.eq_ofNat_of_zero_le (show 0 ≤ n - m by omega)
    have bd := cmp3_bd ((a.natAbs * 10 ^ K : Nat) : Int) (b.natAbs : Int)
    refine ⟨_, fun w ht => ?_, fun w => model_le a m b n _ _ K sa hs' hmn hm0 hn1 hsa hsb ha hb hK rfl bd.1 bd.2 rfl w⟩
    by_cases he : m = n
    · subst he
      have hK0 : K = 0 := by omega
      subst hK0
      have e : sa * cmp3 ((a.natAbs * 10 ^ 0 : Nat) : Int) (b.natAbs : Int) = cmp3 a b := by
        rw [Nat.pow_zero, Nat.mul_one]
        rcases hs with ⟨rfl, h1, h2⟩ | ⟨rfl, h1, h2⟩
        · rw [Int.one_mul]; exact same_scale_pos a b h1 h2
        · have := same_scale_neg a b h1 h2
          omega
      rw [e]
      exact cmpSmall_same a b m w
    · exact cmpSmall_lt a m b n _ _ K sa hs' (by omega) hm0 hn1 hsa hsb ha hb (show _ ≤ _ by omega) hK rfl bd.1 bd.2 rfl w ht
  · obtain ⟨K, hK⟩ := Int.eq_ofNat_of_zero_le (show 0 ≤ m - n by omega)
    have bd := cmp3_bd ((b.natAbs * 10 ^ K : Nat) : Int) (a.natAbs : Int)
    exact ⟨_, fun w ht => cmpSmall_gt a m b n _ _ K sa hs' (by omega) hn0 hm1 hsa hsb ha hb (show _ ≤ _ by omega) hK rfl bd.1 bd.2 rfl w ht, fun w => model_gt a m b n _ _ K sa hs' (by omega) hn0 hm1 hsa hsb ha hb hK rfl bd.1 bd.2 rfl w⟩

theorem both_any (a m b n : Int) (hm0 : 0 ≤ m) (hn0 : 0 ≤ n) (hm1 : m ≤ 9223372036854775807) (hn1 : n ≤ 9223372036854775807) (ha : I64 a) (hb : I64 b) : ∃ r, Both a m b n r := by
  rcases Int.lt_trichotomy a 0 with h | h | h <;> rcases Int.lt_trichotomy b 0 with k | k | k
  · exact both_one a m b n (-1) (.inr ⟨rfl, h, k⟩) hm0 hn0 hm1 hn1 ha hb
  · exact ⟨_, both_sign a m b n (-1) 0 (cmp3_lt h) (cmp3_eq k) rfl ((cmp3_lt (by omega)).trans (cmp3_lt (by omega)).symm)⟩
  · exact ⟨_, both_sign a m b n (-1) 1 (cmp3_lt h) (cmp3_gt k) rfl ((cmp3_lt (by omega)).trans (cmp3_lt (by omega)).symm)⟩
  · exact ⟨_, both_sign a m b n 0 (-1) (cmp3_eq h) (cmp3_lt k) rfl ((cmp3_gt (by omega)).trans (cmp3_gt (by omega)).symm)⟩
  · subst h; subst k
    refine ⟨cmp3 0 0, fun w _ => ?_, fun w => model_zero 0 m 0 n (cmp3_eq rfl) (cmp3_eq rfl) w⟩
    by_cases he : m = n
    · subst he
      exact cmpSmall_same 0 0 m w
    · exact cmpSmall_zero 0 m 0 n (beq_false_of_ne he) (cmp3_eq rfl) (cmp3_eq rfl) w
  · exact ⟨_, both_sign a m b n 0 1 (cmp3_eq h) (cmp3_gt k) rfl ((cmp3_lt (by omega)).trans (cmp3_lt (by omega)).symm)⟩
  · exact ⟨_, both_sign a m b n 1 (-1) (cmp3_gt h) (cmp3_lt k) rfl ((cmp3_gt (by omega)).trans (cmp3_gt (by omega)).symm)⟩
  · exact ⟨_, both_sign a m b n 1 0 (cmp3_gt h) (cmp3_eq k) rfl ((cmp3_gt (by omega)).trans (cmp3_gt (by omega)).symm)⟩
  · exact both_one a m b n 1 (.inl ⟨rfl, h, k⟩) hm0 hn0 hm1 hn1 ha hb

theorem zzcmp_of (a m b n r : Int) (h : Both a m b n r) (w : World) (ht : Pow10At w) :
    Calls Tryd.prog 7 #[.int .i64 a, .int .i64 m, .int .i64 b, .int .i64 n] w fun e w' => e = .returned (.int .i64 r) ∧ w' = w := by
  go_enter Tryd.func7, Tryd.ntmps7
  go_wp2_with (go_at_call 17; refine (h.1 _ ht).mono ?_; rintro e w' ⟨rfl, rfl⟩)
  go_ret
  exact ⟨rfl, rfl⟩

theorem cmpSmall_law (a m b n : Int) (hm1 : m ≤ 9223372036854775807) (hn1 : n ≤ 9223372036854775807) (ha : I64 a) (hb : I64 b) (w : World) (ht : Pow10At w) :
    Calls Tryd.prog 4 #[.int .i64 a, .int .i64 m, .int .i64 b, .int .i64 n] w fun e w' => e = .returned (.bool true) ∧ w' = w := by
  by_cases hm : m < 0
  · go_enter Tryd.func4, Tryd.ntmps4
    go_wp2
    go_ret
    exact ⟨rfl, rfl⟩
  · by_cases hn : n < 0
    · go_enter Tryd.func4, Tryd.ntmps4
      go_wp2
      go_ret
      exact ⟨rfl, rfl⟩
    · obtain ⟨r, hr⟩ := both_any a m b n (by omega) (by omega) hm1 hn1 ha hb
      go_enter Tryd.func4, Tryd.ntmps4
      go_wp2_with (first | (go_at_call 7; refine (zzcmp_of a m b n r hr _ ht).mono ?_; rintro e w' ⟨rfl, rfl⟩) | (go_at_call 8; refine (hr.2 _).mono ?_; rintro e w' ⟨rfl, rfl⟩))
      go_ret
      exact ⟨rfl, rfl⟩
end Go.Proofs.Qxb6003404aDoor
