/-
  THE WALKS of cmpProducts (19), ZZcmpProducts (9).
-/
import Derived.Test.Qxb6003404aDoorWideWalk2
import Derived.Test.Qxb6003404aDoorCmpSmallWalk
namespace Go.Proofs.Qxb6003404aDoor
open Go.RowKit

theorem ret_pair {a b : Int} {c : Bool} (h : a = b) : Ending.returned (.tuple #[.int .i64 a, .bool c]) = .returned (.tuple #[.int .i64 b, .bool c]) := by rw [h]

theorem grown_drewN {W w' : World} (h : Grown W w') (n : Nat) : Grown W (w'.drewN n) := h

/-- (u128).cmp, its answer under a name. -/
theorem cmp_c (U V a b c d : Nat) (r : Int) (hu : Hid (Is128 U a b)) (hv : Hid (Is128 V c d)) (hr : Hid (cmp3 (U : Int) (V : Int) = r)) (w : World) :
    Calls Tryd.prog 28 #[.agg #[.int .u64 (a : Int), .int .u64 (b : Int)], .agg #[.int .u64 (c : Int), .int .u64 (d : Int)]] w fun e w' => e = .returned (.int .i64 r) ∧
      w' = (w.alloc (.cells #[.int .u64 (a : Int), .int .u64 (b : Int)] 44)).alloc (.cells #[.int .u64 (c : Int), .int .u64 (d : Int)] 44) := by
  have := cmp_any U V a b c d hu hv w
  rw [hr.out] at this
  exact this

theorem cmpProducts_sign (a m s b n t sa sb : Int) (p1 : -1 ≤ cmp3 a 0 * cmp3 m 0) (p2 : cmp3 a 0 * cmp3 m 0 ≤ 1) (q1 : -1 ≤ cmp3 b 0 * cmp3 n 0) (q2 : cmp3 b 0 * cmp3 n 0 ≤ 1)
    (hsa : cmp3 a 0 * cmp3 m 0 = sa) (hsb : cmp3 b 0 * cmp3 n 0 = sb) (hd : (sa != sb) = true) (w : World) :
    Calls Tryd.prog 19 #[.int .i64 a, .int .i64 m, .int .i64 s, .int .i64 b, .int .i64 n, .int .i64 t] w fun e w' => e = .returned (.tuple #[.int .i64 (cmp3 sa sb), .bool true]) ∧ w' = w := by
  go_enter Tryd.func19, Tryd.ntmps19
  go_wp2_with (first | (go_at_call 22; refine (compare64_any _ _ _).mono ?_; rintro e w' ⟨rfl, rfl⟩) | (go_at_call 23; refine (compareInt_any _ _ _).mono ?_; rintro e w' ⟨rfl, rfl⟩))
  go_ret2
  exact ⟨rfl, rfl⟩

theorem cmpProducts_zero (a m s b n t : Int) (hsa : cmp3 a 0 * cmp3 m 0 = 0) (hsb : cmp3 b 0 * cmp3 n 0 = 0) (w : World) :
    Calls Tryd.prog 19 #[.int .i64 a, .int .i64 m, .int .i64 s, .int .i64 b, .int .i64 n, .int .i64 t] w fun e w' => e = .returned (.tuple #[.int .i64 (cmp3 0 0), .bool true]) ∧ w' = w := by
  have p1 : 0 ≤ cmp3 a 0 * cmp3 m 0 := by omega
  have p2 : cmp3 a 0 * cmp3 m 0 ≤ 0 := by omega
  have q1 : 0 ≤ cmp3 b 0 * cmp3 n 0 := by omega
  have q2 : cmp3 b 0 * cmp3 n 0 ≤ 0 := by omega
  go_enter Tryd.func19, Tryd.ntmps19
  go_wp2_with (first | (go_at_call 22; refine (compare64_any _ _ _).mono ?_; rintro e w' ⟨rfl, rfl⟩) | (go_at_call 23; refine (compareInt_any _ _ _).mono ?_; rintro e w' ⟨rfl, rfl⟩))
  go_ret2
  exact ⟨rfl, rfl⟩

set_option maxHeartbeats 1000000 in
/-- One scale. -/
theorem cmpProducts_same (a m s b n sa : Int) (c r : Int) (hs : sa = 1 ∨ sa = -1) (ha : I64 a) (hm : I64 m) (hb : I64 b) (hn : I64 n) (hsa : cmp3 a 0 * cmp3 m 0 = sa) (hsb : cmp3 b 0 * cmp3 n 0 = sa)
    (hc : Hid (cmp3 ((a.natAbs * m.natAbs : Nat) : Int) ((b.natAbs * n.natAbs : Nat) : Int) = c)) (hc0 : -1 ≤ c) (hc1 : c ≤ 1) (hr : Hid (sa * c = r)) (w : World) :
    Calls Tryd.prog 19 #[.int .i64 a, .int .i64 m, .int .i64 s, .int .i64 b, .int .i64 n, .int .i64 s] w fun e w' => e = .returned (.tuple #[.int .i64 r, .bool true]) ∧ Grown w w' := by
  obtain ⟨a0, a1⟩ := ha
  obtain ⟨m0, m1⟩ := hm
  obtain ⟨b0, b1⟩ := hb
  obtain ⟨n0, n1⟩ := hn
  rcases hs with rfl | rfl
  all_goals
    go_enter Tryd.func19, Tryd.ntmps19
    go_wp2_with (first | (go_at_call 22; refine (compare64_any _ _ _).mono ?_; rintro e w' ⟨rfl, rfl⟩) | (go_at_call 25; refine (abs64_any _ (by assumption) (by assumption) _).mono ?_; rintro e w' ⟨rfl, rfl⟩))
    refine (mul128_any a.natAbs m.natAbs (by omega) (by omega) _).mono ?_
    rintro e w1 ⟨xh, xl, hx, rfl, rfl⟩
    have HX : Hid (Is128 (a.natAbs * m.natAbs) xh xl) := hx
    clear hx
    go_wp2_with (go_at_call 25; refine (abs64_any _ (by assumption) (by assumption) _).mono ?_; rintro e w' ⟨rfl, rfl⟩)
    refine (mul128_any b.natAbs n.natAbs (by omega) (by omega) _).mono ?_
    rintro e w2 ⟨yh, yl, hy, rfl, rfl⟩
    have HY : Hid (Is128 (b.natAbs * n.natAbs) yh yl) := hy
    clear hy
    go_wp2_with fail
    refine (cmp_c (a.natAbs * m.natAbs) (b.natAbs * n.natAbs) xh xl yh yl c HX HY hc _).mono ?_
    rintro e w3 ⟨rfl, rfl⟩
    go_wp2
    go_ret2
    exact ⟨ret_pair (by have := hr.out; omega), by repeat (first | exact Grown.refl _ | apply grown_drewN | apply Grown.alloc)⟩

set_option maxHeartbeats 1000000 in
/-- The first scale is smaller; its product fits. -/
theorem cmpProducts_lt (a m s b n t sa : Int) (c r : Int) (K : Nat) (hs : sa = 1 ∨ sa = -1) (ha : I64 a) (hm : I64 m) (hb : I64 b) (hn : I64 n) (hsa : cmp3 a 0 * cmp3 m 0 = sa) (hsb : cmp3 b 0 * cmp3 n 0 = sa)
    (hlt : s < t) (hs0 : 0 ≤ s) (ht1 : t ≤ 9223372036854775807) (hK : Hid (t - s = (K : Int))) (h20 : K < 20) (hf : Hid (a.natAbs * m.natAbs * 10 ^ K < 340282366920938463463374607431768211456))
    (hc : Hid (cmp3 ((a.natAbs * m.natAbs * 10 ^ K : Nat) : Int) ((b.natAbs * n.natAbs : Nat) : Int) = c)) (hc0 : -1 ≤ c) (hc1 : c ≤ 1) (hr : Hid (sa * c = r)) (w : World) (ht : Pow10At w) :
    Calls Tryd.prog 19 #[.int .i64 a, .int .i64 m, .int .i64 s, .int .i64 b, .int .i64 n, .int .i64 t] w fun e w' => e = .returned (.tuple #[.int .i64 r, .bool true]) ∧ Grown w w' := by
  obtain ⟨a0, a1⟩ := ha
  obtain ⟨m0, m1⟩ := hm
  obtain ⟨b0, b1⟩ := hb
  obtain ⟨n0, n1⟩ := hn
  rcases hs with rfl | rfl
  all_goals
    go_enter Tryd.func19, Tryd.ntmps19
    go_wp2_with (first | (go_at_call 22; refine (compare64_any _ _ _).mono ?_; rintro e w' ⟨rfl, rfl⟩) | (go_at_call 25; refine (abs64_any _ (by assumption) (by assumption) _).mono ?_; rintro e w' ⟨rfl, rfl⟩))
    refine (mul128_any a.natAbs m.natAbs (by omega) (by omega) _).mono ?_
    rintro e w1 ⟨xh, xl, hx, rfl, rfl⟩
    have HX : Hid (Is128 (a.natAbs * m.natAbs) xh xl) := hx
    clear hx
    go_wp2_with (go_at_call 25; refine (abs64_any _ (by assumption) (by assumption) _).mono ?_; rintro e w' ⟨rfl, rfl⟩)
    refine (mul128_any b.natAbs n.natAbs (by omega) (by omega) _).mono ?_
    rintro e w2 ⟨yh, yl, hy, rfl, rfl⟩
    have HY : Hid (Is128 (b.natAbs * n.natAbs) yh yl) := hy
    clear hy
    go_wp2_with fail
    refine (scaled_yes (a.natAbs * m.natAbs) xh xl K _ HX hK h20 hf _ ((((ht.alloc _).alloc _).alloc _).alloc _)).mono ?_
    rintro e w3 ⟨zh, zl, hz, rfl, rfl⟩
    have HZ : Hid (Is128 (a.natAbs * m.natAbs * 10 ^ K) zh zl) := hz
    clear hz
    go_wp2_with fail
    refine (cmp_c (a.natAbs * m.natAbs * 10 ^ K) (b.natAbs * n.natAbs) zh zl yh yl c HZ HY hc _).mono ?_
    rintro e w4 ⟨rfl, rfl⟩
    go_wp2
    go_ret2
    exact ⟨ret_pair (by have := hr.out; omega), by repeat (first | exact Grown.refl _ | apply grown_drewN | apply Grown.alloc)⟩


set_option maxHeartbeats 1000000 in
/-- The first scale is smaller; its product does not fit. -/
theorem cmpProducts_lt_no (a m s b n t sa : Int) (K : Nat) (hs : sa = 1 ∨ sa = -1) (ha : I64 a) (hm : I64 m) (hb : I64 b) (hn : I64 n) (hsa : cmp3 a 0 * cmp3 m 0 = sa) (hsb : cmp3 b 0 * cmp3 n 0 = sa)
    (hlt : s < t) (hs0 : 0 ≤ s) (ht1 : t ≤ 9223372036854775807) (hK : Hid (t - s = (K : Int))) (hX : 1 ≤ a.natAbs * m.natAbs) (hf : Hid (20 ≤ K ∨ 340282366920938463463374607431768211456 ≤ a.natAbs * m.natAbs * 10 ^ K)) (w : World) (ht : Pow10At w) :
    Calls Tryd.prog 19 #[.int .i64 a, .int .i64 m, .int .i64 s, .int .i64 b, .int .i64 n, .int .i64 t] w fun e w' => e = .returned (.tuple #[.int .i64 0, .bool false]) ∧ Grown w w' := by
  obtain ⟨a0, a1⟩ := ha
  obtain ⟨m0, m1⟩ := hm
  obtain ⟨b0, b1⟩ := hb
  obtain ⟨n0, n1⟩ := hn
  rcases hs with rfl | rfl
  all_goals
    go_enter Tryd.func19, Tryd.ntmps19
    go_wp2_with (first | (go_at_call 22; refine (compare64_any _ _ _).mono ?_; rintro e w' ⟨rfl, rfl⟩) | (go_at_call 25; refine (abs64_any _ (by assumption) (by assumption) _).mono ?_; rintro e w' ⟨rfl, rfl⟩))
    refine (mul128_any a.natAbs m.natAbs (by omega) (by omega) _).mono ?_
    rintro e w1 ⟨xh, xl, hx, rfl, rfl⟩
    have HX : Hid (Is128 (a.natAbs * m.natAbs) xh xl) := hx
    clear hx
    go_wp2_with (go_at_call 25; refine (abs64_any _ (by assumption) (by assumption) _).mono ?_; rintro e w' ⟨rfl, rfl⟩)
    refine (mul128_any b.natAbs n.natAbs (by omega) (by omega) _).mono ?_
    rintro e w2 ⟨yh, yl, hy, rfl, rfl⟩
    have HY : Hid (Is128 (b.natAbs * n.natAbs) yh yl) := hy
    clear hy
    go_wp2_with fail
    refine (scaled_no (a.natAbs * m.natAbs) xh xl K _ HX hX hK hf _ ((((ht.alloc _).alloc _).alloc _).alloc _)).mono ?_
    rintro e w3 ⟨zh, zl, rfl, nd, rfl⟩
    go_wp2
    go_ret2
    exact ⟨rfl, ((grown_drewN (((((((Grown.refl _).alloc _ _).alloc _ _).alloc _ _).alloc _ _).alloc _ _).alloc _ _) _).setCell (show _ ≤ _ by simp; omega) _).setCell (show _ ≤ _ by simp; omega) _⟩


set_option maxHeartbeats 1000000 in
/-- The second scale is smaller; its product fits. -/
theorem cmpProducts_gt (a m s b n t sa : Int) (c r : Int) (K : Nat) (hs : sa = 1 ∨ sa = -1) (ha : I64 a) (hm : I64 m) (hb : I64 b) (hn : I64 n) (hsa : cmp3 a 0 * cmp3 m 0 = sa) (hsb : cmp3 b 0 * cmp3 n 0 = sa)
    (hlt : t < s) (hs0 : 0 ≤ t) (ht1 : s ≤ 9223372036854775807) (hK : Hid (s - t = (K : Int))) (h20 : K < 20) (hf : Hid (b.natAbs * n.natAbs * 10 ^ K < 340282366920938463463374607431768211456))
    (hc : Hid (cmp3 ((a.natAbs * m.natAbs : Nat) : Int) ((b.natAbs * n.natAbs * 10 ^ K : Nat) : Int) = c)) (hc0 : -1 ≤ c) (hc1 : c ≤ 1) (hr : Hid (sa * c = r)) (w : World) (ht : Pow10At w) :
    Calls Tryd.prog 19 #[.int .i64 a, .int .i64 m, .int .i64 s, .int .i64 b, .int .i64 n, .int .i64 t] w fun e w' => e = .returned (.tuple #[.int .i64 r, .bool true]) ∧ Grown w w' := by
  obtain ⟨a0, a1⟩ := ha
  obtain ⟨m0, m1⟩ := hm
  obtain ⟨b0, b1⟩ := hb
  obtain ⟨n0, n1⟩ := hn
  rcases hs with rfl | rfl
  all_goals
    go_enter Tryd.func19, Tryd.ntmps19
    go_wp2_with (first | (go_at_call 22; refine (compare64_any _ _ _).mono ?_; rintro e w' ⟨rfl, rfl⟩) | (go_at_call 25; refine (abs64_any _ (by assumption) (by assumption) _).mono ?_; rintro e w' ⟨rfl, rfl⟩))
    refine (mul128_any a.natAbs m.natAbs (by omega) (by omega) _).mono ?_
    rintro e w1 ⟨xh, xl, hx, rfl, rfl⟩
    have HX : Hid (Is128 (a.natAbs * m.natAbs) xh xl) := hx
    clear hx
    go_wp2_with (go_at_call 25; refine (abs64_any _ (by assumption) (by assumption) _).mono ?_; rintro e w' ⟨rfl, rfl⟩)
    refine (mul128_any b.natAbs n.natAbs (by omega) (by omega) _).mono ?_
    rintro e w2 ⟨yh, yl, hy, rfl, rfl⟩
    have HY : Hid (Is128 (b.natAbs * n.natAbs) yh yl) := hy
    clear hy
    go_wp2_with fail
    refine (scaled_yes (b.natAbs * n.natAbs) yh yl K _ HY hK h20 hf _ ((((ht.alloc _).alloc _).alloc _).alloc _)).mono ?_
    rintro e w3 ⟨zh, zl, hz, rfl, rfl⟩
    have HZ : Hid (Is128 (b.natAbs * n.natAbs * 10 ^ K) zh zl) := hz
    clear hz
    go_wp2_with fail
    refine (cmp_c (a.natAbs * m.natAbs) (b.natAbs * n.natAbs * 10 ^ K) xh xl zh zl c HX HZ hc _).mono ?_
    rintro e w4 ⟨rfl, rfl⟩
    go_wp2
    go_ret2
    exact ⟨ret_pair (by have := hr.out; omega), by repeat (first | exact Grown.refl _ | apply grown_drewN | apply Grown.alloc)⟩


set_option maxHeartbeats 1000000 in
/-- The second scale is smaller; its product does not fit. -/
theorem cmpProducts_gt_no (a m s b n t sa : Int) (K : Nat) (hs : sa = 1 ∨ sa = -1) (ha : I64 a) (hm : I64 m) (hb : I64 b) (hn : I64 n) (hsa : cmp3 a 0 * cmp3 m 0 = sa) (hsb : cmp3 b 0 * cmp3 n 0 = sa)
    (hlt : t < s) (hs0 : 0 ≤ t) (ht1 : s ≤ 9223372036854775807) (hK : Hid (s - t = (K : Int))) (hX : 1 ≤ b.natAbs * n.natAbs) (hf : Hid (20 ≤ K ∨ 340282366920938463463374607431768211456 ≤ b.natAbs * n.natAbs * 10 ^ K)) (w : World) (ht : Pow10At w) :
    Calls Tryd.prog 19 #[.int .i64 a, .int .i64 m, .int .i64 s, .int .i64 b, .int .i64 n, .int .i64 t] w fun e w' => e = .returned (.tuple #[.int .i64 0, .bool false]) ∧ Grown w w' := by
  obtain ⟨a0, a1⟩ := ha
  obtain ⟨m0, m1⟩ := hm
  obtain ⟨b0, b1⟩ := hb
  obtain ⟨n0, n1⟩ := hn
  rcases hs with rfl | rfl
  all_goals
    go_enter Tryd.func19, Tryd.ntmps19
    go_wp2_with (first | (go_at_call 22; refine (compare64_any _ _ _).mono ?_; rintro e w' ⟨rfl, rfl⟩) | (go_at_call 25; refine (abs64_any _ (by assumption) (by assumption) _).mono ?_; rintro e w' ⟨rfl, rfl⟩))
    refine (mul128_any a.natAbs m.natAbs (by omega) (by omega) _).mono ?_
    rintro e w1 ⟨xh, xl, hx, rfl, rfl⟩
    have HX : Hid (Is128 (a.natAbs * m.natAbs) xh xl) := hx
    clear hx
    go_wp2_with (go_at_call 25; refine (abs64_any _ (by assumption) (by assumption) _).mono ?_; rintro e w' ⟨rfl, rfl⟩)
    refine (mul128_any b.natAbs n.natAbs (by omega) (by omega) _).mono ?_
    rintro e w2 ⟨yh, yl, hy, rfl, rfl⟩
    have HY : Hid (Is128 (b.natAbs * n.natAbs) yh yl) := hy
    clear hy
    go_wp2_with fail
    refine (scaled_no (b.natAbs * n.natAbs) yh yl K _ HY hX hK hf _ ((((ht.alloc _).alloc _).alloc _).alloc _)).mono ?_
    rintro e w3 ⟨zh, zl, rfl, nd, rfl⟩
    go_wp2
    go_ret2
    exact ⟨rfl, ((grown_drewN (((((((Grown.refl _).alloc _ _).alloc _ _).alloc _ _).alloc _ _).alloc _ _).alloc _ _) _).setCell (show _ ≤ _ by simp; omega) _).setCell (show _ ≤ _ by simp; omega) _⟩

end Go.Proofs.Qxb6003404aDoor
