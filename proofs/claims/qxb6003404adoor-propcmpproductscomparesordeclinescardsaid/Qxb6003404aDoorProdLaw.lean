/-
  THE WALKS of ZZcmpProducts (9) and PropCmpProductsComparesOrDeclines (5).
-/
import Derived.Test.Qxb6003404aDoorProdWalk
namespace Go.Proofs.Qxb6003404aDoor
open Go.RowKit

/-- cmpProducts answers (r, ok), in every world that holds the table. -/
def Answers (a m s b n t r : Int) (ok : Bool) : Prop := ∀ w, Pow10At w → Calls Tryd.prog 19 #[.int .i64 a, .int .i64 m, .int .i64 s, .int .i64 b, .int .i64 n, .int .i64 t] w fun e w' => e = .returned (.tuple #[.int .i64 r, .bool ok]) ∧ Grown w w'

theorem zzProducts_of (a m s b n t r : Int) (ok : Bool) (h : Answers a m s b n t r ok) (w : World) (ht : Pow10At w) :
    Calls Tryd.prog 9 #[.int .i64 a, .int .i64 m, .int .i64 s, .int .i64 b, .int .i64 n, .int .i64 t] w fun e w' => e = .returned (.tuple #[.int .i64 r, .bool ok]) ∧ Grown w w' := by
  go_enter Tryd.func9, Tryd.ntmps9
  go_wp2_with (go_at_call 19; refine (h _ ht).mono ?_; rintro e w' ⟨rfl, hg⟩)
  go_ret2
  exact ⟨rfl, hg⟩

theorem zzScale_yes' (V hi lo K : Nat) (k : Int) (hV : Hid (Is128 V hi lo)) (hk : Hid (k = (K : Int))) (hK : K < 20) (hf : Hid (V * 10 ^ K < 340282366920938463463374607431768211456)) (w : World) :
    Calls Tryd.prog 14 #[.int .u64 (hi : Int), .int .u64 (lo : Int), .int .i64 k] w fun e w' => (∃ a b : Nat, Is128 (V * 10 ^ K) a b ∧ e = .returned (.tuple #[.int .u64 (a : Int), .int .u64 (b : Int), .bool true])) ∧ w' = w := by
  rw [hk.out]
  exact zzScale_yes V hi lo K hV hK hf w
theorem zzScale_no' (V hi lo K : Nat) (k : Int) (hV : Hid (Is128 V hi lo)) (hk : Hid (k = (K : Int))) (hK : K < 20) (hf : Hid (340282366920938463463374607431768211456 ≤ V * 10 ^ K)) (w : World) :
    Calls Tryd.prog 14 #[.int .u64 (hi : Int), .int .u64 (lo : Int), .int .i64 k] w fun e w' => e = .returned (.tuple #[.int .u64 0, .int .u64 0, .bool false]) ∧ w' = w := by
  rw [hk.out]
  exact zzScale_no V hi lo K hV hK hf w
theorem zzCmp128_c (U V a b c d : Nat) (r : Int) (hu : Hid (Is128 U a b)) (hv : Hid (Is128 V c d)) (hr : Hid (cmp3 (U : Int) (V : Int) = r)) (w : World) :
    Calls Tryd.prog 15 #[.int .u64 (a : Int), .int .u64 (b : Int), .int .u64 (c : Int), .int .u64 (d : Int)] w fun e w' => e = .returned (.int .i64 r) ∧ w' = w := by
  have := zzCmp128_any U V a b c d hu hv w
  rw [hr.out] at this
  exact this

theorem law_sign (a m s b n t sa sb : Int) (p1 : -1 ≤ cmp3 a 0 * cmp3 m 0) (p2 : cmp3 a 0 * cmp3 m 0 ≤ 1) (q1 : -1 ≤ cmp3 b 0 * cmp3 n 0) (q2 : cmp3 b 0 * cmp3 n 0 ≤ 1)
    (hsa : cmp3 a 0 * cmp3 m 0 = sa) (hsb : cmp3 b 0 * cmp3 n 0 = sb) (hd : (sa != sb) = true) (hs : 0 ≤ s) (htt : 0 ≤ t) (C9 : Answers a m s b n t (cmp3 sa sb) true) (w : World) (ht : Pow10At w) :
    Calls Tryd.prog 5 #[.int .i64 a, .int .i64 m, .int .i64 s, .int .i64 b, .int .i64 n, .int .i64 t] w fun e w' => e = .returned (.bool true) ∧ Grown w w' := by
  go_enter Tryd.func5, Tryd.ntmps5
  go_wp2_with (first | (go_at_call 9; refine (zzProducts_of a m s b n t _ _ C9 _ ht).mono ?_; rintro e w1 ⟨rfl, hg⟩) | (go_at_call 10; refine (zzSign64_any _ _).mono ?_; rintro e w' ⟨rfl, rfl⟩) | (go_at_call 11; refine (zzCmpInt_any _ _ _).mono ?_; rintro e w' ⟨rfl, rfl⟩))
  go_ret
  exact ⟨rfl, hg⟩

theorem law_zero (a m s b n t : Int) (hsa : cmp3 a 0 * cmp3 m 0 = 0) (hsb : cmp3 b 0 * cmp3 n 0 = 0) (hs : 0 ≤ s) (htt : 0 ≤ t) (C9 : Answers a m s b n t (cmp3 0 0) true) (w : World) (ht : Pow10At w) :
    Calls Tryd.prog 5 #[.int .i64 a, .int .i64 m, .int .i64 s, .int .i64 b, .int .i64 n, .int .i64 t] w fun e w' => e = .returned (.bool true) ∧ Grown w w' := by
  have p1 : 0 ≤ cmp3 a 0 * cmp3 m 0 := by omega
  have p2 : cmp3 a 0 * cmp3 m 0 ≤ 0 := by omega
  have q1 : 0 ≤ cmp3 b 0 * cmp3 n 0 := by omega
  have q2 : cmp3 b 0 * cmp3 n 0 ≤ 0 := by omega
  go_enter Tryd.func5, Tryd.ntmps5
  go_wp2_with (first | (go_at_call 9; refine (zzProducts_of a m s b n t _ _ C9 _ ht).mono ?_; rintro e w1 ⟨rfl, hg⟩) | (go_at_call 10; refine (zzSign64_any _ _).mono ?_; rintro e w' ⟨rfl, rfl⟩) | (go_at_call 11; refine (zzCmpInt_any _ _ _).mono ?_; rintro e w' ⟨rfl, rfl⟩))
  go_ret
  exact ⟨rfl, hg⟩

set_option maxRecDepth 20000 in
set_option maxHeartbeats 1000000 in
/-- The first scale is smaller by 20 or more: declined. -/
theorem law_lt_big (a m s b n t sa : Int) (hsx : sa = 1 ∨ sa = -1) (ha : I64 a) (hm : I64 m) (hb : I64 b) (hn : I64 n) (hsa : cmp3 a 0 * cmp3 m 0 = sa) (hsb : cmp3 b 0 * cmp3 n 0 = sa)
    (hs : 0 ≤ s) (htt : 0 ≤ t) (hs1 : s ≤ 9223372036854775807) (ht1 : t ≤ 9223372036854775807) (h20 : 20 ≤ t - s) (C9 : Answers a m s b n t 0 false) (w : World) (ht : Pow10At w) :
    Calls Tryd.prog 5 #[.int .i64 a, .int .i64 m, .int .i64 s, .int .i64 b, .int .i64 n, .int .i64 t] w fun e w' => e = .returned (.bool true) ∧ Grown w w' := by
  obtain ⟨a0, a1⟩ := ha
  obtain ⟨m0, m1⟩ := hm
  obtain ⟨b0, b1⟩ := hb
  obtain ⟨n0, n1⟩ := hn
  have ax : a.natAbs < 18446744073709551616 := by omega
  have mx : m.natAbs < 18446744073709551616 := by omega
  have bx : b.natAbs < 18446744073709551616 := by omega
  have nx : n.natAbs < 18446744073709551616 := by omega
  rcases hsx with rfl | rfl
  all_goals
    go_enter Tryd.func5, Tryd.ntmps5
    go_wp2_with (first | (go_at_call 9; refine (zzProducts_of a m s b n t _ _ C9 _ ht).mono ?_; rintro e w1 ⟨rfl, hg⟩) | (go_at_call 10; refine (zzSign64_any _ _).mono ?_; rintro e w' ⟨rfl, rfl⟩) | (go_at_call 13; refine (zzAbs64_any _ (by assumption) (by assumption) _).mono ?_; rintro e w' ⟨rfl, rfl⟩))
    refine (zzMul64_any a.natAbs m.natAbs ax mx _).mono ?_
    rintro e w2 ⟨⟨xh, xl, hx, rfl⟩, rfl⟩
    have HX : Hid (Is128 (a.natAbs * m.natAbs) xh xl) := isProd_128 hx
    clear hx
    go_wp2_with (go_at_call 13; refine (zzAbs64_any _ (by assumption) (by assumption) _).mono ?_; rintro e w' ⟨rfl, rfl⟩)
    refine (zzMul64_any b.natAbs n.natAbs bx nx _).mono ?_
    rintro e w3 ⟨⟨yh, yl, hy, rfl⟩, rfl⟩
    have HY : Hid (Is128 (b.natAbs * n.natAbs) yh yl) := isProd_128 hy
    clear hy
    go_wp2
    go_ret
    exact ⟨rfl, hg⟩

set_option maxRecDepth 20000 in
set_option maxHeartbeats 1000000 in
/-- The second scale is smaller by 20 or more: declined. -/
theorem law_gt_big (a m s b n t sa : Int) (hsx : sa = 1 ∨ sa = -1) (ha : I64 a) (hm : I64 m) (hb : I64 b) (hn : I64 n) (hsa : cmp3 a 0 * cmp3 m 0 = sa) (hsb : cmp3 b 0 * cmp3 n 0 = sa)
    (hs : 0 ≤ s) (htt : 0 ≤ t) (hs1 : s ≤ 9223372036854775807) (ht1 : t ≤ 9223372036854775807) (h20 : 20 ≤ s - t) (C9 : Answers a m s b n t 0 false) (w : World) (ht : Pow10At w) :
    Calls Tryd.prog 5 #[.int .i64 a, .int .i64 m, .int .i64 s, .int .i64 b, .int .i64 n, .int .i64 t] w fun e w' => e = .returned (.bool true) ∧ Grown w w' := by
  obtain ⟨a0, a1⟩ := ha
  obtain ⟨m0, m1⟩ := hm
  obtain ⟨b0, b1⟩ := hb
  obtain ⟨n0, n1⟩ := hn
  have ax : a.natAbs < 18446744073709551616 := by omega
  have mx : m.natAbs < 18446744073709551616 := by omega
  have bx : b.natAbs < 18446744073709551616 := by omega
  have nx : n.natAbs < 18446744073709551616 := by omega
  rcases hsx with rfl | rfl
  all_goals
    go_enter Tryd.func5, Tryd.ntmps5
    go_wp2_with (first | (go_at_call 9; refine (zzProducts_of a m s b n t _ _ C9 _ ht).mono ?_; rintro e w1 ⟨rfl, hg⟩) | (go_at_call 10; refine (zzSign64_any _ _).mono ?_; rintro e w' ⟨rfl, rfl⟩) | (go_at_call 13; refine (zzAbs64_any _ (by assumption) (by assumption) _).mono ?_; rintro e w' ⟨rfl, rfl⟩))
    refine (zzMul64_any a.natAbs m.natAbs ax mx _).mono ?_
    rintro e w2 ⟨⟨xh, xl, hx, rfl⟩, rfl⟩
    have HX : Hid (Is128 (a.natAbs * m.natAbs) xh xl) := isProd_128 hx
    clear hx
    go_wp2_with (go_at_call 13; refine (zzAbs64_any _ (by assumption) (by assumption) _).mono ?_; rintro e w' ⟨rfl, rfl⟩)
    refine (zzMul64_any b.natAbs n.natAbs bx nx _).mono ?_
    rintro e w3 ⟨⟨yh, yl, hy, rfl⟩, rfl⟩
    have HY : Hid (Is128 (b.natAbs * n.natAbs) yh yl) := isProd_128 hy
    clear hy
    go_wp2
    go_ret
    exact ⟨rfl, hg⟩

set_option maxRecDepth 20000 in
set_option maxHeartbeats 1000000 in
/-- The first scale is smaller; its product fits. -/
theorem law_lt (a m s b n t sa : Int) (c : Int) (K : Nat) (hsx : sa = 1 ∨ sa = -1) (ha : I64 a) (hm : I64 m) (hb : I64 b) (hn : I64 n) (hsa : cmp3 a 0 * cmp3 m 0 = sa) (hsb : cmp3 b 0 * cmp3 n 0 = sa)
    (hs : 0 ≤ s) (htt : 0 ≤ t) (hs1 : s ≤ 9223372036854775807) (ht1 : t ≤ 9223372036854775807) (hlt : s < t) (hK20 : t - s < 20) (hK : Hid (-(s - t) = (K : Int))) (h20 : K < 20) (hf : Hid (a.natAbs * m.natAbs * 10 ^ K < 340282366920938463463374607431768211456))
    (hc : Hid (cmp3 ((a.natAbs * m.natAbs * 10 ^ K : Nat) : Int) ((b.natAbs * n.natAbs : Nat) : Int) = c)) (hc0 : -1 ≤ c) (hc1 : c ≤ 1) (C9 : Answers a m s b n t (sa * c) true) (w : World) (ht : Pow10At w) :
    Calls Tryd.prog 5 #[.int .i64 a, .int .i64 m, .int .i64 s, .int .i64 b, .int .i64 n, .int .i64 t] w fun e w' => e = .returned (.bool true) ∧ Grown w w' := by
  obtain ⟨a0, a1⟩ := ha
  obtain ⟨m0, m1⟩ := hm
  obtain ⟨b0, b1⟩ := hb
  obtain ⟨n0, n1⟩ := hn
  have ax : a.natAbs < 18446744073709551616 := by omega
  have mx : m.natAbs < 18446744073709551616 := by omega
  have bx : b.natAbs < 18446744073709551616 := by omega
  have nx : n.natAbs < 18446744073709551616 := by omega
  rcases hsx with rfl | rfl
  all_goals
    go_enter Tryd.func5, Tryd.ntmps5
    go_wp2_with (first | (go_at_call 9; refine (zzProducts_of a m s b n t _ _ C9 _ ht).mono ?_; rintro e w1 ⟨rfl, hg⟩) | (go_at_call 10; refine (zzSign64_any _ _).mono ?_; rintro e w' ⟨rfl, rfl⟩) | (go_at_call 13; refine (zzAbs64_any _ (by assumption) (by assumption) _).mono ?_; rintro e w' ⟨rfl, rfl⟩))
    refine (zzMul64_any a.natAbs m.natAbs ax mx _).mono ?_
    rintro e w2 ⟨⟨xh, xl, hx, rfl⟩, rfl⟩
    have HX : Hid (Is128 (a.natAbs * m.natAbs) xh xl) := isProd_128 hx
    clear hx
    go_wp2_with (go_at_call 13; refine (zzAbs64_any _ (by assumption) (by assumption) _).mono ?_; rintro e w' ⟨rfl, rfl⟩)
    refine (zzMul64_any b.natAbs n.natAbs bx nx _).mono ?_
    rintro e w3 ⟨⟨yh, yl, hy, rfl⟩, rfl⟩
    have HY : Hid (Is128 (b.natAbs * n.natAbs) yh yl) := isProd_128 hy
    clear hy
    have hd1 : (K : Int) < 20 := by omega
    go_wp2_with fail
    refine (zzScale_yes' (a.natAbs * m.natAbs) xh xl K _ HX hK h20 hf _).mono ?_
    rintro e w4 ⟨⟨zh, zl, hz, rfl⟩, rfl⟩
    have HZ : Hid (Is128 (a.natAbs * m.natAbs * 10 ^ K) zh zl) := hz
    clear hz
    go_wp2_with (go_at_call 15; refine (zzCmp128_c (a.natAbs * m.natAbs * 10 ^ K) (b.natAbs * n.natAbs) zh zl yh yl c HZ HY hc _).mono ?_; rintro e w5 ⟨rfl, rfl⟩)
    go_ret
    exact ⟨rfl, hg⟩

set_option maxRecDepth 20000 in
set_option maxHeartbeats 1000000 in
/-- The first scale is smaller; its product does not fit. -/
theorem law_lt_no (a m s b n t sa : Int) (K : Nat) (hsx : sa = 1 ∨ sa = -1) (ha : I64 a) (hm : I64 m) (hb : I64 b) (hn : I64 n) (hsa : cmp3 a 0 * cmp3 m 0 = sa) (hsb : cmp3 b 0 * cmp3 n 0 = sa)
    (hs : 0 ≤ s) (htt : 0 ≤ t) (hs1 : s ≤ 9223372036854775807) (ht1 : t ≤ 9223372036854775807) (hlt : s < t) (hK20 : t - s < 20) (hK : Hid (-(s - t) = (K : Int))) (h20 : K < 20) (hf : Hid (340282366920938463463374607431768211456 ≤ a.natAbs * m.natAbs * 10 ^ K)) (C9 : Answers a m s b n t 0 false) (w : World) (ht : Pow10At w) :
    Calls Tryd.prog 5 #[.int .i64 a, .int .i64 m, .int .i64 s, .int .i64 b, .int .i64 n, .int .i64 t] w fun e w' => e = .returned (.bool true) ∧ Grown w w' := by
  obtain ⟨a0, a1⟩ := ha
  obtain ⟨m0, m1⟩ := hm
  obtain ⟨b0, b1⟩ := hb
  obtain ⟨n0, n1⟩ := hn
  have ax : a.natAbs < 18446744073709551616 := by omega
  have mx : m.natAbs < 18446744073709551616 := by omega
  have bx : b.natAbs < 18446744073709551616 := by omega
  have nx : n.natAbs < 18446744073709551616 := by omega
  rcases hsx with rfl | rfl
  all_goals
    go_enter Tryd.func5, Tryd.ntmps5
    go_wp2_with (first | (go_at_call 9; refine (zzProducts_of a m s b n t _ _ C9 _ ht).mono ?_; rintro e w1 ⟨rfl, hg⟩) | (go_at_call 10; refine (zzSign64_any _ _).mono ?_; rintro e w' ⟨rfl, rfl⟩) | (go_at_call 13; refine (zzAbs64_any _ (by assumption) (by assumption) _).mono ?_; rintro e w' ⟨rfl, rfl⟩))
    refine (zzMul64_any a.natAbs m.natAbs ax mx _).mono ?_
    rintro e w2 ⟨⟨xh, xl, hx, rfl⟩, rfl⟩
    have HX : Hid (Is128 (a.natAbs * m.natAbs) xh xl) := isProd_128 hx
    clear hx
    go_wp2_with (go_at_call 13; refine (zzAbs64_any _ (by assumption) (by assumption) _).mono ?_; rintro e w' ⟨rfl, rfl⟩)
    refine (zzMul64_any b.natAbs n.natAbs bx nx _).mono ?_
    rintro e w3 ⟨⟨yh, yl, hy, rfl⟩, rfl⟩
    have HY : Hid (Is128 (b.natAbs * n.natAbs) yh yl) := isProd_128 hy
    clear hy
    have hd1 : (K : Int) < 20 := by omega
    go_wp2_with fail
    refine (zzScale_no' (a.natAbs * m.natAbs) xh xl K _ HX hK h20 hf _).mono ?_
    rintro e w4 ⟨rfl, rfl⟩
    go_wp2
    go_ret
    exact ⟨rfl, hg⟩

set_option maxRecDepth 20000 in
set_option maxHeartbeats 1000000 in
/-- The second scale is not larger; its product fits. -/
theorem law_ge (a m s b n t sa : Int) (c : Int) (K : Nat) (hsx : sa = 1 ∨ sa = -1) (ha : I64 a) (hm : I64 m) (hb : I64 b) (hn : I64 n) (hsa : cmp3 a 0 * cmp3 m 0 = sa) (hsb : cmp3 b 0 * cmp3 n 0 = sa)
    (hs : 0 ≤ s) (htt : 0 ≤ t) (hs1 : s ≤ 9223372036854775807) (ht1 : t ≤ 9223372036854775807) (hlt : t ≤ s) (hK20 : s - t < 20) (hK : Hid (s - t = (K : Int))) (h20 : K < 20) (hf : Hid (b.natAbs * n.natAbs * 10 ^ K < 340282366920938463463374607431768211456))
    (hc : Hid (cmp3 ((a.natAbs * m.natAbs : Nat) : Int) ((b.natAbs * n.natAbs * 10 ^ K : Nat) : Int) = c)) (hc0 : -1 ≤ c) (hc1 : c ≤ 1) (C9 : Answers a m s b n t (sa * c) true) (w : World) (ht : Pow10At w) :
    Calls Tryd.prog 5 #[.int .i64 a, .int .i64 m, .int .i64 s, .int .i64 b, .int .i64 n, .int .i64 t] w fun e w' => e = .returned (.bool true) ∧ Grown w w' := by
  obtain ⟨a0, a1⟩ := ha
  obtain ⟨m0, m1⟩ := hm
  obtain ⟨b0, b1⟩ := hb
  obtain ⟨n0, n1⟩ := hn
  have ax : a.natAbs < 18446744073709551616 := by omega
  have mx : m.natAbs < 18446744073709551616 := by omega
  have bx : b.natAbs < 18446744073709551616 := by omega
  have nx : n.natAbs < 18446744073709551616 := by omega
  rcases hsx with rfl | rfl
  all_goals
    go_enter Tryd.func5, Tryd.ntmps5
    go_wp2_with (first | (go_at_call 9; refine (zzProducts_of a m s b n t _ _ C9 _ ht).mono ?_; rintro e w1 ⟨rfl, hg⟩) | (go_at_call 10; refine (zzSign64_any _ _).mono ?_; rintro e w' ⟨rfl, rfl⟩) | (go_at_call 13; refine (zzAbs64_any _ (by assumption) (by assumption) _).mono ?_; rintro e w' ⟨rfl, rfl⟩))
    refine (zzMul64_any a.natAbs m.natAbs ax mx _).mono ?_
    rintro e w2 ⟨⟨xh, xl, hx, rfl⟩, rfl⟩
    have HX : Hid (Is128 (a.natAbs * m.natAbs) xh xl) := isProd_128 hx
    clear hx
    go_wp2_with (go_at_call 13; refine (zzAbs64_any _ (by assumption) (by assumption) _).mono ?_; rintro e w' ⟨rfl, rfl⟩)
    refine (zzMul64_any b.natAbs n.natAbs bx nx _).mono ?_
    rintro e w3 ⟨⟨yh, yl, hy, rfl⟩, rfl⟩
    have HY : Hid (Is128 (b.natAbs * n.natAbs) yh yl) := isProd_128 hy
    clear hy
    have hd1 : (K : Int) < 20 := by omega
    go_wp2_with fail
    refine (zzScale_yes' (b.natAbs * n.natAbs) yh yl K _ HY hK h20 hf _).mono ?_
    rintro e w4 ⟨⟨zh, zl, hz, rfl⟩, rfl⟩
    have HZ : Hid (Is128 (b.natAbs * n.natAbs * 10 ^ K) zh zl) := hz
    clear hz
    go_wp2_with (go_at_call 15; refine (zzCmp128_c (a.natAbs * m.natAbs) (b.natAbs * n.natAbs * 10 ^ K) xh xl zh zl c HX HZ hc _).mono ?_; rintro e w5 ⟨rfl, rfl⟩)
    go_ret
    exact ⟨rfl, hg⟩

set_option maxRecDepth 20000 in
set_option maxHeartbeats 1000000 in
/-- The second scale is smaller; its product does not fit. -/
theorem law_gt_no (a m s b n t sa : Int) (K : Nat) (hsx : sa = 1 ∨ sa = -1) (ha : I64 a) (hm : I64 m) (hb : I64 b) (hn : I64 n) (hsa : cmp3 a 0 * cmp3 m 0 = sa) (hsb : cmp3 b 0 * cmp3 n 0 = sa)
    (hs : 0 ≤ s) (htt : 0 ≤ t) (hs1 : s ≤ 9223372036854775807) (ht1 : t ≤ 9223372036854775807) (hlt : t < s) (hK20 : s - t < 20) (hK : Hid (s - t = (K : Int))) (h20 : K < 20) (hf : Hid (340282366920938463463374607431768211456 ≤ b.natAbs * n.natAbs * 10 ^ K)) (C9 : Answers a m s b n t 0 false) (w : World) (ht : Pow10At w) :
    Calls Tryd.prog 5 #[.int .i64 a, .int .i64 m, .int .i64 s, .int .i64 b, .int .i64 n, .int .i64 t] w fun e w' => e = .returned (.bool true) ∧ Grown w w' := by
  obtain ⟨a0, a1⟩ := ha
  obtain ⟨m0, m1⟩ := hm
  obtain ⟨b0, b1⟩ := hb
  obtain ⟨n0, n1⟩ := hn
  have ax : a.natAbs < 18446744073709551616 := by omega
  have mx : m.natAbs < 18446744073709551616 := by omega
  have bx : b.natAbs < 18446744073709551616 := by omega
  have nx : n.natAbs < 18446744073709551616 := by omega
  rcases hsx with rfl | rfl
  all_goals
    go_enter Tryd.func5, Tryd.ntmps5
    go_wp2_with (first | (go_at_call 9; refine (zzProducts_of a m s b n t _ _ C9 _ ht).mono ?_; rintro e w1 ⟨rfl, hg⟩) | (go_at_call 10; refine (zzSign64_any _ _).mono ?_; rintro e w' ⟨rfl, rfl⟩) | (go_at_call 13; refine (zzAbs64_any _ (by assumption) (by assumption) _).mono ?_; rintro e w' ⟨rfl, rfl⟩))
    refine (zzMul64_any a.natAbs m.natAbs ax mx _).mono ?_
    rintro e w2 ⟨⟨xh, xl, hx, rfl⟩, rfl⟩
    have HX : Hid (Is128 (a.natAbs * m.natAbs) xh xl) := isProd_128 hx
    clear hx
    go_wp2_with (go_at_call 13; refine (zzAbs64_any _ (by assumption) (by assumption) _).mono ?_; rintro e w' ⟨rfl, rfl⟩)
    refine (zzMul64_any b.natAbs n.natAbs bx nx _).mono ?_
    rintro e w3 ⟨⟨yh, yl, hy, rfl⟩, rfl⟩
    have HY : Hid (Is128 (b.natAbs * n.natAbs) yh yl) := isProd_128 hy
    clear hy
    have hd1 : (K : Int) < 20 := by omega
    go_wp2_with fail
    refine (zzScale_no' (b.natAbs * n.natAbs) yh yl K _ HY hK h20 hf _).mono ?_
    rintro e w4 ⟨rfl, rfl⟩
    go_wp2
    go_ret
    exact ⟨rfl, hg⟩


theorem sign_cases (x : Int) : (cmp3 x 0 = -1 ∧ x < 0) ∨ (cmp3 x 0 = 0 ∧ x = 0) ∨ (cmp3 x 0 = 1 ∧ 0 < x) := by
  rcases Int.lt_trichotomy x 0 with h | h | h
  · exact .inl ⟨cmp3_lt h, h⟩
  · exact .inr (.inl ⟨cmp3_eq h, h⟩)
  · exact .inr (.inr ⟨cmp3_gt h, h⟩)

theorem sign_prod (x y : Int) : (cmp3 x 0 * cmp3 y 0 = 0) ∨ ((cmp3 x 0 * cmp3 y 0 = 1 ∨ cmp3 x 0 * cmp3 y 0 = -1) ∧ 1 ≤ x.natAbs * y.natAbs) := by
  rcases sign_cases x with ⟨h, hx⟩ | ⟨h, hx⟩ | ⟨h, hx⟩ <;> rcases sign_cases y with ⟨k, hy⟩ | ⟨k, hy⟩ | ⟨k, hy⟩ <;> rw [h, k]
  · exact .inr ⟨.inl rfl, Nat.mul_pos (by omega) (by omega)⟩
  · exact .inl rfl
  · exact .inr ⟨.inr rfl, Nat.mul_pos (by omega) (by omega)⟩
  · exact .inl rfl
  · exact .inl rfl
  · exact .inl rfl
  · exact .inr ⟨.inr rfl, Nat.mul_pos (by omega) (by omega)⟩
  · exact .inl rfl
  · exact .inr ⟨.inl rfl, Nat.mul_pos (by omega) (by omega)⟩

theorem prod_lt (x y : Int) (hx : I64 x) (hy : I64 y) : x.natAbs * y.natAbs < 340282366920938463463374607431768211456 := by
  obtain ⟨x0, x1⟩ := hx
  obtain ⟨y0, y1⟩ := hy
  have h : x.natAbs * y.natAbs ≤ 9223372036854775808 * 9223372036854775808 := Nat.mul_le_mul (by omega) (by omega)
  omega

theorem one_sign (a m s b n t sa : Int) (hsx : sa = 1 ∨ sa = -1) (ha : I64 a) (hm : I64 m) (hb : I64 b) (hn : I64 n) (hsa : cmp3 a 0 * cmp3 m 0 = sa) (hsb : cmp3 b 0 * cmp3 n 0 = sa) (hX : 1 ≤ a.natAbs * m.natAbs) (hY : 1 ≤ b.natAbs * n.natAbs)
    (hs : 0 ≤ s) (htt : 0 ≤ t) (hs1 : s ≤ 9223372036854775807) (ht1 : t ≤ 9223372036854775807) (w : World) (ht : Pow10At w) :
    Calls Tryd.prog 5 #[.int .i64 a, .int .i64 m, .int .i64 s, .int .i64 b, .int .i64 n, .int .i64 t] w fun e w' => e = .returned (.bool true) ∧ Grown w w' := by
  rcases Int.lt_trichotomy s t with h | h | h
  · obtain ⟨K, hK⟩ := Int.eq_ofNat_of_zero_le (show 0 ≤ t - s by omega)
    by_cases h20 : K < 20
    · by_cases hf : a.natAbs * m.natAbs * 10 ^ K < 340282366920938463463374607431768211456
      · have bd := cmp3_bd ((a.natAbs * m.natAbs * 10 ^ K : Nat) : Int) ((b.natAbs * n.natAbs : Nat) : Int)
        exact law_lt a m s b n t sa _ K hsx ha hm hb hn hsa hsb hs htt hs1 ht1 h (by omega) (show _ = _ by omega) h20 hf rfl bd.1 bd.2
          (fun w ht => cmpProducts_lt a m s b n t sa _ _ K hsx ha hm hb hn hsa hsb h hs ht1 hK h20 hf rfl bd.1 bd.2 rfl w ht) w ht
      · have hf' := Nat.le_of_not_lt hf
        exact law_lt_no a m s b n t sa K hsx ha hm hb hn hsa hsb hs htt hs1 ht1 h (by omega) (show _ = _ by omega) h20 hf'
          (fun w ht => cmpProducts_lt_no a m s b n t sa K hsx ha hm hb hn hsa hsb h hs ht1 hK hX (.inr hf') w ht) w ht
    · exact law_lt_big a m s b n t sa hsx ha hm hb hn hsa hsb hs htt hs1 ht1 (by omega)
        (fun w ht => cmpProducts_lt_no a m s b n t sa K hsx ha hm hb hn hsa hsb h hs ht1 hK hX (.inl (by omega)) w ht) w ht
  · subst h
    have bd := cmp3_bd ((a.natAbs * m.natAbs : Nat) : Int) ((b.natAbs * n.natAbs : Nat) : Int)
    exact law_ge a m s b n s sa _ 0 hsx ha hm hb hn hsa hsb hs htt hs1 ht1 (by omega) (by omega) (show _ = _ by omega) (by omega) (show _ < _ by rw [Nat.pow_zero, Nat.mul_one]; exact prod_lt b n hb hn)
      (show _ = _ by rw [Nat.pow_zero, Nat.mul_one]) bd.1 bd.2 (fun w _ => cmpProducts_same a m s b n sa _ _ hsx ha hm hb hn hsa hsb rfl bd.1 bd.2 rfl w) w ht
  · obtain ⟨K, hK⟩ := Int.eq_ofNat_of_zero_le (show 0 ≤ s - t by omega)
    by_cases h20 : K < 20
    · by_cases hf : b.natAbs * n.natAbs * 10 ^ K < 340282366920938463463374607431768211456
      · have bd := cmp3_bd ((a.natAbs * m.natAbs : Nat) : Int) ((b.natAbs * n.natAbs * 10 ^ K : Nat) : Int)
        exact law_ge a m s b n t sa _ K hsx ha hm hb hn hsa hsb hs htt hs1 ht1 (by omega) (by omega) hK h20 hf rfl bd.1 bd.2
          (fun w ht => cmpProducts_gt a m s b n t sa _ _ K hsx ha hm hb hn hsa hsb h htt hs1 hK h20 hf rfl bd.1 bd.2 rfl w ht) w ht
      · have hf' := Nat.le_of_not_lt hf
        exact law_gt_no a m s b n t sa K hsx ha hm hb hn hsa hsb hs htt hs1 ht1 h (by omega) hK h20 hf'
          (fun w ht => cmpProducts_gt_no a m s b n t sa K hsx ha hm hb hn hsa hsb h htt hs1 hK hY (.inr hf') w ht) w ht
    · exact law_gt_big a m s b n t sa hsx ha hm hb hn hsa hsb hs htt hs1 ht1 (by omega)
        (fun w ht => cmpProducts_gt_no a m s b n t sa K hsx ha hm hb hn hsa hsb h htt hs1 hK hY (.inl (by omega)) w ht) w ht

theorem prod_law (a m s b n t : Int) (ha : I64 a) (hm : I64 m) (hb : I64 b) (hn : I64 n) (hs1 : s ≤ 9223372036854775807) (ht1 : t ≤ 9223372036854775807) (w : World) (ht : Pow10At w) :
    Calls Tryd.prog 5 #[.int .i64 a, .int .i64 m, .int .i64 s, .int .i64 b, .int .i64 n, .int .i64 t] w fun e w' => e = .returned (.bool true) ∧ Grown w w' := by
  by_cases hs : s < 0
  · go_enter Tryd.func5, Tryd.ntmps5
    go_wp2
    go_ret
    exact ⟨rfl, Grown.refl _⟩
  · by_cases htt : t < 0
    · go_enter Tryd.func5, Tryd.ntmps5
      go_wp2
      go_ret
      exact ⟨rfl, Grown.refl _⟩
    · have A := sign_prod a m
      have B := sign_prod b n
      have p1 : -1 ≤ cmp3 a 0 * cmp3 m 0 ∧ cmp3 a 0 * cmp3 m 0 ≤ 1 := by omega
      have q1 : -1 ≤ cmp3 b 0 * cmp3 n 0 ∧ cmp3 b 0 * cmp3 n 0 ≤ 1 := by omega
      by_cases hd : cmp3 a 0 * cmp3 m 0 = cmp3 b 0 * cmp3 n 0
      · rcases A with A | ⟨A, hX⟩
        · refine law_zero a m s b n t A (hd ▸ A) (by omega) (by omega) (fun w _ => ?_) w ht
          exact (cmpProducts_zero a m s b n t A (hd ▸ A) w).mono fun e w' ⟨he, hw⟩ => ⟨he, hw ▸ Grown.refl _⟩
        · have hY : 1 ≤ b.natAbs * n.natAbs := by
            rcases B with B | ⟨_, hY⟩
            · omega
            · exact hY
          exact one_sign a m s b n t _ A ha hm hb hn rfl hd.symm hX hY (by omega) (by omega) hs1 ht1 w ht
      · have hne : ((cmp3 a 0 * cmp3 m 0) != (cmp3 b 0 * cmp3 n 0)) = true := by simpa using hd
        refine law_sign a m s b n t _ _ p1.1 p1.2 q1.1 q1.2 rfl rfl hne (by omega) (by omega) (fun w _ => ?_) w ht
        exact (cmpProducts_sign a m s b n t _ _ p1.1 p1.2 q1.1 q1.2 rfl rfl hne w).mono fun e w' ⟨he, hw⟩ => ⟨he, hw ▸ Grown.refl _⟩
end Go.Proofs.Qxb6003404aDoor
