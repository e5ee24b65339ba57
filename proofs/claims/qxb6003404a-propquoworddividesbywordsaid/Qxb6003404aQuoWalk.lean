/-
  THE WALK of (reciprocal).quo (50).
-/
import Derived.Test.Qxb6003404aQuoPlain
import Derived.Test.Qxb6003404aAddWalk
namespace Go.Proofs.Qxb6003404a
open Go.RowKit

theorem addsucc_any (x u c : Nat) (hx : x < 18446744073709551616) (hu : u + 1 < 18446744073709551616) (hc : c ≤ 1) (w : World) :
    Calls Try.prog 62 #[.int .u64 (x : Int), .int .u64 ((u : Int) + 1), .int .u64 (c : Int)] w fun e w' => (∃ s co : Nat, IsSum x (u + 1) c s co ∧ e = .returned (.tuple #[.int .u64 (s : Int), .int .u64 (co : Int)])) ∧ w' = w :=
  add_any x (u + 1) c hx hu hc w

/-- What quo gives back. -/
def IsQuo (d u1 u0 q r : Nat) : Prop := q * d + r = u1 * 18446744073709551616 + u0 ∧ r < d ∧ q < 18446744073709551616

set_option maxHeartbeats 1000000 in
theorem quo_any (d v s u1 u0 : Nat) (hd1 : Hid (9223372036854775808 ≤ d)) (hd2 : d < 18446744073709551616) (hrec : Hid (IsRec d v)) (hv : v < 18446744073709551616) (hu1 : u1 < d) (hu0 : u0 < 18446744073709551616) (w : World) :
    Calls Try.prog 50 #[.agg #[.int .u64 (d : Int), .int .u64 (v : Int), .int .u64 (s : Int)], .int .u64 (u1 : Int), .int .u64 (u0 : Int)] w fun e w' =>
      (∃ q r : Nat, Hid (IsQuo d u1 u0 q r) ∧ e = .returned (.tuple #[.int .u64 (q : Int), .int .u64 (r : Int)])) ∧ w' = w.alloc (.cells #[.int .u64 (d : Int), .int .u64 (v : Int), .int .u64 (s : Int)] 32) := by
  go_enter Try.func50, Try.ntmps50
  go_wp2_with (go_at_call 64; refine (mul_any v u1 hv (by omega) _).mono ?_; rintro e w' ⟨⟨hi, lo0, hp, rfl⟩, rfl⟩; obtain ⟨hp1, hp2, hp3⟩ := hp; have HP : Hid (hi * 18446744073709551616 + lo0 = v * u1) := hp3; clear hp3)
  refine (add0_any lo0 u0 hp2 hu0 _).mono ?_
  rintro e w' ⟨⟨lo, c, hs, rfl⟩, rfl⟩
  obtain ⟨hs1, hs2, hs3⟩ := hs
  have HS : Hid (lo + c * 18446744073709551616 = lo0 + u0 + 0) := hs3
  clear hs3
  go_wp2_with fail
  refine (addsucc_any hi u1 c hp1 (by omega) hs2 _).mono ?_
  rintro e w' ⟨⟨qv, co, hq, rfl⟩, rfl⟩
  obtain ⟨hq1, hq2, hq3⟩ := hq
  obtain ⟨rm, hrm, er, hw⟩ := MG.quo_cases d v u1 u0 hi lo0 c lo qv co hd1.out hd2 hrec.out hu1 hu0 HP.out HS.out hs1 hq3 hq1
  have er' : IntKind.u64.wrap ((u0 : Int) - IntKind.u64.wrap ((qv : Int) * (d : Int))) = (rm : Int) := by rw [IntKind.wrap_u64, IntKind.wrap_u64]; exact er
  clear er hq3 HP HS
  rcases hw with ⟨a1, a2, a3, a4, a5⟩ | ⟨a1, a2, a3⟩ | ⟨a1, a2, a3, a4, a5⟩ | ⟨a1, qf, rf, a2, a3, a4, a5, a6⟩
  · have A : Hid (IsQuo d u1 u0 qv rm) := ⟨a4, a5, hq1⟩
    clear a4
    go_wp2
    go_ret2
    exact ⟨⟨qv, rm, A, ret2_u64 (by omega) (by omega)⟩, rfl⟩
  · have A : Hid (IsQuo d u1 u0 qv rm) := ⟨a3, a2, hq1⟩
    clear a3
    go_wp2
    go_ret2
    exact ⟨⟨qv, rm, A, rfl⟩, rfl⟩
  · have A : Hid (IsQuo d u1 u0 (qv + 1) (rm - d)) := ⟨a4, a5, a3⟩
    clear a4
    go_wp2
    go_ret2
    exact ⟨⟨qv + 1, rm - d, A, ret2_u64 (by omega) (by omega)⟩, rfl⟩
  · have A : Hid (IsQuo d u1 u0 qf rf) := ⟨a6, a2, a3⟩
    have e1 : IntKind.u64.wrap ((qv : Int) - 1) = (qf : Int) := by rw [IntKind.wrap_u64]; exact a4
    have e2 : IntKind.u64.wrap ((rm : Int) + (d : Int)) = (rf : Int) := by rw [IntKind.wrap_u64]; exact a5
    clear a4 a5 a6
    go_wp2
    go_ret2
    exact ⟨⟨qf, rf, A, rfl⟩, rfl⟩
end Go.Proofs.Qxb6003404a
