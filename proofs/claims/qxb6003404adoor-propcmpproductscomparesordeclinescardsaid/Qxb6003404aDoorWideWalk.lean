/-
  THE WALKS of zzMul64 (12), mul128 (26), scaled (27), cmp (28), zzScale128 (14), zzCmp128 (15); math/bits.Add64 (33): the model's own entry.
-/
import Derived.Test.Qxb6003404aDoorScaledWalk
import Derived.Test.Qxb6003404aDoorWidePlain
import Derived.Shelf.Spec.BitsCarry
import Derived.WalkLawsBesides
import Derived.RegionTactic
import Derived.BigRegion
namespace Go.Proofs.Qxb6003404aDoor
open Go.RowKit

set_option maxHeartbeats 1000000 in
theorem zzMul64_raw (x y : Nat) (hx : x < 18446744073709551616) (hy : y < 18446744073709551616) (w : World) :
    Calls Tryd.prog 12 #[.int .u64 x, .int .u64 y] w fun e w' => e = .returned (.tuple #[.int .u64 ((x * y / 18446744073709551616 : Nat) : Int), .int .u64 ((x * y % 18446744073709551616 : Nat) : Int)]) ∧ w' = w := by
  obtain ⟨bd, bt, bw, hhi⟩ := Lib.mul64_hi x y hx hy
  have ba := Lib.half_mul_le (a := x / 4294967296) (b := y / 4294967296) (by omega) (by omega)
  have bb := Lib.half_mul_le (a := x / 4294967296) (b := y % 4294967296) (by omega) (by omega)
  have bc := Lib.half_mul_le (a := x % 4294967296) (b := y / 4294967296) (by omega) (by omega)
  have ba' : x / 4294967296 * (y / 4294967296) < 18446744073709551616 := by omega
  have bb' : x / 4294967296 * (y % 4294967296) < 18446744073709551616 := by omega
  have bc' : x % 4294967296 * (y / 4294967296) < 18446744073709551616 := by omega
  have bh1 : x / 4294967296 * (y / 4294967296) + (x / 4294967296 * (y % 4294967296) + x % 4294967296 * (y % 4294967296) / 4294967296) / 4294967296 < 18446744073709551616 := by omega
  have bh : x / 4294967296 * (y / 4294967296) + (x / 4294967296 * (y % 4294967296) + x % 4294967296 * (y % 4294967296) / 4294967296) / 4294967296 + ((x / 4294967296 * (y % 4294967296) + x % 4294967296 * (y % 4294967296) / 4294967296) % 4294967296 + x % 4294967296 * (y / 4294967296)) / 4294967296 < 18446744073709551616 := by omega
  go_enter Tryd.func12, Tryd.ntmps12
  go_wp2
  simp only [Mul.maskN x hx, Mul.maskN y hy, Mul.divN, Mul.mulN, Mul.addN, Mul.wrapN _ bd, Mul.wrapN _ bb', Mul.wrapN _ bt, Mul.maskN _ bt, Mul.wrapN _ bc', Mul.wrapN _ bw, Mul.wrapN _ ba', Mul.wrapN _ bh1, Mul.wrapN _ bh, Mul.wrapM (x * y)]
  rw [hhi]
  go_ret2
  exact ⟨rfl, rfl⟩

theorem zzMul64_any (x y : Nat) (hx : x < 18446744073709551616) (hy : y < 18446744073709551616) (w : World) :
    Calls Tryd.prog 12 #[.int .u64 x, .int .u64 y] w fun e w' => (∃ hi lo : Nat, IsProd x y hi lo ∧ e = .returned (.tuple #[.int .u64 (hi : Int), .int .u64 (lo : Int)])) ∧ w' = w :=
  (zzMul64_raw x y hx hy w).mono fun _ _ ⟨he, hw⟩ => ⟨⟨_, _, isProd_divmod x y hx hy, he⟩, hw⟩
/-- The sum's word and the carry out. -/
def IsSum (x y c s co : Nat) : Prop := s < 18446744073709551616 ∧ co ≤ 1 ∧ s + co * 18446744073709551616 = x + y + c
theorem add64_run (x y c s co : Nat) (hx : x < 18446744073709551616) (hy : y < 18446744073709551616) (hc : c ≤ 1) (hs : Hid (IsSum x y c s co)) (w : World) :
    (callFunc 33 #[.int .u64 (x : Int), .int .u64 (y : Int), .int .u64 (c : Int)]).run Tryd.prog w = .ok (.value (.tuple #[.int .u64 (s : Int), .int .u64 (co : Int)])) w := by
  rw [run_callFunc_extern Tryd.func33 (by kernel_rfl) (by kernel_rfl) (by kernel_rfl) (e := add64Entry) (by kernel_rfl), run_add64 x y c (by omega) (by omega) (by omega) (by omega)]
  simp only [Result.andThen]
  obtain ⟨h1, h2, h3⟩ := hs.out
  have e1 : ((x : Int) + (y : Int) + (c : Int)) % 18446744073709551616 = (s : Int) := by omega
  have e2 : ((x : Int) + (y : Int) + (c : Int)) / 18446744073709551616 = (co : Int) := by omega
  rw [e1, e2]

theorem isSum_ex (x y c : Nat) (hx : x < 18446744073709551616) (hy : y < 18446744073709551616) (hc : c ≤ 1) : ∃ s co, IsSum x y c s co := by
  by_cases h : x + y + c < 18446744073709551616
  · exact ⟨x + y + c, 0, h, by omega, by omega⟩
  · exact ⟨x + y + c - 18446744073709551616, 1, by omega, by omega, by omega⟩


theorem isProd_128 {x y hi lo : Nat} (h : IsProd x y hi lo) : Is128 (x * y) hi lo := h

theorem mul128_any (x y : Nat) (hx : x < 18446744073709551616) (hy : y < 18446744073709551616) (w : World) :
    Calls Tryd.prog 26 #[.int .u64 (x : Int), .int .u64 (y : Int)] w fun e w' => ∃ hi lo : Nat, Is128 (x * y) hi lo ∧ e = .returned (.agg #[.int .u64 (hi : Int), .int .u64 (lo : Int)]) ∧ w' = w.alloc (.cells #[.int .u64 (hi : Int), .int .u64 (lo : Int)] 44) := by
  go_enter Tryd.func26, Tryd.ntmps26
  go_wp2_with (go_at_call 31; refine (mul64_any x y hx hy _).mono ?_; rintro e w' ⟨⟨hi, lo, hp, rfl⟩, rfl⟩; have HP : Hid (IsProd x y hi lo) := hp; clear hp)
  exact bodyPost_ret (v := .agg #[.int .u64 (hi : Int), .int .u64 (lo : Int)]) (by simp [results, Tryd.results26, go_sem]) rfl ⟨hi, lo, isProd_128 HP.out, rfl, rfl⟩

theorem cmp_any (U V a b c d : Nat) (hu : Hid (Is128 U a b)) (hv : Hid (Is128 V c d)) (w : World) :
    Calls Tryd.prog 28 #[.agg #[.int .u64 (a : Int), .int .u64 (b : Int)], .agg #[.int .u64 (c : Int), .int .u64 (d : Int)]] w fun e w' => e = .returned (.int .i64 (cmp3 (U : Int) (V : Int))) ∧
      w' = (w.alloc (.cells #[.int .u64 (a : Int), .int .u64 (b : Int)] 44)).alloc (.cells #[.int .u64 (c : Int), .int .u64 (d : Int)] 44) := by
  by_cases h : a = c
  · subst h
    have e := cmp_lo hu.out hv.out
    have E : Hid (cmp3 (b : Int) (d : Int) = cmp3 (U : Int) (V : Int)) := e
    have z : cmp3 (a : Int) (a : Int) = 0 := cmp3_eq rfl
    clear e
    go_enter Tryd.func28, Tryd.ntmps28
    go_wp2_with (go_at_call 32; refine (compareU_any _ _ _).mono ?_; rintro e w' ⟨rfl, rfl⟩)
    go_ret
    exact ⟨ret_i64 E.out, rfl⟩
  · obtain ⟨e, hne⟩ := cmp_hi hu.out hv.out h
    have E : Hid (cmp3 (a : Int) (c : Int) = cmp3 (U : Int) (V : Int)) := e
    have z : (cmp3 (a : Int) (c : Int) != 0) = true := by simpa using hne
    clear e hne
    go_enter Tryd.func28, Tryd.ntmps28
    go_wp2_with (go_at_call 32; refine (compareU_any _ _ _).mono ?_; rintro e w' ⟨rfl, rfl⟩)
    go_ret
    exact ⟨ret_i64 E.out, rfl⟩

theorem zzCmp128_any (U V a b c d : Nat) (hu : Hid (Is128 U a b)) (hv : Hid (Is128 V c d)) (w : World) :
    Calls Tryd.prog 15 #[.int .u64 (a : Int), .int .u64 (b : Int), .int .u64 (c : Int), .int .u64 (d : Int)] w fun e w' => e = .returned (.int .i64 (cmp3 (U : Int) (V : Int))) ∧ w' = w := by
  by_cases h : a = c
  · subst h
    have e := cmp_lo hu.out hv.out
    have E : Hid (cmp3 (b : Int) (d : Int) = cmp3 (U : Int) (V : Int)) := e
    have z : cmp3 (a : Int) (a : Int) = 0 := cmp3_eq rfl
    clear e
    go_enter Tryd.func15, Tryd.ntmps15
    go_wp2_with (go_at_call 20; refine (zzCmpU_any _ _ _).mono ?_; rintro e w' ⟨rfl, rfl⟩)
    go_ret
    exact ⟨ret_i64 E.out, rfl⟩
  · obtain ⟨e, hne⟩ := cmp_hi hu.out hv.out h
    have E : Hid (cmp3 (a : Int) (c : Int) = cmp3 (U : Int) (V : Int)) := e
    have z : (cmp3 (a : Int) (c : Int) != 0) = true := by simpa using hne
    clear e hne
    go_enter Tryd.func15, Tryd.ntmps15
    go_wp2_with (go_at_call 20; refine (zzCmpU_any _ _ _).mono ?_; rintro e w' ⟨rfl, rfl⟩)
    go_ret
    exact ⟨ret_i64 E.out, rfl⟩
end Go.Proofs.Qxb6003404aDoor
