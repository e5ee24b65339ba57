/-
  THE WALKS of the comparing functions: cmp.Compare (22, 23, 32), zzCmpInt (11), zzCmpU (20), zzSign64 (10), abs64 (25), zzAbs64 (13).
-/
import Derived.Test.Qxb6003404aDoorMul
import Derived.Test.Qxb6003404aDoorCmpPlain
import Derived.Test.Qxb6003404aDoorDigWalk
namespace Go.Proofs.Qxb6003404aDoor
open Go.RowKit

theorem compare64_any (a b : Int) (w : World) :
    Calls Tryd.prog 22 #[.int .i64 a, .int .i64 b] w fun e w' => e = .returned (.int .i64 (cmp3 a b)) ∧ w' = w := by
  rcases Int.lt_trichotomy a b with h | h | h
  · rw [cmp3_lt h]; go_enter Tryd.func22, Tryd.ntmps22
    go_wp2
    go_ret
    exact ⟨rfl, rfl⟩
  · subst h; rw [cmp3_eq rfl]; go_enter Tryd.func22, Tryd.ntmps22
    go_wp2
    go_ret
    exact ⟨rfl, rfl⟩
  · rw [cmp3_gt h]; go_enter Tryd.func22, Tryd.ntmps22
    go_wp2
    go_ret
    exact ⟨rfl, rfl⟩

theorem compareInt_any (a b : Int) (w : World) :
    Calls Tryd.prog 23 #[.int .i64 a, .int .i64 b] w fun e w' => e = .returned (.int .i64 (cmp3 a b)) ∧ w' = w := by
  rcases Int.lt_trichotomy a b with h | h | h
  · rw [cmp3_lt h]; go_enter Tryd.func23, Tryd.ntmps23
    go_wp2
    go_ret
    exact ⟨rfl, rfl⟩
  · subst h; rw [cmp3_eq rfl]; go_enter Tryd.func23, Tryd.ntmps23
    go_wp2
    go_ret
    exact ⟨rfl, rfl⟩
  · rw [cmp3_gt h]; go_enter Tryd.func23, Tryd.ntmps23
    go_wp2
    go_ret
    exact ⟨rfl, rfl⟩

theorem compareU_any (a b : Int) (w : World) :
    Calls Tryd.prog 32 #[.int .u64 a, .int .u64 b] w fun e w' => e = .returned (.int .i64 (cmp3 a b)) ∧ w' = w := by
  rcases Int.lt_trichotomy a b with h | h | h
  · rw [cmp3_lt h]; go_enter Tryd.func32, Tryd.ntmps32
    go_wp2
    go_ret
    exact ⟨rfl, rfl⟩
  · subst h; rw [cmp3_eq rfl]; go_enter Tryd.func32, Tryd.ntmps32
    go_wp2
    go_ret
    exact ⟨rfl, rfl⟩
  · rw [cmp3_gt h]; go_enter Tryd.func32, Tryd.ntmps32
    go_wp2
    go_ret
    exact ⟨rfl, rfl⟩

theorem zzCmpInt_any (a b : Int) (w : World) :
    Calls Tryd.prog 11 #[.int .i64 a, .int .i64 b] w fun e w' => e = .returned (.int .i64 (cmp3 a b)) ∧ w' = w := by
  rcases Int.lt_trichotomy a b with h | h | h
  · rw [cmp3_lt h]; go_enter Tryd.func11, Tryd.ntmps11
    go_wp2
    go_ret
    exact ⟨rfl, rfl⟩
  · subst h; rw [cmp3_eq rfl]; go_enter Tryd.func11, Tryd.ntmps11
    go_wp2
    go_ret
    exact ⟨rfl, rfl⟩
  · rw [cmp3_gt h]; go_enter Tryd.func11, Tryd.ntmps11
    go_wp2
    go_ret
    exact ⟨rfl, rfl⟩

theorem zzCmpU_any (a b : Int) (w : World) :
    Calls Tryd.prog 20 #[.int .u64 a, .int .u64 b] w fun e w' => e = .returned (.int .i64 (cmp3 a b)) ∧ w' = w := by
  rcases Int.lt_trichotomy a b with h | h | h
  · rw [cmp3_lt h]; go_enter Tryd.func20, Tryd.ntmps20
    go_wp2
    go_ret
    exact ⟨rfl, rfl⟩
  · subst h; rw [cmp3_eq rfl]; go_enter Tryd.func20, Tryd.ntmps20
    go_wp2
    go_ret
    exact ⟨rfl, rfl⟩
  · rw [cmp3_gt h]; go_enter Tryd.func20, Tryd.ntmps20
    go_wp2
    go_ret
    exact ⟨rfl, rfl⟩

theorem zzSign64_any (a : Int) (w : World) :
    Calls Tryd.prog 10 #[.int .i64 a] w fun e w' => e = .returned (.int .i64 (cmp3 a 0)) ∧ w' = w := by
  rcases Int.lt_trichotomy a 0 with h | h | h
  · rw [cmp3_lt h]; go_enter Tryd.func10, Tryd.ntmps10
    go_wp2
    go_ret
    exact ⟨rfl, rfl⟩
  · subst h; rw [cmp3_eq rfl]; go_enter Tryd.func10, Tryd.ntmps10
    go_wp2
    go_ret
    exact ⟨rfl, rfl⟩
  · rw [cmp3_gt h]; go_enter Tryd.func10, Tryd.ntmps10
    go_wp2
    go_ret
    exact ⟨rfl, rfl⟩

theorem ret_u64 {a b : Int} (h : a = b) : Ending.returned (.int .u64 a) = .returned (.int .u64 b) := by rw [h]

theorem abs64_any (x : Int) (h0 : -9223372036854775808 ≤ x) (h1 : x ≤ 9223372036854775807) (w : World) :
    Calls Tryd.prog 25 #[.int .i64 x] w fun e w' => e = .returned (.int .u64 (x.natAbs : Int)) ∧ w' = w := by
  by_cases hx : x < 0
  · go_enter Tryd.func25, Tryd.ntmps25
    go_wp2
    go_ret
    refine ⟨ret_u64 ?_, rfl⟩
    simp only [IntKind.wrap_u64, wrap64]
    omega
  · go_enter Tryd.func25, Tryd.ntmps25
    go_wp2
    go_ret
    refine ⟨ret_u64 ?_, rfl⟩
    omega

theorem zzAbs64_any (x : Int) (h0 : -9223372036854775808 ≤ x) (h1 : x ≤ 9223372036854775807) (w : World) :
    Calls Tryd.prog 13 #[.int .i64 x] w fun e w' => e = .returned (.int .u64 (x.natAbs : Int)) ∧ w' = w := by
  by_cases hx : x < 0
  · go_enter Tryd.func13, Tryd.ntmps13
    go_wp2
    go_ret
    refine ⟨ret_u64 ?_, rfl⟩
    simp only [IntKind.wrap_u64]
    omega
  · go_enter Tryd.func13, Tryd.ntmps13
    go_wp2
    go_ret
    refine ⟨ret_u64 ?_, rfl⟩
    omega
end Go.Proofs.Qxb6003404aDoor
