/-
  THE WALKS of scaled (27), zzScale128 (14).
-/
import Derived.Test.Qxb6003404aDoorWideWalk
import Derived.Deep.LoopGhost
namespace Go.Proofs.Qxb6003404aDoor
open Go.RowKit

theorem add64_run0 (x y s co : Nat) (hx : x < 18446744073709551616) (hy : y < 18446744073709551616) (hs : Hid (IsSum x y 0 s co)) (w : World) :
    (callFunc 33 #[.int .u64 (x : Int), .int .u64 (y : Int), .int .u64 0]).run Tryd.prog w = .ok (.value (.tuple #[.int .u64 (s : Int), .int .u64 (co : Int)])) w :=
  add64_run x y 0 s co hx hy (by omega) hs w

/-- What the two products and the sum come to, ahead of the walk. -/
def Parts (hi lo p over mid carry lo2 s c : Nat) : Prop := IsProd lo p carry lo2 ∧ IsProd hi p over mid ∧ IsSum mid carry 0 s c

set_option maxHeartbeats 1000000 in
/-- The product fits. -/
theorem scaled_core_yes (V hi lo k p : Nat) (hV : Hid (Is128 V hi lo)) (hhi : hi < 18446744073709551616) (hlo : lo < 18446744073709551616) (hp : p < 18446744073709551616) (hk : k < 20) (hf : Hid (V * p < 340282366920938463463374607431768211456))
    (w : World) (h0 : 0 < w.heap.size) (ht : w.cell? ⟨0, k, none⟩ = some (.int .u64 (p : Int))) :
    Calls Tryd.prog 27 #[.agg #[.int .u64 (hi : Int), .int .u64 (lo : Int)], .int .i64 (k : Int)] w fun e w' => ∃ a b : Nat, Is128 (V * p) a b ∧ e = .returned (.tuple #[.agg #[.int .u64 (a : Int), .int .u64 (b : Int)], .bool true]) ∧
      w' = (w.alloc (.cells #[.int .u64 (hi : Int), .int .u64 (lo : Int)] 44)).alloc (.cells #[.int .u64 (a : Int), .int .u64 (b : Int)] 44) := by
  go_enter Tryd.func27, Tryd.ntmps27
  go_wp2_with fail
  refine (mul64_any lo p hlo hp _).mono ?_
  rintro e w' ⟨⟨carry, lo2, hp1, rfl⟩, rfl⟩
  have P1 : Hid (IsProd lo p carry lo2) := hp1
  go_wp2_with fail
  refine (mul64_any hi p hhi hp _).mono ?_
  rintro e w' ⟨⟨over, mid, hp2, rfl⟩, rfl⟩
  have hcar : carry < 18446744073709551616 := hp1.1
  have hmid : mid < 18446744073709551616 := hp2.2.1
  obtain ⟨s, c, hs⟩ := isSum_ex mid carry 0 hmid hcar (by omega)
  have S : Hid (IsSum mid carry 0 s c) := hs
  obtain ⟨z1, z2, z3⟩ := scaled_fits hV.out hp1.2.2 hp2.2.2 hs.2.2 hs.1 hp1.2.1 hf.out
  have Z3 : Hid (Is128 (V * p) s lo2) := z3
  subst z1
  subst z2
  clear hp1 hp2 hs z3
  go_wp2_with (simp only [add64_run0 mid carry s 0 hmid hcar S])
  exact bodyPost_ret (v := .tuple #[.agg #[.int .u64 (s : Int), .int .u64 (lo2 : Int)], .bool true]) (by simp [results, Tryd.results27, go_sem]) rfl ⟨s, lo2, Z3.out, rfl, rfl⟩

set_option maxHeartbeats 1000000 in
/-- It does not. -/
theorem scaled_core_no (V hi lo k p : Nat) (hV : Hid (Is128 V hi lo)) (hhi : hi < 18446744073709551616) (hlo : lo < 18446744073709551616) (hp : p < 18446744073709551616) (hk : k < 20) (hf : Hid (340282366920938463463374607431768211456 ≤ V * p))
    (w : World) (h0 : 0 < w.heap.size) (ht : w.cell? ⟨0, k, none⟩ = some (.int .u64 (p : Int))) :
    Calls Tryd.prog 27 #[.agg #[.int .u64 (hi : Int), .int .u64 (lo : Int)], .int .i64 (k : Int)] w fun e w' => ∃ a b : Nat, e = .returned (.tuple #[.agg #[.int .u64 (a : Int), .int .u64 (b : Int)], .bool false]) ∧
      ∃ n, w' = ((w.alloc (.cells #[.int .u64 (hi : Int), .int .u64 (lo : Int)] 44)).alloc (.cells #[.int .u64 (a : Int), .int .u64 (b : Int)] 44)).drewN n := by
  go_enter Tryd.func27, Tryd.ntmps27
  go_wp2_with fail
  refine (mul64_any lo p hlo hp _).mono ?_
  rintro e w' ⟨⟨carry, lo2, hp1, rfl⟩, rfl⟩
  go_wp2_with fail
  refine (mul64_any hi p hhi hp _).mono ?_
  rintro e w' ⟨⟨over, mid, hp2, rfl⟩, rfl⟩
  have hcar : carry < 18446744073709551616 := hp1.1
  have hmid : mid < 18446744073709551616 := hp2.2.1
  obtain ⟨s, c, hs⟩ := isSum_ex mid carry 0 hmid hcar (by omega)
  have S : Hid (IsSum mid carry 0 s c) := hs
  have z := scaled_over hV.out hp1.2.2 hp2.2.2 hs.2.2 hs.1 hp1.2.1 hf.out
  clear hp1 hp2 hs
  by_cases ho : over = 0
  · have hc : ((c : Int) == 0) = false := beq_false_of_ne (by omega)
    subst ho
    clear z
    go_wp2_with (simp only [add64_run0 mid carry s c hmid hcar S])
    exact bodyPost_ret (v := .tuple #[.agg #[.int .u64 (s : Int), .int .u64 (lo2 : Int)], .bool false]) (by simp [results, Tryd.results27, go_sem]) rfl ⟨s, lo2, rfl, 0, rfl⟩
  · have hoo : ((over : Int) == 0) = false := beq_false_of_ne (by omega)
    clear z ho
    go_wp2_with (simp only [add64_run0 mid carry s c hmid hcar S])
    exact bodyPost_ret (v := .tuple #[.agg #[.int .u64 (s : Int), .int .u64 (lo2 : Int)], .bool false]) (by simp [results, Tryd.results27, go_sem]) rfl ⟨s, lo2, rfl, 0, rfl⟩

set_option maxHeartbeats 1000000 in
/-- The power is not in the table, and the number is not zero. -/
theorem scaled_core_big (hi lo k : Nat) (hz : ¬ (hi = 0 ∧ lo = 0)) (hk : (20 : Int) ≤ (k : Int)) (w : World) :
    Calls Tryd.prog 27 #[.agg #[.int .u64 (hi : Int), .int .u64 (lo : Int)], .int .i64 (k : Int)] w fun e w' => ∃ a b : Nat, e = .returned (.tuple #[.agg #[.int .u64 (a : Int), .int .u64 (b : Int)], .bool false]) ∧
      ∃ n, w' = ((w.alloc (.cells #[.int .u64 (hi : Int), .int .u64 (lo : Int)] 44)).alloc (.cells #[.int .u64 (a : Int), .int .u64 (b : Int)] 44)).drewN n := by
  by_cases hh : hi = 0
  · have hl : ((lo : Int) == 0) = false := beq_false_of_ne (by omega)
    subst hh
    clear hz
    go_enter Tryd.func27, Tryd.ntmps27
    go_wp2
    go_region
    all_goals go_wp2
    all_goals exact bodyPost_ret (v := .tuple #[.agg #[.int .u64 0, .int .u64 0], .bool false]) (by simp [results, Tryd.results27, go_sem]) rfl ⟨0, 0, rfl, 1, rfl⟩
  · have hl : ((hi : Int) == 0) = false := beq_false_of_ne (by omega)
    clear hz hh
    go_enter Tryd.func27, Tryd.ntmps27
    go_wp2
    go_region
    all_goals go_wp2
    all_goals exact bodyPost_ret (v := .tuple #[.agg #[.int .u64 0, .int .u64 0], .bool false]) (by simp [results, Tryd.results27, go_sem]) rfl ⟨0, 0, rfl, 1, rfl⟩

/-- The table's power, wherever new blocks have been laid. -/
theorem Pow10At.pos {w : World} (h : Pow10At w) : 0 < w.heap.size := World.block_lt_of_cell? _ _ (h 0 (by omega))
theorem Pow10At.alloc {w : World} (h : Pow10At w) (o : Obj) : Pow10At (w.alloc o) := fun i hi => (World.cell?_alloc_lt _ _ _ h.pos).trans (h i hi)
theorem Pow10At.drewN {w : World} (h : Pow10At w) (n : Nat) : Pow10At (w.drewN n) := h

/-- scaled, where the product fits two words. -/
theorem scaled_yes (V hi lo K : Nat) (k : Int) (hV : Hid (Is128 V hi lo)) (hk : Hid (k = (K : Int))) (h20 : K < 20) (hf : Hid (V * 10 ^ K < 340282366920938463463374607431768211456)) (w : World) (ht : Pow10At w) :
    Calls Tryd.prog 27 #[.agg #[.int .u64 (hi : Int), .int .u64 (lo : Int)], .int .i64 k] w fun e w' => ∃ a b : Nat, Is128 (V * 10 ^ K) a b ∧ e = .returned (.tuple #[.agg #[.int .u64 (a : Int), .int .u64 (b : Int)], .bool true]) ∧
      w' = (w.alloc (.cells #[.int .u64 (hi : Int), .int .u64 (lo : Int)] 44)).alloc (.cells #[.int .u64 (a : Int), .int .u64 (b : Int)] 44) := by
  rw [hk.out]
  exact scaled_core_yes V hi lo K (10 ^ K) hV hV.out.1 hV.out.2.1 (pow_lt h20) h20 hf w ht.pos (ht K h20)

/-- scaled, where it does not. -/
theorem scaled_no (V hi lo K : Nat) (k : Int) (hV : Hid (Is128 V hi lo)) (hV1 : 1 ≤ V) (hk : Hid (k = (K : Int))) (hf : Hid (20 ≤ K ∨ 340282366920938463463374607431768211456 ≤ V * 10 ^ K)) (w : World) (ht : Pow10At w) :
    Calls Tryd.prog 27 #[.agg #[.int .u64 (hi : Int), .int .u64 (lo : Int)], .int .i64 k] w fun e w' => ∃ a b : Nat, e = .returned (.tuple #[.agg #[.int .u64 (a : Int), .int .u64 (b : Int)], .bool false]) ∧
      ∃ n, w' = ((w.alloc (.cells #[.int .u64 (hi : Int), .int .u64 (lo : Int)] 44)).alloc (.cells #[.int .u64 (a : Int), .int .u64 (b : Int)] 44)).drewN n := by
  rw [hk.out]
  by_cases h20 : K < 20
  · exact scaled_core_no V hi lo K (10 ^ K) hV hV.out.1 hV.out.2.1 (pow_lt h20) h20 (hf.out.resolve_left (by omega)) w ht.pos (ht K h20)
  · refine scaled_core_big hi lo K ?_ (by omega) w
    rintro ⟨rfl, rfl⟩
    have := hV.out.2.2
    omega

theorem zzMul64_10 (x : Nat) (hx : x < 18446744073709551616) (w : World) :
    Calls Tryd.prog 12 #[.int .u64 (x : Int), .int .u64 10] w fun e w' => (∃ hi lo : Nat, IsProd x 10 hi lo ∧ e = .returned (.tuple #[.int .u64 (hi : Int), .int .u64 (lo : Int)])) ∧ w' = w :=
  zzMul64_any x 10 hx (by omega) w

set_option maxHeartbeats 1000000 in
/-- The law's own scaling: yes. -/
theorem zzScale_yes (V hi lo K : Nat) (hV : Hid (Is128 V hi lo)) (hK : K < 20) (hf : Hid (V * 10 ^ K < 340282366920938463463374607431768211456)) (w : World) :
    Calls Tryd.prog 14 #[.int .u64 (hi : Int), .int .u64 (lo : Int), .int .i64 (K : Int)] w fun e w' => (∃ a b : Nat, Is128 (V * 10 ^ K) a b ∧ e = .returned (.tuple #[.int .u64 (a : Int), .int .u64 (b : Int), .bool true])) ∧ w' = w := by
  go_enter Tryd.func14, Tryd.ntmps14
  go_wp2
  go_loopg [0, 1, 9] K (fun gg sh sl si wx => ∃ j a b : Nat, wx = w ∧ j + gg = K ∧ si = .int .i64 (j : Int) ∧ sh = .int .u64 (a : Int) ∧ sl = .int .u64 (b : Int) ∧ Hid (Is128 (V * 10 ^ j) a b))
  case atStart => exact ⟨0, hi, lo, rfl, Nat.zero_add _, rfl, rfl, rfl, (show Is128 _ _ _ by simpa using hV.out)⟩
  case round =>
    obtain ⟨j, a, b, hwx, hj, rfl, rfl, rfl, HI⟩ := hrel
    subst hwx
    have HJ : Hid (j + gk = K) := hj
    have hjK : j ≤ K := by omega
    clear hj
    by_cases hlt : j < K
    · have hfit : V * 10 ^ j * 10 < 340282366920938463463374607431768211456 := Nat.lt_of_le_of_lt (pow_mono hlt) hf.out
      have ha := HI.out.1
      have hb := HI.out.2.1
      have HF : Hid (V * 10 ^ j * 10 < 340282366920938463463374607431768211456) := hfit
      clear hfit
      go_wp2_with fail
      refine (zzMul64_10 b hb _).mono ?_
      rintro e w' ⟨⟨h1, l1, p1, rfl⟩, hw'⟩
      subst hw'
      go_wp2_with fail
      refine (zzMul64_10 a ha _).mono ?_
      rintro e w' ⟨⟨h2, l2, p2, rfl⟩, hw'⟩
      subst hw'
      obtain ⟨z1, z2, z3⟩ := step_fits HI.out p1.2.2 p2.2.2 p1.2.1 p2.2.1 HF.out
      have Z : Hid (Is128 (V * 10 ^ (j + 1)) (l2 + h1) l1) := (show Is128 _ _ _ by rw [Nat.pow_succ, ← Nat.mul_assoc]; exact z3)
      subst z1
      clear p1 p2 z3 HI HF
      go_wp2
      go_roundg (gk - 1)
      case measure => have := HJ.out; omega
      case rel => exact ⟨j + 1, l2 + h1, l1, rfl, by have := HJ.out; omega, by go_num, by go_num, rfl, Z⟩
    · have hjk : j = K := by omega
      subst hjk
      go_wp2
      go_ret3
      exact ⟨⟨a, b, HI.out, rfl⟩, rfl⟩

set_option maxHeartbeats 1000000 in
/-- The law's own scaling: no. -/
theorem zzScale_no (V hi lo K : Nat) (hV : Hid (Is128 V hi lo)) (hK : K < 20) (hf : Hid (340282366920938463463374607431768211456 ≤ V * 10 ^ K)) (w : World) :
    Calls Tryd.prog 14 #[.int .u64 (hi : Int), .int .u64 (lo : Int), .int .i64 (K : Int)] w fun e w' => e = .returned (.tuple #[.int .u64 0, .int .u64 0, .bool false]) ∧ w' = w := by
  go_enter Tryd.func14, Tryd.ntmps14
  go_wp2
  go_loopg [0, 1, 9] K (fun gg sh sl si wx => ∃ j a b : Nat, wx = w ∧ j + gg = K ∧ si = .int .i64 (j : Int) ∧ sh = .int .u64 (a : Int) ∧ sl = .int .u64 (b : Int) ∧ Hid (Is128 (V * 10 ^ j) a b))
  case atStart => exact ⟨0, hi, lo, rfl, Nat.zero_add _, rfl, rfl, rfl, (show Is128 _ _ _ by simpa using hV.out)⟩
  case round =>
    obtain ⟨j, a, b, hwx, hj, rfl, rfl, rfl, HI⟩ := hrel
    subst hwx
    have HJ : Hid (j + gk = K) := hj
    have hjK : j ≤ K := by omega
    clear hj
    by_cases hlt : j < K
    · have ha := HI.out.1
      have hb := HI.out.2.1
      go_wp2_with fail
      refine (zzMul64_10 b hb _).mono ?_
      rintro e w' ⟨⟨h1, l1, p1, rfl⟩, hw'⟩
      subst hw'
      go_wp2_with fail
      refine (zzMul64_10 a ha _).mono ?_
      rintro e w' ⟨⟨h2, l2, p2, rfl⟩, hw'⟩
      subst hw'
      by_cases hfit : V * 10 ^ j * 10 < 340282366920938463463374607431768211456
      · obtain ⟨z1, z2, z3⟩ := step_fits HI.out p1.2.2 p2.2.2 p1.2.1 p2.2.1 hfit
        have Z : Hid (Is128 (V * 10 ^ (j + 1)) (l2 + h1) l1) := (show Is128 _ _ _ by rw [Nat.pow_succ, ← Nat.mul_assoc]; exact z3)
        subst z1
        clear p1 p2 z3 HI hfit
        go_wp2
        go_roundg (gk - 1)
        case measure => have := HJ.out; omega
        case rel => exact ⟨j + 1, l2 + h1, l1, rfl, by have := HJ.out; omega, by go_num, by go_num, rfl, Z⟩
      · have z := step_over HI.out p1.2.2 p2.2.2 p1.2.1 (Nat.le_of_not_lt hfit)
        have hl2 : l2 < 18446744073709551616 := p2.2.1
        clear p1 p2 HI hfit
        by_cases h20 : h2 = 0
        · subst h20
          obtain ⟨z1, z2⟩ := z.resolve_left (by omega)
          have hwl : IntKind.u64.wrap ((l2 : Int) + (h1 : Int)) < (l2 : Int) := by rw [IntKind.wrap_u64]; omega
          clear z z1
          go_wp2
          go_ret3
          exact ⟨rfl, rfl⟩
        · have hne : ((h2 : Int) != 0) = true := by simpa using h20
          clear z h20
          go_wp2
          go_ret3
          exact ⟨rfl, rfl⟩
    · exfalso
      have hjk : j = K := by omega
      subst hjk
      have := HI.out.lt
      have := hf.out
      omega
end Go.Proofs.Qxb6003404aDoor
