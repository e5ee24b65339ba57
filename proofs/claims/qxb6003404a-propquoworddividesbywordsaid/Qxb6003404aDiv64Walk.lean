/-
  THE WALK of math/bits.Div64 (68) for a divisor whose top bit is set, and Div (52).
-/
import Derived.Test.Qxb6003404aDivWalk
import Derived.Test.Qxb6003404aDivPlain
import Derived.Deep.QuietTactic
import Derived.BigQuiet
import Derived.Deep.LoopGhost
import Derived.Deep.CutBlock
import Derived.Deep.DeepCutAuto
namespace Go.Proofs.Qxb6003404a
open Go.RowKit

theorem ret2_u64 {a b c d : Int} (h1 : a = b) (h2 : c = d) : Ending.returned (.tuple #[.int .u64 a, .int .u64 c]) = .returned (.tuple #[.int .u64 b, .int .u64 d]) := by rw [h1, h2]

/-- What is left behind the first digit, as the walk spells it. -/
theorem left_wrap (hi l1 q1 y u : Nat) (h1 : q1 * y ≤ hi * 4294967296 + l1) (hu : u = hi * 4294967296 + l1 - q1 * y) (hlt : u < 18446744073709551616) :
    IntKind.u64.wrap (IntKind.u64.wrap (IntKind.u64.wrap ((hi : Int) * 4294967296) + (l1 : Int)) - IntKind.u64.wrap ((q1 : Int) * (y : Int))) = (u : Int) := by
  have e : ((q1 : Int) * (y : Int)) = ((q1 * y : Nat) : Int) := (Int.natCast_mul q1 y).symm
  rw [e]
  simp only [IntKind.wrap_u64]
  omega

theorem div_rules (a y1 : Nat) : (a : Int) / (y1 : Int) = ((a / y1 : Nat) : Int) ∧ ((a / y1 : Nat) : Int) * (y1 : Int) = ((a / y1 * y1 : Nat) : Int) ∧ a / y1 * y1 ≤ a ∧ a / y1 ≤ a :=
  ⟨(Int.natCast_ediv a y1).symm, (Int.natCast_mul _ _).symm, Nat.div_mul_le_self a y1, Nat.div_le_self a y1⟩

set_option maxRecDepth 20000 in
set_option maxHeartbeats 1000000 in
theorem div64_core (hi lo y y1 y0 l1 l0 qa ma : Nat) (h0 : 1 ≤ hi) (hhi : hi < y) (hlo : lo < 18446744073709551616) (hy0 : 9223372036854775808 ≤ y) (hy : y < 18446744073709551616)
    (b1 : bits .and .u64 (y : Int) 4294967295 = (y0 : Int)) (b2 : bits .and .u64 (lo : Int) 4294967295 = (l0 : Int)) (b3 : bits .or .u64 (hi : Int) ((lo : Int) / 18446744073709551616) = (hi : Int))
    (d1 : (y : Int) / 4294967296 = (y1 : Int)) (d2 : (lo : Int) / 4294967296 = (l1 : Int)) (dq : (hi : Int) / (y1 : Int) = (qa : Int)) (mq : (qa : Int) * (y1 : Int) = (ma : Int)) (hma : ma ≤ hi) (hqa : qa ≤ hi)
    (by1 : 2147483648 ≤ y1) (by2 : y1 < 4294967296) (by0 : y0 < 4294967296) (bl1 : l1 < 4294967296) (bl0 : l0 < 4294967296)
    (HI : Hid (Kn.Inv hi l1 y1 y0 qa (hi - ma))) (HY : Hid (y1 * 4294967296 + y0 = y)) (w : World) :
    Calls Try.prog 68 #[.int .u64 (hi : Int), .int .u64 (lo : Int), .int .u64 (y : Int)] w fun e w' =>
      (∃ q1 q0 u r : Nat, Hid (Kn.IsQ hi l1 y1 y0 q1) ∧ Hid (u = hi * 4294967296 + l1 - q1 * y) ∧ Hid (Kn.IsQ u l0 y1 y0 q0) ∧ Hid (r = u * 4294967296 + l0 - q0 * y) ∧ e = .returned (.tuple #[.int .u64 ((q1 : Int) * 4294967296 + (q0 : Int)), .int .u64 (r : Int)])) ∧ w' = w := by
  go_enter Try.func68, Try.ntmps68
  go_upto_block 0 with (go_at_call 89; refine (lz64_top y hy0 hy _).mono ?_; rintro e w' ⟨rfl, rfl⟩)
  go_cut [15, 16] (fun sq _sr wx => ∃ q : Nat, sq = .int .u64 (q : Int) ∧ q < 4294967296 ∧ Hid (Kn.IsQ hi l1 y1 y0 q) ∧ wx = w')
  case first =>
    have hun : hi < y1 * 4294967296 + y0 := by rw [HY.out]; exact hhi
    have hul := bl1
    clear b1 b2 b3 d1 d2 dq mq
    go_wp2
    go_loop [15, 16] (fun sq sr => ∃ q r : Nat, sq = .int .u64 (q : Int) ∧ sr = .int .u64 (r : Int) ∧ r < 4294967296 ∧ q ≤ 4294967297 ∧ Hid (Kn.Inv hi l1 y1 y0 q r)) (fun sq _ => (intOf sq).toNat)
    case atStart => exact ⟨_, _, rfl, by go_num, HI.out.2.1, HI.out.2.2.2, HI⟩
    case round =>
      obtain ⟨q, r, rfl, rfl, hr, hq, HV⟩ := hrel
      by_cases c1 : (4294967296 : Int) ≤ (q : Int)
      · obtain ⟨s1, s2, s3, s4⟩ := Kn.step HV.out hun hul (.inl (by omega))
        have S : Hid ((q - 1) * y1 + (r + y1) = hi ∧ hi * 4294967296 + l1 < (q - 1 + 1) * (y1 * 4294967296 + y0) ∧ q - 1 ≤ 4294967296) := ⟨s2, s3, s4⟩
        clear s2 s3 s4 HV
        by_cases c2 : (4294967296 : Int) ≤ (r : Int) + (y1 : Int)
        · go_wp2
          go_meet
          case rel => exact ⟨q - 1, by go_num, Kn.IsQ.lt (Kn.broke S.out.1 S.out.2.1 S.out.2.2 by0 (by omega)) hun hul, Kn.broke S.out.1 S.out.2.1 S.out.2.2 by0 (by omega), rfl⟩
        · go_wp2
          go_round
          case rel => exact ⟨q - 1, r + y1, by go_num, by go_num, by omega, by omega, ⟨S.out.1, by omega, S.out.2.1, by have := S.out.2.2; omega⟩⟩
          case measure => simp [intOf]; omega
      · have hm : q * y0 ≤ 4294967295 * 4294967295 := Nat.mul_le_mul (by omega) (by omega)
        obtain ⟨t, ht⟩ : ∃ t, q * y0 = t := ⟨_, rfl⟩
        rw [ht] at hm
        have ht' : (q : Int) * (y0 : Int) = (t : Int) := by rw [← ht]; exact (Int.natCast_mul q y0).symm
        by_cases c3 : (4294967296 : Int) * (r : Int) + (l1 : Int) < (t : Int)
        · obtain ⟨s1, s2, s3, s4⟩ := Kn.step HV.out hun hul (.inr (by rw [ht]; omega))
          have S : Hid ((q - 1) * y1 + (r + y1) = hi ∧ hi * 4294967296 + l1 < (q - 1 + 1) * (y1 * 4294967296 + y0) ∧ q - 1 ≤ 4294967296) := ⟨s2, s3, s4⟩
          clear s2 s3 s4 HV ht
          by_cases c2 : (4294967296 : Int) ≤ (r : Int) + (y1 : Int)
          · go_wp2
            go_meet
            case rel => exact ⟨q - 1, by go_num, Kn.IsQ.lt (Kn.broke S.out.1 S.out.2.1 S.out.2.2 by0 (by omega)) hun hul, Kn.broke S.out.1 S.out.2.1 S.out.2.2 by0 (by omega), rfl⟩
          · go_wp2
            go_round
            case rel => exact ⟨q - 1, r + y1, by go_num, by go_num, by omega, by omega, ⟨S.out.1, by omega, S.out.2.1, by have := S.out.2.2; omega⟩⟩
            case measure => simp [intOf]; omega
        · have HD : Hid (Kn.IsQ hi l1 y1 y0 q) := Kn.done HV.out (by omega)
          clear HV ht
          go_wp2
          go_meet
          case rel => exact ⟨q, rfl, by omega, HD, rfl⟩
  case rest =>
    obtain ⟨q1, hs, hq1, HQ, rfl⟩ := hcut
    subst hs
    clear HI dq mq hma hqa
    have hq : q1 * y ≤ hi * 4294967296 + l1 := by have := HQ.out.1; rw [HY.out] at this; exact this
    have hq' : hi * 4294967296 + l1 < (q1 + 1) * y := by have := HQ.out.2; rw [HY.out] at this; exact this
    obtain ⟨u, hu⟩ : ∃ u, u = hi * 4294967296 + l1 - q1 * y := ⟨_, rfl⟩
    have huy : u < y := by rw [Nat.add_mul, Nat.one_mul] at hq'; omega
    have ru := left_wrap hi l1 q1 y u hq hu (by omega)
    have HU : Hid (u = hi * 4294967296 + l1 - q1 * y) := hu
    have hun : u < y1 * 4294967296 + y0 := by rw [HY.out]; exact huy
    have HJ : Hid (Kn.Inv u l0 y1 y0 (u / y1) (u - u / y1 * y1)) := Kn.start by1 by2 by0 hun bl0
    obtain ⟨dq, mq, hma, hqa⟩ := div_rules u y1
    clear hu hq hq'
    obtain ⟨qb, hqb⟩ : ∃ qb, u / y1 = qb := ⟨_, rfl⟩
    rw [hqb] at dq mq hma hqa HJ
    obtain ⟨mb, hmb⟩ : ∃ mb, qb * y1 = mb := ⟨_, rfl⟩
    rw [hmb] at mq hma HJ
    clear hqb hmb
    go_upto_block 2 with fail
    go_cut [18, 16] (fun sq _sr wx => ∃ q : Nat, sq = .int .u64 (q : Int) ∧ q < 4294967296 ∧ Hid (Kn.IsQ u l0 y1 y0 q) ∧ wx = wc)
    case first =>
      have hul := bl0
      clear b1 b2 b3 d1 d2 dq mq ru
      go_wp2
      go_loop [18, 16] (fun sq sr => ∃ q r : Nat, sq = .int .u64 (q : Int) ∧ sr = .int .u64 (r : Int) ∧ r < 4294967296 ∧ q ≤ 4294967297 ∧ Hid (Kn.Inv u l0 y1 y0 q r)) (fun sq _ => (intOf sq).toNat)
      case atStart => exact ⟨_, _, rfl, by go_num, HJ.out.2.1, HJ.out.2.2.2, HJ⟩
      case round =>
        obtain ⟨q, r, rfl, rfl, hr, hq, HV⟩ := hrel
        by_cases c1 : (4294967296 : Int) ≤ (q : Int)
        · obtain ⟨s1, s2, s3, s4⟩ := Kn.step HV.out hun hul (.inl (by omega))
          have S : Hid ((q - 1) * y1 + (r + y1) = u ∧ u * 4294967296 + l0 < (q - 1 + 1) * (y1 * 4294967296 + y0) ∧ q - 1 ≤ 4294967296) := ⟨s2, s3, s4⟩
          clear s2 s3 s4 HV
          by_cases c2 : (4294967296 : Int) ≤ (r : Int) + (y1 : Int)
          · go_wp2
            go_meet
            case rel => exact ⟨q - 1, by go_num, Kn.IsQ.lt (Kn.broke S.out.1 S.out.2.1 S.out.2.2 by0 (by omega)) hun hul, Kn.broke S.out.1 S.out.2.1 S.out.2.2 by0 (by omega), rfl⟩
          · go_wp2
            go_round
            case rel => exact ⟨q - 1, r + y1, by go_num, by go_num, by omega, by omega, ⟨S.out.1, by omega, S.out.2.1, by have := S.out.2.2; omega⟩⟩
            case measure => simp [intOf]; omega
        · have hm : q * y0 ≤ 4294967295 * 4294967295 := Nat.mul_le_mul (by omega) (by omega)
          obtain ⟨t, ht⟩ : ∃ t, q * y0 = t := ⟨_, rfl⟩
          rw [ht] at hm
          have ht' : (q : Int) * (y0 : Int) = (t : Int) := by rw [← ht]; exact (Int.natCast_mul q y0).symm
          by_cases c3 : (4294967296 : Int) * (r : Int) + (l0 : Int) < (t : Int)
          · obtain ⟨s1, s2, s3, s4⟩ := Kn.step HV.out hun hul (.inr (by rw [ht]; omega))
            have S : Hid ((q - 1) * y1 + (r + y1) = u ∧ u * 4294967296 + l0 < (q - 1 + 1) * (y1 * 4294967296 + y0) ∧ q - 1 ≤ 4294967296) := ⟨s2, s3, s4⟩
            clear s2 s3 s4 HV ht
            by_cases c2 : (4294967296 : Int) ≤ (r : Int) + (y1 : Int)
            · go_wp2
              go_meet
              case rel => exact ⟨q - 1, by go_num, Kn.IsQ.lt (Kn.broke S.out.1 S.out.2.1 S.out.2.2 by0 (by omega)) hun hul, Kn.broke S.out.1 S.out.2.1 S.out.2.2 by0 (by omega), rfl⟩
            · go_wp2
              go_round
              case rel => exact ⟨q - 1, r + y1, by go_num, by go_num, by omega, by omega, ⟨S.out.1, by omega, S.out.2.1, by have := S.out.2.2; omega⟩⟩
              case measure => simp [intOf]; omega
          · have HD : Hid (Kn.IsQ u l0 y1 y0 q) := Kn.done HV.out (by omega)
            clear HV ht
            go_wp2
            go_meet
            case rel => exact ⟨q, rfl, by omega, HD, rfl⟩
    case rest =>
      obtain ⟨q0, hs, hq0, HQ0, rfl⟩ := hcut
      subst hs
      clear HJ dq mq hma hqa
      go_wp2
      go_ret2
      have k1 : q0 * y ≤ u * 4294967296 + l0 := by have := HQ0.out.1; rw [HY.out] at this; exact this
      have k2 : u * 4294967296 + l0 < (q0 + 1) * y := by have := HQ0.out.2; rw [HY.out] at this; exact this
      rw [Nat.add_mul, Nat.one_mul] at k2
      exact ⟨⟨q1, q0, u, _, HQ, HU, HQ0, rfl, ret2_u64 rfl (left_wrap u l0 q0 y _ k1 rfl (by omega))⟩, rfl⟩

/-- bits.Div64 at a divisor whose top bit is set, the high word not zero. -/
theorem div64_big (hi lo y : Nat) (h0 : 1 ≤ hi) (hhi : hi < y) (hlo : lo < 18446744073709551616) (hy0 : 9223372036854775808 ≤ y) (hy : y < 18446744073709551616) (w : World) :
    Calls Try.prog 68 #[.int .u64 (hi : Int), .int .u64 (lo : Int), .int .u64 (y : Int)] w fun e w' =>
      (∃ q r : Nat, q * y + r = hi * 18446744073709551616 + lo ∧ r < y ∧ e = .returned (.tuple #[.int .u64 (q : Int), .int .u64 (r : Int)])) ∧ w' = w := by
  obtain ⟨dq, mq, hma, hqa⟩ := div_rules hi (y / 4294967296)
  have b3 : bits .or .u64 (hi : Int) ((lo : Int) / 18446744073709551616) = (hi : Int) := by
    have e : (lo : Int) / 18446744073709551616 = 0 := by omega
    rw [e]
    have := bits_or_u64_nat hi 0 (by omega) (by omega)
    simpa using this
  have hY : y / 4294967296 * 4294967296 + y % 4294967296 = y := by omega
  refine (div64_core hi lo y (y / 4294967296) (y % 4294967296) (lo / 4294967296) (lo % 4294967296) _ _ h0 hhi hlo hy0 hy (Mul.maskN y hy) (Mul.maskN lo hlo) b3 (Mul.divN y) (Mul.divN lo) dq mq hma hqa
    (by omega) (by omega) (by omega) (by omega) (by omega) (Kn.start (by omega) (by omega) (by omega) (by omega) (by omega)) hY w).mono ?_
  rintro e w' ⟨⟨q1, q0, u, r, HQ, HU, HQ0, HR, rfl⟩, rfl⟩
  obtain ⟨a1, _⟩ := HQ.out
  obtain ⟨c1, c2⟩ := HQ0.out
  rw [hY] at a1 c1 c2
  rw [Nat.add_mul, Nat.one_mul] at c2
  have hr := HR.out
  exact ⟨⟨q1 * 4294967296 + q0, r, Kn.whole a1 c1 HU.out hr, by omega, ret2_u64 (by omega) rfl⟩, rfl⟩

set_option maxRecDepth 20000 in
/-- The high word is zero: Go divides at once. -/
theorem div64_zero (lo y : Nat) (hlo : lo < 18446744073709551616) (hy1 : (1 : Int) ≤ (y : Int)) (w : World) :
    Calls Try.prog 68 #[.int .u64 0, .int .u64 (lo : Int), .int .u64 (y : Int)] w fun e w' =>
      (∃ q r : Nat, Hid (q * y + r = lo ∧ r < y) ∧ e = .returned (.tuple #[.int .u64 (q : Int), .int .u64 (r : Int)])) ∧ ∃ n, w' = w.drewN n := by
  have hb : ((y : Int) == 0) = false := beq_false_of_ne (by omega)
  have hd : decide ((y : Int) ≤ 0) = false := decide_eq_false (by omega)
  have hq : lo / y ≤ lo := Nat.div_le_self _ _
  have HR : Hid (lo / y * y + lo % y = lo ∧ lo % y < y) := ⟨Nat.div_add_mod' lo y, Nat.mod_lt _ (by omega)⟩
  have hr : lo % y ≤ lo := Nat.mod_le _ _
  have dq : (lo : Int) / (y : Int) = ((lo / y : Nat) : Int) := (Int.natCast_ediv lo y).symm
  have dr : (lo : Int) % (y : Int) = ((lo % y : Nat) : Int) := (Int.natCast_emod lo y).symm
  obtain ⟨q, eq⟩ : ∃ q, lo / y = q := ⟨_, rfl⟩
  obtain ⟨r, er⟩ : ∃ r, lo % y = r := ⟨_, rfl⟩
  rw [eq] at hq HR dq
  rw [er] at hr HR dr
  clear eq er
  go_enter Try.func68, Try.ntmps68
  go_wp2
  go_quiet (fail)
  go_wp2
  go_ret2
  exact ⟨⟨q, r, HR, ret2_u64 rfl dr⟩, nq, rfl⟩

/-- bits.Div64, then bits.Div, at a divisor whose top bit is set. -/
theorem div64_top (hi lo y : Nat) (hhi : hi < y) (hlo : lo < 18446744073709551616) (hy0 : 9223372036854775808 ≤ y) (hy : y < 18446744073709551616) (w : World) :
    Calls Try.prog 68 #[.int .u64 (hi : Int), .int .u64 (lo : Int), .int .u64 (y : Int)] w fun e w' =>
      (∃ q r : Nat, Hid (q * y + r = hi * 18446744073709551616 + lo ∧ r < y) ∧ e = .returned (.tuple #[.int .u64 (q : Int), .int .u64 (r : Int)])) ∧ ∃ n, w' = w.drewN n := by
  by_cases h : hi = 0
  · subst h
    refine (div64_zero lo y hlo (by omega) w).mono ?_
    rintro e w' ⟨⟨q, r, hqr, he⟩, hw⟩
    exact ⟨⟨q, r, ⟨by have := hqr.out.1; omega, hqr.out.2⟩, he⟩, hw⟩
  · refine (div64_big hi lo y (by omega) hhi hlo hy0 hy w).mono ?_
    rintro e w' ⟨⟨q, r, h1, h2, he⟩, hw⟩
    exact ⟨⟨q, r, ⟨h1, h2⟩, he⟩, 0, hw⟩

theorem div_top (hi lo y : Nat) (hhi : hi < y) (hlo : lo < 18446744073709551616) (hy0 : 9223372036854775808 ≤ y) (hy : y < 18446744073709551616) (w : World) :
    Calls Try.prog 52 #[.int .u64 (hi : Int), .int .u64 (lo : Int), .int .u64 (y : Int)] w fun e w' =>
      (∃ q r : Nat, Hid (q * y + r = hi * 18446744073709551616 + lo ∧ r < y) ∧ e = .returned (.tuple #[.int .u64 (q : Int), .int .u64 (r : Int)])) ∧ ∃ n, w' = w.drewN n := by
  go_enter Try.func52, Try.ntmps52
  go_wp2_with (go_at_call 68; refine (div64_top hi lo y hhi hlo hy0 hy _).mono ?_; rintro e w' ⟨⟨q, r, hqr, rfl⟩, ⟨n, rfl⟩⟩)
  go_ret2
  exact ⟨⟨q, r, hqr, rfl⟩, n, rfl⟩
end Go.Proofs.Qxb6003404a
