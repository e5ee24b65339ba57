/-
  THE WALKS of addWords (40), ZZAddWords (24), subWords (42), ZZSubWords (26).
-/
import Derived.Test.Qxb6003404aArithPlain
import Derived.Test.Qxb6003404aCmpWalk
namespace Go.Proofs.Qxb6003404a
open Go.RowKit

set_option maxHeartbeats 1000000 in
theorem addWords_any (bz oz n cz m cap cap' : Nat) (a a' : Option Addr) (zs xs ys : List Nat) (hzl : Hid (zs.length = n)) (hx : Hid (xs.length = n)) (hy : Hid (ys.length = m)) (hwx : Hid (Words xs)) (hwy : Hid (Words ys)) (hn : n ≤ 9223372036854775806) (_hm : m ≤ 9223372036854775807)
    (w : World) (hz : Hid (RowAt w bz oz zs)) (hf : Hid (FreeAt w bz oz n)) (hu : Hid (Src w bz a xs)) (hv : Hid (Src w bz a' ys)) :
    Calls Try.prog 40 #[.slice (some ⟨bz, oz, none⟩) n cz, .slice a n cap, .slice a' m cap'] w fun e w' => ∃ (ds : List Nat) (c : Nat), AddInv xs ys ds n c ∧ c ≤ 1 ∧ e = .returned (.int .u64 (c : Int)) ∧ Out w w' bz oz ds := by
  go_enter Try.func40, Try.ntmps40
  go_wp2
  go_loopg [7, 13] n (fun gg sc si wx => ∃ (j c : Nat) (ds : List Nat), j + gg = n ∧ si = .int .i64 (j : Int) ∧ sc = .int .u64 (c : Int) ∧ c ≤ 1 ∧ Hid (AddInv xs ys ds j c) ∧ Hid (Out w wx bz oz ds))
  case atStart => exact ⟨0, 0, [], Nat.zero_add _, rfl, rfl, by omega, AddInv.start xs ys, Out.start w bz oz⟩
  case round =>
    obtain ⟨j, c, ds, hj, rfl, rfl, hc, HI, HO⟩ := hrel
    have HJ : Hid (j + gk = n) := hj
    have hjn : j ≤ n := by omega
    clear hj
    by_cases hlt : j < n
    · obtain ⟨bx, ox, rfl, hbx, hnx, hrx⟩ := (HO.out.2.src hu.out).at (j := j) (by rw [hx.out]; exact hlt)
      have hcx := hrx j (by rw [hx.out]; exact hlt)
      have hcz := HO.out.cell hz.out HI.out.1 (by rw [hzl.out]; exact hlt)
      have hfz : wr.frozen? ⟨bz, oz + j, none⟩ = false := HO.out.2.free hf.out j hlt
      have HO' : Hid (∀ v : Nat, Out w (wr.setCell ⟨bz, oz + j, none⟩ (.int .u64 (v : Int))) bz oz (ds ++ [v])) := fun v => HO.out.step hz.out HI.out.1 (by rw [hzl.out]; exact hlt)
      have HI' : Hid (∀ s co, IsSum (xs.getD j 0) (ys.getD j 0) c s co → AddInv xs ys (ds ++ [s]) (j + 1) co) := fun s co h => HI.out.step h
      have hxw := words_getD hwx.out j
      obtain ⟨x, hxe⟩ : ∃ x, xs.getD j 0 = x := ⟨_, rfl⟩
      rw [hxe] at hcx hxw HI'
      by_cases hjm : j < m
      · obtain ⟨by', oy, rfl, hby, hny, hry⟩ := (HO.out.2.src hv.out).at (j := j) (by rw [hy.out]; exact hjm)
        have hcy := hry j (by rw [hy.out]; exact hjm)
        have hyw := words_getD hwy.out j
        obtain ⟨y, hye⟩ : ∃ y, ys.getD j 0 = y := ⟨_, rfl⟩
        rw [hye] at hcy hyw HI'
        clear hrx hry hxe hye HO HI
        go_wp2_with (go_at_call 62; refine (add_any x y c hxw hyw hc _).mono ?_; rintro e w' ⟨⟨s, co, hs, rfl⟩, rfl⟩; have HS : Hid (IsSum x y c s co) := hs; clear hs)
        go_roundg (gk - 1)
        case measure => have := HJ.out; omega
        case rel => exact ⟨j + 1, co, ds ++ [s], by have := HJ.out; omega, by go_num, rfl, HS.out.2.1, HI'.out s co HS.out, HO'.out s⟩
      · have hye : ys.getD j 0 = 0 := getD_over ys j (by rw [hy.out]; omega)
        rw [hye] at HI'
        clear hrx hxe hye HO HI
        go_wp2_with (go_at_call 62; refine (add_any x 0 c hxw (by omega) hc _).mono ?_; rintro e w' ⟨⟨s, co, hs, rfl⟩, rfl⟩; have HS : Hid (IsSum x 0 c s co) := hs; clear hs)
        go_roundg (gk - 1)
        case measure => have := HJ.out; omega
        case rel => exact ⟨j + 1, co, ds ++ [s], by have := HJ.out; omega, by go_num, rfl, HS.out.2.1, HI'.out s co HS.out, HO'.out s⟩
    · have hjn' : j = n := by omega
      subst hjn'
      go_wp2
      go_ret
      exact ⟨ds, c, HI.out, hc, rfl, HO.out⟩

set_option maxHeartbeats 1000000 in
theorem subWords_any (bz oz n cz m cap cap' : Nat) (a a' : Option Addr) (zs xs ys : List Nat) (hzl : Hid (zs.length = n)) (hx : Hid (xs.length = n)) (hy : Hid (ys.length = m)) (hwx : Hid (Words xs)) (hwy : Hid (Words ys)) (hn : n ≤ 9223372036854775806) (_hm : m ≤ 9223372036854775807)
    (w : World) (hz : Hid (RowAt w bz oz zs)) (hf : Hid (FreeAt w bz oz n)) (hu : Hid (Src w bz a xs)) (hv : Hid (Src w bz a' ys)) :
    Calls Try.prog 42 #[.slice (some ⟨bz, oz, none⟩) n cz, .slice a n cap, .slice a' m cap'] w fun e w' => ∃ (ds : List Nat) (c : Nat), SubInv xs ys ds n c ∧ c ≤ 1 ∧ e = .returned (.tuple #[]) ∧ Out w w' bz oz ds := by
  go_enter Try.func42, Try.ntmps42
  go_wp2
  go_loopg [6, 12] n (fun gg sc si wx => ∃ (j c : Nat) (ds : List Nat), j + gg = n ∧ si = .int .i64 (j : Int) ∧ sc = .int .u64 (c : Int) ∧ c ≤ 1 ∧ Hid (SubInv xs ys ds j c) ∧ Hid (Out w wx bz oz ds))
  case atStart => exact ⟨0, 0, [], Nat.zero_add _, rfl, rfl, by omega, SubInv.start xs ys, Out.start w bz oz⟩
  case round =>
    obtain ⟨j, c, ds, hj, rfl, rfl, hc, HI, HO⟩ := hrel
    have HJ : Hid (j + gk = n) := hj
    have hjn : j ≤ n := by omega
    clear hj
    by_cases hlt : j < n
    · obtain ⟨bx, ox, rfl, hbx, hnx, hrx⟩ := (HO.out.2.src hu.out).at (j := j) (by rw [hx.out]; exact hlt)
      have hcx := hrx j (by rw [hx.out]; exact hlt)
      have hcz := HO.out.cell hz.out HI.out.1 (by rw [hzl.out]; exact hlt)
      have hfz : wr.frozen? ⟨bz, oz + j, none⟩ = false := HO.out.2.free hf.out j hlt
      have HO' : Hid (∀ v : Nat, Out w (wr.setCell ⟨bz, oz + j, none⟩ (.int .u64 (v : Int))) bz oz (ds ++ [v])) := fun v => HO.out.step hz.out HI.out.1 (by rw [hzl.out]; exact hlt)
      have HI' : Hid (∀ s co, IsDiff (xs.getD j 0) (ys.getD j 0) c s co → SubInv xs ys (ds ++ [s]) (j + 1) co) := fun s co h => HI.out.step h
      have hxw := words_getD hwx.out j
      obtain ⟨x, hxe⟩ : ∃ x, xs.getD j 0 = x := ⟨_, rfl⟩
      rw [hxe] at hcx hxw HI'
      by_cases hjm : j < m
      · obtain ⟨by', oy, rfl, hby, hny, hry⟩ := (HO.out.2.src hv.out).at (j := j) (by rw [hy.out]; exact hjm)
        have hcy := hry j (by rw [hy.out]; exact hjm)
        have hyw := words_getD hwy.out j
        obtain ⟨y, hye⟩ : ∃ y, ys.getD j 0 = y := ⟨_, rfl⟩
        rw [hye] at hcy hyw HI'
        clear hrx hry hxe hye HO HI
        go_wp2_with (go_at_call 63; refine (sub_any x y c hxw hyw hc _).mono ?_; rintro e w' ⟨⟨s, co, hs, rfl⟩, rfl⟩; have HS : Hid (IsDiff x y c s co) := hs; clear hs)
        go_roundg (gk - 1)
        case measure => have := HJ.out; omega
        case rel => exact ⟨j + 1, co, ds ++ [s], by have := HJ.out; omega, by go_num, rfl, HS.out.2.1, HI'.out s co HS.out, HO'.out s⟩
      · have hye : ys.getD j 0 = 0 := getD_over ys j (by rw [hy.out]; omega)
        rw [hye] at HI'
        clear hrx hxe hye HO HI
        go_wp2_with (go_at_call 63; refine (sub_any x 0 c hxw (by omega) hc _).mono ?_; rintro e w' ⟨⟨s, co, hs, rfl⟩, rfl⟩; have HS : Hid (IsDiff x 0 c s co) := hs; clear hs)
        go_roundg (gk - 1)
        case measure => have := HJ.out; omega
        case rel => exact ⟨j + 1, co, ds ++ [s], by have := HJ.out; omega, by go_num, rfl, HS.out.2.1, HI'.out s co HS.out, HO'.out s⟩
    · have hjn' : j = n := by omega
      subst hjn'
      go_wp2
      go_end0
      exact ⟨ds, c, HI.out, hc, rfl, HO.out⟩

theorem zzAddWords_any (bz oz n cz m cap cap' : Nat) (a a' : Option Addr) (zs xs ys : List Nat) (hzl : Hid (zs.length = n)) (hx : Hid (xs.length = n)) (hy : Hid (ys.length = m)) (hwx : Hid (Words xs)) (hwy : Hid (Words ys)) (hn : n ≤ 9223372036854775806) (hm : m ≤ 9223372036854775807)
    (w : World) (hz : Hid (RowAt w bz oz zs)) (hf : Hid (FreeAt w bz oz n)) (hu : Hid (Src w bz a xs)) (hv : Hid (Src w bz a' ys)) :
    Calls Try.prog 24 #[.slice (some ⟨bz, oz, none⟩) n cz, .slice a n cap, .slice a' m cap'] w fun e w' => ∃ (ds : List Nat) (c : Nat), AddInv xs ys ds n c ∧ c ≤ 1 ∧ e = .returned (.int .u64 (c : Int)) ∧ Out w w' bz oz ds := by
  go_enter Try.func24, Try.ntmps24
  go_wp2_with (go_at_call 40; refine (addWords_any bz oz n cz m cap cap' a a' zs xs ys hzl hx hy hwx hwy hn hm _ hz hf hu hv).mono ?_; rintro e w' ⟨ds, c, hi, hc, rfl, ho⟩; have HI : Hid (AddInv xs ys ds n c ∧ Out w w' bz oz ds) := ⟨hi, ho⟩; clear hi ho)
  go_ret
  exact ⟨ds, c, HI.out.1, hc, rfl, HI.out.2⟩

theorem zzSubWords_any (bz oz n cz m cap cap' : Nat) (a a' : Option Addr) (zs xs ys : List Nat) (hzl : Hid (zs.length = n)) (hx : Hid (xs.length = n)) (hy : Hid (ys.length = m)) (hwx : Hid (Words xs)) (hwy : Hid (Words ys)) (hn : n ≤ 9223372036854775806) (hm : m ≤ 9223372036854775807)
    (w : World) (hz : Hid (RowAt w bz oz zs)) (hf : Hid (FreeAt w bz oz n)) (hu : Hid (Src w bz a xs)) (hv : Hid (Src w bz a' ys)) :
    Calls Try.prog 26 #[.slice (some ⟨bz, oz, none⟩) n cz, .slice a n cap, .slice a' m cap'] w fun e w' => ∃ (ds : List Nat) (c : Nat), SubInv xs ys ds n c ∧ c ≤ 1 ∧ e = .returned (.tuple #[]) ∧ Out w w' bz oz ds := by
  go_enter Try.func26, Try.ntmps26
  go_wp2_with (go_at_call 42; refine (subWords_any bz oz n cz m cap cap' a a' zs xs ys hzl hx hy hwx hwy hn hm _ hz hf hu hv).mono ?_; rintro e w' ⟨ds, c, hi, hc, rfl, ho⟩; have HI : Hid (SubInv xs ys ds n c ∧ Out w w' bz oz ds) := ⟨hi, ho⟩; clear hi ho)
  go_end0
  exact ⟨ds, c, HI.out.1, hc, rfl, HI.out.2⟩
end Go.Proofs.Qxb6003404a
