/-
  THE WALK of c2Mul (29).
-/
import Derived.Test.Qxb6003404aMulWords
import Derived.Test.Qxb6003404aC2Add
namespace Go.Proofs.Qxb6003404a
open Go.RowKit

theorem c2MulWW_is (x y hi lo : Nat) (hx : x < 18446744073709551616) (hy : y < 18446744073709551616) (hp : IsProd x y hi lo) (w : World) :
    Calls Try.prog 45 #[.int .u64 (x : Int), .int .u64 (y : Int)] w fun e w' => e = .returned (.tuple #[.int .u64 (hi : Int), .int .u64 (lo : Int)]) ∧ w' = w := by
  refine (c2MulWW_any x y hx hy w).mono ?_
  rintro e w' ⟨⟨hi', lo', hp', rfl⟩, hw⟩
  obtain ⟨rfl, rfl⟩ := isProd_unique hp hp'
  exact ⟨rfl, hw⟩

theorem Out.drewN {w w' : World} {b off : Nat} {zs : List Nat} (h : Out w w' b off zs) (q : Nat) : Out w (w'.drewN q) b off zs := ⟨h.1.drewN q, h.2.drewN q⟩

set_option maxHeartbeats 4000000 in
set_option maxRecDepth 20000 in
theorem c2Mul_core (a a' : Option Addr) (n m cap cap' : Nat) (xs ys : List Nat) (hx : Hid (xs.length = n)) (hy : Hid (ys.length = m)) (hwx : Hid (Words xs)) (hwy : Hid (Words ys)) (hN : Hid (n + m ≤ 400000)) (hN' : n + m ≤ 9223372036854775806)
    (w : World) (hu : Hid (Src w w.heap.size a xs)) (hv : Hid (Src w w.heap.size a' ys)) :
    Calls Try.prog 29 #[.slice a n cap, .slice a' m cap'] w fun e w' => ∃ v, e = .returned v ∧ Made w w' v (val xs * val ys) := by
  obtain ⟨i0, hi, hz0, hz1, hz2⟩ := info_parts Try.info28w
  go_enter Try.func29, Try.ntmps29
  go_wp2_with (at_make; refine wpList_make_full _ rfl (.tmp 19) (.tmp 19) 29 rfl w.heap.size 28 i0 (.int .u64 0) 1 Try.underlying29 hi hz0 hz1 .i64 .i64 _ _ (n + m) rfl rfl rfl rfl (by rw [hz2]; have := hN.out; omega) (by unfold maxLen; have := hN.out; omega) (Nat.le_refl _) ?_; intro w1 hown hgrow; have hg2 : w.heap.size < w1.heap.size := (hown.lt _ rfl).2; obtain ⟨hr1, hf1, hg1⟩ := laid_row hown; clear hown hg1)
  have HM : Hid (RowAt w1 w.heap.size 0 (List.replicate (n + m) 0) ∧ FreeAt w1 w.heap.size 0 (n + m) ∧ w.heap.size < w1.heap.size ∧ w.grownBy w1 none) := ⟨hr1, hf1, hg2, hgrow⟩
  have HU : Hid (Src w1 w.heap.size a xs ∧ Src w1 w.heap.size a' ys) := ⟨hu.out.grown hgrow, hv.out.grown hgrow⟩
  clear hr1 hf1 hg2 hgrow hi hz0 hz1 hz2
  go_loopg [6] n (fun gg si wx => ∃ (i : Nat) (zs : List Nat), i + gg = n ∧ si = .int .i64 (i : Int) ∧ Hid (MulInv xs ys zs i) ∧ Hid (Out w1 wx w.heap.size 0 zs))
  case atStart => exact ⟨0, List.replicate (n + m) 0, Nat.zero_add _, rfl, (show MulInv _ _ _ _ by have := MulInv.start xs ys; rw [hx.out, hy.out] at this; exact this), Out.here HM.out.1⟩
  case round =>
    obtain ⟨i, zs, hi, rfl, HI, HO⟩ := hrel
    have HJ : Hid (i + gk = n) := hi
    have hin : i ≤ n := by omega
    clear hi
    by_cases hlt : i < n
    · have hxw := words_getD hwx.out i
      have HE : Hid (MulIn xs ys zs i 0 0) := HI.out.enter (by rw [hx.out]; exact hlt) hwx.out hwy.out
      obtain ⟨x, hxe⟩ : ∃ x, xs.getD i 0 = x := ⟨_, rfl⟩
      have HXE : Hid (xs.getD i 0 = x) := hxe
      rw [hxe] at hxw
      clear hxe HI
      go_wp2
      go_loopg [7, 8] m (fun gg sc sj wx => ∃ (j c : Nat) (zt : List Nat), j + gg = m ∧ sj = .int .i64 (j : Int) ∧ sc = .int .u64 (c : Int) ∧ c < 18446744073709551616 ∧ Hid (MulIn xs ys zt i j c) ∧ Hid (Out w1 wx w.heap.size 0 zt))
      case atStart => exact ⟨0, 0, zs, Nat.zero_add _, rfl, rfl, by omega, HE, HO⟩
      case round =>
        clear HE HO
        obtain ⟨j, c, zt, hj, rfl, rfl, hc, HI, HO⟩ := hrel
        have HK : Hid (j + gk = m) := hj
        have hjm : j ≤ m := by omega
        clear hj
        have hlz : i + j < zt.length := by rw [HI.out.1, hx.out, hy.out]; omega
        have hcz1 := HO.out.1 (i + j) hlz
        have hfz := HO.out.2.free HM.out.2.1 (i + j) (by omega)
        have HO' : Hid (∀ (q v : Nat), Out w1 ((wr.drewN q).setCell ⟨w.heap.size, 0 + (i + j), none⟩ (.int .u64 (v : Int))) w.heap.size 0 (zt.set (i + j) v)) := fun q v => (HO.out.drewN q).set hlz
        have HO2 : Hid (∀ v : Nat, Out w1 (wr.setCell ⟨w.heap.size, 0 + (i + j), none⟩ (.int .u64 (v : Int))) w.heap.size 0 (zt.set (i + j) v)) := fun v => HO.out.set hlz
        rw [Nat.zero_add] at hcz1 hfz HO' HO2
        by_cases hltj : j < m
        · obtain ⟨bx, ox, rfl, hbx, hnx, hrx⟩ := (HO.out.2.src HU.out.1).at (j := i) (by rw [hx.out]; exact hlt)
          obtain ⟨by', oy, rfl, hby, hny, hry⟩ := (HO.out.2.src HU.out.2).at (j := j) (by rw [hy.out]; exact hltj)
          have hcx := hrx i (by rw [hx.out]; exact hlt)
          have hcy := hry j (by rw [hy.out]; exact hltj)
          have hyw := words_getD hwy.out j
          have hzw := words_getD HI.out.2.1 (i + j)
          have HI' : Hid (∀ hi lo, lo < 18446744073709551616 → hi * 18446744073709551616 + lo = xs.getD i 0 * ys.getD j 0 + zt.getD (i + j) 0 + c → MulIn xs ys (zt.set (i + j) lo) i (j + 1) hi) := fun hi lo h1 h2 => HI.out.step (by rw [hx.out]; exact hlt) (by rw [hy.out]; exact hltj) h1 h2
          obtain ⟨y, hye⟩ : ∃ y, ys.getD j 0 = y := ⟨_, rfl⟩
          obtain ⟨z, hze⟩ : ∃ z, zt.getD (i + j) 0 = z := ⟨_, rfl⟩
          rw [hye] at hcy hyw HI'
          rw [hze] at hcz1 hzw HI'
          rw [HXE.out] at HI' hcx
          obtain ⟨hi, lo, hp⟩ : ∃ hi lo, IsProd x y hi lo := ⟨_, _, isProd_divmod x y hxw hyw⟩
          have HP : Hid (IsProd x y hi lo) := hp
          have hhi := hp.1
          have hlo := hp.2.1
          have hi0 : (0 : Int) ≤ (i : Int) := by omega
          have hi1 : (i : Int) < (n : Int) := by omega
          have hj0 : (0 : Int) ≤ (j : Int) := by omega
          have hj1 : (j : Int) < (m : Int) := by omega
          clear hry hrx hye hze hlz HO HI hp
          go_wp2
          go_quiet ((go_at_call 45; exact Calls.quiet_of_same (c2MulWW_is x y hi lo hxw hyw HP.out _)))
          go_wp2_with fail
          refine (c2AddWW0_any lo z hlo hzw _).mono ?_
          rintro e w' ⟨⟨s1, c1, hs, rfl⟩, rfl⟩
          have hs1 := hs.1
          have hc1 := hs.2.1
          have hh1 : hi + c1 < 18446744073709551616 := by
            obtain ⟨s2, c2, ht⟩ := isSum_ex s1 c 0 hs1 hc (by omega)
            exact (mul_word hxw hyw hzw hc HP.out hs ht).1
          have r1 := wrap_sum hi c1 hh1
          obtain ⟨h1, eh1⟩ : ∃ h1, hi + c1 = h1 := ⟨_, rfl⟩
          rw [eh1] at r1 hh1
          have HS : Hid (IsSum lo z 0 s1 c1 ∧ hi + c1 = h1) := ⟨hs, eh1⟩
          clear hs eh1
          go_wp2_with fail
          refine (c2AddWW0_any s1 c hs1 hc _).mono ?_
          rintro e w' ⟨⟨s2, c2, ht, rfl⟩, rfl⟩
          obtain ⟨_, hh2, hR⟩ := mul_word hxw hyw hzw hc HP.out HS.out.1 ht
          rw [HS.out.2] at hh2 hR
          have r2 := wrap_sum h1 c2 hh2
          have hs2 := ht.1
          have hc2 := ht.2.1
          obtain ⟨h2, eh2⟩ : ∃ h2, h1 + c2 = h2 := ⟨_, rfl⟩
          rw [eh2] at r2 hh2 hR
          have HN : Hid (MulIn xs ys (zt.set (i + j) s2) i (j + 1) h2) := HI'.out h2 s2 hs2 hR
          clear ht hR eh2
          go_wp2
          go_roundg (gk - 1)
          case measure => have := HK.out; omega
          case rel => exact ⟨j + 1, h2, zt.set (i + j) s2, by have := HK.out; omega, by go_num, rfl, hh2, HN, HO'.out _ s2⟩
        · have hjm' : j = m := by omega
          subst hjm'
          have HN : Hid (MulInv xs ys (zt.set (i + j) c) (i + 1)) := (show MulInv _ _ _ _ by have h := HI.out; rw [← hy.out] at h ⊢; exact h.leave (by rw [hx.out]; exact hlt) hc)
          clear hlz HO HI
          go_wp2
          go_roundg (n - (i + 1))
          case measure => have := HJ.out; omega
          case rel => exact ⟨i + 1, zt.set (i + j) c, by omega, by go_num, HN, HO2.out c⟩
    · have hjn' : i = n := by omega
      subst hjn'
      have HV : Hid (val zs = val xs * val ys) := (show _ = _ by have := HI.out; rw [← hx.out] at this; exact this.whole)
      have HL : Hid (zs.length = i + m) := (show _ = _ by rw [← hx.out, ← hy.out]; exact HI.out.1)
      have HW : Hid (Words zs) := HI.out.2.1
      clear HI
      go_wp2_with (go_at_call 13; refine (c2Trim_core w.heap.size 0 (i + m) (i + m) zs HL (by omega) (Nat.le_refl _) _ HO.out.1).mono ?_; rintro e w' ⟨rfl, hw⟩)
      subst w'
      go_ret
      exact ⟨_, rfl, HV.out ▸ made_of HL.out HW.out (by have := hN.out; omega) (Nat.le_refl _) HM.out.2.2.1 HM.out.2.2.2 HO.out.1 HO.out.2.1⟩

theorem c2Mul_any (z z' : Nat) (a a' : Option Addr) (n m cap cap' : Nat) (xs ys : List Nat) (hx : Hid (xs.length = n)) (hy : Hid (ys.length = m)) (hwx : Hid (Words xs)) (hwy : Hid (Words ys)) (hn : Hid (n ≤ 200000 ∧ m ≤ 200000))
    (w : World) (hu : Hid (Src w z a xs)) (hv : Hid (Src w z' a' ys)) :
    Calls Try.prog 29 #[.slice a n cap, .slice a' m cap'] w fun e w' => ∃ v, e = .returned v ∧ Made w w' v (val xs * val ys) := by
  have := hn.out
  exact c2Mul_core a a' n m cap cap' xs ys hx hy hwx hwy (show n + m ≤ 400000 by omega) (by omega) w (hu.out.other (Nat.le_refl _)) (hv.out.other (Nat.le_refl _))
end Go.Proofs.Qxb6003404a
