/-
  THE WALKS of mulWords (44), ZZMulWords (28).
-/
import Derived.Test.Qxb6003404aMulPlain
import Derived.Test.Qxb6003404aCmpWalk
namespace Go.Proofs.Qxb6003404a
open Go.RowKit

theorem wrap_sum (a b : Nat) (h : a + b < 18446744073709551616) : IntKind.u64.wrap ((a : Int) + (b : Int)) = ((a + b : Nat) : Int) := by
  rw [IntKind.wrap_u64]
  omega

set_option maxHeartbeats 2000000 in
theorem mulWords_any (bz oz n cz m cap cap' : Nat) (a a' : Option Addr) (xs ys : List Nat) (hx : Hid (xs.length = n)) (hy : Hid (ys.length = m)) (hwx : Hid (Words xs)) (hwy : Hid (Words ys)) (hnm : n + m ≤ 9223372036854775806) (hcz : n + m ≤ cz)
    (w : World) (hz : Hid (RowAt w bz oz (List.replicate (n + m) 0))) (hf : Hid (FreeAt w bz oz (n + m))) (hu : Hid (Src w bz a xs)) (hv : Hid (Src w bz a' ys)) :
    Calls Try.prog 44 #[.slice (some ⟨bz, oz, none⟩) (n + m) cz, .slice a n cap, .slice a' m cap'] w fun e w' => ∃ (zs : List Nat), zs.length = n + m ∧ Words zs ∧ val zs = val xs * val ys ∧ e = .returned (.tuple #[]) ∧ Out w w' bz oz zs := by
  go_enter Try.func44, Try.ntmps44
  go_wp2
  go_loopg [17] n (fun gg si wx => ∃ (i : Nat) (zs : List Nat), i + gg = n ∧ si = .int .i64 (i : Int) ∧ Hid (MulInv xs ys zs i) ∧ Hid (Out w wx bz oz zs))
  case atStart => exact ⟨0, List.replicate (n + m) 0, Nat.zero_add _, rfl, (show MulInv _ _ _ _ by have := MulInv.start xs ys; rw [hx.out, hy.out] at this; exact this), Out.here hz.out⟩
  case round =>
    obtain ⟨i, zs, hi, rfl, HI, HO⟩ := hrel
    have HJ : Hid (i + gk = n) := hi
    have hin : i ≤ n := by omega
    clear hi
    by_cases hlt : i < n
    · obtain ⟨bx, ox, rfl, hbx, hnx, hrx⟩ := (HO.out.2.src hu.out).at (j := i) (by rw [hx.out]; exact hlt)
      have hcx := hrx i (by rw [hx.out]; exact hlt)
      have hxw := words_getD hwx.out i
      have HE : Hid (MulIn xs ys zs i 0 0) := HI.out.enter (by rw [hx.out]; exact hlt) hwx.out hwy.out
      obtain ⟨x, hxe⟩ : ∃ x, xs.getD i 0 = x := ⟨_, rfl⟩
      have HXE : Hid (xs.getD i 0 = x) := hxe
      rw [hxe] at hcx hxw
      clear hxe hrx HI
      go_wp2
      rw [show i + m + 1 - i = m + 1 by omega]
      go_loopg [9, 32] m (fun gg sc sj wx => ∃ (j c : Nat) (zt : List Nat), j + gg = m ∧ sj = .int .i64 (j : Int) ∧ sc = .int .u64 (c : Int) ∧ c < 18446744073709551616 ∧ Hid (MulIn xs ys zt i j c) ∧ Hid (Out w wx bz oz zt))
      case atStart => exact ⟨0, 0, zs, Nat.zero_add _, rfl, rfl, by omega, HE, HO⟩
      case round =>
        clear HE HO
        obtain ⟨j, c, zt, hj, rfl, rfl, hc, HI, HO⟩ := hrel
        have HK : Hid (j + gk = m) := hj
        have hjm : j ≤ m := by omega
        clear hj
        by_cases hltj : j < m
        · obtain ⟨by', oy, rfl, hby, hny, hry⟩ := (HO.out.2.src hv.out).at (j := j) (by rw [hy.out]; exact hltj)
          have hcy := hry j (by rw [hy.out]; exact hltj)
          have hyw := words_getD hwy.out j
          have hlz : i + j < zt.length := by rw [HI.out.1, hx.out, hy.out]; omega
          have hcz1 := HO.out.1 (i + j) hlz
          have hzw := words_getD HI.out.2.1 (i + j)
          have hfz : wr.frozen? ⟨bz, oz + (i + j), none⟩ = false := HO.out.2.free hf.out (i + j) (by omega)
          have HO' : Hid (∀ v : Nat, Out w (wr.setCell ⟨bz, oz + (i + j), none⟩ (.int .u64 (v : Int))) bz oz (zt.set (i + j) v)) := fun v => HO.out.set hlz
          have HI' : Hid (∀ hi lo, lo < 18446744073709551616 → hi * 18446744073709551616 + lo = xs.getD i 0 * ys.getD j 0 + zt.getD (i + j) 0 + c → MulIn xs ys (zt.set (i + j) lo) i (j + 1) hi) := fun hi lo h1 h2 => HI.out.step (by rw [hx.out]; exact hlt) (by rw [hy.out]; exact hltj) h1 h2
          rw [← Nat.add_assoc] at hcz1 hfz HO'
          obtain ⟨y, hye⟩ : ∃ y, ys.getD j 0 = y := ⟨_, rfl⟩
          obtain ⟨z, hze⟩ : ∃ z, zt.getD (i + j) 0 = z := ⟨_, rfl⟩
          rw [hye] at hcy hyw HI'
          rw [hze] at hcz1 hzw HI'
          rw [HXE.out] at HI'
          clear hry hye hze hlz HO HI
          go_wp2_with (go_at_call 64; refine (mul_any x y hxw hyw _).mono ?_; rintro e w' ⟨⟨hi, lo, hp, rfl⟩, rfl⟩; have HP : Hid (IsProd x y hi lo) := hp; have hhi := hp.1; have hlo := hp.2.1; clear hp)
          refine (add0_any lo z hlo hzw _).mono ?_
          rintro e w' ⟨⟨s1, c1, hs, rfl⟩, rfl⟩
          have hs1 := hs.1
          have hc1 := hs.2.1
          have hh1 : hi + c1 < 18446744073709551616 := by
            obtain ⟨s2, c2, ht⟩ := isSum_ex s1 c 0 hs1 hc (by omega)
            exact (mul_word hxw hyw hzw hc HP.out hs ht).1
          have r1 := wrap_sum hi c1 hh1
          obtain ⟨h1, eh1⟩ : ∃ h1, hi + c1 = h1 := ⟨_, rfl⟩
          rw [eh1] at r1 hh1
          have HS : Hid (IsSum lo z 0 s1 c1 ∧ hi + c1 = h1) := ⟨hs, eh1⟩
          clear hs eh1
          go_wp2_with fail
          refine (add0_any s1 c hs1 hc _).mono ?_
          rintro e w' ⟨⟨s2, c2, ht, rfl⟩, rfl⟩
          obtain ⟨_, hh2, hR⟩ := mul_word hxw hyw hzw hc HP.out HS.out.1 ht
          rw [HS.out.2] at hh2 hR
          have r2 := wrap_sum h1 c2 hh2
          have hs2 := ht.1
          have hc2 := ht.2.1
          obtain ⟨h2, eh2⟩ : ∃ h2, h1 + c2 = h2 := ⟨_, rfl⟩
          rw [eh2] at r2 hh2 hR
          have HN : Hid (MulIn xs ys (zt.set (i + j) s2) i (j + 1) h2) := HI'.out h2 s2 hs2 hR
          clear ht hR eh2
          go_wp2
          go_roundg (gk - 1)
          case measure => have := HK.out; omega
          case rel => exact ⟨j + 1, h2, zt.set (i + j) s2, by have := HK.out; omega, by go_num, rfl, hh2, HN, HO'.out s2⟩
        · have hjm' : j = m := by omega
          subst hjm'
          have hlz : i + j < zt.length := by rw [HI.out.1, hx.out, hy.out]; omega
          have hcz1 := HO.out.1 (i + j) hlz
          have hfz : wr.frozen? ⟨bz, oz + (i + j), none⟩ = false := HO.out.2.free hf.out (i + j) (by omega)
          have HO' : Hid (∀ v : Nat, Out w (wr.setCell ⟨bz, oz + (i + j), none⟩ (.int .u64 (v : Int))) bz oz (zt.set (i + j) v)) := fun v => HO.out.set hlz
          have HN : Hid (MulInv xs ys (zt.set (i + j) c) (i + 1)) := (show MulInv _ _ _ _ by have h := HI.out; rw [← hy.out] at h ⊢; exact h.leave (by rw [hx.out]; exact hlt) hc)
          rw [← Nat.add_assoc] at hcz1 hfz HO'
          clear hlz HO HI
          go_wp2
          go_roundg (n - (i + 1))
          case measure => have := HJ.out; omega
          case rel => exact ⟨i + 1, zt.set (i + j) c, by omega, by go_num, HN, HO'.out c⟩
    · have hjn' : i = n := by omega
      subst hjn'
      go_wp2
      go_end0
      exact ⟨zs, by rw [← hx.out, ← hy.out]; exact HI.out.1, HI.out.2.1, by have := HI.out; rw [← hx.out] at this; exact this.whole, rfl, HO.out⟩

theorem zzMulWords_any (bz oz n cz m cap cap' : Nat) (a a' : Option Addr) (xs ys : List Nat) (hx : Hid (xs.length = n)) (hy : Hid (ys.length = m)) (hwx : Hid (Words xs)) (hwy : Hid (Words ys)) (hnm : n + m ≤ 9223372036854775806) (hcz : n + m ≤ cz)
    (w : World) (hz : Hid (RowAt w bz oz (List.replicate (n + m) 0))) (hf : Hid (FreeAt w bz oz (n + m))) (hu : Hid (Src w bz a xs)) (hv : Hid (Src w bz a' ys)) :
    Calls Try.prog 28 #[.slice (some ⟨bz, oz, none⟩) (n + m) cz, .slice a n cap, .slice a' m cap'] w fun e w' => ∃ (zs : List Nat), zs.length = n + m ∧ Words zs ∧ val zs = val xs * val ys ∧ e = .returned (.tuple #[]) ∧ Out w w' bz oz zs := by
  go_enter Try.func28, Try.ntmps28
  go_wp2_with (go_at_call 44; refine (mulWords_any bz oz n cz m cap cap' a a' xs ys hx hy hwx hwy hnm hcz _ hz hf hu hv).mono ?_; rintro e w' ⟨zs, h1, h2, h3, rfl, ho⟩; have HI : Hid (zs.length = n + m ∧ Words zs ∧ val zs = val xs * val ys ∧ Out w w' bz oz zs) := ⟨h1, h2, h3, ho⟩; clear h1 h2 h3 ho)
  go_end0
  exact ⟨zs, HI.out.1, HI.out.2.1, HI.out.2.2.1, rfl, HI.out.2.2.2⟩
end Go.Proofs.Qxb6003404a
