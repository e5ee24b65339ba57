/-
  THE WALK of PropCoefAddAndCompareExact (5).
-/
import Derived.Test.Qxb6003404aCoefLaid
namespace Go.Proofs.Qxb6003404a
open Go.RowKit

set_option maxHeartbeats 4000000 in
set_option maxRecDepth 20000 in
theorem coefLaw_core (xn yn al : Bool) (a a' : Option Addr) (n m cap cap' tx ty : Nat) (xs ys : List Nat) (hx : Hid (xs.length = n)) (hy : Hid (ys.length = m)) (hwx : Hid (Words xs)) (hwy : Hid (Words ys)) (hn' : n ≤ 9223372036854775807) (hm' : m ≤ 9223372036854775807) (hcap : n ≤ cap) (hcap' : m ≤ cap')
    (etx : Hid (tl xs = tx)) (ety : Hid (tl ys = ty)) (h12 : tx ≤ 12) (h12' : ty ≤ 12) (w : World) (hu : Hid (Src w w.heap.size a xs)) (hv : Hid (Src w w.heap.size a' ys)) :
    Calls Try.prog 5 #[.bool xn, .slice a n cap, .bool yn, .slice a' m cap', .bool al] w fun e w' => e = .returned (.bool true) ∧ Below w.heap.size w w' := by
  have T1 : Hid (∀ w', w' = w → Calls Try.prog 13 #[.slice a n cap] w' fun e w'' => e = .returned (.slice a tx cap) ∧ w'' = w) := fun w' h => by subst h; rw [← etx.out]; exact c2Trim_any _ a n cap xs hx hn' hcap _ hu.out
  have T2 : Hid (∀ w', w' = w → Calls Try.prog 13 #[.slice a' m cap'] w' fun e w'' => e = .returned (.slice a' ty cap') ∧ w'' = w) := fun w' h => by subst h; rw [← ety.out]; exact c2Trim_any _ a' m cap' ys hy hm' hcap' _ hv.out
  have htx : tx ≤ n := by have := tl_le xs; rw [etx.out, hx.out] at this; exact this
  have hty : ty ≤ m := by have := tl_le ys; rw [ety.out, hy.out] at this; exact this
  obtain ⟨us, eus⟩ : ∃ us, us = xs.take tx := ⟨_, rfl⟩
  obtain ⟨vs0, evs⟩ : ∃ vs, vs = ys.take ty := ⟨_, rfl⟩
  have U : Hid (us.length = tx ∧ Words us ∧ Trimmed us ∧ Src w w.heap.size a us) := ⟨by rw [eus]; have := hx.out; simp; omega, by rw [eus]; exact words_take hwx.out _, by rw [eus, ← etx.out]; exact trimmed_tl xs, by rw [eus]; exact hu.out.take _⟩
  have V0 : Hid (vs0.length = ty ∧ Words vs0 ∧ Trimmed vs0 ∧ Src w w.heap.size a' vs0) := ⟨by rw [evs]; have := hy.out; simp; omega, by rw [evs]; exact words_take hwy.out _, by rw [evs, ← ety.out]; exact trimmed_tl ys, by rw [evs]; exact hv.out.take _⟩
  have hcx : tx ≤ cap := by omega
  have hcy : ty ≤ cap' := by omega
  clear eus evs etx ety hu hv hwx hwy hx hy
  go_enter Try.func5, Try.ntmps5
  go_wp2_with fail
  refine (T1.out _ rfl).mono ?_
  rintro e w' ⟨rfl, hw⟩
  subst w'
  go_wp2_with fail
  refine (T2.out _ rfl).mono ?_
  rintro e w' ⟨rfl, hw⟩
  subst w'
  go_wp2_with fail
  refine (T1.out _ rfl).mono ?_
  rintro e w' ⟨rfl, hw⟩
  subst w'
  go_wp2_with fail
  refine (T2.out _ rfl).mono ?_
  rintro e w' ⟨rfl, hw⟩
  subst w'
  clear T1 T2 htx hty hcap hcap' hn' hm'
  go_upto_if 37 with fail
  go_cut [12, 13] (fun s12 s13 wx => ∃ A2 m2 cp2 y2 vs, s12 = .slice A2 m2 cp2 ∧ s13 = .bool y2 ∧ wx = w ∧ m2 ≤ 12 ∧ m2 ≤ cp2 ∧ Hid (vs.length = m2 ∧ Words vs ∧ Trimmed vs ∧ Src w w.heap.size A2 vs ∧ (al = true → y2 = xn ∧ vs = us)))
  case first =>
    cases al
    · go_wp2
      go_meet
      case rel => exact ⟨a', ty, cap', yn, vs0, rfl, rfl, rfl, h12', hcy, V0.out.1, V0.out.2.1, V0.out.2.2.1, V0.out.2.2.2, fun h => by cases h⟩
    · go_wp2
      go_meet
      case rel => exact ⟨a, tx, cap, xn, us, rfl, rfl, rfl, h12, hcx, U.out.1, U.out.2.1, U.out.2.2.1, U.out.2.2.2, fun _ => ⟨rfl, rfl⟩⟩
  case rest =>
    obtain ⟨A2, m2, cp2, y2, vs, rfl, rfl, hwc, hm12, hmc, V⟩ := hcut
    subst wc
    clear V0 h12' hcy
    obtain ⟨f, hf⟩ : ∃ f : Nat → Nat, ∀ i, f i = us.getD i 0 := ⟨fun i => us.getD i 0, fun _ => rfl⟩
    obtain ⟨f2, hf2⟩ : ∃ f : Nat → Nat, ∀ i, f i = vs.getD i 0 := ⟨fun i => vs.getD i 0, fun _ => rfl⟩
    have HF : Hid (∀ i, f i = us.getD i 0) := hf
    have HF2 : Hid (∀ i, f2 i = vs.getD i 0) := hf2
    clear hf hf2
    go_wp2_with fail
    refine (newCoef_any xn a tx cap us f HF U.out.1 h12 _ U.out.2.2.2).mono ?_
    rintro e w1 ⟨rfl, hg1⟩
    have G1 : Hid (w.grownBy w1 none) := hg1
    clear hg1
    go_wp2_with fail
    have K1 : Hid (CoefAt (w1.alloc (.cells #[.bool xn, .int .i64 (tx : Int), .int .u64 (f 0 : Int), .int .u64 (f 1 : Int), .int .u64 (f 2 : Int), .int .u64 (f 3 : Int), .int .u64 (f 4 : Int), .int .u64 (f 5 : Int), .int .u64 (f 6 : Int), .int .u64 (f 7 : Int), .int .u64 (f 8 : Int), .int .u64 (f 9 : Int), .int .u64 (f 10 : Int), .int .u64 (f 11 : Int), .pointer none] 41)) w1.heap.size xn us ∧ w.grownBy (w1.alloc (.cells #[.bool xn, .int .i64 (tx : Int), .int .u64 (f 0 : Int), .int .u64 (f 1 : Int), .int .u64 (f 2 : Int), .int .u64 (f 3 : Int), .int .u64 (f 4 : Int), .int .u64 (f 5 : Int), .int .u64 (f 6 : Int), .int .u64 (f 7 : Int), .int .u64 (f 8 : Int), .int .u64 (f 9 : Int), .int .u64 (f 10 : Int), .int .u64 (f 11 : Int), .pointer none] 41)) none) := ⟨coef_laid w1 xn tx us f HF.out U.out.1 h12 U.out.2.1 U.out.2.2.1, gb_trans G1.out (World.grownBy_alloc _ _ _)⟩
    generalize w1.alloc (.cells #[.bool xn, .int .i64 (tx : Int), .int .u64 (f 0 : Int), .int .u64 (f 1 : Int), .int .u64 (f 2 : Int), .int .u64 (f 3 : Int), .int .u64 (f 4 : Int), .int .u64 (f 5 : Int), .int .u64 (f 6 : Int), .int .u64 (f 7 : Int), .int .u64 (f 8 : Int), .int .u64 (f 9 : Int), .int .u64 (f 10 : Int), .int .u64 (f 11 : Int), .pointer none] 41) = W1 at K1 ⊢
    obtain ⟨g1, hg1⟩ : ∃ g1, w1.heap.size = g1 := ⟨_, rfl⟩
    rw [hg1] at K1 ⊢
    clear hg1 G1
    refine (newCoef_any y2 A2 m2 cp2 vs f2 HF2 V.out.1 hm12 _ (V.out.2.2.2.1.other K1.out.2.size |>.grown K1.out.2)).mono ?_
    rintro e w2 ⟨rfl, hg2⟩
    have G2 : Hid (W1.grownBy w2 none) := hg2
    clear hg2
    go_upto_if 46 with fail
    have K2 : Hid (CoefAt (w2.alloc (.cells #[.bool y2, .int .i64 (m2 : Int), .int .u64 (f2 0 : Int), .int .u64 (f2 1 : Int), .int .u64 (f2 2 : Int), .int .u64 (f2 3 : Int), .int .u64 (f2 4 : Int), .int .u64 (f2 5 : Int), .int .u64 (f2 6 : Int), .int .u64 (f2 7 : Int), .int .u64 (f2 8 : Int), .int .u64 (f2 9 : Int), .int .u64 (f2 10 : Int), .int .u64 (f2 11 : Int), .pointer none] 41)) w2.heap.size y2 vs ∧ CoefAt (w2.alloc (.cells #[.bool y2, .int .i64 (m2 : Int), .int .u64 (f2 0 : Int), .int .u64 (f2 1 : Int), .int .u64 (f2 2 : Int), .int .u64 (f2 3 : Int), .int .u64 (f2 4 : Int), .int .u64 (f2 5 : Int), .int .u64 (f2 6 : Int), .int .u64 (f2 7 : Int), .int .u64 (f2 8 : Int), .int .u64 (f2 9 : Int), .int .u64 (f2 10 : Int), .int .u64 (f2 11 : Int), .pointer none] 41)) g1 xn us ∧ w.grownBy (w2.alloc (.cells #[.bool y2, .int .i64 (m2 : Int), .int .u64 (f2 0 : Int), .int .u64 (f2 1 : Int), .int .u64 (f2 2 : Int), .int .u64 (f2 3 : Int), .int .u64 (f2 4 : Int), .int .u64 (f2 5 : Int), .int .u64 (f2 6 : Int), .int .u64 (f2 7 : Int), .int .u64 (f2 8 : Int), .int .u64 (f2 9 : Int), .int .u64 (f2 10 : Int), .int .u64 (f2 11 : Int), .pointer none] 41)) none) := ⟨coef_laid w2 y2 m2 vs f2 HF2.out V.out.1 hm12 V.out.2.1 V.out.2.2.1, K1.out.1.grown (gb_trans G2.out (World.grownBy_alloc _ _ _)) (by simp), gb_trans K1.out.2 (gb_trans G2.out (World.grownBy_alloc _ _ _))⟩
    generalize w2.alloc (.cells #[.bool y2, .int .i64 (m2 : Int), .int .u64 (f2 0 : Int), .int .u64 (f2 1 : Int), .int .u64 (f2 2 : Int), .int .u64 (f2 3 : Int), .int .u64 (f2 4 : Int), .int .u64 (f2 5 : Int), .int .u64 (f2 6 : Int), .int .u64 (f2 7 : Int), .int .u64 (f2 8 : Int), .int .u64 (f2 9 : Int), .int .u64 (f2 10 : Int), .int .u64 (f2 11 : Int), .pointer none] 41) = W2 at K2 ⊢
    obtain ⟨g2, hg2⟩ : ∃ g2, w2.heap.size = g2 := ⟨_, rfl⟩
    rw [hg2] at K2 ⊢
    clear hg2 G2 K1 HF HF2
    go_cut [17] (fun s17 wx => ∃ B, s17 = .pointer (some ⟨B, 0, none⟩) ∧ wx = W2 ∧ Hid (CoefAt W2 B y2 vs))
    case first =>
      cases al
      · go_wp2
        go_meet
        case rel => exact ⟨g2, rfl, rfl, K2.out.1⟩
      · have E : Hid (y2 = xn ∧ vs = us) := V.out.2.2.2.2 rfl
        go_wp2
        go_meet
        case rel => exact ⟨g1, rfl, rfl, (show CoefAt _ _ _ _ by rw [E.out.1, E.out.2]; exact K2.out.2.1)⟩
    case rest =>
      obtain ⟨B, rfl, hwc, KB⟩ := hcut
      subst wc
      have SU : Hid (Src W2 W2.heap.size a us) := (U.out.2.2.2.other K2.out.2.2.size).grown K2.out.2.2
      have SV : Hid (Src W2 W2.heap.size A2 vs) := (V.out.2.2.2.1.other K2.out.2.2.size).grown K2.out.2.2
      obtain ⟨r, er⟩ : ∃ r, cmp3 (sv xn (val us)) (sv y2 (val vs)) = r := ⟨_, rfl⟩
      obtain ⟨k, ek⟩ : ∃ k, cmp3 (val us : Int) (val vs : Int) = k := ⟨_, rfl⟩
      have C15 : Hid (∀ w', w' = W2 → Calls Try.prog 15 #[.pointer (some ⟨g1, 0, none⟩), .pointer (some ⟨B, 0, none⟩)] w' fun e w' => e = .returned (.int .i64 r) ∧ ∃ q, w' = W2.drewN q) := fun w' h => by
        subst h; rw [← er]; exact zzCompare_any g1 B xn y2 us vs _ K2.out.2.1 KB
      have C16 : Hid (∀ q, Calls Try.prog 16 #[.bool xn, .slice a tx cap, .bool y2, .slice A2 m2 cp2] (W2.drewN q) fun e w' => e = .returned (.int .i64 r) ∧ ∃ q, w' = W2.drewN q) := fun q => by
        rw [← er]
        refine (c2SCmp_any xn y2 W2.heap.size W2.heap.size a A2 tx m2 cap cp2 us vs U.out.1 V.out.1 U.out.2.1 V.out.2.1 (by omega) (by omega) hcx hmc (W2.drewN q) SU.out SV.out).mono ?_
        rintro e w' ⟨he, q', rfl⟩
        exact ⟨he, _, World.drewN_drewN _ _ _⟩
      have C17 : Hid (∀ q, Calls Try.prog 17 #[.pointer (some ⟨g1, 0, none⟩), .pointer (some ⟨B, 0, none⟩)] (W2.drewN q) fun e w' => e = .returned (.int .i64 k) ∧ ∃ q, w' = W2.drewN q) := fun q => by
        rw [← ek]
        refine (zzCmpAbs_any g1 B xn y2 us vs (W2.drewN q) K2.out.2.1 KB).mono ?_
        rintro e w' ⟨he, q', rfl⟩
        exact ⟨he, _, World.drewN_drewN _ _ _⟩
      have C18 : Hid (∀ q, Calls Try.prog 18 #[.slice a tx cap, .slice A2 m2 cp2] (W2.drewN q) fun e w' => e = .returned (.int .i64 k) ∧ ∃ q, w' = W2.drewN q) := fun q => by
        rw [← ek]
        refine (c2Cmp_any W2.heap.size W2.heap.size a A2 tx m2 cap cp2 us vs U.out.1 V.out.1 U.out.2.1 V.out.2.1 (by omega) (by omega) hcx hmc (W2.drewN q) SU.out SV.out).mono ?_
        rintro e w' ⟨he, q', rfl⟩
        exact ⟨he, _, World.drewN_drewN _ _ _⟩
      clear er ek
      go_wp2_with fail
      refine (C15.out _ rfl).mono ?_
      rintro e w' ⟨rfl, q1, hw⟩
      subst w'
      go_wp2_with fail
      refine (C16.out _).mono ?_
      rintro e w' ⟨rfl, q2, hw⟩
      subst w'
      go_wp2_with fail
      refine (C17.out _).mono ?_
      rintro e w' ⟨rfl, q3, hw⟩
      subst w'
      go_wp2_with fail
      refine (C18.out _).mono ?_
      rintro e w' ⟨rfl, q4, hw⟩
      subst w'
      clear C15 C16 C17 C18
      by_cases h1 : tx < 12
      · by_cases h2 : m2 < 12
        · go_wp2_with fail
          have K3 : Hid (Fresh ((W2.drewN q4).alloc (.cells #[.bool false, .int .i64 0, .int .u64 0, .int .u64 0, .int .u64 0, .int .u64 0, .int .u64 0, .int .u64 0, .int .u64 0, .int .u64 0, .int .u64 0, .int .u64 0, .int .u64 0, .int .u64 0, .pointer none] 41)) W2.heap.size ∧ W2.grownBy ((W2.drewN q4).alloc (.cells #[.bool false, .int .i64 0, .int .u64 0, .int .u64 0, .int .u64 0, .int .u64 0, .int .u64 0, .int .u64 0, .int .u64 0, .int .u64 0, .int .u64 0, .int .u64 0, .int .u64 0, .int .u64 0, .pointer none] 41)) none) := ⟨fresh_laid (W2.drewN q4), gb_trans (gb_drewN _ _ _) (World.grownBy_alloc _ _ _)⟩
          generalize (W2.drewN q4).alloc (.cells #[.bool false, .int .i64 0, .int .u64 0, .int .u64 0, .int .u64 0, .int .u64 0, .int .u64 0, .int .u64 0, .int .u64 0, .int .u64 0, .int .u64 0, .int .u64 0, .int .u64 0, .int .u64 0, .pointer none] 41) = W3 at K3 ⊢
          have hb1 : g1 ≠ W2.heap.size := by have := K2.out.2.1.1; omega
          have hb2 : B ≠ W2.heap.size := by have := KB.out.1; omega
          have L1 : Hid (us.length < 12) := (show _ < _ by rw [U.out.1]; exact h1)
          have L2 : Hid (vs.length < 12) := (show _ < _ by rw [V.out.1]; exact h2)
          refine (zzAdd_any W2.heap.size g1 B xn y2 us vs W3 K3.out.1 (K2.out.2.1.grown K3.out.2 (by simp)) (KB.out.grown K3.out.2 (by simp)) hb1 hb2 L1 L2).mono ?_
          rintro e w5 ⟨rfl, hg5, rn, rs, hR, hsum⟩
          have K5 : Hid (CoefAt w5 W2.heap.size rn rs ∧ sv rn (val rs) = sv xn (val us) + sv y2 (val vs) ∧ Src w5 W2.heap.size a us ∧ Src w5 W2.heap.size A2 vs ∧ w.grownBy w5 none) :=
            ⟨hR, hsum, (SU.out.grown K3.out.2).row hg5, (SV.out.grown K3.out.2).row hg5, gb_new (gb_trans K2.out.2.2 K3.out.2) hg5 K2.out.2.2.size⟩
          clear hg5 hR hsum
          go_wp2_with fail
          refine (c2SAdd_any xn y2 W2.heap.size W2.heap.size a A2 tx m2 cap cp2 us vs U.out.1 V.out.1 U.out.2.1 V.out.2.1 ⟨by omega, by omega⟩ hcx hmc w5 K5.out.2.2.1 K5.out.2.2.2.1).mono ?_
          rintro e w6 ⟨rn2, v, V6, rfl, ⟨g6, k6, cap6, rs6, rfl, m1, m2', m3, m4, m5, m6, m7, m8, m9, m10⟩, hV⟩
          obtain ⟨kz, hkz⟩ : ∃ kz, rs.length = kz := ⟨_, rfl⟩
          have K6 : Hid (CoefAt w6 W2.heap.size rn rs ∧ w.grownBy w6 none) := ⟨K5.out.1.grown m10 (by simp), gb_trans K5.out.2.2.2.2 m10⟩
          have C21 : Hid (∀ w', w' = w6 → Calls Try.prog 21 #[.pointer (some ⟨W2.heap.size, 0, none⟩)] w' fun e w' => e = .returned (.bool false) ∧ w' = w6) := fun w' h => by subst h; exact isLarge_any _ rn rs _ K6.out.1
          have C22 : Hid (∀ w', w' = w6 → Calls Try.prog 22 #[.pointer (some ⟨W2.heap.size, 0, none⟩)] w' fun e w' => e = .returned (.bool rn) ∧ w' = w6) := fun w' h => by subst h; exact coefNeg_any _ rn rs _ K6.out.1
          have C23 : Hid (∀ w', w' = w6 → Calls Try.prog 23 #[.pointer (some ⟨W2.heap.size, 0, none⟩)] w' fun e w' => e = .returned (.slice (some ⟨W2.heap.size, 2, none⟩) kz 12) ∧ ∃ q, w' = w6.drewN q) := fun w' h => by subst h; exact coefWords_any _ kz rn rs _ hkz K6.out.1
          have C16 : Hid (∀ q, Calls Try.prog 16 #[.bool rn, .slice (some ⟨W2.heap.size, 2, none⟩) kz 12, .bool rn2, .slice (some ⟨g6, 0, none⟩) k6 cap6] (w6.drewN q) fun e w' => e = .returned (.int .i64 0) ∧ ∃ q, w' = w6.drewN q) := fun q => by
            have hz12 := K6.out.1.2.1
            rw [hkz] at hz12
            have h := c2SCmp_any rn rn2 (w6.heap.size) (w6.heap.size) (some ⟨W2.heap.size, 2, none⟩) (some ⟨g6, 0, none⟩) kz k6 12 cap6 rs rs6 hkz m1 K6.out.1.2.2.1 m2' (by omega) (by omega) hz12 m5 (w6.drewN q) (K6.out.1.src (by have := K6.out.1.1; omega)) (.inr ⟨g6, 0, rfl, m8, by omega, m9⟩)
            rw [m4, K5.out.2.1, hV, cmp3_eq rfl] at h
            refine h.mono ?_
            rintro e w' ⟨he, q', rfl⟩
            exact ⟨he, _, World.drewN_drewN _ _ _⟩
          clear m1 m2' m3 m4 m5 m6 m7 m8 m9 m10 hV hkz K5 K3
          go_wp2_with fail
          refine (C21.out _ rfl).mono ?_
          rintro e w' ⟨rfl, hw⟩
          subst w'
          go_wp2_with fail
          refine (C22.out _ rfl).mono ?_
          rintro e w' ⟨rfl, hw⟩
          subst w'
          go_wp2_with fail
          refine (C23.out _ rfl).mono ?_
          rintro e w' ⟨rfl, q5, hw⟩
          subst w'
          go_wp2_with fail
          refine (C16.out _).mono ?_
          rintro e w' ⟨rfl, q6, hw⟩
          subst w'
          go_wp2
          go_ret
          exact ⟨rfl, gb_below (gb_trans K6.out.2 (gb_drewN _ _ _))⟩
        · go_wp2
          go_ret
          exact ⟨rfl, gb_below (gb_trans K2.out.2.2 (gb_drewN _ _ _))⟩
      · go_wp2
        go_ret
        exact ⟨rfl, gb_below (gb_trans K2.out.2.2 (gb_drewN _ _ _))⟩
end Go.Proofs.Qxb6003404a
