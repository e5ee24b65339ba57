/-
  THE WALKS of cmpWords (47), ZZCmpWords (31), c2Cmp (18).
-/
import Derived.Test.Qxb6003404aTrimWalk
import Derived.Test.Qxb6003404aCmpPlain
import Derived.Deep.QuietTactic
import Derived.BigQuiet
namespace Go.Proofs.Qxb6003404a
open Go.RowKit

theorem ret_int {a b : Int} (h : a = b) : Ending.returned (.int .i64 a) = .returned (.int .i64 b) := by rw [h]

set_option maxHeartbeats 1000000 in
/-- Of one length, not empty. -/
theorem cmpWords_core (b off cap c oc cc n : Nat) (us vs : List Nat) (hlu : Hid (us.length = n)) (hlv : Hid (vs.length = n)) (hwu : Hid (Words us)) (hwv : Hid (Words vs)) (hn : n ≤ 9223372036854775807) (w : World) (hru : RowAt w b off us) (hrv : RowAt w c oc vs) :
    Calls Try.prog 47 #[.slice (some ⟨b, off, none⟩) n cap, .slice (some ⟨c, oc, none⟩) n cc] w fun e w' => e = .returned (.int .i64 (cmp3 (val us : Int) (val vs : Int))) ∧ ∃ q, w' = w.drewN q := by
  go_enter Try.func47, Try.ntmps47
  go_wp2
  go_loopg [5] n (fun gg si wx => gg ≤ n ∧ si = .int .i64 ((gg : Int) - 1) ∧ Hid (us.drop gg = vs.drop gg) ∧ ∃ q, wx = w.drewN q)
  case atStart => exact ⟨Nat.le_refl _, rfl, (show us.drop n = vs.drop n by rw [List.drop_of_length_le (by rw [hlu.out]; exact Nat.le_refl _), List.drop_of_length_le (by rw [hlv.out]; exact Nat.le_refl _)]), 0, rfl⟩
  case round =>
    obtain ⟨hg, rfl, HE, q, rfl⟩ := hrel
    by_cases h0 : gk = 0
    · subst h0
      have E : Hid (us = vs) := (show us = vs by have := HE.out; rw [List.drop_zero, List.drop_zero] at this; exact this)
      go_wp2
      go_ret
      exact ⟨ret_int (by rw [E.out]; exact (cmp3_eq rfl).symm), q, rfl⟩
    · obtain ⟨k, rfl⟩ : ∃ k, gk = k + 1 := ⟨gk - 1, by omega⟩
      have hcu := hru k (by rw [hlu.out]; omega)
      have hcv := hrv k (by rw [hlv.out]; omega)
      have HT : Hid (us.getD k 0 < vs.getD k 0 → val us < val vs) := fun h => top_lt hwu.out (hlu.out.trans hlv.out.symm) (by rw [hlu.out]; omega) HE.out h
      have HT' : Hid (vs.getD k 0 < us.getD k 0 → val vs < val us) := fun h => top_lt hwv.out (hlv.out.trans hlu.out.symm) (by rw [hlv.out]; omega) HE.out.symm h
      have HD : Hid (us.getD k 0 = vs.getD k 0 → us.drop k = vs.drop k) := fun h => drop_eq_step (by rw [hlu.out]; omega) (by rw [hlv.out]; omega) HE.out h
      obtain ⟨x, hx⟩ : ∃ x, us.getD k 0 = x := ⟨_, rfl⟩
      obtain ⟨y, hy⟩ : ∃ y, vs.getD k 0 = y := ⟨_, rfl⟩
      rw [hx] at hcu HT HT' HD
      rw [hy] at hcv HT HT' HD
      have hi0 : (0 : Int) ≤ (k : Int) := by omega
      have hi1 : (k : Int) < (n : Int) := by omega
      clear hx hy h0 HE
      rcases Nat.lt_trichotomy x y with hxy | hxy | hxy
      · have hne : ((x : Int) != (y : Int)) = true := by simp; omega
        have R : Hid (cmp3 (val us : Int) (val vs : Int) = -1) := cmp3_lt (by have := HT.out hxy; omega)
        go_wp2
        go_quiet (fail)
        go_wp2
        go_quiet (fail)
        go_wp2
        go_ret
        exact ⟨ret_int R.out.symm, by simp only [World.drewN_drewN]; exact ⟨_, rfl⟩⟩
      · subst hxy
        have N : Hid (us.drop k = vs.drop k) := HD.out rfl
        go_wp2
        go_quiet (fail)
        go_wp2
        go_roundg k
        case measure => omega
        case rel => exact ⟨by omega, by go_num, N, _, rfl⟩
      · have hne : ((x : Int) != (y : Int)) = true := by simp; omega
        have R : Hid (cmp3 (val us : Int) (val vs : Int) = 1) := cmp3_gt (by have := HT'.out hxy; omega)
        go_wp2
        go_quiet (fail)
        go_wp2
        go_quiet (fail)
        go_wp2
        go_ret
        exact ⟨ret_int R.out.symm, by simp only [World.drewN_drewN]; exact ⟨_, rfl⟩⟩

/-- cmpWords at trimmed lists. -/
theorem cmpWords_any (z z' : Nat) (a a' : Option Addr) (n m cap cap' : Nat) (us vs : List Nat) (hlu : Hid (us.length = n)) (hlv : Hid (vs.length = m)) (hwu : Hid (Words us)) (hwv : Hid (Words vs)) (htu : Hid (Trimmed us)) (htv : Hid (Trimmed vs)) (hn : n ≤ 9223372036854775807) (hm : m ≤ 9223372036854775807)
    (w : World) (hu : Src w z a us) (hv : Src w z' a' vs) :
    Calls Try.prog 47 #[.slice a n cap, .slice a' m cap'] w fun e w' => e = .returned (.int .i64 (cmp3 (val us : Int) (val vs : Int))) ∧ ∃ q, w' = w.drewN q := by
  by_cases hnm : n = m
  · subst hnm
    by_cases h0 : n = 0
    · subst h0
      have e1 : us = [] := List.eq_nil_of_length_eq_zero hlu.out
      have e2 : vs = [] := List.eq_nil_of_length_eq_zero hlv.out
      have R : Hid (cmp3 (val us : Int) (val vs : Int) = 0) := cmp3_eq (by rw [e1, e2])
      clear e1 e2 hu hv
      go_enter Try.func47, Try.ntmps47
      go_wp2
      refine wp_loop_rounds 1 ?_
      rw [rounds_succ]
      go_wp2
      go_ret
      exact ⟨ret_int R.out.symm, 0, rfl⟩
    · obtain ⟨b, off, rfl, _, _, hr⟩ := hu.at (j := 0) (by have := hlu.out; omega)
      obtain ⟨c, oc, rfl, _, _, hr'⟩ := hv.at (j := 0) (by have := hlv.out; omega)
      exact cmpWords_core b off cap c oc cap' n us vs hlu hlv hwu hwv hn w hr hr'
  · have hb : ((n : Int) != (m : Int)) = true := by simp; omega
    by_cases hlt : n < m
    · have R : Hid (cmp3 (val us : Int) (val vs : Int) = -1) := cmp3_lt (by have := shorter_lt hwu.out htv.out (by rw [hlu.out, hlv.out]; exact hlt); omega)
      clear hu hv hnm
      go_enter Try.func47, Try.ntmps47
      go_wp2
      go_ret
      exact ⟨ret_int R.out.symm, 0, rfl⟩
    · have R : Hid (cmp3 (val us : Int) (val vs : Int) = 1) := cmp3_gt (by have := shorter_lt hwv.out htu.out (by rw [hlu.out, hlv.out]; omega); omega)
      clear hu hv hnm
      go_enter Try.func47, Try.ntmps47
      go_wp2
      go_ret
      exact ⟨ret_int R.out.symm, 0, rfl⟩

theorem zzCmpWords_any (z z' : Nat) (a a' : Option Addr) (n m cap cap' : Nat) (us vs : List Nat) (hlu : Hid (us.length = n)) (hlv : Hid (vs.length = m)) (hwu : Hid (Words us)) (hwv : Hid (Words vs)) (htu : Hid (Trimmed us)) (htv : Hid (Trimmed vs)) (hn : n ≤ 9223372036854775807) (hm : m ≤ 9223372036854775807)
    (w : World) (hu : Hid (Src w z a us)) (hv : Hid (Src w z' a' vs)) :
    Calls Try.prog 31 #[.slice a n cap, .slice a' m cap'] w fun e w' => e = .returned (.int .i64 (cmp3 (val us : Int) (val vs : Int))) ∧ ∃ q, w' = w.drewN q := by
  go_enter Try.func31, Try.ntmps31
  go_wp2_with (go_at_call 47; refine (cmpWords_any z z' a a' n m cap cap' us vs hlu hlv hwu hwv htu htv hn hm _ hu.out hv.out).mono ?_; rintro e w' ⟨rfl, q, rfl⟩)
  go_ret
  exact ⟨rfl, q, rfl⟩

set_option maxHeartbeats 1000000 in
/-- c2Cmp, where both trimmed lists are of one length, not empty. -/
theorem c2Cmp_core (b off cap c oc cc n m k : Nat) (xs ys : List Nat) (hx : Hid (xs.length = n)) (hy : Hid (ys.length = m)) (htx : Hid (tl xs = k)) (hty : Hid (tl ys = k)) (hwx : Hid (Words xs)) (hwy : Hid (Words ys)) (hn : n ≤ 9223372036854775807) (hm : m ≤ 9223372036854775807) (hcn : n ≤ cap) (hcm : m ≤ cc)
    (hk1 : 1 ≤ k) (w : World) (hrx : Hid (RowAt w b off xs)) (hry : Hid (RowAt w c oc ys)) :
    Calls Try.prog 18 #[.slice (some ⟨b, off, none⟩) n cap, .slice (some ⟨c, oc, none⟩) m cc] w fun e w' => e = .returned (.int .i64 (cmp3 (val xs : Int) (val ys : Int))) ∧ ∃ q, w' = w.drewN q := by
  have hkn : k ≤ n := by have := tl_le xs; rw [htx.out, hx.out] at this; exact this
  have hkm : k ≤ m := by have := tl_le ys; rw [hty.out, hy.out] at this; exact this
  have hru : RowAt w b off (xs.take k) := hrx.out.take k
  have hrv : RowAt w c oc (ys.take k) := hry.out.take k
  obtain ⟨us, eus⟩ : ∃ us, us = xs.take k := ⟨_, rfl⟩
  obtain ⟨vs, evs⟩ : ∃ vs, vs = ys.take k := ⟨_, rfl⟩
  rw [← eus] at hru
  rw [← evs] at hrv
  have hlu : Hid (us.length = k) := (show _ = _ by rw [eus]; have := hx.out; simp; omega)
  have hlv : Hid (vs.length = k) := (show _ = _ by rw [evs]; have := hy.out; simp; omega)
  have hwu : Hid (Words us) := (show Words us by rw [eus]; exact words_take hwx.out k)
  have hwv : Hid (Words vs) := (show Words vs by rw [evs]; exact words_take hwy.out k)
  have EU : Hid (val us = val xs) := (show _ = _ by rw [eus, ← htx.out]; exact val_tl xs)
  have EV : Hid (val vs = val ys) := (show _ = _ by rw [evs, ← hty.out]; exact val_tl ys)
  have T1 : Hid (∀ w, RowAt w b off xs → Calls Try.prog 13 #[.slice (some ⟨b, off, none⟩) n cap] w fun e w' => e = .returned (.slice (some ⟨b, off, none⟩) k cap) ∧ w' = w) := fun w h => by
    have := c2Trim_core b off cap n xs hx hn hcn w h
    rw [htx.out] at this
    exact this
  have T2 : Hid (∀ w, RowAt w c oc ys → Calls Try.prog 13 #[.slice (some ⟨c, oc, none⟩) m cc] w fun e w' => e = .returned (.slice (some ⟨c, oc, none⟩) k cc) ∧ w' = w) := fun w h => by
    have := c2Trim_core c oc cc m ys hy hm hcm w h
    rw [hty.out] at this
    exact this
  rw [← EU.out, ← EV.out]
  have hn' : k ≤ 9223372036854775807 := by omega
  clear eus evs EU EV
  go_enter Try.func18, Try.ntmps18
  go_wp2_with fail
  refine (T1.out _ hrx.out).mono ?_
  rintro e w' ⟨rfl, hw⟩
  subst w'
  go_wp2_with fail
  refine (T2.out _ hry.out).mono ?_
  rintro e w' ⟨rfl, hw⟩
  subst w'
  go_wp2
  go_loopg [7] k (fun gg si wx => gg ≤ k ∧ si = .int .i64 ((gg : Int) - 1) ∧ Hid (us.drop gg = vs.drop gg) ∧ ∃ q, wx = w.drewN q)
  case atStart => exact ⟨Nat.le_refl _, rfl, (show us.drop k = vs.drop k by rw [List.drop_of_length_le (by rw [hlu.out]; exact Nat.le_refl _), List.drop_of_length_le (by rw [hlv.out]; exact Nat.le_refl _)]), 0, rfl⟩
  case round =>
    obtain ⟨hg, rfl, HE, q, rfl⟩ := hrel
    by_cases h0 : gk = 0
    · subst h0
      have E : Hid (us = vs) := (show us = vs by have := HE.out; rw [List.drop_zero, List.drop_zero] at this; exact this)
      go_wp2
      go_ret
      exact ⟨ret_int (by rw [E.out]; exact (cmp3_eq rfl).symm), q, rfl⟩
    · obtain ⟨j, rfl⟩ : ∃ j, gk = j + 1 := ⟨gk - 1, by omega⟩
      have hcu := hru j (by rw [hlu.out]; omega)
      have hcv := hrv j (by rw [hlv.out]; omega)
      have HT : Hid (us.getD j 0 < vs.getD j 0 → val us < val vs) := fun h => top_lt hwu.out (hlu.out.trans hlv.out.symm) (by rw [hlu.out]; omega) HE.out h
      have HT' : Hid (vs.getD j 0 < us.getD j 0 → val vs < val us) := fun h => top_lt hwv.out (hlv.out.trans hlu.out.symm) (by rw [hlv.out]; omega) HE.out.symm h
      have HD : Hid (us.getD j 0 = vs.getD j 0 → us.drop j = vs.drop j) := fun h => drop_eq_step (by rw [hlu.out]; omega) (by rw [hlv.out]; omega) HE.out h
      obtain ⟨x, hx⟩ : ∃ x, us.getD j 0 = x := ⟨_, rfl⟩
      obtain ⟨y, hy⟩ : ∃ y, vs.getD j 0 = y := ⟨_, rfl⟩
      rw [hx] at hcu HT HT' HD
      rw [hy] at hcv HT HT' HD
      have hi0 : (0 : Int) ≤ (j : Int) := by omega
      have hi1 : (j : Int) < (k : Int) := by omega
      clear hx hy h0 HE
      rcases Nat.lt_trichotomy x y with hxy | hxy | hxy
      · have hne : ((x : Int) != (y : Int)) = true := by simp; omega
        have R : Hid (cmp3 (val us : Int) (val vs : Int) = -1) := cmp3_lt (by have := HT.out hxy; omega)
        go_wp2
        go_quiet (fail)
        go_wp2
        go_quiet (fail)
        go_wp2
        go_ret
        exact ⟨ret_int R.out.symm, by simp only [World.drewN_drewN]; exact ⟨_, rfl⟩⟩
      · subst hxy
        have N : Hid (us.drop j = vs.drop j) := HD.out rfl
        go_wp2
        go_quiet (fail)
        go_wp2
        go_roundg j
        case measure => omega
        case rel => exact ⟨by omega, by go_num, N, _, rfl⟩
      · have hne : ((x : Int) != (y : Int)) = true := by simp; omega
        have R : Hid (cmp3 (val us : Int) (val vs : Int) = 1) := cmp3_gt (by have := HT'.out hxy; omega)
        go_wp2
        go_quiet (fail)
        go_wp2
        go_quiet (fail)
        go_wp2
        go_ret
        exact ⟨ret_int R.out.symm, by simp only [World.drewN_drewN]; exact ⟨_, rfl⟩⟩

/-- c2Cmp at whatever two slices of words: it compares their values. -/
theorem c2Cmp_any (z z' : Nat) (a a' : Option Addr) (n m cap cap' : Nat) (xs ys : List Nat) (hx : Hid (xs.length = n)) (hy : Hid (ys.length = m)) (hwx : Hid (Words xs)) (hwy : Hid (Words ys)) (hn : n ≤ 9223372036854775807) (hm : m ≤ 9223372036854775807) (hcn : n ≤ cap) (hcm : m ≤ cap')
    (w : World) (hu : Hid (Src w z a xs)) (hv : Hid (Src w z' a' ys)) :
    Calls Try.prog 18 #[.slice a n cap, .slice a' m cap'] w fun e w' => e = .returned (.int .i64 (cmp3 (val xs : Int) (val ys : Int))) ∧ ∃ q, w' = w.drewN q := by
  have htx := tl_le xs
  have hty := tl_le ys
  rw [hx.out] at htx
  rw [hy.out] at hty
  have EU := val_tl xs
  have EV := val_tl ys
  have lu : (xs.take (tl xs)).length = tl xs := by have := tl_le xs; simp; omega
  have lv : (ys.take (tl ys)).length = tl ys := by have := tl_le ys; simp; omega
  by_cases hnm : tl xs = tl ys
  · by_cases h0 : tl ys = 0
    · have R : Hid (cmp3 (val xs : Int) (val ys : Int) = 0) := cmp3_eq (by rw [← EU, ← EV, hnm, h0]; rfl)
      obtain ⟨t, ht⟩ : ∃ t, tl xs = t := ⟨_, rfl⟩
      obtain ⟨t', ht'⟩ : ∃ t', tl ys = t' := ⟨_, rfl⟩
      have C1 := fun w h => c2Trim_any z a n cap xs hx hn hcn w h
      have C2 := fun w h => c2Trim_any z' a' m cap' ys hy hm hcm w h
      have e0 : tl xs = 0 := hnm.trans h0
      rw [e0] at C1
      rw [h0] at C2
      have D1 : Hid _ := C1
      have D2 : Hid _ := C2
      clear C1 C2 EU EV lu lv hnm h0 ht ht' e0 htx hty
      go_enter Try.func18, Try.ntmps18
      go_wp2_with fail
      refine (D1.out _ hu.out).mono ?_
      rintro e w' ⟨rfl, hw⟩
      subst w'
      go_wp2_with fail
      refine (D2.out _ hv.out).mono ?_
      rintro e w' ⟨rfl, hw⟩
      subst w'
      go_wp2
      refine wp_loop_rounds 1 ?_
      rw [rounds_succ]
      go_wp2
      go_ret
      exact ⟨ret_int R.out.symm, 0, rfl⟩
    · obtain ⟨b, off, rfl, _, _, hr⟩ := hu.out.at (j := 0) (by have := tl_le xs; omega)
      obtain ⟨c, oc, rfl, _, _, hr'⟩ := hv.out.at (j := 0) (by have := tl_le ys; omega)
      exact c2Cmp_core b off cap c oc cap' n m (tl ys) xs ys hx hy hnm rfl hwx hwy hn hm hcn hcm (by omega) w hr hr'
  · have C1 := fun w h => c2Trim_any z a n cap xs hx hn hcn w h
    have C2 := fun w h => c2Trim_any z' a' m cap' ys hy hm hcm w h
    by_cases hlt : tl xs < tl ys
    · have R : Hid (cmp3 (val xs : Int) (val ys : Int) = -1) := cmp3_lt (by have := shorter_lt (words_take hwx.out (tl xs)) (trimmed_tl ys) (by rw [lu, lv]; exact hlt); rw [EU, EV] at this; omega)
      obtain ⟨t, ht⟩ : ∃ t, tl xs = t := ⟨_, rfl⟩
      obtain ⟨t', ht'⟩ : ∃ t', tl ys = t' := ⟨_, rfl⟩
      rw [ht] at C1 htx hlt
      rw [ht'] at C2 hty hlt
      have D1 : Hid _ := C1
      have D2 : Hid _ := C2
      have hb : ((t : Int) != (t' : Int)) = true := by simp; omega
      clear C1 C2 EU EV lu lv hnm ht ht'
      go_enter Try.func18, Try.ntmps18
      go_wp2_with fail
      refine (D1.out _ hu.out).mono ?_
      rintro e w' ⟨rfl, hw⟩
      subst w'
      go_wp2_with fail
      refine (D2.out _ hv.out).mono ?_
      rintro e w' ⟨rfl, hw⟩
      subst w'
      go_wp2
      go_ret
      exact ⟨ret_int R.out.symm, 0, rfl⟩
    · have R : Hid (cmp3 (val xs : Int) (val ys : Int) = 1) := cmp3_gt (by have := shorter_lt (words_take hwy.out (tl ys)) (trimmed_tl xs) (by rw [lu, lv]; omega); rw [EU, EV] at this; omega)
      obtain ⟨t, ht⟩ : ∃ t, tl xs = t := ⟨_, rfl⟩
      obtain ⟨t', ht'⟩ : ∃ t', tl ys = t' := ⟨_, rfl⟩
      rw [ht] at C1 htx hlt hnm
      rw [ht'] at C2 hty hlt hnm
      have D1 : Hid _ := C1
      have D2 : Hid _ := C2
      have hgt : t' < t := by omega
      have hb : ((t : Int) != (t' : Int)) = true := by simp; omega
      clear C1 C2 EU EV lu lv hnm ht ht' hlt
      go_enter Try.func18, Try.ntmps18
      go_wp2_with fail
      refine (D1.out _ hu.out).mono ?_
      rintro e w' ⟨rfl, hw⟩
      subst w'
      go_wp2_with fail
      refine (D2.out _ hv.out).mono ?_
      rintro e w' ⟨rfl, hw⟩
      subst w'
      go_wp2
      go_ret
      exact ⟨ret_int R.out.symm, 0, rfl⟩
end Go.Proofs.Qxb6003404a
