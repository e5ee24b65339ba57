/-
  THE WALKS of c2IsZero (55), c2Sign (37), c2SCmp (16), c2SAdd (20).
-/
import Derived.Test.Qxb6003404aCoefWalk
import Derived.Test.Qxb6003404aC2Add
namespace Go.Proofs.Qxb6003404a
open Go.RowKit

theorem tl_zero_iff (zs : List Nat) : val zs = 0 ↔ tl zs = 0 := by
  have h := val_zero_iff (trimmed_tl zs)
  have hl : (zs.take (tl zs)).length = tl zs := by have := tl_le zs; simp; omega
  rw [val_tl, hl] at h
  exact h

theorem c2IsZero_any (z : Nat) (a : Option Addr) (n cap : Nat) (zs : List Nat) (hlen : Hid (zs.length = n)) (hn : n ≤ 9223372036854775807) (hcap : n ≤ cap) (w : World) (h : Hid (Src w z a zs)) :
    Calls Try.prog 55 #[.slice a n cap] w fun e w' => e = .returned (.bool (decide (val zs = 0))) ∧ w' = w := by
  have E : Hid (decide (val zs = 0) = ((tl zs : Int) == 0)) := (show _ = _ by
    have := tl_zero_iff zs
    by_cases h0 : tl zs = 0
    · simp [this.2 h0, h0]
    · simp [mt this.1 h0, h0])
  have C : Hid (∀ w', w' = w → Calls Try.prog 13 #[.slice a n cap] w' fun e w' => e = .returned (.slice a (tl zs) cap) ∧ w' = w) := fun w' e => by subst e; exact c2Trim_any z a n cap zs hlen hn hcap _ h.out
  rw [E.out]
  obtain ⟨t, ht⟩ : ∃ t, tl zs = t := ⟨_, rfl⟩
  rw [ht] at C ⊢
  clear ht E h
  go_enter Try.func55, Try.ntmps55
  go_wp2_with fail
  refine (C.out _ rfl).mono ?_
  rintro e w' ⟨rfl, hw⟩
  subst w'
  go_wp2
  go_ret
  exact ⟨rfl, rfl⟩

theorem c2Sign_any (neg : Bool) (z : Nat) (a : Option Addr) (n cap : Nat) (zs : List Nat) (hlen : Hid (zs.length = n)) (hn : n ≤ 9223372036854775807) (hcap : n ≤ cap) (w : World) (h : Hid (Src w z a zs)) :
    Calls Try.prog 37 #[.bool neg, .slice a n cap] w fun e w' => e = .returned (.int .i64 (sg neg (val zs))) ∧ w' = w := by
  have C : Hid (∀ w', w' = w → Calls Try.prog 55 #[.slice a n cap] w' fun e w' => e = .returned (.bool (decide (val zs = 0))) ∧ w' = w) := fun w' e => by subst e; exact c2IsZero_any z a n cap zs hlen hn hcap _ h
  obtain ⟨v, hv⟩ : ∃ v, val zs = v := ⟨_, rfl⟩
  rw [hv] at C ⊢
  clear hv h
  by_cases h0 : v = 0
  · subst h0
    rw [sg_zero]
    go_enter Try.func37, Try.ntmps37
    go_wp2_with (go_at_call 55; refine (C.out _ rfl).mono ?_; rintro e w' ⟨rfl, rfl⟩)
    go_ret
    exact ⟨rfl, rfl⟩
  · have hd : decide (v = 0) = false := decide_eq_false h0
    rw [hd] at C
    cases neg
    · rw [sg_false h0]
      go_enter Try.func37, Try.ntmps37
      go_wp2_with (go_at_call 55; refine (C.out _ rfl).mono ?_; rintro e w' ⟨rfl, rfl⟩)
      go_ret
      exact ⟨rfl, rfl⟩
    · rw [sg_true h0]
      go_enter Try.func37, Try.ntmps37
      go_wp2_with (go_at_call 55; refine (C.out _ rfl).mono ?_; rintro e w' ⟨rfl, rfl⟩)
      go_ret
      exact ⟨rfl, rfl⟩

theorem scmp_parts (xn yn : Bool) (x y : Nat) (h : sg xn x = sg yn y) :
    (sg xn x = 0 → cmp3 (sv xn x) (sv yn y) = 0) ∧ (0 < sg xn x → cmp3 (sv xn x) (sv yn y) = cmp3 (x : Int) (y : Int)) ∧ (sg xn x < 0 → cmp3 (sv xn x) (sv yn y) = cmp3 (y : Int) (x : Int)) := by
  have hs := scmp_same xn yn x y h
  by_cases hx : x = 0 <;> by_cases hy : y = 0 <;> cases xn <;> cases yn <;> simp [sg, hx, hy] at h ⊢ <;> simp [hx, hy] at hs ⊢ <;> first | exact hs | (rw [hs]; exact cmp3_eq rfl)

theorem c2SCmp_any (an bn : Bool) (z z' : Nat) (a a' : Option Addr) (n m cap cap' : Nat) (xs ys : List Nat) (hx : Hid (xs.length = n)) (hy : Hid (ys.length = m)) (hwx : Hid (Words xs)) (hwy : Hid (Words ys)) (hn : n ≤ 9223372036854775807) (hm : m ≤ 9223372036854775807) (hcn : n ≤ cap) (hcm : m ≤ cap')
    (w : World) (hu : Hid (Src w z a xs)) (hv : Hid (Src w z' a' ys)) :
    Calls Try.prog 16 #[.bool an, .slice a n cap, .bool bn, .slice a' m cap'] w fun e w' => e = .returned (.int .i64 (cmp3 (sv an (val xs)) (sv bn (val ys)))) ∧ ∃ q, w' = w.drewN q := by
  have C1 : Hid (∀ w', w' = w → Calls Try.prog 37 #[.bool an, .slice a n cap] w' fun e w' => e = .returned (.int .i64 (sg an (val xs))) ∧ w' = w) := fun w' e => by subst e; exact c2Sign_any an z a n cap xs hx hn hcn _ hu
  have C2 : Hid (∀ w', w' = w → Calls Try.prog 37 #[.bool bn, .slice a' m cap'] w' fun e w' => e = .returned (.int .i64 (sg bn (val ys))) ∧ w' = w) := fun w' e => by subst e; exact c2Sign_any bn z' a' m cap' ys hy hm hcm _ hv
  have C3 : Hid (∀ w', w' = w → Calls Try.prog 18 #[.slice a n cap, .slice a' m cap'] w' fun e w' => e = .returned (.int .i64 (cmp3 (val xs : Int) (val ys : Int))) ∧ ∃ q, w' = w.drewN q) := fun w' e => by subst e; exact c2Cmp_any z z' a a' n m cap cap' xs ys hx hy hwx hwy hn hm hcn hcm _ hu hv
  have C4 : Hid (∀ w', w' = w → Calls Try.prog 18 #[.slice a' m cap', .slice a n cap] w' fun e w' => e = .returned (.int .i64 (cmp3 (val ys : Int) (val xs : Int))) ∧ ∃ q, w' = w.drewN q) := fun w' e => by subst e; exact c2Cmp_any z' z a' a m n cap' cap ys xs hy hx hwy hwx hm hn hcm hcn _ hv hu
  have S1 : Hid (sg an (val xs) ≠ sg bn (val ys) → cmp3 (sv an (val xs)) (sv bn (val ys)) = cmp3 (sg an (val xs)) (sg bn (val ys))) := scmp_sign an bn (val xs) (val ys)
  have S2 : Hid (sg an (val xs) = sg bn (val ys) → _) := scmp_parts an bn (val xs) (val ys)
  obtain ⟨r, er⟩ : ∃ r, cmp3 (sv an (val xs)) (sv bn (val ys)) = r := ⟨_, rfl⟩
  rw [er] at S1 S2 ⊢
  obtain ⟨s, es⟩ : ∃ s, sg an (val xs) = s := ⟨_, rfl⟩
  obtain ⟨t, et⟩ : ∃ t, sg bn (val ys) = t := ⟨_, rfl⟩
  rw [es] at C1 S1 S2
  rw [et] at C2 S1 S2
  obtain ⟨k, ek⟩ : ∃ k, cmp3 (val xs : Int) (val ys : Int) = k := ⟨_, rfl⟩
  obtain ⟨k', ek'⟩ : ∃ k', cmp3 (val ys : Int) (val xs : Int) = k' := ⟨_, rfl⟩
  rw [ek] at C3 S2
  rw [ek'] at C4 S2
  clear er es et ek ek' hu hv
  by_cases hst : s = t
  · subst hst
    obtain ⟨p1, p2, p3⟩ := S2.out rfl
    rcases Int.lt_trichotomy s 0 with h0 | h0 | h0
    · have E : Hid (r = k') := p3 h0
      clear p1 p2 p3 S1 S2
      have hb : (s == 0) = false := by simp; omega
      go_enter Try.func16, Try.ntmps16
      go_wp2_with fail
      refine (C1.out _ rfl).mono ?_
      rintro e w' ⟨rfl, hw⟩
      subst w'
      go_wp2_with fail
      refine (C2.out _ rfl).mono ?_
      rintro e w' ⟨rfl, hw⟩
      subst w'
      go_wp2_with fail
      refine (C4.out _ rfl).mono ?_
      rintro e w' ⟨rfl, q, hw⟩
      subst w'
      go_wp2
      go_ret
      exact ⟨ret_int E.out.symm, q, rfl⟩
    · subst h0
      have E : Hid (r = 0) := p1 rfl
      clear p1 p2 p3 S1 S2
      go_enter Try.func16, Try.ntmps16
      go_wp2_with fail
      refine (C1.out _ rfl).mono ?_
      rintro e w' ⟨rfl, hw⟩
      subst w'
      go_wp2_with fail
      refine (C2.out _ rfl).mono ?_
      rintro e w' ⟨rfl, hw⟩
      subst w'
      go_wp2
      go_ret
      exact ⟨ret_int E.out.symm, 0, rfl⟩
    · have E : Hid (r = k) := p2 h0
      clear p1 p2 p3 S1 S2
      have hb : (s == 0) = false := by simp; omega
      go_enter Try.func16, Try.ntmps16
      go_wp2_with fail
      refine (C1.out _ rfl).mono ?_
      rintro e w' ⟨rfl, hw⟩
      subst w'
      go_wp2_with fail
      refine (C2.out _ rfl).mono ?_
      rintro e w' ⟨rfl, hw⟩
      subst w'
      go_wp2_with fail
      refine (C3.out _ rfl).mono ?_
      rintro e w' ⟨rfl, q, hw⟩
      subst w'
      go_wp2
      go_ret
      exact ⟨ret_int E.out.symm, q, rfl⟩
  · have hne : (s != t) = true := by simp [hst]
    rcases Int.lt_trichotomy s t with h0 | h0 | h0
    · have E : Hid (r = -1) := (S1.out hst).trans (cmp3_lt h0)
      clear S1 S2 hst
      go_enter Try.func16, Try.ntmps16
      go_wp2_with fail
      refine (C1.out _ rfl).mono ?_
      rintro e w' ⟨rfl, hw⟩
      subst w'
      go_wp2_with fail
      refine (C2.out _ rfl).mono ?_
      rintro e w' ⟨rfl, hw⟩
      subst w'
      go_wp2
      go_ret
      exact ⟨ret_int E.out.symm, 0, rfl⟩
    · exact absurd h0 hst
    · have E : Hid (r = 1) := (S1.out hst).trans (cmp3_gt h0)
      clear S1 S2 hst
      go_enter Try.func16, Try.ntmps16
      go_wp2_with fail
      refine (C1.out _ rfl).mono ?_
      rintro e w' ⟨rfl, hw⟩
      subst w'
      go_wp2_with fail
      refine (C2.out _ rfl).mono ?_
      rintro e w' ⟨rfl, hw⟩
      subst w'
      go_wp2
      go_ret
      exact ⟨ret_int E.out.symm, 0, rfl⟩

theorem Made.from_drewN {w w' : World} {v : Value} {V q : Nat} (h : Made (w.drewN q) w' v V) : Made w w' v V := by
  obtain ⟨g, k, cap, rs, h1, h2, h3, h4, h5, h6, h7, h8, h9, h10, h11⟩ := h
  exact ⟨g, k, cap, rs, h1, h2, h3, h4, h5, h6, h7, h8, h9, h10, gb_trans (gb_drewN _ _ _) h11⟩

theorem sv_add (n : Bool) (x y : Nat) : sv n (x + y) = sv n x + sv n y := by cases n <;> simp [sv] <;> omega
theorem sv_sub {an bn : Bool} (hne : an ≠ bn) {x y D : Nat} (h : D + y = x) : sv an D = sv an x + sv bn y := by cases an <;> cases bn <;> simp [sv] at hne ⊢ <;> omega

theorem c2SAdd_any (an bn : Bool) (z z' : Nat) (a a' : Option Addr) (n m cap cap' : Nat) (xs ys : List Nat) (hx : Hid (xs.length = n)) (hy : Hid (ys.length = m)) (hwx : Hid (Words xs)) (hwy : Hid (Words ys)) (hn : Hid (n ≤ 200000 ∧ m ≤ 200000)) (hcn : n ≤ cap) (hcm : m ≤ cap')
    (w : World) (hu : Hid (Src w z a xs)) (hv : Hid (Src w z' a' ys)) :
    Calls Try.prog 20 #[.bool an, .slice a n cap, .bool bn, .slice a' m cap'] w fun e w' => ∃ rn v V, e = .returned (.tuple #[.bool rn, v]) ∧ Made w w' v V ∧ sv rn V = sv an (val xs) + sv bn (val ys) := by
  have hn1 : n ≤ 9223372036854775807 := by have := hn.out; omega
  have hm1 : m ≤ 9223372036854775807 := by have := hn.out; omega
  by_cases hab : an = bn
  · subst hab
    go_enter Try.func20, Try.ntmps20
    go_wp2_with fail
    refine (c2Add_any z z' a a' n m cap cap' xs ys hx hy hwx hwy hn _ hu hv).mono ?_
    rintro e w' ⟨v, rfl, hM⟩
    have HM : Hid (Made w w' v (val xs + val ys)) := hM
    clear hM
    go_wp2
    go_ret2
    exact ⟨an, v, _, rfl, HM.out, sv_add _ _ _⟩
  · have hbb : (an == bn) = false := by simp [hab]
    have C3 : Hid (∀ w', w' = w → Calls Try.prog 18 #[.slice a n cap, .slice a' m cap'] w' fun e w' => e = .returned (.int .i64 (cmp3 (val xs : Int) (val ys : Int))) ∧ ∃ q, w' = w.drewN q) := fun w' e => by subst e; exact c2Cmp_any z z' a a' n m cap cap' xs ys hx hy hwx hwy hn1 hm1 hcn hcm _ hu hv
    have hb3 := cmp3_bd (val xs : Int) (val ys : Int)
    obtain ⟨k, ek⟩ : ∃ k, cmp3 (val xs : Int) (val ys : Int) = k := ⟨_, rfl⟩
    have HK : Hid (cmp3 (val xs : Int) (val ys : Int) = k) := ek
    rw [ek] at C3
    clear ek hb3
    by_cases hle : val ys ≤ val xs
    · have HL : Hid (val ys ≤ val xs) := hle
      have hk : 0 ≤ k := by
        rw [← HK.out]
        by_cases e : val xs = val ys
        · rw [e, cmp3_eq rfl]; decide
        · rw [cmp3_gt (by omega)]; decide
      clear hle
      go_enter Try.func20, Try.ntmps20
      go_wp2_with fail
      refine (C3.out _ rfl).mono ?_
      rintro e w' ⟨rfl, q, hw⟩
      subst w'
      go_wp2_with fail
      refine (c2Sub_any z z' a a' n m cap cap' xs ys hx hy hwx hwy hn HL (w.drewN q) (hu.out.drewN q) (hv.out.drewN q)).mono ?_
      rintro e w' ⟨v, D, rfl, hD, hM⟩
      have HM : Hid (D + val ys = val xs ∧ Made w w' v D) := ⟨hD, hM.from_drewN⟩
      clear hD hM
      go_wp2
      go_ret2
      exact ⟨an, v, D, rfl, HM.out.2, sv_sub hab HM.out.1⟩
    · have HL : Hid (val xs ≤ val ys) := (show _ ≤ _ by omega)
      have hk : k < 0 := by
        rw [← HK.out, cmp3_lt (by omega)]
        decide
      clear hle
      go_enter Try.func20, Try.ntmps20
      go_wp2_with fail
      refine (C3.out _ rfl).mono ?_
      rintro e w' ⟨rfl, q, hw⟩
      subst w'
      go_wp2_with fail
      refine (c2Sub_any z' z a' a m n cap' cap ys xs hy hx hwy hwx ⟨hn.out.2, hn.out.1⟩ HL (w.drewN q) (hv.out.drewN q) (hu.out.drewN q)).mono ?_
      rintro e w' ⟨v, D, rfl, hD, hM⟩
      have HM : Hid (D + val xs = val ys ∧ Made w w' v D) := ⟨hD, hM.from_drewN⟩
      clear hD hM
      go_wp2
      go_ret2
      exact ⟨bn, v, D, rfl, HM.out.2, by rw [sv_sub (Ne.symm hab) HM.out.1]; omega⟩
end Go.Proofs.Qxb6003404a
