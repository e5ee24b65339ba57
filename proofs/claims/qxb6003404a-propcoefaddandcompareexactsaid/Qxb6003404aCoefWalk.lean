/-
  THE WALKS of isZero (69), sign (53), cmpAbs (38), cmp.Compare[int] (54), compare (36), ZZCompare (15), ZZCmpAbs (17).
-/
import Derived.Test.Qxb6003404aCmpWalk
import Derived.Test.Qxb6003404aCoefPlain
namespace Go.Proofs.Qxb6003404a
open Go.RowKit

/-- A coef held in words lies in block b. -/
def CoefAt (w : World) (b : Nat) (neg : Bool) (us : List Nat) : Prop :=
  b < w.heap.size ∧ us.length ≤ 12 ∧ Words us ∧ Trimmed us ∧ w.cell? ⟨b, 0, none⟩ = some (.bool neg) ∧ w.cell? ⟨b, 1, none⟩ = some (.int .i64 ((us.length : Nat) : Int)) ∧ RowAt w b 2 us ∧ w.cell? ⟨b, 14, none⟩ = some (.pointer none)

theorem CoefAt.grown {w w' : World} {b : Nat} {neg : Bool} {us : List Nat} {row : Option Nat} (h : CoefAt w b neg us) (hg : w.grownBy w' row) (hne : some b ≠ row) : CoefAt w' b neg us := by
  obtain ⟨h1, h2, h3, h4, h5, h6, h7, h8⟩ := h
  have hc : ∀ o, w'.cell? ⟨b, o, none⟩ = w.cell? ⟨b, o, none⟩ := fun o => World.cell?_of_block (w := w) (hg.block b h1 hne)
  exact ⟨Nat.lt_of_lt_of_le h1 hg.size, h2, h3, h4, (hc 0).trans h5, (hc 1).trans h6, h7.grown hg h1 hne, (hc 14).trans h8⟩
theorem CoefAt.drewN {w : World} {b : Nat} {neg : Bool} {us : List Nat} (h : CoefAt w b neg us) (q : Nat) : CoefAt (w.drewN q) b neg us := h
theorem CoefAt.src {w : World} {b z : Nat} {neg : Bool} {us : List Nat} (h : CoefAt w b neg us) (hz : b ≠ z) : Src w z (some ⟨b, 2, none⟩) us := .inr ⟨b, 2, rfl, h.1, hz, h.2.2.2.2.2.2.1⟩

theorem val_zero_iff {us : List Nat} (ht : Trimmed us) : val us = 0 ↔ us.length = 0 := by
  constructor
  · intro h
    rcases Nat.eq_zero_or_pos us.length with h0 | h0
    · exact h0
    · have := shorter_lt (u := []) (v := us) (by intro x hx; simp at hx) ht (by simpa using h0)
      omega
  · intro h
    rw [List.eq_nil_of_length_eq_zero h]
    rfl

theorem isZero_any (b : Nat) (neg : Bool) (us : List Nat) (w : World) (h : Hid (CoefAt w b neg us)) :
    Calls Try.prog 69 #[.pointer (some ⟨b, 0, none⟩)] w fun e w' => e = .returned (.bool (decide (val us = 0))) ∧ w' = w := by
  have c1 := h.out.2.2.2.2.2.1
  have c14 := h.out.2.2.2.2.2.2.2
  have E : Hid (decide (val us = 0) = ((us.length : Int) == 0)) := (show _ = _ by
    have := val_zero_iff h.out.2.2.2.1
    by_cases h0 : us.length = 0
    · simp [this.2 h0, h0]
    · simp [mt this.1 h0, h0])
  rw [E.out]
  obtain ⟨n, hn⟩ : ∃ n, us.length = n := ⟨_, rfl⟩
  rw [hn] at c1 ⊢
  clear hn E
  go_enter Try.func69, Try.ntmps69
  go_wp2
  go_ret
  exact ⟨rfl, rfl⟩

theorem sign_any (b : Nat) (neg : Bool) (us : List Nat) (w : World) (h : Hid (CoefAt w b neg us)) :
    Calls Try.prog 53 #[.pointer (some ⟨b, 0, none⟩)] w fun e w' => e = .returned (.int .i64 (sg neg (val us))) ∧ w' = w := by
  have c0 := h.out.2.2.2.2.1
  have C := isZero_any b neg us
  obtain ⟨v, hv⟩ : ∃ v, val us = v := ⟨_, rfl⟩
  rw [hv] at C ⊢
  have C' : Hid (∀ w, Hid (CoefAt w b neg us) → _) := C
  clear C hv
  by_cases h0 : v = 0
  · subst h0
    rw [sg_zero]
    go_enter Try.func53, Try.ntmps53
    go_wp2_with (go_at_call 69; refine (C'.out _ h).mono ?_; rintro e w' ⟨rfl, rfl⟩)
    go_ret
    exact ⟨rfl, rfl⟩
  · have hd : decide (v = 0) = false := decide_eq_false h0
    rw [hd] at C'
    cases neg
    · rw [sg_false h0]
      go_enter Try.func53, Try.ntmps53
      go_wp2_with (go_at_call 69; refine (C'.out _ h).mono ?_; rintro e w' ⟨rfl, rfl⟩)
      go_ret
      exact ⟨rfl, rfl⟩
    · rw [sg_true h0]
      go_enter Try.func53, Try.ntmps53
      go_wp2_with (go_at_call 69; refine (C'.out _ h).mono ?_; rintro e w' ⟨rfl, rfl⟩)
      go_ret
      exact ⟨rfl, rfl⟩

theorem compareInt_any (x y : Int) (w : World) : Calls Try.prog 54 #[.int .i64 x, .int .i64 y] w fun e w' => e = .returned (.int .i64 (cmp3 x y)) ∧ w' = w := by
  rcases Int.lt_trichotomy x y with h | h | h
  · rw [cmp3_lt h]
    go_enter Try.func54, Try.ntmps54
    go_wp2
    go_ret
    exact ⟨rfl, rfl⟩
  · subst h
    rw [cmp3_eq rfl]
    go_enter Try.func54, Try.ntmps54
    go_wp2
    go_ret
    exact ⟨rfl, rfl⟩
  · rw [cmp3_gt h]
    go_enter Try.func54, Try.ntmps54
    go_wp2
    go_ret
    exact ⟨rfl, rfl⟩

theorem cmpAbs_any (b b' : Nat) (neg neg' : Bool) (us vs : List Nat) (w : World) (h : Hid (CoefAt w b neg us)) (h' : Hid (CoefAt w b' neg' vs)) :
    Calls Try.prog 38 #[.pointer (some ⟨b, 0, none⟩), .pointer (some ⟨b', 0, none⟩)] w fun e w' => e = .returned (.int .i64 (cmp3 (val us : Int) (val vs : Int))) ∧ ∃ q, w' = w.drewN q := by
  have c1 := h.out.2.2.2.2.2.1
  have c14 := h.out.2.2.2.2.2.2.2
  have d1 := h'.out.2.2.2.2.2.1
  have d14 := h'.out.2.2.2.2.2.2.2
  have hn := h.out.2.1
  have hm := h'.out.2.1
  obtain ⟨n, en⟩ : ∃ n, us.length = n := ⟨_, rfl⟩
  obtain ⟨m, em⟩ : ∃ m, vs.length = m := ⟨_, rfl⟩
  rw [en] at c1 hn
  rw [em] at d1 hm
  have C : Hid (∀ q, Calls Try.prog 47 #[.slice (some ⟨b, 2, none⟩) n 12, .slice (some ⟨b', 2, none⟩) m 12] (w.drewN q) fun e w' => e = .returned (.int .i64 (cmp3 (val us : Int) (val vs : Int))) ∧ ∃ q, w' = w.drewN q) := fun q => by
    refine (cmpWords_any w.heap.size w.heap.size _ _ n m 12 12 us vs en em h.out.2.2.1 h'.out.2.2.1 h.out.2.2.2.1 h'.out.2.2.2.1 (by omega) (by omega) (w.drewN q) (h.out.src (by have := h.out.1; omega)) (h'.out.src (by have := h'.out.1; omega))).mono ?_
    rintro e w' ⟨he, q', rfl⟩
    exact ⟨he, _, World.drewN_drewN _ _ _⟩
  obtain ⟨k, ek⟩ : ∃ k, cmp3 (val us : Int) (val vs : Int) = k := ⟨_, rfl⟩
  rw [ek] at C ⊢
  have hn0 : (0 : Int) ≤ (n : Int) := by omega
  have hn1 : (n : Int) ≤ 12 := by omega
  have hm0 : (0 : Int) ≤ (m : Int) := by omega
  have hm1 : (m : Int) ≤ 12 := by omega
  clear ek en em
  go_enter Try.func38, Try.ntmps38
  go_wp2
  go_quiet ((go_at_call 47; exact C.out _))
  go_wp2
  go_ret
  exact ⟨rfl, _, rfl⟩

theorem compare_any (b b' : Nat) (neg neg' : Bool) (us vs : List Nat) (w : World) (h : Hid (CoefAt w b neg us)) (h' : Hid (CoefAt w b' neg' vs)) :
    Calls Try.prog 36 #[.pointer (some ⟨b, 0, none⟩), .pointer (some ⟨b', 0, none⟩)] w fun e w' => e = .returned (.int .i64 (cmp3 (sv neg (val us)) (sv neg' (val vs)))) ∧ ∃ q, w' = w.drewN q := by
  have c0 := h.out.2.2.2.2.1
  have C1 : Hid (∀ w', w' = w → Calls Try.prog 53 #[.pointer (some ⟨b, 0, none⟩)] w' fun e w' => e = .returned (.int .i64 (sg neg (val us))) ∧ w' = w) := fun w' e => by subst e; exact sign_any b neg us _ h
  have C2 : Hid (∀ w', w' = w → Calls Try.prog 53 #[.pointer (some ⟨b', 0, none⟩)] w' fun e w' => e = .returned (.int .i64 (sg neg' (val vs))) ∧ w' = w) := fun w' e => by subst e; exact sign_any b' neg' vs _ h'
  have C3 : Hid (∀ w', w' = w → Calls Try.prog 38 #[.pointer (some ⟨b, 0, none⟩), .pointer (some ⟨b', 0, none⟩)] w' fun e w' => e = .returned (.int .i64 (cmp3 (val us : Int) (val vs : Int))) ∧ ∃ q, w' = w.drewN q) := fun w' e => by subst e; exact cmpAbs_any b b' neg neg' us vs _ h h'
  have C4 : Hid (∀ w', w' = w → Calls Try.prog 38 #[.pointer (some ⟨b', 0, none⟩), .pointer (some ⟨b, 0, none⟩)] w' fun e w' => e = .returned (.int .i64 (cmp3 (val vs : Int) (val us : Int))) ∧ ∃ q, w' = w.drewN q) := fun w' e => by subst e; exact cmpAbs_any b' b neg' neg vs us _ h' h
  have S1 : Hid (sg neg (val us) ≠ sg neg' (val vs) → cmp3 (sv neg (val us)) (sv neg' (val vs)) = cmp3 (sg neg (val us)) (sg neg' (val vs))) := scmp_sign neg neg' (val us) (val vs)
  have S2 : Hid (sg neg (val us) = sg neg' (val vs) → cmp3 (sv neg (val us)) (sv neg' (val vs)) = if neg then cmp3 (val vs : Int) (val us : Int) else cmp3 (val us : Int) (val vs : Int)) := scmp_same neg neg' (val us) (val vs)
  obtain ⟨r, er⟩ : ∃ r, cmp3 (sv neg (val us)) (sv neg' (val vs)) = r := ⟨_, rfl⟩
  rw [er] at S1 S2 ⊢
  obtain ⟨s, es⟩ : ∃ s, sg neg (val us) = s := ⟨_, rfl⟩
  obtain ⟨t, et⟩ : ∃ t, sg neg' (val vs) = t := ⟨_, rfl⟩
  rw [es] at C1 S1 S2
  rw [et] at C2 S1 S2
  obtain ⟨k, ek⟩ : ∃ k, cmp3 (val us : Int) (val vs : Int) = k := ⟨_, rfl⟩
  obtain ⟨k', ek'⟩ : ∃ k', cmp3 (val vs : Int) (val us : Int) = k' := ⟨_, rfl⟩
  rw [ek] at C3 S2
  rw [ek'] at C4 S2
  clear er es et ek ek' h h'
  by_cases hst : s = t
  · subst hst
    cases neg
    · have E : Hid (r = k) := S2.out rfl
      go_enter Try.func36, Try.ntmps36
      go_wp2_with fail
      refine (C1.out _ rfl).mono ?_
      rintro e w' ⟨rfl, hw⟩
      subst w'
      go_wp2_with fail
      refine (C2.out _ rfl).mono ?_
      rintro e w' ⟨rfl, hw⟩
      subst w'
      go_wp2_with fail
      refine (C3.out _ rfl).mono ?_
      rintro e w' ⟨rfl, q, hw⟩
      subst w'
      go_wp2
      go_ret
      exact ⟨ret_int E.out.symm, q, rfl⟩
    · have E : Hid (r = k') := S2.out rfl
      go_enter Try.func36, Try.ntmps36
      go_wp2_with fail
      refine (C1.out _ rfl).mono ?_
      rintro e w' ⟨rfl, hw⟩
      subst w'
      go_wp2_with fail
      refine (C2.out _ rfl).mono ?_
      rintro e w' ⟨rfl, hw⟩
      subst w'
      go_wp2_with fail
      refine (C4.out _ rfl).mono ?_
      rintro e w' ⟨rfl, q, hw⟩
      subst w'
      go_wp2
      go_ret
      exact ⟨ret_int E.out.symm, q, rfl⟩
  · have hne : (s != t) = true := by simp [hst]
    have E : Hid (r = cmp3 s t) := S1.out hst
    clear S1 S2 hst
    go_enter Try.func36, Try.ntmps36
    go_wp2_with fail
    refine (C1.out _ rfl).mono ?_
    rintro e w' ⟨rfl, hw⟩
    subst w'
    go_wp2_with fail
    refine (C2.out _ rfl).mono ?_
    rintro e w' ⟨rfl, hw⟩
    subst w'
    go_wp2_with fail
    refine (compareInt_any s t _).mono ?_
    rintro e w' ⟨rfl, hw⟩
    subst w'
    go_wp2
    go_ret
    exact ⟨ret_int E.out.symm, 0, rfl⟩

theorem zzCompare_any (b b' : Nat) (neg neg' : Bool) (us vs : List Nat) (w : World) (h : Hid (CoefAt w b neg us)) (h' : Hid (CoefAt w b' neg' vs)) :
    Calls Try.prog 15 #[.pointer (some ⟨b, 0, none⟩), .pointer (some ⟨b', 0, none⟩)] w fun e w' => e = .returned (.int .i64 (cmp3 (sv neg (val us)) (sv neg' (val vs)))) ∧ ∃ q, w' = w.drewN q := by
  go_enter Try.func15, Try.ntmps15
  go_wp2_with (go_at_call 36; refine (compare_any b b' neg neg' us vs _ h h').mono ?_; rintro e w' ⟨rfl, q, rfl⟩)
  go_ret
  exact ⟨rfl, q, rfl⟩

theorem zzCmpAbs_any (b b' : Nat) (neg neg' : Bool) (us vs : List Nat) (w : World) (h : Hid (CoefAt w b neg us)) (h' : Hid (CoefAt w b' neg' vs)) :
    Calls Try.prog 17 #[.pointer (some ⟨b, 0, none⟩), .pointer (some ⟨b', 0, none⟩)] w fun e w' => e = .returned (.int .i64 (cmp3 (val us : Int) (val vs : Int))) ∧ ∃ q, w' = w.drewN q := by
  go_enter Try.func17, Try.ntmps17
  go_wp2_with (go_at_call 38; refine (cmpAbs_any b b' neg neg' us vs _ h h').mono ?_; rintro e w' ⟨rfl, q, rfl⟩)
  go_ret
  exact ⟨rfl, q, rfl⟩
end Go.Proofs.Qxb6003404a
