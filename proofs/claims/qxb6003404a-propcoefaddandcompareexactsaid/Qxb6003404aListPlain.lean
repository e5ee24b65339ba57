/-
  PLAIN MATHEMATICS (no Go in sight): lists of words: appended, cut, set, trimmed, compared; sums, differences and products word by word.
-/
import Derived.Test.Qxb6003404aValPlain
namespace Go.Proofs.Qxb6003404a

theorem val_append : ∀ a b : List Nat, val (a ++ b) = val a + 18446744073709551616 ^ a.length * val b
  | [], b => by simp [val]
  | x :: a, b => by
    simp only [List.cons_append, val, val_append a b, List.length_cons, Nat.pow_succ, Nat.mul_add]
    rw [Nat.mul_comm (18446744073709551616 ^ a.length) 18446744073709551616, Nat.mul_assoc, Nat.add_assoc]

theorem val_lt : ∀ {a : List Nat}, Words a → val a < 18446744073709551616 ^ a.length
  | [], _ => by simp [val]
  | x :: a, h => by
    have h1 : x < 18446744073709551616 := h x (by simp)
    have h2 := val_lt (a := a) (fun y hy => h y (by simp [hy]))
    simp only [val, List.length_cons, Nat.pow_succ]
    have h3 : 18446744073709551616 * (val a + 1) ≤ 18446744073709551616 * 18446744073709551616 ^ a.length := Nat.mul_le_mul_left _ h2
    rw [Nat.mul_add, Nat.mul_one] at h3
    rw [Nat.mul_comm (18446744073709551616 ^ a.length)]
    exact Nat.lt_of_lt_of_le (by omega) h3

theorem val_take_succ (zs : List Nat) (k : Nat) : val (zs.take (k + 1)) = val (zs.take k) + 18446744073709551616 ^ k * zs.getD k 0 := by
  by_cases h : k < zs.length
  · rw [List.take_succ_eq_append_getElem h, val_append]
    have e : zs.getD k 0 = zs[k] := by simp [List.getD, h]
    have hl : (zs.take k).length = k := by simp; omega
    rw [e, hl]
    simp [val]
  · have e : zs.getD k 0 = 0 := by simp [List.getD, h]
    rw [e, List.take_of_length_le (by omega), List.take_of_length_le (by omega)]
    simp

theorem val_snoc (a : List Nat) (v : Nat) : val (a ++ [v]) = val a + 18446744073709551616 ^ a.length * v := by
  rw [val_append]
  simp [val]

theorem words_append {a b : List Nat} (ha : Words a) (hb : Words b) : Words (a ++ b) := by
  intro x hx
  rcases List.mem_append.1 hx with h | h
  · exact ha x h
  · exact hb x h
theorem words_snoc {a : List Nat} {v : Nat} (ha : Words a) (hv : v < 18446744073709551616) : Words (a ++ [v]) := words_append ha (by intro x hx; simp at hx; omega)
theorem words_take {a : List Nat} (h : Words a) (k : Nat) : Words (a.take k) := fun x hx => h x (List.mem_of_mem_take hx)
theorem words_drop {a : List Nat} (h : Words a) (k : Nat) : Words (a.drop k) := fun x hx => h x (List.mem_of_mem_drop hx)
theorem words_replicate (n : Nat) : Words (List.replicate n 0) := by
  intro x hx
  have := (List.mem_replicate.1 hx).2
  omega
theorem words_set {a : List Nat} (h : Words a) (k v : Nat) (hv : v < 18446744073709551616) : Words (a.set k v) := by
  intro x hx
  rcases List.mem_or_eq_of_mem_set hx with h1 | h1
  · exact h x h1
  · omega

theorem val_replicate : ∀ n : Nat, val (List.replicate n 0) = 0
  | 0 => rfl
  | n + 1 => by simp [List.replicate_succ, val, val_replicate n]

theorem val_set : ∀ (zs : List Nat) (k v : Nat), k < zs.length → val (zs.set k v) + 18446744073709551616 ^ k * zs.getD k 0 = val zs + 18446744073709551616 ^ k * v
  | x :: zs, 0, v, _ => by simp [val]; omega
  | x :: zs, k + 1, v, h => by
    have ih := val_set zs k v (by simpa using h)
    have e : (x :: zs).getD (k + 1) 0 = zs.getD k 0 := by simp [List.getD]
    rw [e]
    simp only [List.set_cons_succ, val, Nat.pow_succ]
    have f : ∀ q, 18446744073709551616 ^ k * 18446744073709551616 * q = 18446744073709551616 * (18446744073709551616 ^ k * q) := by
      intro q
      rw [Nat.mul_comm (18446744073709551616 ^ k) 18446744073709551616, Nat.mul_assoc]
    rw [f, f, Nat.add_assoc, ← Nat.mul_add, ih, Nat.mul_add, Nat.add_assoc]

/-- How many words are left without the zero words at the top. -/
def tl : List Nat → Nat
  | [] => 0
  | x :: xs => if tl xs = 0 then (if x = 0 then 0 else 1) else tl xs + 1

theorem tl_le : ∀ zs : List Nat, tl zs ≤ zs.length
  | [] => Nat.le_refl _
  | x :: xs => by
    have := tl_le xs
    simp only [tl, List.length_cons]
    split <;> (try split) <;> omega

theorem tl_top : ∀ zs : List Nat, tl zs ≠ 0 → zs.getD (tl zs - 1) 0 ≠ 0
  | [], h => absurd rfl h
  | x :: xs, h => by
    have ih := tl_top xs
    simp only [tl] at h ⊢
    by_cases c : tl xs = 0
    · rw [if_pos c] at h ⊢
      by_cases d : x = 0
      · rw [if_pos d] at h
        exact absurd rfl h
      · rw [if_neg d]
        simpa using d
    · rw [if_neg c]
      have := ih c
      obtain ⟨m, hm⟩ : ∃ m, tl xs = m + 1 := ⟨tl xs - 1, by omega⟩
      rw [hm] at this ⊢
      simpa using this

theorem tl_zero : ∀ (zs : List Nat) (j : Nat), tl zs ≤ j → zs.getD j 0 = 0
  | [], j, _ => by simp
  | x :: xs, j, h => by
    simp only [tl] at h
    by_cases c : tl xs = 0
    · rw [if_pos c] at h
      cases j with
      | zero =>
        by_cases d : x = 0
        · simpa using d
        · rw [if_neg d] at h
          omega
      | succ j => simpa using tl_zero xs j (by omega)
    · rw [if_neg c] at h
      obtain ⟨i, rfl⟩ : ∃ i, j = i + 1 := ⟨j - 1, by omega⟩
      simpa using tl_zero xs i (by omega)

/-- The count is the one at which the top word is not zero and all above it are. -/
theorem tl_unique (zs : List Nat) (m : Nat) (h1 : ∀ j, m ≤ j → zs.getD j 0 = 0) (h2 : m = 0 ∨ zs.getD (m - 1) 0 ≠ 0) : m = tl zs := by
  rcases Nat.lt_trichotomy m (tl zs) with h | h | h
  · exact absurd (h1 (tl zs - 1) (by omega)) (tl_top zs (by omega))
  · exact h
  · rcases h2 with h2 | h2
    · omega
    · exact absurd (tl_zero zs (m - 1) (by omega)) h2

theorem val_take_zero (zs : List Nat) (m : Nat) (h : ∀ j, m ≤ j → zs.getD j 0 = 0) : ∀ k, m ≤ k → val (zs.take k) = val (zs.take m) := by
  intro k hk
  obtain ⟨d, rfl⟩ : ∃ d, k = m + d := ⟨k - m, by omega⟩
  clear hk
  induction d with
  | zero => rfl
  | succ d ih => rw [← Nat.add_assoc, val_take_succ, ih, h (m + d) (by omega)]; simp

theorem val_tl (zs : List Nat) : val (zs.take (tl zs)) = val zs := by
  have h := val_take_zero zs (tl zs) (tl_zero zs) zs.length (tl_le zs)
  rw [List.take_length] at h
  exact h.symm

/-- No zero word at the top. -/
def Trimmed (u : List Nat) : Prop := u = [] ∨ u.getD (u.length - 1) 0 ≠ 0

theorem trimmed_tl (zs : List Nat) : Trimmed (zs.take (tl zs)) := by
  by_cases h : tl zs = 0
  · left
    rw [h]
    rfl
  · right
    have hl : (zs.take (tl zs)).length = tl zs := by have := tl_le zs; simp; omega
    rw [hl]
    have := tl_top zs h
    simp only [List.getD] at this ⊢
    rw [List.getElem?_take_of_lt (by omega)]
    exact this

/-- The longer one is greater. -/
theorem shorter_lt {u v : List Nat} (hu : Words u) (hv : Trimmed v) (h : u.length < v.length) : val u < val v := by
  have h1 := val_lt hu
  have h2 : 18446744073709551616 ^ u.length ≤ val v := by
    rcases hv with rfl | hv
    · simp at h
    · obtain ⟨m, hm⟩ : ∃ m, v.length = m + 1 := ⟨v.length - 1, by omega⟩
      rw [hm] at hv
      have e := val_take_succ v m
      rw [List.take_of_length_le (by omega)] at e
      rw [e]
      have h3 : 18446744073709551616 ^ u.length ≤ 18446744073709551616 ^ m := Nat.pow_le_pow_right (by decide) (by omega)
      have h4 : 18446744073709551616 ^ m * 1 ≤ 18446744073709551616 ^ m * v.getD m 0 := Nat.mul_le_mul_left _ (Nat.one_le_iff_ne_zero.2 hv)
      rw [Nat.mul_one] at h4
      exact Nat.le_trans h3 (Nat.le_trans h4 (Nat.le_add_left _ _))
  exact Nat.lt_of_lt_of_le h1 h2

theorem val_split (zs : List Nat) (k : Nat) (hk : k ≤ zs.length) : val zs = val (zs.take k) + 18446744073709551616 ^ k * val (zs.drop k) := by
  have h := val_append (zs.take k) (zs.drop k)
  rw [List.take_append_drop] at h
  have hl : (zs.take k).length = k := by simp; omega
  rw [hl] at h
  exact h

/-- The highest word in which they differ decides. -/
theorem top_lt {u v : List Nat} {i : Nat} (hu : Words u) (hl : u.length = v.length) (hi : i < u.length) (he : u.drop (i + 1) = v.drop (i + 1)) (h : u.getD i 0 < v.getD i 0) : val u < val v := by
  rw [val_split u i (by omega), val_split v i (by omega), val_drop u i hi, val_drop v i (by omega), he]
  have h1 := val_lt (words_take hu i)
  have hl1 : (u.take i).length = i := by simp; omega
  rw [hl1] at h1
  have h2 : u.getD i 0 + 18446744073709551616 * val (v.drop (i + 1)) + 1 ≤ v.getD i 0 + 18446744073709551616 * val (v.drop (i + 1)) := by omega
  have h3 := Nat.mul_le_mul_left (18446744073709551616 ^ i) h2
  rw [Nat.mul_add, Nat.mul_one] at h3
  exact Nat.lt_of_lt_of_le (by omega) (Nat.le_trans h3 (Nat.le_add_left _ _))

theorem drop_eq_step {u v : List Nat} {i : Nat} (hu : i < u.length) (hv : i < v.length) (he : u.drop (i + 1) = v.drop (i + 1)) (h : u.getD i 0 = v.getD i 0) : u.drop i = v.drop i := by
  rw [List.drop_eq_getElem_cons hu, List.drop_eq_getElem_cons hv, he]
  have e1 : u.getD i 0 = u[i] := by simp [List.getD, hu]
  have e2 : v.getD i 0 = v[i] := by simp [List.getD, hv]
  rw [← e1, ← e2, h]
end Go.Proofs.Qxb6003404a
