/-
  PLAIN MATHEMATICS (no Go in sight): the value of a list of words, least significant first; the shifted words of a division by one word.
-/
namespace Go.Proofs.Qxb6003404a

/-- The value of a list of words. -/
def val : List Nat → Nat
  | [] => 0
  | x :: xs => x + 18446744073709551616 * val xs

/-- Every word is a word. -/
def Words (xs : List Nat) : Prop := ∀ x ∈ xs, x < 18446744073709551616

theorem val_drop (zs : List Nat) (k : Nat) (h : k < zs.length) : val (zs.drop k) = zs.getD k 0 + 18446744073709551616 * val (zs.drop (k + 1)) := by
  rw [List.drop_eq_getElem_cons h]
  simp [val, List.getD, h]

theorem words_getD {xs : List Nat} (h : Words xs) (k : Nat) : xs.getD k 0 < 18446744073709551616 := by
  by_cases hk : k < xs.length
  · have : xs.getD k 0 = xs[k] := by simp [List.getD, hk]
    rw [this]
    exact h _ (List.getElem_mem hk)
  · have : xs.getD k 0 = 0 := by simp [List.getD, hk]
    omega

namespace Sh
/-- The bits that a shift up by s carries out of the word z. -/
def out (s z : Nat) : Nat := z / 2 ^ (64 - s)
/-- The bits that stay. -/
def low (s z : Nat) : Nat := z * 2 ^ s % 18446744073709551616

theorem pow_split (s : Nat) (hs : s ≤ 64) : 2 ^ s * 2 ^ (64 - s) = 18446744073709551616 := by
  rw [← Nat.pow_add, show s + (64 - s) = 64 by omega]

theorem split (s z : Nat) (hs : s ≤ 64) : z * 2 ^ s = 18446744073709551616 * out s z + low s z := by
  unfold out low
  have hp : 0 < 2 ^ s := Nat.two_pow_pos s
  have e : z / 2 ^ (64 - s) = z * 2 ^ s / 18446744073709551616 := by
    rw [← pow_split s hs, Nat.mul_comm z, Nat.mul_div_mul_left _ _ hp]
  rw [e]
  exact (Nat.div_add_mod _ _).symm

theorem out_lt (s z : Nat) (hs : s ≤ 64) (hz : z < 18446744073709551616) : out s z < 2 ^ s := by
  unfold out
  rw [Nat.div_lt_iff_lt_mul (Nat.two_pow_pos _), pow_split s hs]
  exact hz

theorem low_form (s z : Nat) (hs : s ≤ 64) : low s z = 2 ^ s * (z % 2 ^ (64 - s)) := by
  unfold low
  rw [← pow_split s hs, Nat.mul_comm z, Nat.mul_mod_mul_left]

/-- 'or' is '+' here: the bits lie apart. -/
theorem or_add (s z z' : Nat) (hs : s ≤ 64) (hz' : z' < 18446744073709551616) : low s z ||| out s z' = low s z + out s z' := by
  rw [low_form s z hs]
  exact (Nat.two_pow_add_eq_or_of_lt (out_lt s z' hs hz') _).symm

theorem sum_lt (s z z' : Nat) (hs : s ≤ 64) (hz' : z' < 18446744073709551616) : low s z + out s z' < 18446744073709551616 := by
  rw [low_form s z hs]
  have h1 := out_lt s z' hs hz'
  have h2 : z % 2 ^ (64 - s) + 1 ≤ 2 ^ (64 - s) := Nat.mod_lt _ (Nat.two_pow_pos _)
  have h3 : 2 ^ s * (z % 2 ^ (64 - s) + 1) ≤ 2 ^ s * 2 ^ (64 - s) := Nat.mul_le_mul_left _ h2
  rw [pow_split s hs, Nat.mul_add, Nat.mul_one] at h3
  omega

theorem low_lt (s z : Nat) : low s z < 18446744073709551616 := Nat.mod_lt _ (by decide)

/-- What hangs over the place m. -/
def top (s : Nat) (zs : List Nat) (m : Nat) : Nat := if m = 0 then 0 else out s (zs.getD (m - 1) 0)

/-- The division's standing: the words from m on are divided; 'qs' their quotient, 'rem' what is left. -/
def Inv (s d : Nat) (zs qs : List Nat) (m rem : Nat) : Prop := qs.length + m = zs.length ∧ Words qs ∧ val qs * d + rem = 2 ^ s * val (zs.drop m) + top s zs m ∧ rem < d

theorem start (s d : Nat) (zs : List Nat) (hs : s ≤ 63) (hd : 9223372036854775808 ≤ d) (hw : Words zs) (h0 : 0 < zs.length) : Inv s d zs [] zs.length (out s (zs.getD (zs.length - 1) 0)) := by
  refine ⟨by simp, by intro x hx; simp at hx, ?_, ?_⟩
  · unfold top
    rw [if_neg (by omega)]
    simp [val]
  · have h1 := out_lt s (zs.getD (zs.length - 1) 0) (by omega) (words_getD hw _)
    have h2 : 2 ^ s ≤ 2 ^ 63 := Nat.pow_le_pow_right (by omega) hs
    have h3 : (2 : Nat) ^ 63 = 9223372036854775808 := by decide
    omega

theorem lin {B A r u L T q P D : Nat} (h1 : A + r = P + T) (h2 : q = r * B + u) (h3 : D = B * T + L) : q + B * A = B * P + D + (u - L) ∨ u < L := by
  by_cases c : u < L
  · exact .inr c
  · left
    have e : B * A + B * r = B * P + B * T := by rw [← Nat.mul_add, h1, Nat.mul_add]
    rw [h2, h3, Nat.mul_comm r B]
    omega

theorem step (s d : Nat) (zs qs : List Nat) (k rem q r : Nat) (hs : s ≤ 63) (hi : Inv s d zs qs (k + 1) rem) (hq : q * d + r = rem * 18446744073709551616 + (low s (zs.getD k 0) + top s zs k)) (hr : r < d) (hq2 : q < 18446744073709551616) :
    Inv s d zs (q :: qs) k r := by
  obtain ⟨i1, i2, i3, i4⟩ := hi
  refine ⟨by simp; omega, ?_, ?_, hr⟩
  · intro x hx
    rcases List.mem_cons.1 hx with rfl | hx
    · exact hq2
    · exact i2 x hx
  · have e1 : top s zs (k + 1) = out s (zs.getD k 0) := by simp [top]
    rw [e1] at i3
    rw [val_drop zs k (by omega)]
    simp only [val]
    have e2 : (q + 18446744073709551616 * val qs) * d = q * d + 18446744073709551616 * (val qs * d) := by rw [Nat.add_mul, Nat.mul_assoc]
    have e3 : 2 ^ s * (zs.getD k 0 + 18446744073709551616 * val (zs.drop (k + 1))) = zs.getD k 0 * 2 ^ s + 18446744073709551616 * (2 ^ s * val (zs.drop (k + 1))) := by
      rw [Nat.mul_add, Nat.mul_comm (2 ^ s) (zs.getD k 0), Nat.mul_left_comm]
    rw [e2, e3]
    have h := lin (B := 18446744073709551616) i3 hq (split s (zs.getD k 0) (by omega))
    rcases h with h | h
    · have : q * d + 18446744073709551616 * (val qs * d) + r = q * d + r + 18446744073709551616 * (val qs * d) := Nat.add_right_comm _ _ _
      rw [this, h]
      omega
    · omega

theorem finish (s d : Nat) (zs qs : List Nat) (rem : Nat) (hi : Inv s d zs qs 0 rem) : qs.length = zs.length ∧ Words qs ∧ val qs * d + rem = 2 ^ s * val zs ∧ rem < d := by
  obtain ⟨i1, i2, i3, i4⟩ := hi
  exact ⟨by omega, i2, by simpa [top] using i3, i4⟩

/-- Shifted back: the remainder of the division by the word itself. -/
theorem back (s d nm v z rem : Nat) (hn : d * 2 ^ s = nm) (h : v * nm + rem = 2 ^ s * z) (hr : rem < nm) : v * d + rem / 2 ^ s = z ∧ rem / 2 ^ s < d := by
  have hp : 0 < 2 ^ s := Nat.two_pow_pos s
  have e : v * nm = 2 ^ s * (v * d) := by rw [← hn, Nat.mul_comm d, Nat.mul_left_comm]
  rw [e] at h
  have hdiv : 2 ^ s ∣ rem := by
    have : 2 ^ s ∣ 2 ^ s * (v * d) + rem := by rw [h]; exact Nat.dvd_mul_right _ _
    exact (Nat.dvd_add_right (Nat.dvd_mul_right _ _)).1 this
  obtain ⟨t, ht⟩ := hdiv
  have ht' : rem / 2 ^ s = t := by rw [ht]; exact Nat.mul_div_cancel_left _ hp
  rw [ht']
  constructor
  · rw [ht, ← Nat.mul_add] at h
    exact Nat.eq_of_mul_eq_mul_left hp h
  · rw [ht, ← hn, Nat.mul_comm d] at hr
    exact Nat.lt_of_mul_lt_mul_left hr
end Sh
end Go.Proofs.Qxb6003404a
