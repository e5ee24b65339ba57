/-
  PLAIN MATHEMATICS (no Go in sight): a product worked out word by word.
-/
import Derived.Test.Qxb6003404aArithPlain
import Derived.Test.Qxb6003404aMul
namespace Go.Proofs.Qxb6003404a
open Go.RowKit

/-- The first i words of x are multiplied in. -/
def MulInv (xs ys zs : List Nat) (i : Nat) : Prop := zs.length = xs.length + ys.length ∧ Words zs ∧ val zs = val (xs.take i) * val ys
/-- Of word i of x, the first j words of y are done, c is carried. -/
def MulIn (xs ys zs : List Nat) (i j c : Nat) : Prop :=
  zs.length = xs.length + ys.length ∧ Words zs ∧ (∀ k, i + ys.length ≤ k → zs.getD k 0 = 0) ∧ val zs + 18446744073709551616 ^ (i + j) * c = val (xs.take i) * val ys + 18446744073709551616 ^ i * (xs.getD i 0 * val (ys.take j))

theorem MulInv.start (xs ys : List Nat) : MulInv xs ys (List.replicate (xs.length + ys.length) 0) 0 := ⟨by simp, words_replicate _, by rw [val_replicate]; simp [val]⟩

theorem val_ge (zs : List Nat) (k : Nat) : 18446744073709551616 ^ k * zs.getD k 0 ≤ val zs := by
  by_cases h : k < zs.length
  · rw [val_split zs (k + 1) (by omega), val_take_succ]
    omega
  · rw [getD_over zs k (by omega)]
    simp

theorem zero_above {zs : List Nat} {d k : Nat} (h : val zs < 18446744073709551616 ^ d) (hk : d ≤ k) : zs.getD k 0 = 0 := by
  have h1 := val_ge zs k
  rcases Nat.eq_zero_or_pos (zs.getD k 0) with h2 | h2
  · exact h2
  · have h3 : 18446744073709551616 ^ d ≤ 18446744073709551616 ^ k := Nat.pow_le_pow_right (by decide) hk
    have h4 : 18446744073709551616 ^ k * 1 ≤ 18446744073709551616 ^ k * zs.getD k 0 := Nat.mul_le_mul_left _ h2
    rw [Nat.mul_one] at h4
    exact absurd (Nat.lt_of_lt_of_le h (Nat.le_trans h3 (Nat.le_trans h4 h1))) (Nat.lt_irrefl _)

theorem mul_lt_pow {A B i m P : Nat} (hA : A < P ^ i) (hB : B < P ^ m) : A * B < P ^ (i + m) := by
  rw [Nat.pow_add]
  exact Nat.mul_lt_mul'' hA hB

theorem MulInv.enter {xs ys zs : List Nat} {i : Nat} (h : MulInv xs ys zs i) (hi : i < xs.length) (hx : Words xs) (hy : Words ys) : MulIn xs ys zs i 0 0 := by
  obtain ⟨h1, h2, h3⟩ := h
  refine ⟨h1, h2, fun k hk => ?_, ?_⟩
  · refine zero_above (d := i + ys.length) ?_ hk
    rw [h3]
    have hl := val_lt (words_take hx i)
    have e : (xs.take i).length = i := by simp; omega
    rw [e] at hl
    exact mul_lt_pow hl (val_lt hy)
  · rw [h3]
    simp [val]

theorem in_lin {P B V Z Z' z c hi lo x y Y Q : Nat} (h : Z + P * c = V + Q) (hs : Z' + P * z = Z + P * lo) (he : hi * B + lo = x * y + z + c) (hQ : Q + P * (x * y) = Y) : Z' + P * B * hi = V + Y := by
  have e : P * (hi * B + lo) = P * (x * y + z + c) := by rw [he]
  rw [Nat.mul_add, Nat.mul_add, Nat.mul_add, ← Nat.mul_assoc, Nat.mul_right_comm] at e
  omega

theorem MulIn.step {xs ys zs : List Nat} {i j c hi lo : Nat} (h : MulIn xs ys zs i j c) (hi' : i < xs.length) (hj : j < ys.length) (hlo : lo < 18446744073709551616) (he : hi * 18446744073709551616 + lo = xs.getD i 0 * ys.getD j 0 + zs.getD (i + j) 0 + c) :
    MulIn xs ys (zs.set (i + j) lo) i (j + 1) hi := by
  obtain ⟨h1, h2, h3, h4⟩ := h
  refine ⟨by simp [h1], words_set h2 _ _ hlo, fun k hk => ?_, ?_⟩
  · have hne : i + j ≠ k := by omega
    have := h3 k hk
    simp only [List.getD] at this ⊢
    rw [List.getElem?_set_ne hne]
    exact this
  · have hs := val_set zs (i + j) lo (by omega)
    rw [← Nat.add_assoc, Nat.pow_succ]
    refine in_lin h4 hs he ?_
    rw [val_take_succ, Nat.pow_add, Nat.mul_assoc, ← Nat.mul_add, Nat.mul_add (xs.getD i 0)]
    congr 1
    congr 1
    rw [Nat.mul_left_comm]

theorem MulIn.leave {xs ys zs : List Nat} {i c : Nat} (h : MulIn xs ys zs i ys.length c) (hi : i < xs.length) (hc : c < 18446744073709551616) : MulInv xs ys (zs.set (i + ys.length) c) (i + 1) := by
  obtain ⟨h1, h2, h3, h4⟩ := h
  refine ⟨by simp [h1], words_set h2 _ _ hc, ?_⟩
  have hs := val_set zs (i + ys.length) c (by omega)
  rw [h3 _ (Nat.le_refl _), Nat.mul_zero, Nat.add_zero] at hs
  rw [hs, h4, List.take_length, val_take_succ, Nat.add_mul, Nat.mul_assoc]

theorem MulInv.whole {xs ys zs : List Nat} (h : MulInv xs ys zs xs.length) : val zs = val xs * val ys := by
  rw [h.2.2, List.take_length]

theorem word_lin {H C1 C2 s1 s2 lo z c : Nat} (a : s1 + C1 = lo + z + 0) (b : s2 + C2 = s1 + c + 0) : H + C1 + C2 + s2 = H + lo + z + c := by omega

theorem mul_word {x y z c hi lo s1 c1 s2 c2 : Nat} (hx : x < 18446744073709551616) (hy : y < 18446744073709551616) (hz : z < 18446744073709551616) (hc : c < 18446744073709551616) (p : IsProd x y hi lo) (s : IsSum lo z 0 s1 c1) (t : IsSum s1 c 0 s2 c2) :
    hi + c1 < 18446744073709551616 ∧ hi + c1 + c2 < 18446744073709551616 ∧ (hi + c1 + c2) * 18446744073709551616 + s2 = x * y + z + c := by
  obtain ⟨p1, p2, p3⟩ := p
  obtain ⟨a1, a2, a3⟩ := s
  obtain ⟨b1, b2, b3⟩ := t
  have hm : x * y ≤ 18446744073709551615 * 18446744073709551615 := Nat.mul_le_mul (by omega) (by omega)
  refine ⟨by omega, by omega, ?_⟩
  rw [← p3, Nat.add_mul, Nat.add_mul]
  exact word_lin a3 b3

theorem isProd_unique {x y hi lo hi' lo' : Nat} (h : IsProd x y hi lo) (k : IsProd x y hi' lo') : hi = hi' ∧ lo = lo' := by
  obtain ⟨_, h2, h3⟩ := h
  obtain ⟨_, k2, k3⟩ := k
  rw [← k3] at h3
  clear k3
  constructor <;> omega

/-- One word of the row is set. -/
theorem Out.set {w w' : World} {b off k v : Nat} {zs : List Nat} (h : Out w w' b off zs) (hk : k < zs.length) : Out w (w'.setCell ⟨b, off + k, none⟩ (.int .u64 (v : Int))) b off (zs.set k v) := by
  refine ⟨h.1.set k v hk, ?_⟩
  rw [List.length_set]
  exact h.2.setCell _ _ (by omega) (by omega)
theorem Out.here {w : World} {b off : Nat} {zs : List Nat} (h : RowAt w b off zs) : Out w w b off zs := ⟨h, Wrote.refl _ _ _ _⟩
end Go.Proofs.Qxb6003404a
