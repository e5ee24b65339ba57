/-
  THE WALK of PropQuoWordDividesByWord (4).
-/
import Derived.Test.Qxb6003404aQuoLawWalk
namespace Go.Proofs.Qxb6003404a
open Go.RowKit

theorem Try.info28 : (Try.prog.info? 28).map (fun i => (i.zero, i.size, i.bytes)) = some (some (.int .u64 0), 1, 8) := by kernel_rfl

/-- A row that 'make' has laid. -/
theorem made_row {w : World} {base g n : Nat} (h : w.ownsRow base 28 1 (.slice (some ⟨g, 0, none⟩) n n) n (madeCells (Value.int .u64 0).cells (n * 1)).toList) :
    RowAt w g 0 (List.replicate n 0) ∧ FreeAt w g 0 n ∧ (0 < n → g < w.heap.size) := by
  have e : (madeCells (Value.int .u64 0).cells (n * 1)).toList = List.replicate n (Value.int .u64 0) := by
    rw [Nat.mul_one]
    exact toList_madeCells_one _ _
  rw [e] at h
  have hc : ∀ j, j < n → w.cell? ⟨g, j, none⟩ = some (.int .u64 0) := by
    intro j hj
    rw [h.cellAt j (by omega)]
    simp [hj]
  refine ⟨?_, ?_, ?_⟩
  · intro j hj
    simp at hj
    rw [Nat.zero_add, hc j hj]
    simp [List.getD, hj]
  · intro j _
    rw [Nat.zero_add]
    exact h.frozenAt j
  · intro _
    exact (h.lt g rfl).2

/-- Copying one word more. -/
theorem copied_set (zs : List Nat) (n k : Nat) (hl : zs.length = n) (hk : k < n) : (zs.take k ++ List.replicate (n - k) 0).set k (zs.getD k 0) = zs.take (k + 1) ++ List.replicate (n - (k + 1)) 0 := by
  have h : zs.take (k + 1) = zs.take k ++ [zs[k]] := List.take_succ_eq_append_getElem (by omega)
  have hlk : (zs.take k).length = k := by simp; omega
  have hr : List.replicate (n - k) 0 = 0 :: List.replicate (n - (k + 1)) 0 := by
    rw [show n - k = (n - (k + 1)) + 1 by omega, List.replicate_succ]
  rw [h, List.set_append_right _ _ (by omega), hlk, hr, List.append_assoc]
  simp [List.getD, show k < zs.length by omega]

theorem copy_next {w wr : World} {b off n k : Nat} {zs : List Nat} (hlen : zs.length = n) (hk : k < n) (hb : b < w.heap.size) (hR : RowAt wr w.heap.size 0 (zs.take k ++ List.replicate (n - k) 0)) (hF : FreeAt wr w.heap.size 0 n) (hZ : RowAt wr b off zs)
    (hg : w.heap.size < wr.heap.size) (HG : w.grownBy wr none) :
    RowAt (wr.setCell ⟨w.heap.size, k, none⟩ (.int .u64 ((zs.getD k 0 : Nat) : Int))) w.heap.size 0 (zs.take (k + 1) ++ List.replicate (n - (k + 1)) 0) ∧ FreeAt (wr.setCell ⟨w.heap.size, k, none⟩ (.int .u64 ((zs.getD k 0 : Nat) : Int))) w.heap.size 0 n ∧
      RowAt (wr.setCell ⟨w.heap.size, k, none⟩ (.int .u64 ((zs.getD k 0 : Nat) : Int))) b off zs ∧ w.heap.size < (wr.setCell ⟨w.heap.size, k, none⟩ (.int .u64 ((zs.getD k 0 : Nat) : Int))).heap.size ∧ w.grownBy (wr.setCell ⟨w.heap.size, k, none⟩ (.int .u64 ((zs.getD k 0 : Nat) : Int))) none := by
  have hs := hR.set k (zs.getD k 0) (by simp; omega)
  rw [Nat.zero_add, copied_set zs n k hlen hk] at hs
  exact ⟨hs, hF.setCell _ _, hZ.far _ _ (show w.heap.size ≠ b by omega), by simpa using hg, gb_new HG (gb_setCell _ _ _ _) (Nat.le_refl _)⟩

/-- The words of the copy, one by one. -/
theorem copy_cell {wr : World} {g n k : Nat} {zs : List Nat} (hlen : zs.length = n) (hk : k < n) (hR : RowAt wr g 0 (zs.take k ++ List.replicate (n - k) 0)) : wr.cell? ⟨g, k, none⟩ = some (.int .u64 0) := by
  have h := hR k (by simp; omega)
  rw [Nat.zero_add] at h
  rw [h]
  have hlk : (zs.take k).length = k := by simp; omega
  simp only [List.getD]
  rw [List.getElem?_append_right (by omega), hlk]
  simp [show 0 < n - k by omega]

theorem check_lin {hi lo P c z Z : Nat} (h : hi * 18446744073709551616 + lo + 18446744073709551616 * P + c = z + 18446744073709551616 * Z) (hlo : lo < 18446744073709551616) (hc : c < 18446744073709551616) (hz : z < 18446744073709551616) :
    (lo + c < 18446744073709551616 ∧ lo + c = z ∧ P + hi = Z) ∨ (lo + c = z + 18446744073709551616 ∧ P + (hi + 1) = Z) := by
  omega

/-- One word checked: it is the dividend's, and what is carried on fits. -/
theorem check_step {d c q z hi lo Q Z : Nat} (hp : IsProd q d hi lo) (h : (q + 18446744073709551616 * Q) * d + c = z + 18446744073709551616 * Z) (hc : c < 18446744073709551616) (hz : z < 18446744073709551616) (hq : q < 18446744073709551616) (hd : d < 18446744073709551616) :
    (lo + c < 18446744073709551616 ∧ lo + c = z ∧ Q * d + hi = Z) ∨ (lo + c = z + 18446744073709551616 ∧ Q * d + (hi + 1) = Z ∧ hi + 1 < 18446744073709551616) := by
  obtain ⟨p1, p2, p3⟩ := hp
  have e : (q + 18446744073709551616 * Q) * d = q * d + 18446744073709551616 * (Q * d) := by rw [Nat.add_mul, Nat.mul_assoc]
  rw [e, ← p3] at h
  have hm : q * d ≤ 18446744073709551615 * 18446744073709551615 := Nat.mul_le_mul (by omega) (by omega)
  rcases check_lin h p2 hc hz with a | ⟨a, b⟩
  · exact .inl a
  · exact .inr ⟨a, b, by omega⟩

set_option maxRecDepth 20000 in
set_option maxHeartbeats 1000000 in
theorem quoLaw_core (d b off n cap : Nat) (zs : List Nat) (hd : d < 18446744073709551616) (hd0 : ((d : Int) == 0) = false) (hd1 : Hid (d ≠ 0)) (hlen : Hid (zs.length = n)) (h1 : (1 : Int) ≤ (n : Int)) (hn0 : ((n : Int) == 0) = false) (hn : Hid (n ≤ 1048576)) (hgt : decide ((1048576 : Int) < (n : Int)) = false) (hwd : Hid (Words zs))
    (w : World) (hb : b < w.heap.size) (hrow : RowAt w b off zs) :
    Calls Try.prog 4 #[.int .u64 (d : Int), .slice (some ⟨b, off, none⟩) n cap] w fun e w' => e = .returned (.bool true) ∧ Below w.heap.size w w' := by
  obtain ⟨i0, hi, hz0, hz1, hz2⟩ := info_parts Try.info28
  go_enter Try.func4, Try.ntmps4
  go_wp2_with (at_make; refine wpList_make_full _ rfl (.tmp 26) (.tmp 26) 29 rfl w.heap.size 28 i0 (.int .u64 0) 1 Try.underlying29 hi hz0 hz1 .i64 .i64 _ _ n rfl rfl rfl rfl (by rw [hz2]; have := hn.out; omega) (by unfold maxLen; have := hn.out; omega) (Nat.le_refl _) ?_; intro w1 hown hgrow; obtain ⟨hr1, hf1, hg1⟩ := made_row hown; clear hown)
  go_loopw [6] (fun si wr => ∃ k : Nat, k ≤ n ∧ si = .int .i64 (k : Int) ∧ RowAt wr w.heap.size 0 (zs.take k ++ List.replicate (n - k) 0) ∧ FreeAt wr w.heap.size 0 n ∧ RowAt wr b off zs ∧ w.heap.size < wr.heap.size ∧ Hid (w.grownBy wr none)) (fun i _ => n - (intOf i).toNat)
  case atStart =>
    exact ⟨0, Nat.zero_le _, rfl, by simpa using hr1, hf1, hrow.grown hgrow hb (by simp), hg1 (by omega), hgrow⟩
  case round =>
    obtain ⟨k, hk, rfl, hR, hF, hZ, hg, HG⟩ := hrel
    clear hr1 hf1 hg1 hgrow hrow
    by_cases hlt : k < n
    · have hcz : wr.cell? ⟨b, off + k, none⟩ = some (.int .u64 ((zs.getD k 0 : Nat) : Int)) := hZ k (by rw [hlen.out]; exact hlt)
      have hcg := copy_cell hlen.out hlt hR
      have hfg : wr.frozen? ⟨w.heap.size, k, none⟩ = false := by have := hF k hlt; rw [Nat.zero_add] at this; exact this
      have HN := copy_next hlen.out hlt hb hR hF hZ hg HG.out
      obtain ⟨z, hz⟩ : ∃ z, zs.getD k 0 = z := ⟨_, rfl⟩
      rw [hz] at hcz HN
      have HN' : Hid _ := HN
      have hb0 : k ≤ 1048576 := by have := hn.out; omega
      clear HN hR hF hZ hz
      go_wp2
      go_roundw
      case rel => exact ⟨k + 1, by omega, by go_num, HN'.out.1, HN'.out.2.1, HN'.out.2.2.1, HN'.out.2.2.2.1, HN'.out.2.2.2.2⟩
      case measure => simp [intOf]; omega
    · have hkn : k = n := by omega
      subst hkn
      have hR' : RowAt wr w.heap.size 0 zs := by
        have e : zs.take k ++ List.replicate (k - k) 0 = zs := by rw [← hlen.out]; simp
        rw [e] at hR
        exact hR
      have hbw : b < wr.heap.size := by omega
      clear hR
      go_wp2_with (go_at_call 11; refine (zzrecip_any d hd1.out hd _).mono ?_; rintro e w2 ⟨⟨s, nm, v, hr, rfl⟩, hbel⟩; have HRc : Hid (Recip d s nm v) := hr; clear hr)
      have hgb := below_gb hbel
      refine (zzquoWord_any w.heap.size 0 k k d nm v s zs hlen h1 hn.out hwd HRc _ (Nat.lt_of_lt_of_le hg hgb.size) (hR'.grown hgb hg (by simp)) (hF.grown hgb hg (by simp))).mono ?_
      rintro e w3 ⟨qs, rem, hdv, rfl, hQ, hG3⟩
      have hZ3 : RowAt w3 b off zs := (hZ.grown hgb hbw (by simp)).grown hG3 (Nat.lt_of_lt_of_le hbw hgb.size) (by intro e; injection e with e; omega)
      have HB : Hid (Below w.heap.size w w3) := gb_below (gb_new (gb_trans HG.out hgb) hG3 (Nat.le_refl _))
      obtain ⟨q1, q2, q3, q4⟩ := hdv
      have Q2 : Hid (qs.length = k ∧ Words qs) := ⟨q1.trans hlen.out, q2⟩
      have HV : Hid (val (qs.drop 0) * d + rem = val (zs.drop 0)) := q3
      have hrw : rem < 18446744073709551616 := by omega
      have hdr : decide (d ≤ rem) = false := decide_eq_false (by omega)
      have hdr' : decide ((d : Int) ≤ (rem : Int)) = false := decide_eq_false (by omega)
      clear hR' hF hZ hgb hbel hG3 HRc q1 q2 q3 hgt hn0 hi hz0 hz1 hz2 hk hlt
      go_wp2
      go_loopg [8, 9] k (fun gg sc si wx => ∃ j c : Nat, wx = w3 ∧ j + gg = k ∧ si = .int .i64 (j : Int) ∧ sc = .int .u64 (c : Int) ∧ c < 18446744073709551616 ∧ Hid (val (qs.drop j) * d + c = val (zs.drop j))) 
      case atStart => exact ⟨0, rem, rfl, Nat.zero_add _, rfl, rfl, hrw, HV⟩
      case round =>
        obtain ⟨j, c, hwx, hj, rfl, rfl, hc, HI⟩ := hrel
        have HJ : Hid (j + gk = k) := hj
        have hjk' : j ≤ k := by omega
        clear hj
        subst hwx
        by_cases hlt : j < k
        · have hcq := hQ j (by rw [Q2.out.1]; exact hlt)
          rw [Nat.zero_add] at hcq
          have hcz := hZ3 j (by rw [hlen.out]; exact hlt)
          have hqw := words_getD Q2.out.2 j
          have hzw := words_getD hwd.out j
          have hst := HI.out
          rw [val_drop qs j (by rw [Q2.out.1]; exact hlt), val_drop zs j (by rw [hlen.out]; exact hlt)] at hst
          obtain ⟨q, hq⟩ : ∃ q, qs.getD j 0 = q := ⟨_, rfl⟩
          obtain ⟨z, hz⟩ : ∃ z, zs.getD j 0 = z := ⟨_, rfl⟩
          rw [hq] at hcq hqw hst
          rw [hz] at hcz hzw hst
          have HST : Hid _ := hst
          have hjl : j ≤ 1048576 := by have := hn.out; omega
          clear hst hq hz HI
          go_wp2_with fail
          refine (mulW_any q d hqw hd _).mono ?_
          rintro e w' ⟨⟨hi, lo, hp, rfl⟩, hw'⟩
          subst hw'
          have hst2 := check_step hp HST.out hc hzw hqw hd
          obtain ⟨hp1, hp2, _⟩ := hp
          clear HST
          rcases hst2 with ⟨a1, a2, a3⟩ | ⟨a1, a2, a3⟩
          · have A : Hid (val (qs.drop (j + 1)) * d + hi = val (zs.drop (j + 1))) := a3
            have hne : ((lo : Int) + (c : Int) != (z : Int)) = false := by simp; omega
            clear a2 a3
            go_wp2
            go_roundg (gk - 1)
            case measure => have := HJ.out; omega
            case rel => exact ⟨j + 1, hi, rfl, by have := HJ.out; omega, by go_num, rfl, hp1, A⟩
          · have A : Hid (val (qs.drop (j + 1)) * d + (hi + 1) = val (zs.drop (j + 1))) := a2
            have hwr : IntKind.u64.wrap ((lo : Int) + (c : Int)) = (z : Int) := by rw [IntKind.wrap_u64]; omega
            have hzl : z < lo := by omega
            clear a1 a2
            go_wp2
            go_roundg (gk - 1)
            case measure => have := HJ.out; omega
            case rel => exact ⟨j + 1, hi + 1, rfl, by have := HJ.out; omega, by go_num, by go_num, a3, A⟩
        · have hjk : j = k := by omega
          subst hjk
          have hc0 : c = 0 := by
            have := HI.out
            rw [List.drop_of_length_le (by rw [Q2.out.1]; exact Nat.le_refl _), List.drop_of_length_le (by rw [hlen.out]; exact Nat.le_refl _)] at this
            simpa [val] using this
          subst hc0
          go_wp2
          go_ret
          exact ⟨rfl, HB.out⟩
end Go.Proofs.Qxb6003404a
