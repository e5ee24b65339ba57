/-
  THE WALKS of reciprocalOf (35), ZZreciprocalOf (11).
-/
import Derived.Test.Qxb6003404aDiv64Walk
import Derived.Deep.DeepFit
import Derived.WalkLawsBesides
namespace Go.Proofs.Qxb6003404a
open Go.RowKit

/-- All old cells and marks read as before. -/
theorem bcell {W w1 : World} (hb : Below W.heap.size W w1) : (∀ b o, b < W.heap.size → w1.cell? ⟨b, o, none⟩ = W.cell? ⟨b, o, none⟩) ∧ (∀ b o, b < W.heap.size → w1.frozen? ⟨b, o, none⟩ = W.frozen? ⟨b, o, none⟩) :=
  ⟨fun b o h => hb.cell (p := ⟨b, o, none⟩) h, fun b o h => hb.frozen (p := ⟨b, o, none⟩) h⟩

theorem xor_ones (n : Nat) (h : n < 18446744073709551616) : 18446744073709551615 ^^^ n = 18446744073709551615 - n := by
  have e1 : (BitVec.allOnes 64).toNat = 18446744073709551615 := by decide
  have e2 : (BitVec.ofNat 64 n).toNat = n := by rw [BitVec.toNat_ofNat]; exact Nat.mod_eq_of_lt h
  have := congrArg BitVec.toNat (BitVec.allOnes_xor (x := BitVec.ofNat 64 n))
  rw [BitVec.toNat_xor, e1, e2, BitVec.toNat_not, e2] at this
  exact this

theorem not_u64 (n : Nat) (h : n < 18446744073709551616) : bits .xor .u64 IntKind.u64.max (n : Int) = ((18446744073709551615 - n : Nat) : Int) := by
  have e : IntKind.u64.max = ((18446744073709551615 : Nat) : Int) := by decide
  rw [e, bits_xor_u64_nat _ n (by omega) h, xor_ones n h]

/-- v is the reciprocal of the word nm, whose top bit is set: the quotient of 2^128 - 1 by nm, less 2^64. -/
def IsRec (nm v : Nat) : Prop := ∃ cm, cm + nm = 18446744073709551615 ∧ v * nm ≤ cm * 18446744073709551616 + 18446744073709551615 ∧ cm * 18446744073709551616 + 18446744073709551615 < (v + 1) * nm

theorem shl_rule (d s nm : Nat) (h : d * 2 ^ s = nm) (hn : nm < 18446744073709551616) : IntKind.u64.wrap ((d : Int) * 2 ^ s) = (nm : Int) := by
  have e : (d : Int) * 2 ^ s = (nm : Int) := by rw [← h, Int.natCast_mul, Int.natCast_pow]; rfl
  rw [e, IntKind.wrap_u64]
  omega

theorem div_ones (hi y : Nat) (hhi : hi < y) (hy0 : 9223372036854775808 ≤ y) (hy : y < 18446744073709551616) (w : World) :
    Calls Try.prog 52 #[.int .u64 (hi : Int), .int .u64 18446744073709551615, .int .u64 (y : Int)] w fun e w' =>
      (∃ q r : Nat, Hid (q * y + r = hi * 18446744073709551616 + 18446744073709551615 ∧ r < y) ∧ e = .returned (.tuple #[.int .u64 (q : Int), .int .u64 (r : Int)])) ∧ ∃ n, w' = w.drewN n := by
  have h := div_top hi 18446744073709551615 y hhi (by omega) hy0 hy w
  have e : ((18446744073709551615 : Nat) : Int) = 18446744073709551615 := rfl
  rw [e] at h
  exact h

set_option maxHeartbeats 1000000 in
theorem recip_core (d s nm cm : Nat) (hd : d < 18446744073709551616) (hs : s < 64) (HS : Hid (s + Lib.bitLen d = 64)) (hn1 : nm < 18446744073709551616) (hn0 : Hid (9223372036854775808 ≤ nm))
    (HC : Hid (cm + nm = 18446744073709551615)) (hcn : Hid (cm < nm)) (r1 : IntKind.u64.wrap ((d : Int) * 2 ^ s) = (nm : Int)) (r2 : bits .xor .u64 IntKind.u64.max (nm : Int) = (cm : Int)) (w : World) :
    Calls Try.prog 35 #[.int .u64 (d : Int)] w fun e w' =>
      (∃ v : Nat, Hid (IsRec nm v) ∧ e = .returned (.agg #[.int .u64 (nm : Int), .int .u64 (v : Int), .int .u64 (s : Int)])) ∧ Below w.heap.size w w' := by
  go_enter Try.func35, Try.ntmps35
  go_wp2_with (first | (go_at_call 51; refine (lz_s d s hd HS _).mono ?_; rintro e w' ⟨rfl, rfl⟩) | (go_at_call 52; go_fit (div_ones cm nm hcn.out hn0.out hn1 _); rintro e w' ⟨⟨q, r, hqr, rfl⟩, ⟨n, rfl⟩⟩))
  refine bodyPost_ret (v := .agg #[.int .u64 (nm : Int), .int .u64 (q : Int), .int .u64 (s : Int)]) (by simp [results, Try.results35, go_sem]) rfl ⟨⟨q, ?_, rfl⟩, ?_⟩
  · obtain ⟨e1, e2⟩ := hqr.out
    exact ⟨cm, HC.out, by omega, by rw [Nat.add_mul, Nat.one_mul]; omega⟩
  · exact (((below_drewN ((Below.refl _ _).alloc (Nat.le_refl _) _) n).setCell (Nat.le_refl _) _).setCell (Nat.le_refl _) _).setCell (Nat.le_refl _) _

/-- What is asked of a reciprocal: the shift s, the shifted word nm, v. -/
def Recip (d s nm v : Nat) : Prop := s < 64 ∧ d * 2 ^ s = nm ∧ 9223372036854775808 ≤ nm ∧ nm < 18446744073709551616 ∧ IsRec nm v

theorem recip_any (d : Nat) (h0 : d ≠ 0) (hd : d < 18446744073709551616) (w : World) :
    Calls Try.prog 35 #[.int .u64 (d : Int)] w fun e w' =>
      (∃ s nm v : Nat, Recip d s nm v ∧ e = .returned (.agg #[.int .u64 (nm : Int), .int .u64 (v : Int), .int .u64 (s : Int)])) ∧ Below w.heap.size w w' := by
  have h64 := Bit.bitLen_le64 d hd
  obtain ⟨s, hs⟩ : ∃ s, s + Lib.bitLen d = 64 := ⟨64 - Lib.bitLen d, by omega⟩
  have hpos : Lib.bitLen d ≠ 0 := by
    intro e
    have := (Bit.bitLen_spec d hd).1
    rw [e] at this
    simp at this
    exact h0 this
  obtain ⟨n0, n1⟩ := Bit.norm_spec d h0 hd s hs
  have hc : (18446744073709551615 - d * 2 ^ s) + d * 2 ^ s = 18446744073709551615 := Nat.sub_add_cancel (by omega)
  refine (recip_core d s (d * 2 ^ s) (18446744073709551615 - d * 2 ^ s) hd (by omega) hs n1 n0 hc (Nat.lt_of_not_le fun h => by omega) (shl_rule d s _ rfl n1) (not_u64 _ n1) w).mono ?_
  rintro e w' ⟨⟨v, hv, he⟩, hb⟩
  exact ⟨⟨s, _, v, ⟨by omega, rfl, n0, n1, hv.out⟩, he⟩, hb⟩

theorem zzrecip_any (d : Nat) (h0 : d ≠ 0) (hd : d < 18446744073709551616) (w : World) :
    Calls Try.prog 11 #[.int .u64 (d : Int)] w fun e w' =>
      (∃ s nm v : Nat, Recip d s nm v ∧ e = .returned (.agg #[.int .u64 (nm : Int), .int .u64 (v : Int), .int .u64 (s : Int)])) ∧ Below w.heap.size w w' := by
  go_enter Try.func11, Try.ntmps11
  go_wp2_with (go_at_call 35; refine (recip_any d h0 hd _).mono ?_; rintro e w' ⟨⟨s, nm, v, hr, rfl⟩, hb⟩; obtain ⟨hc, hf⟩ := bcell hb)
  refine bodyPost_ret (v := .agg #[.int .u64 (nm : Int), .int .u64 (v : Int), .int .u64 (s : Int)]) (by simp [results, Try.results11, go_sem, hc]) rfl ⟨⟨s, nm, v, hr, rfl⟩, ?_⟩
  exact ((((Below.refl _ _).alloc (Nat.le_refl _) _).trans (hb.mono (by simp))).setCell (Nat.le_refl _) _ |>.setCell (Nat.le_refl _) _).setCell (Nat.le_refl _) _
end Go.Proofs.Qxb6003404a
