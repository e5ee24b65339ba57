/-
  THE WALKS of ZZquoWord (10), zzMulW (12), PropQuoWordDividesByWord (4).
-/
import Derived.Test.Qxb6003404aQuoWordWalk
namespace Go.Proofs.Qxb6003404a
open Go.RowKit

theorem rec_v_lt {nm v : Nat} (h0 : 9223372036854775808 ≤ nm) (h : IsRec nm v) : v < 18446744073709551616 := by
  obtain ⟨cm, e1, e2, _⟩ := h
  refine Nat.lt_of_not_le fun hv => ?_
  have : 18446744073709551616 * nm ≤ v * nm := Nat.mul_le_mul_right _ hv
  omega

/-- What ZZquoWord leaves in the row, and what it hands back. -/
def Divided (d : Nat) (zs qs : List Nat) (rem : Nat) : Prop := qs.length = zs.length ∧ Words qs ∧ val qs * d + rem = val zs ∧ rem < d

theorem divided_of {d s nm v : Nat} {zs qs : List Nat} {rem : Nat} (hr : Recip d s nm v) (hi : Sh.Inv s nm zs qs 0 rem) : Divided d zs qs (rem / 2 ^ s) := by
  obtain ⟨_, h2, _, _, _⟩ := hr
  obtain ⟨a, b, c, e⟩ := Sh.finish s nm zs qs rem hi
  obtain ⟨f, g⟩ := Sh.back s d nm (val qs) (val zs) rem h2 c e
  exact ⟨a, b, f, g⟩

theorem zzquoWord_any (b off n cap d nm v s : Nat) (zs : List Nat) (hlen : Hid (zs.length = n)) (h1 : (1 : Int) ≤ (n : Int)) (hn : n ≤ 1048576) (hwd : Hid (Words zs)) (hr : Hid (Recip d s nm v))
    (w : World) (hb : b < w.heap.size) (hrow : RowAt w b off zs) (hfree : FreeAt w b off n) :
    Calls Try.prog 10 #[.slice (some ⟨b, off, none⟩) n cap, .agg #[.int .u64 (nm : Int), .int .u64 (v : Int), .int .u64 (s : Int)]] w fun e w' =>
      ∃ (qs : List Nat) (rem : Nat), Divided d zs qs rem ∧ e = .returned (.int .u64 (rem : Int)) ∧ RowAt w' b off qs ∧ w.grownBy w' (some b) := by
  obtain ⟨r1, r2, r3, r4, r5⟩ := hr.out
  have R3 : Hid (9223372036854775808 ≤ nm) := r3
  have R5 : Hid (IsRec nm v) := r5
  have hv := rec_v_lt r3 r5
  have hs : s ≤ 63 := by omega
  clear r1 r2 r3 r5
  go_enter Try.func10, Try.ntmps10
  go_wp2_with (go_at_call 34; refine (quoWord_core b off n cap nm v s zs hlen h1 hn hwd hs R3 r4 R5 hv _ (by simp; omega) (hrow.alloc hb _) (hfree.alloc hb _)).mono ?_; rintro e w' ⟨qs, rem, hi, rfl, hR, hg⟩)
  go_ret
  exact ⟨qs, _, divided_of hr.out hi.out, rfl, hR, gb_trans (World.grownBy_alloc _ _ _) hg⟩

set_option maxHeartbeats 1000000 in
theorem mulW_raw (x y : Nat) (hx : x < 18446744073709551616) (hy : y < 18446744073709551616) (w : World) :
    Calls Try.prog 12 #[.int .u64 x, .int .u64 y] w fun e w' => e = .returned (.tuple #[.int .u64 ((x * y / 18446744073709551616 : Nat) : Int), .int .u64 ((x * y % 18446744073709551616 : Nat) : Int)]) ∧ w' = w := by
  obtain ⟨bd, bt, bw, hhi⟩ := Lib.mul64_hi x y hx hy
  have ba := Lib.half_mul_le (a := x / 4294967296) (b := y / 4294967296) (by omega) (by omega)
  have bb := Lib.half_mul_le (a := x / 4294967296) (b := y % 4294967296) (by omega) (by omega)
  have bc := Lib.half_mul_le (a := x % 4294967296) (b := y / 4294967296) (by omega) (by omega)
  have ba' : x / 4294967296 * (y / 4294967296) < 18446744073709551616 := by omega
  have bb' : x / 4294967296 * (y % 4294967296) < 18446744073709551616 := by omega
  have bc' : x % 4294967296 * (y / 4294967296) < 18446744073709551616 := by omega
  have bh1 : x / 4294967296 * (y / 4294967296) + (x / 4294967296 * (y % 4294967296) + x % 4294967296 * (y % 4294967296) / 4294967296) / 4294967296 < 18446744073709551616 := by omega
  have bh : x / 4294967296 * (y / 4294967296) + (x / 4294967296 * (y % 4294967296) + x % 4294967296 * (y % 4294967296) / 4294967296) / 4294967296 + ((x / 4294967296 * (y % 4294967296) + x % 4294967296 * (y % 4294967296) / 4294967296) % 4294967296 + x % 4294967296 * (y / 4294967296)) / 4294967296 < 18446744073709551616 := by omega
  go_enter Try.func12, Try.ntmps12
  go_wp2
  simp only [Mul.maskN x hx, Mul.maskN y hy, Mul.divN, Mul.mulN, Mul.addN, Mul.wrapN _ bd, Mul.wrapN _ bb', Mul.wrapN _ bt, Mul.maskN _ bt, Mul.wrapN _ bc', Mul.wrapN _ bw, Mul.wrapN _ ba', Mul.wrapN _ bh1, Mul.wrapN _ bh, Mul.wrapM (x * y)]
  rw [hhi]
  go_ret2
  exact ⟨rfl, rfl⟩

theorem mulW_any (x y : Nat) (hx : x < 18446744073709551616) (hy : y < 18446744073709551616) (w : World) :
    Calls Try.prog 12 #[.int .u64 x, .int .u64 y] w fun e w' => (∃ hi lo : Nat, IsProd x y hi lo ∧ e = .returned (.tuple #[.int .u64 (hi : Int), .int .u64 (lo : Int)])) ∧ w' = w :=
  (mulW_raw x y hx hy w).mono fun _ _ ⟨he, hw⟩ => ⟨⟨_, _, isProd_divmod x y hx hy, he⟩, hw⟩
end Go.Proofs.Qxb6003404a
