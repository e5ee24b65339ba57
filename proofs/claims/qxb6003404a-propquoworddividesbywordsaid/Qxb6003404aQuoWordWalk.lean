/-
  THE WALK of quoWord (34), ZZquoWord (10).
-/
import Derived.Test.Qxb6003404aQuoWalk
import Derived.Test.Qxb6003404aMem
namespace Go.Proofs.Qxb6003404a
open Go.RowKit

/-- The shift down by 64 - s, as the walk spells it. -/
theorem out_rule (s z : Nat) : (z : Int) / 2 ^ (64 - s) = ((Sh.out s z : Nat) : Int) := by
  unfold Sh.out
  rw [Int.natCast_ediv, Int.natCast_pow]
  rfl
/-- The shift up by s. -/
theorem low_rule (s z : Nat) : IntKind.u64.wrap ((z : Int) * 2 ^ s) = ((Sh.low s z : Nat) : Int) := by
  unfold Sh.low
  have e : (z : Int) * 2 ^ s = ((z * 2 ^ s : Nat) : Int) := by rw [Int.natCast_mul, Int.natCast_pow]; rfl
  rw [e, IntKind.wrap_u64]
  omega
theorem or_rule (s z z' : Nat) (hs : s ≤ 63) (hz' : z' < 18446744073709551616) : bits .or .u64 ((Sh.low s z : Nat) : Int) ((Sh.out s z' : Nat) : Int) = ((Sh.low s z + Sh.out s z' : Nat) : Int) := by
  have h1 := Sh.sum_lt s z z' (by omega) hz'
  rw [bits_or_u64_nat _ _ (Sh.low_lt s z) (by omega), Sh.or_add s z z' (by omega) hz']

theorem ret_u64' {a b : Int} (h : a = b) : Ending.returned (.int .u64 a) = .returned (.int .u64 b) := by rw [h]
theorem shr_rule (s z : Nat) : (z : Int) / 2 ^ s = ((z / 2 ^ s : Nat) : Int) := by
  rw [Int.natCast_ediv, Int.natCast_pow]
  rfl
theorem getD_take_append (zs qs : List Nat) (m j : Nat) (hj : j < m) (hm : m ≤ zs.length) : (zs.take m ++ qs).getD j 0 = zs.getD j 0 := by
  have h1 : j < (zs.take m).length := by simp; omega
  simp only [List.getD]
  rw [List.getElem?_append_left h1, List.getElem?_take_of_lt hj]

theorem set_take (zs qs : List Nat) (k q : Nat) (hk : k < zs.length) : (zs.take (k + 1) ++ qs).set k q = zs.take k ++ q :: qs := by
  have h : zs.take (k + 1) = zs.take k ++ [zs[k]] := List.take_succ_eq_append_getElem hk
  have hl : (zs.take k).length = k := by simp; omega
  rw [h, List.append_assoc, List.set_append_right _ _ (by omega), hl]
  simp

/-- What a round leaves. -/
theorem quoWord_next {w wr : World} {b off n d v s k rem r q u nd : Nat} {zs qs : List Nat} (o : Obj) (hb : b < w.heap.size) (hs : s ≤ 63) (hsz : w.heap.size < wr.heap.size) (HI : Sh.Inv s d zs qs (k + 1) rem) (hk : k < zs.length)
    (HU : Sh.low s (zs.getD k 0) + Sh.top s zs k = u) (hqr : IsQuo d rem u q r) (hR : RowAt wr b off (zs.take (k + 1) ++ qs)) (hF : FreeAt wr b off n)
    (c0 : wr.cell? ⟨w.heap.size, 0, none⟩ = some (.int .u64 (d : Int))) (c1 : wr.cell? ⟨w.heap.size, 1, none⟩ = some (.int .u64 (v : Int))) (c2 : wr.cell? ⟨w.heap.size, 2, none⟩ = some (.int .u64 (s : Int))) (HG : w.grownBy wr (some b)) :
    Sh.Inv s d zs (q :: qs) k r ∧ RowAt (((wr.drewN nd).alloc o).setCell ⟨b, off + k, none⟩ (.int .u64 (q : Int))) b off (zs.take k ++ q :: qs) ∧ FreeAt (((wr.drewN nd).alloc o).setCell ⟨b, off + k, none⟩ (.int .u64 (q : Int))) b off n ∧
      (((wr.drewN nd).alloc o).setCell ⟨b, off + k, none⟩ (.int .u64 (q : Int))).cell? ⟨w.heap.size, 0, none⟩ = some (.int .u64 (d : Int)) ∧
      (((wr.drewN nd).alloc o).setCell ⟨b, off + k, none⟩ (.int .u64 (q : Int))).cell? ⟨w.heap.size, 1, none⟩ = some (.int .u64 (v : Int)) ∧
      (((wr.drewN nd).alloc o).setCell ⟨b, off + k, none⟩ (.int .u64 (q : Int))).cell? ⟨w.heap.size, 2, none⟩ = some (.int .u64 (s : Int)) ∧
      w.heap.size < (((wr.drewN nd).alloc o).setCell ⟨b, off + k, none⟩ (.int .u64 (q : Int))).heap.size ∧ w.grownBy (((wr.drewN nd).alloc o).setCell ⟨b, off + k, none⟩ (.int .u64 (q : Int))) (some b) := by
  have hcell : ∀ i, (((wr.drewN nd).alloc o).setCell ⟨b, off + k, none⟩ (.int .u64 (q : Int))).cell? ⟨w.heap.size, i, none⟩ = wr.cell? ⟨w.heap.size, i, none⟩ := by
    intro i
    rw [World.cell?_setCell_other _ _ _ _ (by intro h; injection h with h1 _; omega), World.cell?_alloc_lt _ _ _ (show w.heap.size < wr.heap.size from hsz)]
    rfl
  refine ⟨Sh.step s d zs qs k rem q r hs HI (by rw [HU]; exact hqr.1) hqr.2.1 hqr.2.2, ?_, ?_, (hcell 0).trans c0, (hcell 1).trans c1, (hcell 2).trans c2, by simp; omega, ?_⟩
  · rw [← set_take zs qs k q hk]
    exact ((hR.drewN nd).alloc (show b < wr.heap.size by omega) o).set k q (by simp; omega)
  · exact ((hF.drewN nd).alloc (show b < wr.heap.size by omega) o).setCell _ _
  · exact gb_trans HG (gb_trans (gb_trans (gb_drewN _ _ _) (World.grownBy_alloc _ _ _)) (gb_setCell _ _ _ _))

set_option maxHeartbeats 1000000 in
theorem quoWord_core (b off n cap d v s : Nat) (zs : List Nat) (hlen : Hid (zs.length = n)) (h1 : (1 : Int) ≤ (n : Int)) (hn : n ≤ 1048576) (hwd : Hid (Words zs)) (hs : s ≤ 63)
    (hd1 : Hid (9223372036854775808 ≤ d)) (hd2 : d < 18446744073709551616) (hrec : Hid (IsRec d v)) (hv : v < 18446744073709551616)
    (w : World) (hb : b < w.heap.size) (hrow : RowAt w b off zs) (hfree : FreeAt w b off n) :
    Calls Try.prog 34 #[.slice (some ⟨b, off, none⟩) n cap, .agg #[.int .u64 (d : Int), .int .u64 (v : Int), .int .u64 (s : Int)]] w fun e w' =>
      ∃ (qs : List Nat) (rem : Nat), Hid (Sh.Inv s d zs qs 0 rem) ∧ e = .returned (.int .u64 ((rem / 2 ^ s : Nat) : Int)) ∧ RowAt w' b off qs ∧ w.grownBy w' (some b) := by
  have hlt : ((n : Int) - 1) < (n : Int) := by omega
  have hge : (0 : Int) ≤ ((n : Int) - 1) := by omega
  obtain ⟨z, hz⟩ : ∃ z, z = zs.getD (n - 1) 0 := ⟨_, rfl⟩
  have hzw : z < 18446744073709551616 := hz ▸ words_getD hwd.out _
  have hc : w.cell? ⟨b, off + (n - 1), none⟩ = some (.int .u64 (z : Int)) := by rw [hz]; exact hrow (n - 1) (by have := hlen.out; omega)
  have HZ : Hid (z = zs.getD (n - 1) 0) := hz
  clear hz
  have ro := out_rule s z
  obtain ⟨r0, hr0⟩ : ∃ r0, Sh.out s z = r0 := ⟨_, rfl⟩
  rw [hr0] at ro
  have HS : Hid (Sh.Inv s d zs [] n r0) := by
    have := Sh.start s d zs hs hd1.out hwd.out (by have := hlen.out; omega)
    rw [hlen.out, ← HZ.out, hr0] at this
    exact this
  clear hr0
  go_enter Try.func34, Try.ntmps34
  go_wp2
  go_quiet (fail)
  go_wp2
  clear ro hc HZ hzw
  go_loopw [5, 6] (fun sr si wr => ∃ (m rem : Nat) (qs : List Nat), m ≤ n ∧ si = .int .i64 ((m : Int) - 1) ∧ sr = .int .u64 (rem : Int) ∧ rem < d ∧ Hid (Sh.Inv s d zs qs m rem) ∧ RowAt wr b off (zs.take m ++ qs) ∧ FreeAt wr b off n ∧
      wr.cell? ⟨w.heap.size, 0, none⟩ = some (.int .u64 (d : Int)) ∧ wr.cell? ⟨w.heap.size, 1, none⟩ = some (.int .u64 (v : Int)) ∧ wr.cell? ⟨w.heap.size, 2, none⟩ = some (.int .u64 (s : Int)) ∧ w.heap.size < wr.heap.size ∧ Hid (w.grownBy wr (some b))) (fun _ i _ => (intOf i + 1).toNat)
  case atStart =>
    refine ⟨n, r0, [], Nat.le_refl _, rfl, rfl, HS.out.2.2.2, HS, ?_, ?_, ?_, ?_, ?_, ?_, ?_⟩
    · rw [← hlen.out, List.take_length, List.append_nil]
      exact (hrow.alloc hb _).drewN _
    · exact (hfree.alloc hb _).drewN _
    · simp
    · simp
    · simp
    · simp
    · exact gb_trans (World.grownBy_alloc _ _ _) (gb_drewN _ _ _)
  case round =>
    obtain ⟨m, rem, qs, hm, rfl, rfl, hrem, HI, hR, hF, c0, c1, c2, hsz, HG⟩ := hrel
    clear hrow hfree hge hlt
    have hbr : b < wr.heap.size := by omega
    rcases m with _ | k
    · go_wp2
      go_ret
      exact ⟨qs, rem, HI, ret_u64' (shr_rule s rem), by simpa using hR, HG.out⟩
    · have hk : k < zs.length := by have := hlen.out; omega
      have hget : ∀ j, j ≤ k → (zs.take (k + 1) ++ qs).getD j 0 = zs.getD j 0 := fun j hj => getD_take_append zs qs (k + 1) j (by omega) (by omega)
      have hlR : k < (zs.take (k + 1) ++ qs).length := by simp; omega
      obtain ⟨z, hz⟩ : ∃ z, zs.getD k 0 = z := ⟨_, rfl⟩
      have hzw : z < 18446744073709551616 := hz ▸ words_getD hwd.out _
      have hc : wr.cell? ⟨b, off + k, none⟩ = some (.int .u64 (z : Int)) := by have := hR k hlR; rw [hget k (Nat.le_refl _), hz] at this; exact this
      have hfz : wr.frozen? ⟨b, off + k, none⟩ = false := hF k (by omega)
      have hc' : ∀ n o, ((wr.drewN n).alloc o).cell? ⟨b, off + k, none⟩ = some (.int .u64 (z : Int)) := fun n o => (World.cell?_alloc_lt _ _ _ (show b < wr.heap.size by omega)).trans hc
      have hfz' : ∀ n o, ((wr.drewN n).alloc o).frozen? ⟨b, off + k, none⟩ = false := fun n o => (World.frozen?_alloc_old _ _ _ (show b ≠ wr.heap.size by omega)).trans hfz
      have rl := low_rule s z
      obtain ⟨l, hl⟩ : ∃ l, Sh.low s z = l := ⟨_, rfl⟩
      have hlw : l < 18446744073709551616 := hl ▸ Sh.low_lt s z
      rw [hl] at rl
      have hi0 : (0 : Int) ≤ (k : Int) := by omega
      have hi1 : (k : Int) < (n : Int) := by omega
      have HR : Hid (RowAt wr b off (zs.take (k + 1) ++ qs)) := hR
      have HK : Hid (k < zs.length ∧ k < (zs.take (k + 1) ++ qs).length) := ⟨hk, hlR⟩
      have HZ : Hid (zs.getD k 0 = z) := hz
      have HL : Hid (Sh.low s z = l) := hl
      by_cases hk0 : 0 < k
      · obtain ⟨y, hy⟩ : ∃ y, zs.getD (k - 1) 0 = y := ⟨_, rfl⟩
        have hyw : y < 18446744073709551616 := hy ▸ words_getD hwd.out _
        have hcy : wr.cell? ⟨b, off + (k - 1), none⟩ = some (.int .u64 (y : Int)) := by have := hR (k - 1) (by omega); rw [hget (k - 1) (by omega), hy] at this; exact this
        have ry := out_rule s y
        have rr := or_rule s z y hs hyw
        have hul := Sh.sum_lt s z y (by omega) hyw
        obtain ⟨o, ho⟩ : ∃ o, Sh.out s y = o := ⟨_, rfl⟩
        rw [ho] at ry rr hul
        rw [hl] at rr hul
        obtain ⟨u, hu⟩ : ∃ u, l + o = u := ⟨_, rfl⟩
        rw [hu] at rr hul
        have HU : Hid (Sh.low s (zs.getD k 0) + Sh.top s zs k = u) := (show _ = _ by rw [hz, hl, ← hu, ← ho, ← hy]; unfold Sh.top; rw [if_neg (by omega)])
        have hj0 : (0 : Int) ≤ (k : Int) - 1 := by omega
        have hj1 : (k : Int) - 1 < (n : Int) := by omega
        clear hget hlR hR hk hz hl hy ho hu
        go_wp2
        go_quiet (fail)
        go_wp2
        go_quiet (fail)
        go_wp2_with (go_at_call 50; refine (quo_any d v s rem u hd1 hd2 hrec hv hrem hul _).mono ?_; rintro e w' ⟨⟨q, r, hqr, rfl⟩, rfl⟩)
        go_roundw
        case rel =>
          obtain ⟨t1, t2, t3, t4, t5, t6, t7, t8⟩ := quoWord_next _ hb hs hsz HI.out HK.out.1 HU.out hqr.out HR.out hF c0 c1 c2 HG.out
          exact ⟨k, r, q :: qs, by omega, rfl, rfl, hqr.out.2.1, t1, t2, t3, t4, t5, t6, t7, t8⟩
        case measure => simp [intOf]
      · have HU : Hid (Sh.low s (zs.getD k 0) + Sh.top s zs k = l) := (show _ = _ by rw [hz, hl]; unfold Sh.top; rw [if_pos (by omega)]; rfl)
        clear hget hlR hR hk hz hl
        go_wp2
        go_quiet (fail)
        go_wp2_with (go_at_call 50; refine (quo_any d v s rem l hd1 hd2 hrec hv hrem hlw _).mono ?_; rintro e w' ⟨⟨q, r, hqr, rfl⟩, rfl⟩)
        go_roundw
        case rel =>
          obtain ⟨t1, t2, t3, t4, t5, t6, t7, t8⟩ := quoWord_next _ hb hs hsz HI.out HK.out.1 HU.out hqr.out HR.out hF c0 c1 c2 HG.out
          exact ⟨k, r, q :: qs, by omega, rfl, rfl, hqr.out.2.1, t1, t2, t3, t4, t5, t6, t7, t8⟩
        case measure => simp [intOf]
end Go.Proofs.Qxb6003404a
