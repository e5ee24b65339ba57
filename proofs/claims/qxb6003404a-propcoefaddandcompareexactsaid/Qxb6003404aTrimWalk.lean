/-
  THE WALKS of c2Trim (13), trimWords (46), ZZTrimWords (30).
-/
import Derived.Test.Qxb6003404aMem2
import Derived.Deep.LoopGhost
namespace Go.Proofs.Qxb6003404a
open Go.RowKit

theorem ret_slice {a : Option Addr} {n m cap : Nat} (h : n = m) : Ending.returned (.slice a n cap) = .returned (.slice a m cap) := by rw [h]

set_option maxHeartbeats 1000000 in
theorem c2Trim_core (b off cap n : Nat) (zs : List Nat) (hlen : Hid (zs.length = n)) (hn : n ≤ 9223372036854775807) (hcap : n ≤ cap) (w : World) (hrow : RowAt w b off zs) :
    Calls Try.prog 13 #[.slice (some ⟨b, off, none⟩) n cap] w fun e w' => e = .returned (.slice (some ⟨b, off, none⟩) (tl zs) cap) ∧ w' = w := by
  go_enter Try.func13, Try.ntmps13
  go_wp2
  go_loopg [0] n (fun gg sx wx => wx = w ∧ gg ≤ n ∧ sx = .slice (some ⟨b, off, none⟩) gg cap ∧ Hid (∀ j, gg ≤ j → zs.getD j 0 = 0))
  case atStart => exact ⟨rfl, Nat.le_refl _, rfl, fun j hj => by have := hlen.out; simp [List.getD, show ¬ j < zs.length by omega]⟩
  case round =>
    obtain ⟨hwx, hg, rfl, HZ⟩ := hrel
    subst hwx
    by_cases h0 : gk = 0
    · subst h0
      have E : Hid (0 = tl zs) := tl_unique zs 0 HZ.out (.inl rfl)
      go_wp2
      go_ret
      exact ⟨ret_slice E.out, rfl⟩
    · obtain ⟨k, rfl⟩ : ∃ k, gk = k + 1 := ⟨gk - 1, by omega⟩
      have hc := hrow k (by have := hlen.out; omega)
      obtain ⟨z, hz⟩ : ∃ z, zs.getD k 0 = z := ⟨_, rfl⟩
      rw [hz] at hc
      have hkc : k ≤ cap := by omega
      by_cases hz0 : z = 0
      · have HN : Hid (∀ j, k ≤ j → zs.getD j 0 = 0) := fun j hj => by
          by_cases e : j = k
          · rw [e, hz, hz0]
          · exact HZ.out j (by omega)
        subst hz0
        clear HZ hz h0
        go_wp2
        go_roundg k
        case measure => omega
        case rel => exact ⟨rfl, by omega, by go_num, HN⟩
      · have E : Hid (k + 1 = tl zs) := tl_unique zs (k + 1) HZ.out (.inr (by rw [Nat.add_sub_cancel, hz]; exact hz0))
        have hzb : ((z : Int) == 0) = false := beq_false_of_ne (by omega)
        clear HZ hz h0 hz0
        go_wp2
        go_ret
        exact ⟨ret_slice E.out, rfl⟩

set_option maxHeartbeats 1000000 in
theorem trimWords_core (b off cap n : Nat) (zs : List Nat) (hlen : Hid (zs.length = n)) (hn : n ≤ 9223372036854775807) (hcap : n ≤ cap) (w : World) (hrow : RowAt w b off zs) :
    Calls Try.prog 46 #[.slice (some ⟨b, off, none⟩) n cap] w fun e w' => e = .returned (.slice (some ⟨b, off, none⟩) (tl zs) cap) ∧ w' = w := by
  go_enter Try.func46, Try.ntmps46
  go_wp2
  go_loopg [0] n (fun gg sx wx => wx = w ∧ gg ≤ n ∧ sx = .slice (some ⟨b, off, none⟩) gg cap ∧ Hid (∀ j, gg ≤ j → zs.getD j 0 = 0))
  case atStart => exact ⟨rfl, Nat.le_refl _, rfl, fun j hj => by have := hlen.out; simp [List.getD, show ¬ j < zs.length by omega]⟩
  case round =>
    obtain ⟨hwx, hg, rfl, HZ⟩ := hrel
    subst hwx
    by_cases h0 : gk = 0
    · subst h0
      have E : Hid (0 = tl zs) := tl_unique zs 0 HZ.out (.inl rfl)
      go_wp2
      go_ret
      exact ⟨ret_slice E.out, rfl⟩
    · obtain ⟨k, rfl⟩ : ∃ k, gk = k + 1 := ⟨gk - 1, by omega⟩
      have hc := hrow k (by have := hlen.out; omega)
      obtain ⟨z, hz⟩ : ∃ z, zs.getD k 0 = z := ⟨_, rfl⟩
      rw [hz] at hc
      have hkc : k ≤ cap := by omega
      by_cases hz0 : z = 0
      · have HN : Hid (∀ j, k ≤ j → zs.getD j 0 = 0) := fun j hj => by
          by_cases e : j = k
          · rw [e, hz, hz0]
          · exact HZ.out j (by omega)
        subst hz0
        clear HZ hz h0
        go_wp2
        go_roundg k
        case measure => omega
        case rel => exact ⟨rfl, by omega, by go_num, HN⟩
      · have E : Hid (k + 1 = tl zs) := tl_unique zs (k + 1) HZ.out (.inr (by rw [Nat.add_sub_cancel, hz]; exact hz0))
        have hzb : ((z : Int) == 0) = false := beq_false_of_ne (by omega)
        clear HZ hz h0 hz0
        go_wp2
        go_ret
        exact ⟨ret_slice E.out, rfl⟩

theorem c2Trim_none (a : Option Addr) (cap : Nat) (w : World) :
    Calls Try.prog 13 #[.slice a 0 cap] w fun e w' => e = .returned (.slice a 0 cap) ∧ w' = w := by
  go_enter Try.func13, Try.ntmps13
  go_wp2
  refine wp_loop_rounds 1 ?_
  rw [rounds_succ]
  go_wp2
  go_ret
  exact ⟨rfl, rfl⟩
theorem trimWords_none (a : Option Addr) (cap : Nat) (w : World) :
    Calls Try.prog 46 #[.slice a 0 cap] w fun e w' => e = .returned (.slice a 0 cap) ∧ w' = w := by
  go_enter Try.func46, Try.ntmps46
  go_wp2
  refine wp_loop_rounds 1 ?_
  rw [rounds_succ]
  go_wp2
  go_ret
  exact ⟨rfl, rfl⟩

/-- c2Trim at whatever slice of words. -/
theorem c2Trim_any (z : Nat) (a : Option Addr) (n cap : Nat) (zs : List Nat) (hlen : Hid (zs.length = n)) (hn : n ≤ 9223372036854775807) (hcap : n ≤ cap) (w : World) (h : Src w z a zs) :
    Calls Try.prog 13 #[.slice a n cap] w fun e w' => e = .returned (.slice a (tl zs) cap) ∧ w' = w := by
  rcases h with rfl | ⟨b, off, rfl, _, _, hr⟩
  · have : n = 0 := by have := hlen.out; simp at this; omega
    subst this
    exact c2Trim_none a cap w
  · exact c2Trim_core b off cap n zs hlen hn hcap w hr
theorem trimWords_any (z : Nat) (a : Option Addr) (n cap : Nat) (zs : List Nat) (hlen : Hid (zs.length = n)) (hn : n ≤ 9223372036854775807) (hcap : n ≤ cap) (w : World) (h : Src w z a zs) :
    Calls Try.prog 46 #[.slice a n cap] w fun e w' => e = .returned (.slice a (tl zs) cap) ∧ w' = w := by
  rcases h with rfl | ⟨b, off, rfl, _, _, hr⟩
  · have : n = 0 := by have := hlen.out; simp at this; omega
    subst this
    exact trimWords_none a cap w
  · exact trimWords_core b off cap n zs hlen hn hcap w hr
theorem zzTrimWords_any (z : Nat) (a : Option Addr) (n cap : Nat) (zs : List Nat) (hlen : Hid (zs.length = n)) (hn : n ≤ 9223372036854775807) (hcap : n ≤ cap) (w : World) (h : Src w z a zs) :
    Calls Try.prog 30 #[.slice a n cap] w fun e w' => e = .returned (.slice a (tl zs) cap) ∧ w' = w := by
  have H : Hid (Src w z a zs) := h
  clear h
  go_enter Try.func30, Try.ntmps30
  go_wp2_with (go_at_call 46; refine (trimWords_any z a n cap zs hlen hn hcap _ H.out).mono ?_; rintro e w' ⟨rfl, rfl⟩)
  go_ret
  exact ⟨rfl, rfl⟩
end Go.Proofs.Qxb6003404a
