/-
  THE WALK of (*coef).trim (61).
-/
import Derived.Test.Qxb6003404aCoefWalk
namespace Go.Proofs.Qxb6003404a
open Go.RowKit

theorem ret_none_drewN {w : World} {b : Nat} {k : Nat} {u : Value} (h : w.cell? ⟨b, 1, none⟩ = some u) (q : Nat) :
    ((w.drewN q).setCell ⟨b, 1, none⟩ (.int .i64 (k : Int))).cell? ⟨b, 1, none⟩ = some (.int .i64 (k : Int)) :=
  World.cell?_setCell_same _ _ _ (show (w.drewN q).cell? _ = _ from h)

set_option maxHeartbeats 1000000 in
theorem coefTrim_any (b n : Nat) (ds : List Nat) (hl : Hid (ds.length = n)) (hn : n ≤ 12) (w : World) (hc : Hid (w.cell? ⟨b, 1, none⟩ = some (.int .i64 (n : Int)))) (hr : Hid (RowAt w b 2 ds)) (hf : Hid (w.frozen? ⟨b, 1, none⟩ = false)) :
    Calls Try.prog 61 #[.pointer (some ⟨b, 0, none⟩)] w fun e w' => e = .returned (.tuple #[]) ∧ w'.cell? ⟨b, 1, none⟩ = some (.int .i64 ((tl ds : Nat) : Int)) ∧ Wrote w w' b 1 2 := by
  go_enter Try.func61, Try.ntmps61
  go_wp2
  go_loopg [] n (fun gg wx => gg ≤ n ∧ wx.cell? ⟨b, 1, none⟩ = some (.int .i64 (gg : Int)) ∧ Hid (tl ds ≤ gg) ∧ Hid (Wrote w wx b 1 2))
  case atStart => exact ⟨Nat.le_refl _, hc.out, (show tl ds ≤ n by have := tl_le ds; rw [hl.out] at this; exact this), Wrote.refl _ _ _ _⟩
  case round =>
    obtain ⟨hg, hc1, HT, HW⟩ := hrel
    by_cases h0 : gk = 0
    · subst h0
      have E : Hid (tl ds = 0) := (show _ = _ by have := HT.out; omega)
      go_wp2
      go_quiet (fail)
      go_wp2
      go_end0
      exact ⟨rfl, by rw [E.out]; exact hc1, HW.out.drewN _⟩
    · obtain ⟨k, rfl⟩ : ∃ k, gk = k + 1 := ⟨gk - 1, by omega⟩
      have hcell := HW.out.row_out hr.out (.inr (Nat.le_refl _)) k (by rw [hl.out]; omega)
      have hfz : wr.frozen? ⟨b, 1, none⟩ = false := (HW.out.2.2 1).trans hf.out
      obtain ⟨d, hd⟩ : ∃ d, ds.getD k 0 = d := ⟨_, rfl⟩
      rw [hd] at hcell
      have hgt : (0 : Int) < ((k + 1 : Nat) : Int) := by omega
      have hi0 : (0 : Int) ≤ (k : Int) := by omega
      have hi1 : (k : Int) < 12 := by omega
      by_cases hd0 : d = 0
      · subst hd0
        have HN : Hid (tl ds ≤ k) := (show _ ≤ _ by
          have := HT.out
          by_cases e : tl ds = k + 1
          · have h := tl_top ds (by omega)
            rw [e] at h
            exact absurd hd h
          · omega)
        clear hd h0
        go_wp2
        go_quiet (fail)
        go_wp2
        go_roundg k
        case measure => omega
        case rel => exact ⟨by omega, ret_none_drewN hc1 _, HN, (HW.out.drewN _).setCell 1 _ (Nat.le_refl _) (by omega)⟩
      · have hdb : ((d : Int) == 0) = false := by simp; omega
        have E : Hid (tl ds = k + 1) := (show _ = _ by
          have := HT.out
          by_cases e : tl ds ≤ k
          · exact absurd (hd.symm.trans (tl_zero ds k e)) hd0
          · omega)
        clear hd h0
        go_wp2
        go_quiet (fail)
        go_wp2
        go_end0
        exact ⟨rfl, by rw [E.out]; exact hc1, HW.out.drewN _⟩
end Go.Proofs.Qxb6003404a
