/-
  PropCmpSmallComparesScaled: THE ROW PROVED, AND THE TIED CARD.
-/
import Derived.Test.Qxb6003404aDoorTab
import Derived.Test.Qxb6003404aDoorCmpSmallWalk
import Derived.Test.Qxb6003404aDoorTie
import Derived.Test.Qxb6003404aDoorCards
import Derived.SevenTiedAt
namespace Go.Proofs.Qxb6003404aDoor.propCmpSmallComparesScaled
open Go.ChangeShapes Go.WideShapes Go.ChangeAt Go.RowKit

theorem i64_of_wf {x : Int} (h : (Lit.int .i64 x).wf = true) : I64 x := by
  simp [Lit.wf, IntKind.min, IntKind.max, IntKind.signed, IntKind.bits] at h
  exact ⟨by omega, by omega⟩

set_option maxRecDepth 100000 in
theorem lifted (os : Os) (started : os.Started) (H : Type) (enc : TypeId × Value → H) :
    ReturnsInHanded {} Tryd.checked os 4 .any (fun w args => (Rows.propCmpSmallComparesScaledSpec.pre enc Tryd.prog Tryd.f4 [] false w args ∧ laidMetH Tryd.prog powLaid w) ∧ sizedMet enc Tryd.prog Tryd.f4 (OpenSpec.ofChange Rows.propCmpSmallComparesScaledSpec) false w args)
      (Rows.propCmpSmallComparesScaledSpec.post enc Tryd.prog Tryd.f4 false true false false) := by
  refine returnsInHanded_of_change_and (C := Tryd.checked) (X := fun w _ => laidMetH Tryd.prog powLaid w) (fun _ _ _ hh h => h.of_heap hh) own started (by kernel_rfl) Tryd.func4
    (ChangeSpec.witness_shaped (enc := enc) (C := Tryd.checked) (os := os) (X := fun w _ => laidMetH Tryd.prog powLaid w) false (World.doorLaid Tryd.prog 558 os) #[.int .i64 0, .int .i64 0, .int .i64 0, .int .i64 0] 8 rfl (World.shaped_of_RefB (by kernel_rfl) (by kernel_rfl)) (by kernel_rfl) (by kernel_rfl) (by kernel_rfl) (door_met os _)) ?_
  intro W base args ds gs before hval0 hW _ _ hL _
  have hval : ∀ (j : Nat) t v, Tryd.f4.params[j]? = some t → args[j]? = some v → Value.okWide Tryd.prog W .any base t v := hval0
  have hW' := hW
  obtain ⟨p, q, hA0, hV0, rfl, hfz, hnd⟩ := hW
  have hA : DataW.TrodAll enc Tryd.prog W 0 (fun _ => true) true Tryd.f4.params.toList args.toList ds p := hA0
  have hV : DataW.TrodVars enc Tryd.prog W (fun _ => true) [powName] gs q := hV0
  rw [Tryd.params4] at hA hval
  obtain ⟨v0, v1, v2, v3, d0, d1, d2, d3, p0, p1, p2, p3, rfl, rfl, rfl, h0, h1, h2, h3⟩ := trodAll_four hA
  obtain ⟨a, rfl, rfl, rfl, w0⟩ := open_int Tryd.underlying2 (hval 0 2 v0 rfl rfl) h0
  obtain ⟨m, rfl, rfl, rfl, w1⟩ := open_int Tryd.underlying3 (hval 1 3 v1 rfl rfl) h1
  obtain ⟨b, rfl, rfl, rfl, w2⟩ := open_int Tryd.underlying2 (hval 2 2 v2 rfl rfl) h2
  obtain ⟨n, rfl, rfl, rfl, w3⟩ := open_int Tryd.underlying3 (hval 3 3 v3 rfl rfl) h3
  obtain ⟨g, t, cs, fuel, d, p', rfl, hg, ht, hvar, hd, rfl⟩ := trodVars_one hV
  obtain rfl := Option.some.inj (gPow.symm.trans hg)
  obtain rfl := Option.some.inj (tPow.symm.trans ht)
  have hT := tab_of_laid hL
  have hP := pow10At_of hT
  obtain rfl : cs = powCells := Option.some.inj (hvar.symm.trans hT)
  obtain ⟨rfl, rfl⟩ := DataW.Trod.unique (v := .agg powCells) ⟨fuel, hd⟩ ⟨3, reads_table enc W _⟩
  clear hA0 hV0 hval0
  refine (cmpSmall_law a m b n (i64_of_wf w1).2 (i64_of_wf w3).2 (i64_of_wf w0) (i64_of_wf w2) W hP).mono fun e W' ⟨he, hw⟩ => ?_
  subst he; subst hw
  exact ⟨_, rfl, post_of_same (pa := []) (pv := MemPlace.row ⟨0, 0, none⟩ powCells.size) hW' (fun _ _ _ => trodAll_mk1 (shut_bool Tryd.underlying4 _)) (fun sp _ => trodAll_mk4 (shut_int Tryd.underlying2 w0) (shut_int Tryd.underlying3 w1) (shut_int Tryd.underlying2 w2) (shut_int Tryd.underlying3 w3)) (fun sp _ => vars_again enc hvar sp) (by simp)
    (World.keptBut_refl _ _) (fun _ => rfl) (ok_one (by kernel_rfl) rfl (okWide_bool_mk Tryd.underlying4 _))⟩

theorem row_holds : Rows.PropCmpSmallComparesScaledSaid :=
  OpenClaim.holds_of_wide 4 Tryd.f4 rfl rfl rfl rfl rfl rfl rfl ⟨rfl, rfl, rfl, rfl, rfl⟩ rfl rfl rfl rfl rfl (by kernel_rfl) Tryd.func4 (by kernel_rfl)
    (of_decide_eq_true (by kernel_rfl)) (by unfold Func.isWrapper; first | (rw [if_pos (by decide +kernel)]; kernel_rfl) | (rw [if_neg (by decide +kernel)]; exact ⟨rfl, rfl⟩))
    (fun os started H enc _ => lifted os started H enc)

/-- ████ THE STATEMENT ████ -/
theorem proved : Rows.PropCmpSmallComparesScaledCardSaid :=
  Claim7.holds_tied_plain_at .later [] [.called] true Rows.propCmpSmallComparesScaledCard.stood.harness false
    row_holds (fun _ h => by cases h) (by kernel_rfl) (fun _ h => by cases h) propCmpSmallComparesScaled_row_tie rfl ⟨rfl, rfl⟩ (by kernel_rfl) rfl
    (fun f fn hf hfn => by
      obtain rfl : f = 4 := Option.some.inj ((show Tryd.prog.funcNamed Rows.propCmpSmallComparesScaledRow.func = some 4 by kernel_rfl).symm.trans hf) |>.symm
      obtain rfl : fn = Tryd.f4 := (Option.some.inj (Tryd.func4.symm.trans hfn)).symm
      exact ⟨by kernel_rfl, fun j t ht => by
        rw [Tryd.params4] at ht
        have hm : t ∈ [2, 3, 2, 3] := by simpa using Array.mem_of_getElem? ht
        have hall : ([2, 3, 2, 3].all fun u => !Tryd.prog.wantsStandIn u) = true := by kernel_rfl
        exact (show Tryd.prog.wantsStandIn t = false by simpa using List.all_eq_true.1 hall t hm)⟩)
    (by kernel_rfl)
#print axioms proved
end Go.Proofs.Qxb6003404aDoor.propCmpSmallComparesScaled
