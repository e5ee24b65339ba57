/-
  PropCmpProductsComparesOrDeclines: THE ROW PROVED, AND THE TIED CARD.
-/
import Derived.Test.Qxb6003404aDoorTab
import Derived.Test.Qxb6003404aDoorProdLaw
import Derived.Test.Qxb6003404aDoorTie
import Derived.Test.Qxb6003404aDoorCards
import Derived.SevenTiedAt
import Derived.OpenShut
namespace Go.Proofs.Qxb6003404aDoor.propCmpProductsComparesOrDeclines
open Go.ChangeShapes Go.WideShapes Go.ChangeAt Go.RowKit

theorem i64_of_wf {x : Int} (h : (Lit.int .i64 x).wf = true) : I64 x := by
  simp [Lit.wf, IntKind.min, IntKind.max, IntKind.signed, IntKind.bits] at h
  exact ⟨by omega, by omega⟩

/-- The table's variable reads on as it read, where only new blocks have been laid. -/
theorem var_grown {W W' : World} {cs : Array Value} (h : Grown W W') (hv : W.var? Tryd.prog powName = some cs) : W'.var? Tryd.prog powName = some cs := by
  unfold World.var? at hv ⊢
  simp only [gPow, Option.bind_some] at hv ⊢
  have hk := h.1.2.2 0
  cases ho : W.heap[0]? with
  | none => rw [ho] at hv; cases hv
  | some o =>
    have hlt : 0 < W.heap.size := (Array.getElem?_eq_some_iff.1 ho).1
    have hk := hk hlt
    rw [ho] at hv hk
    cases o with
    | cells c t fr =>
      simp only [Option.some.injEq] at hv
      subst hv
      cases ho' : W'.heap[0]? with
      | none => rw [ho'] at hk; cases hk
      | some o' =>
        rw [ho'] at hk
        cases o' with
        | cells c' t' fr' =>
          obtain ⟨_, _, _, h4⟩ := hk
          exact congrArg some (Array.ext_getElem? fun j => h4 j id)
        | _ => cases hk
    | _ => cases hv

set_option maxRecDepth 100000 in
theorem lifted (os : Os) (started : os.Started) (H : Type) (enc : TypeId × Value → H) :
    ReturnsInHanded {} Tryd.checked os 5 .any (fun w args => (Rows.propCmpProductsComparesOrDeclinesSpec.pre enc Tryd.prog Tryd.f5 [] false w args ∧ laidMetH Tryd.prog powLaid w) ∧ sizedMet enc Tryd.prog Tryd.f5 (OpenSpec.ofChange Rows.propCmpProductsComparesOrDeclinesSpec) false w args)
      (Rows.propCmpProductsComparesOrDeclinesSpec.post enc Tryd.prog Tryd.f5 false true false false) := by
  refine returnsInHanded_of_change_and (C := Tryd.checked) (X := fun w _ => laidMetH Tryd.prog powLaid w) (fun _ _ _ hh h => h.of_heap hh) own started (by kernel_rfl) Tryd.func5
    (ChangeSpec.witness_shaped (enc := enc) (C := Tryd.checked) (os := os) (X := fun w _ => laidMetH Tryd.prog powLaid w) false (World.doorLaid Tryd.prog 558 os) #[.int .i64 0, .int .i64 0, .int .i64 0, .int .i64 0, .int .i64 0, .int .i64 0] 8 rfl (World.shaped_of_RefB (by kernel_rfl) (by kernel_rfl)) (by kernel_rfl) (by kernel_rfl) (by kernel_rfl) (door_met os _)) ?_
  intro W base args ds gs before hval0 hW _ _ hL _
  have hval : ∀ (j : Nat) t v, Tryd.f5.params[j]? = some t → args[j]? = some v → Value.okWide Tryd.prog W .any base t v := hval0
  have hW' := hW
  obtain ⟨p, q, hA0, hV0, rfl, hfz, hnd⟩ := hW
  have hA : DataW.TrodAll enc Tryd.prog W 0 (fun _ => true) true Tryd.f5.params.toList args.toList ds p := hA0
  have hV : DataW.TrodVars enc Tryd.prog W (fun _ => true) [powName] gs q := hV0
  rw [Tryd.params5] at hA hval
  obtain ⟨v0, vs0, d0, ds0, p0, q0, hargs, rfl, rfl, h0, r0⟩ := trodAll_cons hA
  obtain ⟨v1, vs1, d1, ds1, p1, q1, rfl, rfl, rfl, h1, r1⟩ := trodAll_cons r0
  obtain ⟨v2, vs2, d2, ds2, p2, q2, rfl, rfl, rfl, h2, r2⟩ := trodAll_cons r1
  obtain ⟨v3, vs3, d3, ds3, p3, q3, rfl, rfl, rfl, h3, r3⟩ := trodAll_cons r2
  obtain ⟨v4, vs4, d4, ds4, p4, q4, rfl, rfl, rfl, h4, r4⟩ := trodAll_cons r3
  obtain ⟨v5, vs5, d5, ds5, p5, q5, rfl, rfl, rfl, h5, r5⟩ := trodAll_cons r4
  obtain ⟨rfl, rfl, rfl⟩ := trodAll_nil r5
  obtain rfl : args = #[v0, v1, v2, v3, v4, v5] := by cases args; simp_all
  obtain ⟨a, rfl, rfl, rfl, w0⟩ := open_int Tryd.underlying2 (hval 0 2 v0 rfl rfl) h0
  obtain ⟨m, rfl, rfl, rfl, w1⟩ := open_int Tryd.underlying2 (hval 1 2 v1 rfl rfl) h1
  obtain ⟨s, rfl, rfl, rfl, w2⟩ := open_int Tryd.underlying3 (hval 2 3 v2 rfl rfl) h2
  obtain ⟨b, rfl, rfl, rfl, w3⟩ := open_int Tryd.underlying2 (hval 3 2 v3 rfl rfl) h3
  obtain ⟨n, rfl, rfl, rfl, w4⟩ := open_int Tryd.underlying2 (hval 4 2 v4 rfl rfl) h4
  obtain ⟨t0, rfl, rfl, rfl, w5⟩ := open_int Tryd.underlying3 (hval 5 3 v5 rfl rfl) h5
  obtain ⟨g, t, cs, fuel, d, p', rfl, hg, ht, hvar, hd, rfl⟩ := trodVars_one hV
  obtain rfl := Option.some.inj (gPow.symm.trans hg)
  obtain rfl := Option.some.inj (tPow.symm.trans ht)
  have hT := tab_of_laid hL
  have hP := pow10At_of hT
  obtain rfl : cs = powCells := Option.some.inj (hvar.symm.trans hT)
  obtain ⟨rfl, rfl⟩ := DataW.Trod.unique (v := .agg powCells) ⟨fuel, hd⟩ ⟨3, reads_table enc W _⟩
  clear hA0 hV0 hval0
  refine (prod_law a m s b n t0 (i64_of_wf w0) (i64_of_wf w1) (i64_of_wf w3) (i64_of_wf w4) (i64_of_wf w2).2 (i64_of_wf w5).2 W hP).mono fun e W' ⟨he, hg'⟩ => ?_
  subst he
  have hvar' := var_grown hg' hvar
  exact ⟨_, rfl, post_of_same (pa := []) (pv := MemPlace.row ⟨0, 0, none⟩ powCells.size) hW' (fun _ _ _ => trodAll_mk1 (shut_bool Tryd.underlying4 _)) (fun sp _ => (trodAll_cons_mk (shut_int Tryd.underlying2 w0) (trodAll_cons_mk (shut_int Tryd.underlying2 w1) (trodAll_cons_mk (shut_int Tryd.underlying3 w2) (trodAll_cons_mk (shut_int Tryd.underlying2 w3) (trodAll_cons_mk (shut_int Tryd.underlying2 w4) (trodAll_cons_mk (shut_int Tryd.underlying3 w5) trodAll_mk0))))))) (fun sp _ => vars_again enc hvar' sp) (by simp)
    (hg'.frame _) hg'.2.1 (ok_one (by kernel_rfl) rfl (okWide_bool_mk Tryd.underlying4 _))⟩

theorem row_holds : Rows.PropCmpProductsComparesOrDeclinesSaid :=
  OpenClaim.holds_of_wide 5 Tryd.f5 rfl rfl rfl rfl rfl rfl rfl ⟨rfl, rfl, rfl, rfl, rfl⟩ rfl rfl rfl rfl rfl (by kernel_rfl) Tryd.func5 (by kernel_rfl)
    (of_decide_eq_true (by kernel_rfl)) (by unfold Func.isWrapper; first | (rw [if_pos (by decide +kernel)]; kernel_rfl) | (rw [if_neg (by decide +kernel)]; exact ⟨rfl, rfl⟩))
    (fun os started H enc _ => lifted os started H enc)

/-- ████ THE STATEMENT ████ -/
theorem proved : Rows.PropCmpProductsComparesOrDeclinesCardSaid :=
  Claim7.holds_tied_plain_at .later [] [.called] true Rows.propCmpProductsComparesOrDeclinesCard.stood.harness false
    row_holds (fun _ h => by cases h) (by kernel_rfl) (fun _ h => by cases h) propCmpProductsComparesOrDeclines_row_tie rfl ⟨rfl, rfl⟩ (by kernel_rfl) rfl
    (fun f fn hf hfn => by
      obtain rfl : f = 5 := Option.some.inj ((show Tryd.prog.funcNamed Rows.propCmpProductsComparesOrDeclinesRow.func = some 5 by kernel_rfl).symm.trans hf) |>.symm
      obtain rfl : fn = Tryd.f5 := (Option.some.inj (Tryd.func5.symm.trans hfn)).symm
      exact ⟨by kernel_rfl, fun j t ht => by
        rw [Tryd.params5] at ht
        have hm : t ∈ [2, 2, 3, 2, 2, 3] := by simpa using Array.mem_of_getElem? ht
        have hall : ([2, 2, 3, 2, 2, 3].all fun u => !Tryd.prog.wantsStandIn u) = true := by kernel_rfl
        exact (show Tryd.prog.wantsStandIn t = false by simpa using List.all_eq_true.1 hall t hm)⟩)
    (by kernel_rfl)
#print axioms proved
end Go.Proofs.Qxb6003404aDoor.propCmpProductsComparesOrDeclines
