/-
  PropCoefAddAndCompareExact: THE ROW PROVED (the frame is the given shell's).
-/
import Derived.Test.Qxb6003404aCoefLaw
import Derived.Test.Qxb6003404aIn
import Derived.WalkKit
import Derived.ProofKit
import Derived.OpenShut
import Derived.ShutString
import Derived.ChangeOld
import Derived.Below
namespace Go.Proofs.Qxb6003404a.propCoefAddAndCompareExact
open Go.ChangeShapes Go.WideShapes Go.ChangeAt Go.RowKit
open Go.ChangeMaps (open_string shut_string)
set_option linter.unusedVariables false

theorem own : ownKnob Try.prog.godebug = none := by kernel_rfl
theorem laidOut : laidOutB Try.prog = true := by kernel_rfl

/-- WHAT THE WALK IS TOLD OF A SLICE OF INTEGERS THAT CAME IN: it is nil; or it leads to a row of 'cap' cells, the numbers 'zs' (the first 'len' are its elements, the rest its spare room), each fitting its kind. -/
def IsRow (k : IntKind) (w : World) (a : Option Addr) (len cap : Nat) (zs : List Int) : Prop :=
  (a = none ∧ len = 0 ∧ cap = 0 ∧ zs = []) ∨
  ∃ x, a = some x ∧ len ≤ cap ∧ cap ≤ maxLen ∧ zs.length = cap ∧ (∀ i, i < zs.length → w.cell? (x.add i) = some (.int k (zs.getD i 0))) ∧ ∀ n ∈ zs, (Lit.int k n).wf = true

/-- A slice of words that came in, as natural numbers. -/
theorem src_of_row {w : World} {a : Option Addr} {len cap : Nat} {zs : List Int} (h : IsRow .u64 w a len cap zs) : ∃ zn : List Nat, zn.length = len ∧ Words zn ∧ len ≤ cap ∧ len ≤ 9223372036854775807 ∧ Src w w.heap.size a zn := by
  rcases h with ⟨rfl, rfl, rfl, _⟩ | ⟨x, rfl, hlc, hcm, hzl, hcell, hwz⟩
  · exact ⟨[], rfl, (by intro x hx; simp at hx), Nat.le_refl _, by omega, .inl rfl⟩
  · have hml : len ≤ 9223372036854775807 := by unfold maxLen at hcm; omega
    by_cases h0 : len = 0
    · subst h0
      exact ⟨[], rfl, (by intro x hx; simp at hx), hlc, hml, .inl rfl⟩
    · obtain ⟨b, off, zn, rfl, hb, hzn, hww, hrow⟩ := nats_of_row h0 (by omega) hcell hwz
      exact ⟨zn, hzn, hww, hlc, hml, .inr ⟨b, off, rfl, hb, by omega, hrow⟩⟩

/-! ### STEP 1: THE WALK: the Go text returns true, AND WRITES NOTHING THAT WAS THERE: 'Below w.heap.size w w'' (Derived/Below.lean: '.refl', '.alloc', '.drew', '.setCell' at a new block, '.trans'). Open each 'IsRow' by 'rcases' AHEAD of 'go_enter'; part every test ahead of the walk. -/
theorem walk (a0 : Bool) (a1 : Option Addr) (len1 cap1 : Nat) (z1 : List Int) (a2 : Bool) (a3 : Option Addr) (len3 cap3 : Nat) (z3 : List Int) (a4 : Bool) (w : World) (w1 : IsRow .u64 w a1 len1 cap1 z1) (w3 : IsRow .u64 w a3 len3 cap3 z3) :
    Calls Try.prog 5 #[.bool a0, .slice a1 len1 cap1, .bool a2, .slice a3 len3 cap3, .bool a4] w fun e w' => e = .returned (.bool true) ∧ Below w.heap.size w w' := by
  obtain ⟨xs, hx, hwx, hc, hn, hu⟩ := src_of_row w1
  obtain ⟨ys, hy, hwy, hc', hm, hv⟩ := src_of_row w3
  clear w1 w3
  obtain ⟨tx, htx⟩ : ∃ tx, tl xs = tx := ⟨_, rfl⟩
  obtain ⟨ty, hty⟩ : ∃ ty, tl ys = ty := ⟨_, rfl⟩
  by_cases h12 : tx ≤ 12
  · by_cases h12' : ty ≤ 12
    · exact coefLaw_core a0 a2 a4 a1 a3 len1 len3 cap1 cap3 tx ty xs ys hx hy hwx hwy hn hm hc hc' htx hty h12 h12' w hu hv
    · have T1 : Hid (∀ w', w' = w → Calls Try.prog 13 #[.slice a1 len1 cap1] w' fun e w'' => e = .returned (.slice a1 tx cap1) ∧ w'' = w) := fun w' h => by subst h; rw [← htx]; exact c2Trim_any _ a1 len1 cap1 xs hx hn hc _ hu
      have T2 : Hid (∀ w', w' = w → Calls Try.prog 13 #[.slice a3 len3 cap3] w' fun e w'' => e = .returned (.slice a3 ty cap3) ∧ w'' = w) := fun w' h => by subst h; rw [← hty]; exact c2Trim_any _ a3 len3 cap3 ys hy hm hc' _ hv
      have hd : decide ((12 : Int) < (ty : Int)) = true := decide_eq_true (by omega)
      clear htx hty hx hy hu hv
      go_enter Try.func5, Try.ntmps5
      go_wp2_with fail
      refine (T1.out _ rfl).mono ?_
      rintro e w' ⟨rfl, hw⟩
      subst w'
      go_wp2_with fail
      refine (T2.out _ rfl).mono ?_
      rintro e w' ⟨rfl, hw⟩
      subst w'
      go_wp2
      go_ret
      exact ⟨rfl, Below.refl _ _⟩
  · have T1 : Hid (∀ w', w' = w → Calls Try.prog 13 #[.slice a1 len1 cap1] w' fun e w'' => e = .returned (.slice a1 tx cap1) ∧ w'' = w) := fun w' h => by subst h; rw [← htx]; exact c2Trim_any _ a1 len1 cap1 xs hx hn hc _ hu
    have hd : decide ((12 : Int) < (tx : Int)) = true := decide_eq_true (by omega)
    clear htx hty hx hy hu hv
    go_enter Try.func5, Try.ntmps5
    go_wp2_with fail
    refine (T1.out _ rfl).mono ?_
    rintro e w' ⟨rfl, hw⟩
    subst w'
    go_wp2
    go_ret
    exact ⟨rfl, Below.refl _ _⟩

/-! ### THE ROW's STEP: WRITTEN OUT: LEAVE IT -/
set_option maxRecDepth 100000 in
theorem lifted (os : Os) (started : os.Started) (H : Type) (enc : TypeId × Value → H) :
    ReturnsInHanded {} Try.checked os 5 .any (Rows.propCoefAddAndCompareExactSpec.pre6 enc Try.prog Try.f5 Rows.propCoefAddAndCompareExactRow.domain false) (Rows.propCoefAddAndCompareExactSpec.post enc Try.prog Try.f5 false true false false) := by
  refine returnsInHanded_of_change (C := Try.checked) own started (by kernel_rfl) Try.func5
    (ChangeSpec.witness6 (enc := enc) (C := Try.checked) false ⟨#[], #[.bool false, .slice none 0 0, .bool false, .slice none 0 0, .bool false], []⟩ 8 (by kernel_rfl) (by kernel_rfl) (by kernel_rfl) (by kernel_rfl)) ?_
  intro W base args ds gs before hval0 hW hcnd _
  have hval : ∀ (j : Nat) t v, Try.f5.params[j]? = some t → args[j]? = some v → Value.okWide Try.prog W .any base t v := hval0
  have hW' := hW
  obtain ⟨p, q, hA0, hV, rfl, hfz, hnd⟩ := hW
  have hA : DataW.TrodAll enc Try.prog W 0 (fun _ => true) true Try.f5.params.toList args.toList ds p := hA0
  rw [Try.params5] at hA hval
  obtain ⟨v0, vs0, d0, ds0, p0, q0, hargs, rfl, rfl, h0, r0⟩ := trodAll_cons hA
  obtain ⟨v1, vs1, d1, ds1, p1, q1, rfl, rfl, rfl, h1, r1⟩ := trodAll_cons r0
  obtain ⟨v2, vs2, d2, ds2, p2, q2, rfl, rfl, rfl, h2, r2⟩ := trodAll_cons r1
  obtain ⟨v3, vs3, d3, ds3, p3, q3, rfl, rfl, rfl, h3, r3⟩ := trodAll_cons r2
  obtain ⟨v4, vs4, d4, ds4, p4, q4, rfl, rfl, rfl, h4, r4⟩ := trodAll_cons r3
  obtain ⟨rfl, rfl, rfl⟩ := trodAll_nil r4
  obtain rfl : args = #[v0, v1, v2, v3, v4] := by cases args; simp_all
  obtain ⟨rfl, rfl⟩ := trodVars_none hV
  obtain ⟨a0, rfl, rfl, rfl⟩ := open_bool Try.underlying4 (hval 0 4 v0 rfl rfl) h0
  obtain ⟨a1, len1, cap1, rfl⟩ := okWide_slice Try.underlying29 (hval 1 29 v1 rfl rfl)
  have k1 := h1
  have lt1 : ∀ x ∈ p1, x.block < W.heap.size := by obtain ⟨m, hm⟩ := k1; exact DataW.trod_lt m _ _ _ hm
  obtain ⟨z1, w1⟩ : ∃ zs, IsRow .u64 W a1 len1 cap1 zs := by
    obtain ⟨fuel, hf⟩ := h1
    rcases open_ints Try.underlying29 Try.underlying28 (by kernel_rfl) hf with ⟨hcs, _⟩ | ⟨x, l, c, zs, hcs, _, hl, hm, hz, _, hcell, hwz⟩
    · simp [Value.cells] at hcs
      obtain ⟨rfl, rfl, rfl⟩ := hcs
      exact ⟨[], .inl ⟨rfl, rfl, rfl, rfl⟩⟩
    · simp [Value.cells] at hcs
      obtain ⟨rfl, rfl, rfl⟩ := hcs
      exact ⟨zs, .inr ⟨_, rfl, hl, hm, by simpa using hz, hcell, hwz⟩⟩
  obtain ⟨a2, rfl, rfl, rfl⟩ := open_bool Try.underlying4 (hval 2 4 v2 rfl rfl) h2
  obtain ⟨a3, len3, cap3, rfl⟩ := okWide_slice Try.underlying29 (hval 3 29 v3 rfl rfl)
  have k3 := h3
  have lt3 : ∀ x ∈ p3, x.block < W.heap.size := by obtain ⟨m, hm⟩ := k3; exact DataW.trod_lt m _ _ _ hm
  obtain ⟨z3, w3⟩ : ∃ zs, IsRow .u64 W a3 len3 cap3 zs := by
    obtain ⟨fuel, hf⟩ := h3
    rcases open_ints Try.underlying29 Try.underlying28 (by kernel_rfl) hf with ⟨hcs, _⟩ | ⟨x, l, c, zs, hcs, _, hl, hm, hz, _, hcell, hwz⟩
    · simp [Value.cells] at hcs
      obtain ⟨rfl, rfl, rfl⟩ := hcs
      exact ⟨[], .inl ⟨rfl, rfl, rfl, rfl⟩⟩
    · simp [Value.cells] at hcs
      obtain ⟨rfl, rfl, rfl⟩ := hcs
      exact ⟨zs, .inr ⟨_, rfl, hl, hm, by simpa using hz, hcell, hwz⟩⟩
  obtain ⟨a4, rfl, rfl, rfl⟩ := open_bool Try.underlying4 (hval 4 4 v4 rfl rfl) h4
  clear hA0 hval0
  refine (walk a0 a1 len1 cap1 z1 a2 a3 len3 cap3 z3 a4 W w1 w3).mono fun e W' ⟨he, bel⟩ => ?_
  subst he
  exact ⟨_, rfl, _, _, _, [], _, [], hW', trodAll_mk1 (shut_bool Try.underlying4 _), (trodAll_cons_mk (shut_bool Try.underlying4 _) (trodAll_cons_mk (Below.trod laidOut (by kernel_rfl) (of_decide_eq_true (by kernel_rfl)) k1 bel lt1) (trodAll_cons_mk (shut_bool Try.underlying4 _) (trodAll_cons_mk (Below.trod laidOut (by kernel_rfl) (of_decide_eq_true (by kernel_rfl)) k3 bel lt3) (trodAll_cons_mk (shut_bool Try.underlying4 _) trodAll_mk0))))), rfl, bel.frame _, fun h => by cases h⟩

theorem over : Rows.propCoefAddAndCompareExactRow.holds Try.pinned (OpenSpec.ofChange Rows.propCoefAddAndCompareExactSpec) :=
  OpenClaim.holds_of_wide 5 Try.f5 rfl rfl rfl rfl rfl rfl rfl ⟨rfl, rfl, rfl, rfl, rfl⟩ rfl rfl rfl rfl rfl (by kernel_rfl) Try.func5 (by kernel_rfl)
    (of_decide_eq_true (by kernel_rfl)) (by unfold Func.isWrapper; first | (rw [if_pos (by decide +kernel)]; kernel_rfl) | (rw [if_neg (by decide +kernel)]; exact ⟨rfl, rfl⟩))
    (fun os started H enc _ => lifted os started H enc)

/-- ████ THE STATEMENT ████ -/
theorem proved : Rows.PropCoefAddAndCompareExactSaid := over
#print axioms proved
end Go.Proofs.Qxb6003404a.propCoefAddAndCompareExact
