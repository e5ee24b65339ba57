/-
  THE WALKS of c2Add (25), c2Sub (27).
-/
import Derived.Test.Qxb6003404aAddWords
import Derived.Test.Qxb6003404aWWWalk
import Derived.Test.Qxb6003404aMade
namespace Go.Proofs.Qxb6003404a
open Go.RowKit

/-- v is a slice of a block that is new: words without a zero word at the top, whose value is V; nothing that was there has turned. -/
def Made (w w' : World) (v : Value) (V : Nat) : Prop :=
  ∃ (g k cap : Nat) (rs : List Nat), v = .slice (some ⟨g, 0, none⟩) k cap ∧ rs.length = k ∧ Words rs ∧ Trimmed rs ∧ val rs = V ∧ k ≤ cap ∧ k ≤ 1000000 ∧ w.heap.size ≤ g ∧ g < w'.heap.size ∧ RowAt w' g 0 rs ∧ w.grownBy w' none

theorem made_of {w w1 w' : World} {g n : Nat} {rs : List Nat} (hl : rs.length = n) (hw : Words rs) (hn : n ≤ 1000000) (hg : w.heap.size ≤ g) (hg' : g < w1.heap.size) (hgr : w.grownBy w1 none) (hr : RowAt w' g 0 rs) (hgr' : w1.grownBy w' (some g)) :
    Made w w' (.slice (some ⟨g, 0, none⟩) (tl rs) n) (val rs) := by
  have h := tl_le rs
  refine ⟨g, tl rs, n, rs.take (tl rs), rfl, by simp; omega, words_take hw _, trimmed_tl rs, val_tl rs, by omega, by omega, hg, Nat.lt_of_lt_of_le hg' hgr'.size, hr.take _, gb_new hgr hgr' hg⟩

theorem sub_zero {D X Y P c : Nat} (h : D + Y = X + P * c) (hD : D < P) (hYX : Y ≤ X) (hc : c ≤ 1) : D + Y = X := by
  have : c = 0 ∨ c = 1 := by omega
  rcases this with rfl | rfl
  · simpa using h
  · rw [Nat.mul_one] at h
    omega

theorem AddInv.whole {xs ys ds : List Nat} {j c : Nat} (h : AddInv xs ys ds j c) (hx : xs.length ≤ j) (hy : ys.length ≤ j) : val (ds ++ [c]) = val xs + val ys := by
  obtain ⟨h1, _, h3⟩ := h
  rw [val_snoc, h1, h3, List.take_of_length_le hx, List.take_of_length_le hy]
theorem SubInv.whole {xs ys ds : List Nat} {j c : Nat} (h : SubInv xs ys ds j c) (hx : xs.length ≤ j) (hy : ys.length ≤ j) (hle : val ys ≤ val xs) (hc : c ≤ 1) : val ds + val ys = val xs := by
  obtain ⟨h1, h2, h3⟩ := h
  rw [List.take_of_length_le hx, List.take_of_length_le hy] at h3
  have h4 := val_lt h2
  rw [h1] at h4
  exact sub_zero h3 h4 hle hc

/-- What a round of c2Add or c2Sub finds and leaves at its new row. -/
theorem round_row {w1 wr : World} {g n j : Nat} {ds : List Nat} (hO : Out w1 wr g 0 ds) (hr : RowAt w1 g 0 (List.replicate n 0)) (hf : FreeAt w1 g 0 n) (hl : ds.length = j) (hj : j < n) :
    (∃ u : Int, wr.cell? ⟨g, j, none⟩ = some (.int .u64 u)) ∧ wr.frozen? ⟨g, j, none⟩ = false ∧ ∀ v : Nat, Out w1 (wr.setCell ⟨g, j, none⟩ (.int .u64 (v : Int))) g 0 (ds ++ [v]) := by
  have h1 := hO.cell hr hl (by simpa using hj)
  have h2 := hO.2.free hf j hj
  have h3 : ∀ v : Nat, _ := fun v => hO.step (v := v) hr hl (by simpa using hj)
  rw [Nat.zero_add] at h1 h2
  simp only [Nat.zero_add] at h3
  exact ⟨⟨_, h1⟩, h2, h3⟩

set_option maxHeartbeats 2000000 in
set_option maxRecDepth 20000 in
theorem c2Add_core (a a' : Option Addr) (n m N cap cap' : Nat) (xs ys : List Nat) (hx : Hid (xs.length = n)) (hy : Hid (ys.length = m)) (hwx : Hid (Words xs)) (hwy : Hid (Words ys)) (hN : Hid (N ≤ 200000)) (hN' : N ≤ 9223372036854775806) (hc : n < m ∧ N = m ∨ m ≤ n ∧ N = n)
    (w : World) (hu : Hid (Src w w.heap.size a xs)) (hv : Hid (Src w w.heap.size a' ys)) :
    Calls Try.prog 25 #[.slice a n cap, .slice a' m cap'] w fun e w' => ∃ v, e = .returned v ∧ Made w w' v (val xs + val ys) := by
  obtain ⟨i0, hi, hz0, hz1, hz2⟩ := info_parts Try.info28w
  have HNn : Hid (n ≤ N ∧ m ≤ N) := ⟨by omega, by omega⟩
  rcases hc with ⟨hc, rfl⟩ | ⟨hc, rfl⟩
  all_goals
    go_enter Try.func25, Try.ntmps25
    go_wp2_with (at_make; refine wpList_make_full _ rfl (.tmp 22) (.tmp 22) 29 rfl w.heap.size 28 i0 (.int .u64 0) 1 Try.underlying29 hi hz0 hz1 .i64 .i64 _ _ (N + 1) rfl rfl rfl rfl (by rw [hz2]; have := hN.out; omega) (by unfold maxLen; have := hN.out; omega) (Nat.le_refl _) ?_; intro w1 hown hgrow; obtain ⟨hr1, hf1, hg1⟩ := laid_row hown; clear hown)
    have HM : Hid (RowAt w1 w.heap.size 0 (List.replicate (N + 1) 0) ∧ FreeAt w1 w.heap.size 0 (N + 1) ∧ w.heap.size < w1.heap.size ∧ w.grownBy w1 none) := ⟨hr1, hf1, hg1 (by omega), hgrow⟩
    have HU : Hid (Src w1 w.heap.size a xs ∧ Src w1 w.heap.size a' ys) := ⟨hu.out.grown hgrow, hv.out.grown hgrow⟩
    clear hr1 hf1 hg1 hgrow hi hz0 hz1 hz2
    go_loopg [7, 8] N (fun gg sc si wx => ∃ (j c : Nat) (ds : List Nat), j + gg = N ∧ si = .int .i64 (j : Int) ∧ sc = .int .u64 (c : Int) ∧ c ≤ 1 ∧ Hid (AddInv xs ys ds j c) ∧ Hid (Out w1 wx w.heap.size 0 ds))
    case atStart => exact ⟨0, 0, [], Nat.zero_add _, rfl, rfl, by omega, AddInv.start xs ys, Out.start w1 _ _⟩
    case round =>
      obtain ⟨j, c, ds, hj, rfl, rfl, hc1, HI, HO⟩ := hrel
      have HJ : Hid (j + gk = N) := hj
      have hjn : j ≤ N := by omega
      clear hj
      obtain ⟨⟨u0, hcz⟩, hfz, hO'⟩ := round_row HO.out HM.out.1 HM.out.2.1 HI.out.1 (show j < N + 1 by omega)
      have HO' : Hid (∀ v : Nat, Out w1 (wr.setCell ⟨w.heap.size, j, none⟩ (.int .u64 (v : Int))) w.heap.size 0 (ds ++ [v])) := hO'
      clear hO'
      by_cases hlt : j < N
      · have HI' : Hid (∀ s co, IsSum (xs.getD j 0) (ys.getD j 0) c s co → AddInv xs ys (ds ++ [s]) (j + 1) co) := fun s co h => HI.out.step h
        have hxw := words_getD hwx.out j
        have hyw := words_getD hwy.out j
        by_cases h1 : j < xs.length <;> by_cases h2 : j < ys.length
        · obtain ⟨bx, ox, rfl, hbx, hnx, hrx⟩ := (HO.out.2.src HU.out.1).at (j := j) h1
          obtain ⟨by', oy, rfl, hby, hny, hry⟩ := (HO.out.2.src HU.out.2).at (j := j) h2
          have hcx := hrx j h1
          have hcy := hry j h2
          obtain ⟨x, hxe⟩ : ∃ x, xs.getD j 0 = x := ⟨_, rfl⟩
          obtain ⟨y, hye⟩ : ∃ y, ys.getD j 0 = y := ⟨_, rfl⟩
          rw [hxe] at hcx hxw HI'
          rw [hye] at hcy hyw HI'
          rw [hx.out] at h1
          rw [hy.out] at h2
          clear hrx hry hxe hye HO HI
          go_wp2_with (go_at_call 41; refine (c2AddWW_any x y c hxw hyw hc1 _).mono ?_; rintro e w' ⟨⟨s, co, hs, rfl⟩, rfl⟩; have HS : Hid (IsSum x y c s co) := hs; clear hs)
          go_roundg (gk - 1)
          case measure => have := HJ.out; omega
          case rel => exact ⟨j + 1, co, ds ++ [s], by have := HJ.out; omega, by go_num, rfl, HS.out.2.1, HI'.out s co HS.out, HO'.out s⟩
        · first
            | (exfalso; have := hx.out; have := hy.out; omega)
            | obtain ⟨bx, ox, rfl, hbx, hnx, hrx⟩ := (HO.out.2.src HU.out.1).at (j := j) h1
              have hcx := hrx j h1
              obtain ⟨x, hxe⟩ : ∃ x, xs.getD j 0 = x := ⟨_, rfl⟩
              have hye : ys.getD j 0 = 0 := getD_over ys j (by omega)
              rw [hxe] at hcx hxw HI'
              rw [hye] at hyw HI'
              rw [hx.out] at h1
              rw [hy.out] at h2
              clear hrx hxe hye HO HI
              go_wp2_with (go_at_call 41; refine (c2AddWW_any x 0 c hxw hyw hc1 _).mono ?_; rintro e w' ⟨⟨s, co, hs, rfl⟩, rfl⟩; have HS : Hid (IsSum x 0 c s co) := hs; clear hs)
              go_roundg (gk - 1)
              case measure => have := HJ.out; omega
              case rel => exact ⟨j + 1, co, ds ++ [s], by have := HJ.out; omega, by go_num, rfl, HS.out.2.1, HI'.out s co HS.out, HO'.out s⟩
        · first
            | (exfalso; have := hx.out; have := hy.out; omega)
            | obtain ⟨by', oy, rfl, hby, hny, hry⟩ := (HO.out.2.src HU.out.2).at (j := j) h2
              have hcy := hry j h2
              obtain ⟨y, hye⟩ : ∃ y, ys.getD j 0 = y := ⟨_, rfl⟩
              have hxe : xs.getD j 0 = 0 := getD_over xs j (by omega)
              rw [hxe] at hxw HI'
              rw [hye] at hcy hyw HI'
              rw [hx.out] at h1
              rw [hy.out] at h2
              clear hry hxe hye HO HI
              go_wp2_with (go_at_call 41; refine (c2AddWW_any 0 y c hxw hyw hc1 _).mono ?_; rintro e w' ⟨⟨s, co, hs, rfl⟩, rfl⟩; have HS : Hid (IsSum 0 y c s co) := hs; clear hs)
              go_roundg (gk - 1)
              case measure => have := HJ.out; omega
              case rel => exact ⟨j + 1, co, ds ++ [s], by have := HJ.out; omega, by go_num, rfl, HS.out.2.1, HI'.out s co HS.out, HO'.out s⟩
        · exact absurd hlt (by have := hx.out; have := hy.out; omega)
      · have hjN : j = N := by omega
        subst hjN
        have HV := HI.out.whole (by rw [hx.out]; exact HNn.out.1) (by rw [hy.out]; exact HNn.out.2)
        have hw9 : Words (ds ++ [c]) := words_snoc HI.out.2.1 (by omega)
        have hl9 : (ds ++ [c]).length = j + 1 := by simp [HI.out.1]
        have HO9 := HO'.out c
        obtain ⟨rs, hrs⟩ : ∃ rs, ds ++ [c] = rs := ⟨_, rfl⟩
        rw [hrs] at HV hw9 hl9 HO9
        have HVH : Hid (val rs = val xs + val ys) := HV
        have HX : Hid _ := And.intro hw9 (And.intro hl9 HO9)
        clear hw9 hl9 HO9 HV hrs HI HO HO'
        go_wp2_with (go_at_call 13; refine (c2Trim_core w.heap.size 0 (j + 1) (j + 1) rs HX.out.2.1 (by omega) (Nat.le_refl _) _ HX.out.2.2.1).mono ?_; rintro e w' ⟨rfl, hw⟩)
        subst w'
        go_ret
        exact ⟨_, rfl, HVH.out ▸ made_of HX.out.2.1 HX.out.1 (by have := hN.out; omega) (Nat.le_refl _) HM.out.2.2.1 HM.out.2.2.2 HX.out.2.2.1 HX.out.2.2.2.1⟩
set_option maxHeartbeats 2000000 in
set_option maxRecDepth 20000 in
theorem c2Sub_core (a a' : Option Addr) (n m N cap cap' : Nat) (xs ys : List Nat) (hx : Hid (xs.length = n)) (hy : Hid (ys.length = m)) (hwx : Hid (Words xs)) (hwy : Hid (Words ys)) (hN : Hid (N ≤ 200000)) (hN' : N ≤ 9223372036854775806) (hle : Hid (val ys ≤ val xs)) (hc : n < m ∧ N = m ∨ m ≤ n ∧ N = n)
    (w : World) (hu : Hid (Src w w.heap.size a xs)) (hv : Hid (Src w w.heap.size a' ys)) :
    Calls Try.prog 27 #[.slice a n cap, .slice a' m cap'] w fun e w' => ∃ v D, e = .returned v ∧ D + val ys = val xs ∧ Made w w' v D := by
  obtain ⟨i0, hi, hz0, hz1, hz2⟩ := info_parts Try.info28w
  have HNn : Hid (n ≤ N ∧ m ≤ N) := ⟨by omega, by omega⟩
  rcases hc with ⟨hc, rfl⟩ | ⟨hc, rfl⟩
  all_goals
    go_enter Try.func27, Try.ntmps27
    go_wp2_with (at_make; refine wpList_make_full _ rfl (.tmp 21) (.tmp 21) 29 rfl w.heap.size 28 i0 (.int .u64 0) 1 Try.underlying29 hi hz0 hz1 .i64 .i64 _ _ N rfl rfl rfl rfl (by rw [hz2]; have := hN.out; omega) (by unfold maxLen; have := hN.out; omega) (Nat.le_refl _) ?_; intro w1 hown hgrow; have hg2 : w.heap.size < w1.heap.size := (hown.lt _ rfl).2; obtain ⟨hr1, hf1, _⟩ := laid_row hown; clear hown)
    have HM : Hid (RowAt w1 w.heap.size 0 (List.replicate N 0) ∧ FreeAt w1 w.heap.size 0 N ∧ w.heap.size < w1.heap.size ∧ w.grownBy w1 none) := ⟨hr1, hf1, hg2, hgrow⟩
    have HU : Hid (Src w1 w.heap.size a xs ∧ Src w1 w.heap.size a' ys) := ⟨hu.out.grown hgrow, hv.out.grown hgrow⟩
    clear hr1 hf1 hg2 hgrow hi hz0 hz1 hz2
    go_loopg [7, 8] N (fun gg sc si wx => ∃ (j c : Nat) (ds : List Nat), j + gg = N ∧ si = .int .i64 (j : Int) ∧ sc = .int .u64 (c : Int) ∧ c ≤ 1 ∧ Hid (SubInv xs ys ds j c) ∧ Hid (Out w1 wx w.heap.size 0 ds))
    case atStart => exact ⟨0, 0, [], Nat.zero_add _, rfl, rfl, by omega, SubInv.start xs ys, Out.start w1 _ _⟩
    case round =>
      obtain ⟨j, c, ds, hj, rfl, rfl, hc1, HI, HO⟩ := hrel
      have HJ : Hid (j + gk = N) := hj
      have hjn : j ≤ N := by omega
      clear hj
      by_cases hlt : j < N
      · obtain ⟨⟨u0, hcz⟩, hfz, hO'⟩ := round_row HO.out HM.out.1 HM.out.2.1 HI.out.1 hlt
        have HO' : Hid (∀ v : Nat, Out w1 (wr.setCell ⟨w.heap.size, j, none⟩ (.int .u64 (v : Int))) w.heap.size 0 (ds ++ [v])) := hO'
        clear hO'
        have HI' : Hid (∀ s co, IsDiff (xs.getD j 0) (ys.getD j 0) c s co → SubInv xs ys (ds ++ [s]) (j + 1) co) := fun s co h => HI.out.step h
        have hxw := words_getD hwx.out j
        have hyw := words_getD hwy.out j
        by_cases h1 : j < xs.length <;> by_cases h2 : j < ys.length
        · obtain ⟨bx, ox, rfl, hbx, hnx, hrx⟩ := (HO.out.2.src HU.out.1).at (j := j) h1
          obtain ⟨by', oy, rfl, hby, hny, hry⟩ := (HO.out.2.src HU.out.2).at (j := j) h2
          have hcx := hrx j h1
          have hcy := hry j h2
          obtain ⟨x, hxe⟩ : ∃ x, xs.getD j 0 = x := ⟨_, rfl⟩
          obtain ⟨y, hye⟩ : ∃ y, ys.getD j 0 = y := ⟨_, rfl⟩
          rw [hxe] at hcx hxw HI'
          rw [hye] at hcy hyw HI'
          rw [hx.out] at h1
          rw [hy.out] at h2
          clear hrx hry hxe hye HO HI
          go_wp2_with (go_at_call 43; refine (c2SubWW_any x y c hxw hyw hc1 _).mono ?_; rintro e w' ⟨⟨s, co, hs, rfl⟩, rfl⟩; have HS : Hid (IsDiff x y c s co) := hs; clear hs)
          go_roundg (gk - 1)
          case measure => have := HJ.out; omega
          case rel => exact ⟨j + 1, co, ds ++ [s], by have := HJ.out; omega, by go_num, rfl, HS.out.2.1, HI'.out s co HS.out, HO'.out s⟩
        · first
            | (exfalso; have := hx.out; have := hy.out; omega)
            | obtain ⟨bx, ox, rfl, hbx, hnx, hrx⟩ := (HO.out.2.src HU.out.1).at (j := j) h1
              have hcx := hrx j h1
              obtain ⟨x, hxe⟩ : ∃ x, xs.getD j 0 = x := ⟨_, rfl⟩
              have hye : ys.getD j 0 = 0 := getD_over ys j (by omega)
              rw [hxe] at hcx hxw HI'
              rw [hye] at hyw HI'
              rw [hx.out] at h1
              rw [hy.out] at h2
              clear hrx hxe hye HO HI
              go_wp2_with (go_at_call 43; refine (c2SubWW_any x 0 c hxw hyw hc1 _).mono ?_; rintro e w' ⟨⟨s, co, hs, rfl⟩, rfl⟩; have HS : Hid (IsDiff x 0 c s co) := hs; clear hs)
              go_roundg (gk - 1)
              case measure => have := HJ.out; omega
              case rel => exact ⟨j + 1, co, ds ++ [s], by have := HJ.out; omega, by go_num, rfl, HS.out.2.1, HI'.out s co HS.out, HO'.out s⟩
        · first
            | (exfalso; have := hx.out; have := hy.out; omega)
            | obtain ⟨by', oy, rfl, hby, hny, hry⟩ := (HO.out.2.src HU.out.2).at (j := j) h2
              have hcy := hry j h2
              obtain ⟨y, hye⟩ : ∃ y, ys.getD j 0 = y := ⟨_, rfl⟩
              have hxe : xs.getD j 0 = 0 := getD_over xs j (by omega)
              rw [hxe] at hxw HI'
              rw [hye] at hcy hyw HI'
              rw [hx.out] at h1
              rw [hy.out] at h2
              clear hry hxe hye HO HI
              go_wp2_with (go_at_call 43; refine (c2SubWW_any 0 y c hxw hyw hc1 _).mono ?_; rintro e w' ⟨⟨s, co, hs, rfl⟩, rfl⟩; have HS : Hid (IsDiff 0 y c s co) := hs; clear hs)
              go_roundg (gk - 1)
              case measure => have := HJ.out; omega
              case rel => exact ⟨j + 1, co, ds ++ [s], by have := HJ.out; omega, by go_num, rfl, HS.out.2.1, HI'.out s co HS.out, HO'.out s⟩
        · exact absurd hlt (by have := hx.out; have := hy.out; omega)
      · have hjN : j = N := by omega
        subst hjN
        have HV : Hid (val ds + val ys = val xs) := HI.out.whole (by rw [hx.out]; exact HNn.out.1) (by rw [hy.out]; exact HNn.out.2) hle.out hc1
        have HX : Hid _ := And.intro HI.out.2.1 (And.intro HI.out.1 HO.out)
        clear HI HO
        go_wp2_with (go_at_call 13; refine (c2Trim_core w.heap.size 0 j j ds HX.out.2.1 (by omega) (Nat.le_refl _) _ HX.out.2.2.1).mono ?_; rintro e w' ⟨rfl, hw⟩)
        subst w'
        go_ret
        exact ⟨_, val ds, rfl, HV.out, made_of HX.out.2.1 HX.out.1 (by have := hN.out; omega) (Nat.le_refl _) HM.out.2.2.1 HM.out.2.2.2 HX.out.2.2.1 HX.out.2.2.2.1⟩

theorem c2Add_any (z z' : Nat) (a a' : Option Addr) (n m cap cap' : Nat) (xs ys : List Nat) (hx : Hid (xs.length = n)) (hy : Hid (ys.length = m)) (hwx : Hid (Words xs)) (hwy : Hid (Words ys)) (hn : Hid (n ≤ 200000 ∧ m ≤ 200000))
    (w : World) (hu : Hid (Src w z a xs)) (hv : Hid (Src w z' a' ys)) :
    Calls Try.prog 25 #[.slice a n cap, .slice a' m cap'] w fun e w' => ∃ v, e = .returned v ∧ Made w w' v (val xs + val ys) := by
  have := hn.out
  by_cases h : n < m
  · exact c2Add_core a a' n m m cap cap' xs ys hx hy hwx hwy (show m ≤ 200000 by omega) (by omega) (.inl ⟨h, rfl⟩) w (hu.out.other (Nat.le_refl _)) (hv.out.other (Nat.le_refl _))
  · exact c2Add_core a a' n m n cap cap' xs ys hx hy hwx hwy (show n ≤ 200000 by omega) (by omega) (.inr ⟨by omega, rfl⟩) w (hu.out.other (Nat.le_refl _)) (hv.out.other (Nat.le_refl _))

theorem c2Sub_any (z z' : Nat) (a a' : Option Addr) (n m cap cap' : Nat) (xs ys : List Nat) (hx : Hid (xs.length = n)) (hy : Hid (ys.length = m)) (hwx : Hid (Words xs)) (hwy : Hid (Words ys)) (hn : Hid (n ≤ 200000 ∧ m ≤ 200000)) (hle : Hid (val ys ≤ val xs))
    (w : World) (hu : Hid (Src w z a xs)) (hv : Hid (Src w z' a' ys)) :
    Calls Try.prog 27 #[.slice a n cap, .slice a' m cap'] w fun e w' => ∃ v D, e = .returned v ∧ D + val ys = val xs ∧ Made w w' v D := by
  have := hn.out
  by_cases h : n < m
  · exact c2Sub_core a a' n m m cap cap' xs ys hx hy hwx hwy (show m ≤ 200000 by omega) (by omega) hle (.inl ⟨h, rfl⟩) w (hu.out.other (Nat.le_refl _)) (hv.out.other (Nat.le_refl _))
  · exact c2Sub_core a a' n m n cap cap' xs ys hx hy hwx hwy (show n ≤ 200000 by omega) (by omega) hle (.inr ⟨by omega, rfl⟩) w (hu.out.other (Nat.le_refl _)) (hv.out.other (Nat.le_refl _))
end Go.Proofs.Qxb6003404a
