/-
  THE WALK of (*coef).add (39).
-/
import Derived.Test.Qxb6003404aCoefTrim
import Derived.Test.Qxb6003404aAddWords
import Derived.Test.Qxb6003404aSWalk
import Derived.Deep.DeepCutAuto
import Derived.Deep.CutBlock
import Derived.Deep.RegionHeld3
namespace Go.Proofs.Qxb6003404a
open Go.RowKit

/-- A coef just laid, all zero. -/
def Fresh (w : World) (b : Nat) : Prop :=
  b < w.heap.size ∧ w.cell? ⟨b, 0, none⟩ = some (.bool false) ∧ w.cell? ⟨b, 1, none⟩ = some (.int .i64 0) ∧ RowAt w b 2 (List.replicate 12 0) ∧ w.cell? ⟨b, 14, none⟩ = some (.pointer none) ∧ ∀ o, w.frozen? ⟨b, o, none⟩ = false

/-- The two operands, neither of them in block c; where their signs differ the first is no less. -/
def Two (w : World) (c b b' : Nat) (xn yn : Bool) (us vs : List Nat) : Prop :=
  CoefAt w b xn us ∧ CoefAt w b' yn vs ∧ b ≠ c ∧ b' ≠ c ∧ us.length < 12 ∧ vs.length < 12 ∧ (xn ≠ yn → val vs ≤ val us)

/-- What the two have, in a world that a draw has moved on. -/
theorem RowAt.zeros {w : World} {b off n k : Nat} (h : RowAt w b off (List.replicate k 0)) (hn : n ≤ k) : RowAt w b off (List.replicate n 0) := by
  have := h.take n
  rw [List.take_replicate, Nat.min_eq_left hn] at this
  exact this

theorem Wrote.other {w w' : World} {c lo hi b o : Nat} {u : Value} (h : Wrote w w' c lo hi) (hb : b < w.heap.size) (hne : b ≠ c) (hc : w.cell? ⟨b, o, none⟩ = some u) : w'.cell? ⟨b, o, none⟩ = some u :=
  (World.cell?_of_block (w := w) (h.1.block b hb (by intro e; injection e with e; exact hne e))).trans hc

/-- What addWords or subWords leaves, told of the world that was before the draws. -/
theorem after_words {w W w2 : World} {c n : Nat} {ds : List Nat} (hg : w.grownBy W none) (hO : Out W w2 c 2 ds) (hl : ds.length = n) (hc : c < w.heap.size) : RowAt w2 c 2 ds ∧ Wrote w w2 c 2 (2 + n) :=
  ⟨hO.1, (Wrote.of_grown hg c _ _ hc).trans (hl ▸ hO.2)⟩

theorem subWords_coef {w : World} {c B B' n m : Nat} {xn yn : Bool} {us vs : List Nat} (hf : Fresh w c) (hx : CoefAt w B xn us) (hy : CoefAt w B' yn vs) (hb : B ≠ c) (hb' : B' ≠ c) (hn : us.length = n) (hm : vs.length = m) (W : World) (hg : w.grownBy W none) :
    Calls Try.prog 42 #[.slice (some ⟨c, 2, none⟩) n 12, .slice (some ⟨B, 2, none⟩) n 12, .slice (some ⟨B', 2, none⟩) m 12] W fun e w2 =>
      e = .returned (.tuple #[]) ∧ w2.cell? ⟨B, 1, none⟩ = some (.int .i64 (n : Int)) ∧ w2.cell? ⟨B', 1, none⟩ = some (.int .i64 (m : Int)) ∧ w2.cell? ⟨c, 1, none⟩ = some (.int .i64 0) ∧ w2.frozen? ⟨c, 1, none⟩ = false ∧
        ∃ ds cc, Hid (SubInv us vs ds n cc ∧ cc ≤ 1 ∧ RowAt w2 c 2 ds ∧ Wrote w w2 c 2 (2 + n)) := by
  have h1 := hx.2.1
  have h2 := hy.2.1
  refine (subWords_any c 2 n 12 m 12 12 (some ⟨B, 2, none⟩) (some ⟨B', 2, none⟩) (List.replicate n 0) us vs (show _ = _ by simp) hn hm hx.2.2.1 hy.2.2.1 (by omega) (by omega) W
    ((hf.2.2.2.1.zeros (by omega)).grown hg hf.1 (by simp)) (FreeAt.grown (fun j _ => hf.2.2.2.2.2 _) hg hf.1 (by simp)) ((hx.src hb).grown hg) ((hy.src hb').grown hg)).mono ?_
  rintro e w2 ⟨ds, cc, hI, hcc, he, hO⟩
  obtain ⟨hr, hw⟩ := after_words hg hO hI.1 hf.1
  have c1 := hx.2.2.2.2.2.1
  have d1 := hy.2.2.2.2.2.1
  rw [hn] at c1
  rw [hm] at d1
  exact ⟨he, hw.other hx.1 hb c1, hw.other hy.1 hb' d1, (hw.2.1 1 (.inl (by omega))).trans hf.2.2.1, (hw.2.2 1).trans (hf.2.2.2.2.2 1), ds, cc, hI, hcc, hr, hw⟩

theorem addWords_coef {w : World} {c B B' n m : Nat} {xn yn : Bool} {us vs : List Nat} (hf : Fresh w c) (hx : CoefAt w B xn us) (hy : CoefAt w B' yn vs) (hb : B ≠ c) (hb' : B' ≠ c) (hn : us.length = n) (hm : vs.length = m) (W : World) (hg : w.grownBy W none) :
    Calls Try.prog 40 #[.slice (some ⟨c, 2, none⟩) n 12, .slice (some ⟨B, 2, none⟩) n 12, .slice (some ⟨B', 2, none⟩) m 12] W fun e w2 =>
      w2.cell? ⟨B, 1, none⟩ = some (.int .i64 (n : Int)) ∧ w2.cell? ⟨B', 1, none⟩ = some (.int .i64 (m : Int)) ∧ w2.cell? ⟨c, 1, none⟩ = some (.int .i64 0) ∧ w2.frozen? ⟨c, 1, none⟩ = false ∧
        ∃ (ds : List Nat) (cc : Nat), e = .returned (.int .u64 (cc : Int)) ∧ Hid (AddInv us vs ds n cc ∧ cc ≤ 1 ∧ RowAt w2 c 2 ds ∧ Wrote w w2 c 2 (2 + n)) := by
  have h1 := hx.2.1
  have h2 := hy.2.1
  refine (addWords_any c 2 n 12 m 12 12 (some ⟨B, 2, none⟩) (some ⟨B', 2, none⟩) (List.replicate n 0) us vs (show _ = _ by simp) hn hm hx.2.2.1 hy.2.2.1 (by omega) (by omega) W
    ((hf.2.2.2.1.zeros (by omega)).grown hg hf.1 (by simp)) (FreeAt.grown (fun j _ => hf.2.2.2.2.2 _) hg hf.1 (by simp)) ((hx.src hb).grown hg) ((hy.src hb').grown hg)).mono ?_
  rintro e w2 ⟨ds, cc, hI, hcc, he, hO⟩
  obtain ⟨hr, hw⟩ := after_words hg hO hI.1 hf.1
  have c1 := hx.2.2.2.2.2.1
  have d1 := hy.2.2.2.2.2.1
  rw [hn] at c1
  rw [hm] at d1
  exact ⟨hw.other hx.1 hb c1, hw.other hy.1 hb' d1, (hw.2.1 1 (.inl (by omega))).trans hf.2.2.1, (hw.2.2 1).trans (hf.2.2.2.2.2 1), ds, cc, he, hI, hcc, hr, hw⟩

/-- A sum that fits is trimmed where its longer part is. -/
theorem trimmed_sum {us vs ds : List Nat} {n : Nat} (hn : us.length = n) (hd : ds.length = n) (hw : Words ds) (ht : Trimmed us) (h : val ds = val us + val vs) : Trimmed ds := by
  by_cases h0 : n = 0
  · left
    exact List.eq_nil_of_length_eq_zero (by omega)
  · right
    intro hz
    rw [hd] at hz
    have e := val_take_succ ds (n - 1)
    rw [hz, Nat.mul_zero, Nat.add_zero, List.take_of_length_le (by omega)] at e
    have := shorter_lt (u := ds.take (n - 1)) (v := us) (words_take hw _) ht (by simp; omega)
    omega

theorem getD_zeros (k j : Nat) : (List.replicate k 0).getD j 0 = 0 := by
  simp only [List.getD, List.getElem?_replicate]
  split <;> rfl

theorem trimmed_snoc {ds : List Nat} {v : Nat} (h : v ≠ 0) : Trimmed (ds ++ [v]) := .inr (by simpa [List.getD] using h)
theorem CoefAt.drew {w : World} {b : Nat} {neg : Bool} {us : List Nat} (h : CoefAt w b neg us) : CoefAt w.drew b neg us := h
theorem gb_drew (w : World) (row : Option Nat) : w.grownBy w.drew row := ⟨rfl, rfl, rfl, Nat.le_refl _, fun _ _ _ => rfl⟩

theorem coef_done {w : World} {c : Nat} {neg : Bool} {rs : List Nat} {u : Value} (hb : c < w.heap.size) (hl : rs.length ≤ 12) (hw : Words rs) (ht : Trimmed rs) (h0 : w.cell? ⟨c, 0, none⟩ = some u) (h1 : w.cell? ⟨c, 1, none⟩ = some (.int .i64 ((rs.length : Nat) : Int))) (hr : RowAt w c 2 rs) (h14 : w.cell? ⟨c, 14, none⟩ = some (.pointer none)) :
    CoefAt (w.setCell ⟨c, 0, none⟩ (.bool neg)) c neg rs := by
  refine ⟨by simpa using hb, hl, hw, ht, World.cell?_setCell_same _ _ _ h0, ?_, hr.apart 0 _ (.inl (by omega)), ?_⟩
  · rw [World.cell?_setCell_other _ _ _ _ (by simp)]; exact h1
  · rw [World.cell?_setCell_other _ _ _ _ (by simp)]; exact h14

set_option maxHeartbeats 2000000 in
set_option maxRecDepth 20000 in
theorem coefAdd_any (c b b' : Nat) (xn yn : Bool) (us vs : List Nat) (w : World) (hf : Hid (Fresh w c)) (hx : Hid (CoefAt w b xn us)) (hy : Hid (CoefAt w b' yn vs)) (hb : b ≠ c) (hb' : b' ≠ c) (hlu : Hid (us.length < 12)) (hlv : Hid (vs.length < 12)) :
    Calls Try.prog 39 #[.pointer (some ⟨c, 0, none⟩), .pointer (some ⟨b, 0, none⟩), .pointer (some ⟨b', 0, none⟩)] w fun e w' =>
      e = .returned (.tuple #[]) ∧ w.grownBy w' (some c) ∧ ∃ rn rs, CoefAt w' c rn rs ∧ sv rn (val rs) = sv xn (val us) + sv yn (val vs) := by
  have c0 := hx.out.2.2.2.2.1
  have d0 := hy.out.2.2.2.2.1
  obtain ⟨sw, hsw⟩ : ∃ sw : Bool, sw = ((xn != yn) && decide (val us < val vs)) := ⟨_, rfl⟩
  have HSW : Hid (sw = ((xn != yn) && decide (val us < val vs))) := hsw
  clear hsw
  go_enter Try.func39, Try.ntmps39
  go_upto_region 0 with fail
  go_cut [22] (fun s wx => s = .bool sw ∧ ∃ q, wx = w.drewN q)
  case first =>
    cases xn <;> cases yn
    · have E : Hid (sw = false) := (show _ = _ by rw [HSW.out]; simp)
      go_quiet (fail)
      go_wp2
      go_meet
      case rel => exact ⟨by rw [E.out], _, rfl⟩
    · have C : Hid (∀ q, Calls Try.prog 38 #[.pointer (some ⟨b, 0, none⟩), .pointer (some ⟨b', 0, none⟩)] (w.drewN q) fun e w' => e = .returned (.int .i64 (cmp3 (val us : Int) (val vs : Int))) ∧ ∃ q, w' = w.drewN q) := fun q => by
        refine (cmpAbs_any b b' _ _ us vs (w.drewN q) (hx.out.drewN q) (hy.out.drewN q)).mono ?_
        rintro e w' ⟨he, q', rfl⟩
        exact ⟨he, _, World.drewN_drewN _ _ _⟩
      have HK : Hid (decide (cmp3 (val us : Int) (val vs : Int) < 0) = sw) := (show _ = _ by
        rw [HSW.out]
        by_cases h : val us < val vs
        · rw [cmp3_lt (by omega)]; simp [h]
        · by_cases e : val us = val vs
          · rw [e, cmp3_eq rfl]; simp
          · rw [cmp3_gt (by omega)]; simp [h])
      obtain ⟨k, ek⟩ : ∃ k, cmp3 (val us : Int) (val vs : Int) = k := ⟨_, rfl⟩
      rw [ek] at C HK
      clear ek
      go_quiet ((go_at_call 38; exact C.out _))
      go_wp2
      go_meet
      case rel => exact ⟨by rw [← HK.out], _, rfl⟩
    · have C : Hid (∀ q, Calls Try.prog 38 #[.pointer (some ⟨b, 0, none⟩), .pointer (some ⟨b', 0, none⟩)] (w.drewN q) fun e w' => e = .returned (.int .i64 (cmp3 (val us : Int) (val vs : Int))) ∧ ∃ q, w' = w.drewN q) := fun q => by
        refine (cmpAbs_any b b' _ _ us vs (w.drewN q) (hx.out.drewN q) (hy.out.drewN q)).mono ?_
        rintro e w' ⟨he, q', rfl⟩
        exact ⟨he, _, World.drewN_drewN _ _ _⟩
      have HK : Hid (decide (cmp3 (val us : Int) (val vs : Int) < 0) = sw) := (show _ = _ by
        rw [HSW.out]
        by_cases h : val us < val vs
        · rw [cmp3_lt (by omega)]; simp [h]
        · by_cases e : val us = val vs
          · rw [e, cmp3_eq rfl]; simp
          · rw [cmp3_gt (by omega)]; simp [h])
      obtain ⟨k, ek⟩ : ∃ k, cmp3 (val us : Int) (val vs : Int) = k := ⟨_, rfl⟩
      rw [ek] at C HK
      clear ek
      go_quiet ((go_at_call 38; exact C.out _))
      go_wp2
      go_meet
      case rel => exact ⟨by rw [← HK.out], _, rfl⟩
    · have E : Hid (sw = false) := (show _ = _ by rw [HSW.out]; simp)
      go_quiet (fail)
      go_wp2
      go_meet
      case rel => exact ⟨by rw [E.out], _, rfl⟩
  case rest =>
    obtain ⟨rfl, q, rfl⟩ := hcut
    go_upto_if 22 with fail
    go_cut [1, 2] (fun s1 s2 wx => ∃ B B' xm ym us' vs', s1 = .pointer (some ⟨B, 0, none⟩) ∧ s2 = .pointer (some ⟨B', 0, none⟩) ∧ wx = w.drewN q ∧ Hid (Two w c B B' xm ym us' vs' ∧ sv xm (val us') + sv ym (val vs') = sv xn (val us) + sv yn (val vs)))
    case first =>
      cases sw
      · go_wp2
        go_meet
        case rel => exact ⟨b, b', xn, yn, us, vs, rfl, rfl, rfl, ⟨hx.out, hy.out, hb, hb', hlu.out, hlv.out, fun h => by have := HSW.out; simp [h] at this; omega⟩, rfl⟩
      · go_wp2
        go_meet
        case rel => exact ⟨b', b, yn, xn, vs, us, rfl, rfl, rfl, ⟨hy.out, hx.out, hb', hb, hlv.out, hlu.out, fun h => by have := HSW.out; simp at this; omega⟩, Int.add_comm _ _⟩
    case rest =>
      clear hx hy c0 d0 hb hb' hlu hlv HSW
      obtain ⟨B, B', xm, ym, us', vs', rfl, rfl, rfl, HT⟩ := hcut
      have c0 := HT.out.1.1.2.2.2.2.1
      have d0 := HT.out.1.2.1.2.2.2.2.1
      have c1 := HT.out.1.1.2.2.2.2.2.1
      have d1 := HT.out.1.2.1.2.2.2.2.2.1
      have c14 := HT.out.1.1.2.2.2.2.2.2.2
      have d14 := HT.out.1.2.1.2.2.2.2.2.2.2
      have hn := HT.out.1.2.2.2.2.1
      have hm := HT.out.1.2.2.2.2.2.1
      obtain ⟨n, en⟩ : ∃ n, us'.length = n := ⟨_, rfl⟩
      obtain ⟨m, em⟩ : ∃ m, vs'.length = m := ⟨_, rfl⟩
      rw [en] at c1 hn
      rw [em] at d1 hm
      have EN : Hid (us'.length = n ∧ vs'.length = m) := ⟨en, em⟩
      clear en em
      obtain ⟨mx, rmx, hmx⟩ : ∃ mx : Nat, (if n < m then (m : Int) else (n : Int)) = (mx : Int) ∧ ((mx : Int) == 12) = false := by
        by_cases h : n < m
        · exact ⟨m, by rw [if_pos h], by simp; omega⟩
        · exact ⟨n, by rw [if_neg h], by simp; omega⟩
      go_wp2
      go_quiet (fail)
      go_wp2_with fail
      by_cases hxy : xm = ym
      · subst hxy
        go_quiet (fail)
        go_wp2_with fail
        go_quiet (fail)
        go_upto_if 131 with fail
        go_cut [1, 2] (fun s1 s2 wx => ∃ D D' us2 vs2, s1 = .pointer (some ⟨D, 0, none⟩) ∧ s2 = .pointer (some ⟨D', 0, none⟩) ∧ Hid (Two w c D D' xm xm us2 vs2 ∧ vs2.length ≤ us2.length ∧ val us2 + val vs2 = val us' + val vs' ∧ w.grownBy wx none))
        case first =>
          by_cases hlt : n < m
          · go_wp2
            go_meet
            case rel => exact ⟨B', B, vs', us', rfl, rfl, ⟨HT.out.1.2.1, HT.out.1.1, HT.out.1.2.2.2.1, HT.out.1.2.2.1, HT.out.1.2.2.2.2.2.1, HT.out.1.2.2.2.2.1, fun h => absurd rfl h⟩, (by rw [EN.out.1, EN.out.2]; omega), Nat.add_comm _ _, ⟨rfl, rfl, rfl, Nat.le_refl _, fun _ _ _ => rfl⟩⟩
          · go_wp2
            go_meet
            case rel => exact ⟨B, B', us', vs', rfl, rfl, HT.out.1, (by rw [EN.out.1, EN.out.2]; omega), rfl, ⟨rfl, rfl, rfl, Nat.le_refl _, fun _ _ _ => rfl⟩⟩
        case rest =>
          clear c0 d0 c1 d1 c14 d14 hn hm rmx hmx
          have HV : Hid (sv xm (val us' + val vs') = sv xn (val us) + sv yn (val vs)) := (show _ = _ by rw [sv_add]; exact HT.out.2)
          obtain ⟨D, D', us2, vs2, rfl, rfl, HT2⟩ := hcut
          clear EN HT
          have c1 := (HT2.out.1.1.grown HT2.out.2.2.2 (by simp)).2.2.2.2.2.1
          have d1 := (HT2.out.1.2.1.grown HT2.out.2.2.2 (by simp)).2.2.2.2.2.1
          have hn := HT2.out.1.2.2.2.2.1
          have hm := HT2.out.1.2.2.2.2.2.1
          have hmn := HT2.out.2.1
          obtain ⟨n2, en⟩ : ∃ n, us2.length = n := ⟨_, rfl⟩
          obtain ⟨m2, em⟩ : ∃ m, vs2.length = m := ⟨_, rfl⟩
          rw [en] at c1 hn hmn
          rw [em] at d1 hm hmn
          have EN : Hid (us2.length = n2 ∧ vs2.length = m2) := ⟨en, em⟩
          have C40 : Hid (∀ W, w.grownBy W none → _) := addWords_coef hf.out HT2.out.1.1 HT2.out.1.2.1 HT2.out.1.2.2.1 HT2.out.1.2.2.2.1 en em
          clear en em
          have hn0 : (0 : Int) ≤ (n2 : Int) := by omega
          have hn1 : (n2 : Int) ≤ 12 := by omega
          have hm0 : (0 : Int) ≤ (m2 : Int) := by omega
          have hm1 : (m2 : Int) ≤ 12 := by omega
          go_wp2_with fail
          go_region_held3 (fun w' => w'.cell? ⟨D, 1, none⟩ = some (.int .i64 (n2 : Int)) ∧ w'.cell? ⟨D', 1, none⟩ = some (.int .i64 (m2 : Int))) (go_keep) (first | (go_at_call 40; refine (C40.out _ (by exact gb_trans HT2.out.2.2.2 ⟨rfl, rfl, rfl, Nat.le_refl _, fun _ _ _ => rfl⟩)).mono ?_; rintro e w2 ⟨e1, e2, e3, e4, ds, cc, rfl, HO⟩))
          have hcell0 : w2.cell? ⟨c, 0, none⟩ = some (.bool false) := (HO.out.2.2.2.2.1 0 (.inl (by omega))).trans hf.out.2.1
          have f0 : w2.frozen? ⟨c, 0, none⟩ = false := (HO.out.2.2.2.2.2 0).trans (hf.out.2.2.2.2.2 0)
          have hcc := HO.out.2.1
          by_cases hc0 : cc = 0
          · subst hc0
            go_wp2
            go_end0
            have HW3 : Wrote w (w2.setCell ⟨c, 1, none⟩ (.int .i64 (n2 : Int))) c 1 14 := (HO.out.2.2.2.wider (by omega) (by omega)).setCell 1 _ (by omega) (by omega)
            have hvs := HO.out.1.whole (by rw [EN.out.1]; exact Nat.le_refl _) (by rw [EN.out.2]; exact hmn)
            rw [val_snoc, Nat.mul_zero, Nat.add_zero] at hvs
            have hdl := HO.out.1.1
            refine ⟨rfl, gb_trans HW3.1 (gb_setCell _ _ _ _), xm, ds, coef_done (Nat.lt_of_lt_of_le hf.out.1 HW3.size) (by omega) HO.out.1.2.1 (trimmed_sum EN.out.1 hdl HO.out.1.2.1 HT2.out.1.1.2.2.2.1 hvs) ((HW3.2.1 0 (.inl (by omega))).trans hf.out.2.1) (by rw [hdl]; exact World.cell?_setCell_same _ _ _ e3) (HO.out.2.2.1.apart 1 _ (.inl (by omega))) ((HW3.2.1 14 (.inr (by omega))).trans hf.out.2.2.2.2.1), ?_⟩
            rw [hvs, HT2.out.2.2.1]
            exact HV.out
          · have hcb : ((cc : Int) != 0) = true := by simp; omega
            have hcn : w2.cell? ⟨c, 2 + n2, none⟩ = some (.int .u64 0) := by
              have h := hf.out.2.2.2.1 n2 (by simp; omega)
              rw [getD_zeros] at h
              rw [HO.out.2.2.2.2.1 (2 + n2) (.inr (Nat.le_refl _)), h]
              rfl
            have fn : w2.frozen? ⟨c, 2 + n2, none⟩ = false := (HO.out.2.2.2.2.2 _).trans (hf.out.2.2.2.2.2 _)
            go_wp2
            have c13 : (w2.setCell ⟨c, 1, none⟩ (.int .i64 (n2 : Int))).cell? ⟨c, 1, none⟩ = some (.int .i64 (n2 : Int)) := World.cell?_setCell_same _ _ _ e3
            have cn3 : (w2.setCell ⟨c, 1, none⟩ (.int .i64 (n2 : Int))).cell? ⟨c, 2 + n2, none⟩ = some (.int .u64 0) := by rw [World.cell?_setCell_other _ _ _ _ (by intro h; injection h with _ h2; omega)]; exact hcn
            have HW3 : Hid (Wrote w (w2.setCell ⟨c, 1, none⟩ (.int .i64 (n2 : Int))) c 1 14 ∧ RowAt (w2.setCell ⟨c, 1, none⟩ (.int .i64 (n2 : Int))) c 2 ds) := ⟨(HO.out.2.2.2.wider (by omega) (by omega)).setCell 1 _ (by omega) (by omega), HO.out.2.2.1.apart 1 _ (.inl (by omega))⟩
            generalize w2.setCell ⟨c, 1, none⟩ (.int .i64 (n2 : Int)) = w3 at c13 cn3 HW3 ⊢
            have fz : ∀ o, w3.frozen? ⟨c, o, none⟩ = false := fun o => (HW3.out.1.2.2 o).trans (hf.out.2.2.2.2.2 o)
            have hn2 : (n2 : Int) < 12 := by omega
            have k1 : (w3.setCell ⟨c, 2 + n2, none⟩ (.int .u64 (cc : Int))).cell? ⟨c, 1, none⟩ = some (.int .i64 (n2 : Int)) := by rw [World.cell?_setCell_other _ _ _ _ (by intro h; injection h with _ h2; omega)]; exact c13
            have k0 : (w3.setCell ⟨c, 2 + n2, none⟩ (.int .u64 (cc : Int))).cell? ⟨c, 0, none⟩ = some (.bool false) := by rw [World.cell?_setCell_other _ _ _ _ (by intro h; injection h with _ h2; omega)]; exact (HW3.out.1.2.1 0 (.inl (by omega))).trans hf.out.2.1
            go_region_held3 (fun w' => w'.cell? ⟨c, 1, none⟩ = some (.int .i64 (n2 : Int))) (go_keep) (fail)
            go_wp2
            go_end0
            have W4 : Wrote w ((w3.setCell ⟨c, 2 + n2, none⟩ (.int .u64 (cc : Int))).setCell ⟨c, 1, none⟩ (.int .i64 ((n2 : Int) + 1))) c 1 14 := (HW3.out.1.setCell (2 + n2) _ (by omega) (by omega)).setCell 1 _ (by omega) (by omega)
            have hvs := HO.out.1.whole (by rw [EN.out.1]; exact Nat.le_refl _) (by rw [EN.out.2]; exact hmn)
            have hdl := HO.out.1.1
            have hl9 : (ds ++ [cc]).length = n2 + 1 := by simp [hdl]
            have hr4 : RowAt (w3.setCell ⟨c, 2 + n2, none⟩ (.int .u64 (cc : Int))) c 2 (ds ++ [cc]) := by
              have h := HW3.out.2.snoc (v := cc) (u := .int .u64 0) (by rw [hdl]; exact cn3)
              rw [hdl] at h
              exact h
            refine ⟨rfl, gb_trans (gb_trans W4.1 (gb_setCell _ _ _ _)) (gb_drew _ _), xm, ds ++ [cc], CoefAt.drew (coef_done (Nat.lt_of_lt_of_le hf.out.1 W4.size) (by omega) (words_snoc HO.out.1.2.1 (by omega)) (trimmed_snoc hc0) ((W4.2.1 0 (.inl (by omega))).trans hf.out.2.1) ((World.cell?_setCell_same _ _ _ k1).trans (by rw [hl9]; rfl)) (hr4.apart 1 _ (.inl (by omega))) ((W4.2.1 14 (.inr (by omega))).trans hf.out.2.2.2.2.1)), ?_⟩
            rw [hvs, HT2.out.2.2.1]
            exact HV.out
      · have hbb : (xm == ym) = false := by simp [hxy]
        go_quiet (fail)
        go_wp2_with fail
        have C42 : Hid (∀ W, w.grownBy W none → _) := subWords_coef hf.out HT.out.1.1 HT.out.1.2.1 HT.out.1.2.2.1 HT.out.1.2.2.2.1 EN.out.1 EN.out.2
        have hn0 : (0 : Int) ≤ (n : Int) := by omega
        have hn1 : (n : Int) ≤ 12 := by omega
        have hm0 : (0 : Int) ≤ (m : Int) := by omega
        have hm1 : (m : Int) ≤ 12 := by omega
        clear rmx hmx
        go_region_held3 (fun w' => w'.cell? ⟨B, 1, none⟩ = some (.int .i64 (n : Int)) ∧ w'.cell? ⟨B', 1, none⟩ = some (.int .i64 (m : Int))) (go_keep) (first | (go_at_call 42; refine (C42.out _ (by exact ⟨rfl, rfl, rfl, Nat.le_refl _, fun _ _ _ => rfl⟩)).mono ?_; rintro e w2 ⟨rfl, e1, e2, e3, e4, ds, cc, HO⟩))
        have hle := HT.out.1.2.2.2.2.2.2 hxy
        have hl2 : m ≤ n := by
          by_cases h : n < m
          · have := shorter_lt HT.out.1.1.2.2.1 HT.out.1.2.1.2.2.2.1 (by rw [EN.out.1, EN.out.2]; exact h)
            omega
          · omega
        have HD : Hid (val ds + val vs' = val us') := HO.out.1.whole (by rw [EN.out.1]; exact Nat.le_refl _) (by rw [EN.out.2]; exact hl2) hle HO.out.2.1
        have hr3 := HO.out.2.2.1.apart 1 (.int .i64 (n : Int)) (.inl (by omega))
        have HR3 : Hid (RowAt (w2.setCell ⟨c, 1, none⟩ (.int .i64 (n : Int))) c 2 ds) := hr3
        have HW3 : Hid (Wrote w (w2.setCell ⟨c, 1, none⟩ (.int .i64 (n : Int))) c 1 14) := (HO.out.2.2.2.wider (by omega) (by omega)).setCell 1 _ (by omega) (by omega)
        clear hr3 hle hl2 C42
        go_wp2_with fail
        refine (coefTrim_any c n ds HO.out.1.1 (by omega) _ (World.cell?_setCell_same _ _ _ e3) HR3.out ((World.frozen?_setCell _ _ _ _).trans e4)).mono ?_
        rintro e w4 ⟨rfl, t1, hW4⟩
        have HW : Hid (Wrote w w4 c 1 14) := HW3.out.trans (hW4.wider (by omega) (by omega))
        have HR4 : Hid (RowAt w4 c 2 ds) := hW4.row_out HR3.out (.inr (Nat.le_refl _))
        have T1 : Hid (w4.cell? ⟨c, 1, none⟩ = some (.int .i64 ((tl ds : Nat) : Int))) := t1
        have h0 : w4.cell? ⟨c, 0, none⟩ = some (.bool false) := (HW.out.2.1 0 (.inl (by omega))).trans hf.out.2.1
        have f0 : w4.frozen? ⟨c, 0, none⟩ = false := (HW.out.2.2 0).trans (hf.out.2.2.2.2.2 0)
        clear t1 hW4
        go_wp2
        go_end0
        have hll : (ds.take (tl ds)).length = tl ds := by have := tl_le ds; simp; omega
        have htl := tl_le ds
        have hdl := HO.out.1.1
        refine ⟨rfl, gb_trans HW.out.1 (gb_setCell _ _ _ _), xm, ds.take (tl ds), coef_done (Nat.lt_of_lt_of_le hf.out.1 HW.out.size) (by omega) (words_take HO.out.1.2.1 _) (trimmed_tl ds) h0 (by rw [hll]; exact T1.out) (HR4.out.take _) ((HW.out.2.1 14 (.inr (by omega))).trans hf.out.2.2.2.2.1), ?_⟩
        rw [val_tl, sv_sub hxy HD.out]
        exact HT.out.2

theorem zzAdd_any (c b b' : Nat) (xn yn : Bool) (us vs : List Nat) (w : World) (hf : Hid (Fresh w c)) (hx : Hid (CoefAt w b xn us)) (hy : Hid (CoefAt w b' yn vs)) (hb : b ≠ c) (hb' : b' ≠ c) (hlu : Hid (us.length < 12)) (hlv : Hid (vs.length < 12)) :
    Calls Try.prog 19 #[.pointer (some ⟨c, 0, none⟩), .pointer (some ⟨b, 0, none⟩), .pointer (some ⟨b', 0, none⟩)] w fun e w' =>
      e = .returned (.tuple #[]) ∧ w.grownBy w' (some c) ∧ ∃ rn rs, CoefAt w' c rn rs ∧ sv rn (val rs) = sv xn (val us) + sv yn (val vs) := by
  go_enter Try.func19, Try.ntmps19
  go_wp2_with (go_at_call 39; refine (coefAdd_any c b b' xn yn us vs _ hf hx hy hb hb' hlu hlv).mono ?_; rintro e w' ⟨rfl, h1, h2⟩; have H : Hid (w.grownBy w' (some c) ∧ ∃ rn rs, CoefAt w' c rn rs ∧ sv rn (val rs) = sv xn (val us) + sv yn (val vs)) := ⟨h1, h2⟩; clear h1 h2)
  go_end0
  exact ⟨rfl, H.out.1, H.out.2⟩
end Go.Proofs.Qxb6003404a
