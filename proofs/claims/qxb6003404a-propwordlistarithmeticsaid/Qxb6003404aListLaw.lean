/-
  THE WALK of PropWordListArithmetic (6).
-/
import Derived.Test.Qxb6003404aC2Mul
import Derived.Deep.DeepCutAuto
import Derived.Deep.CutBlock
import Derived.Laws.CopyOwn
namespace Go.Proofs.Qxb6003404a
open Go.RowKit

theorem Try.size28 : (Try.prog.info? 28).map (·.size) = some 1 := by kernel_rfl

theorem row_of_cells {w : World} {g : Nat} {xs : List Nat} {t : TypeId} (h : w.heap[g]? = some (.cells (xs.map (fun x : Nat => Value.int .u64 (x : Int))).toArray t (0, 0))) : RowAt w g 0 xs ∧ g < w.heap.size := by
  refine ⟨fun j hj => ?_, (Array.getElem?_eq_some_iff.1 h).1⟩
  simp [World.cell?, h, hj]

/-- 'copy' of a whole slice into a row that was made for it. -/
theorem copy_run {w w1 : World} {base g n cap z : Nat} {a : Option Addr} {xs : List Nat} {L : List Value} (hl : xs.length = n) (hown : w1.ownsRow base 28 1 (.slice (some ⟨g, 0, none⟩) n n) n L) (hg : w.heap.size ≤ g) (hgr : w.grownBy w1 none) (hs : Src w1 z a xs) :
    ∃ w2, (∀ ty, (Builtin.copy_ #[29, 29] ty #[.slice (some ⟨g, 0, none⟩) n n, .slice a n cap]).run Try.prog w1 = .ok (.int .i64 (n : Int)) w2) ∧ RowAt w2 g 0 xs ∧ g < w2.heap.size ∧ w.grownBy w2 none := by
  have hlt := (hown.lt g rfl).2
  rcases hs with rfl | ⟨b, off, rfl, hb, hne, hr⟩
  · have : n = 0 := by simpa using hl.symm
    subst this
    exact ⟨w1, fun ty => run_copy_none w1 29 29 ty 28 _ _ _ _ _ _ Try.underlying29 Try.size28 rfl, fun j hj => by simp at hj, hlt, hgr⟩
  · rcases hown.2 with ⟨h, _⟩ | ⟨g', cap', cur, hv, hbg, hcur, hnc, hcm, hsz, _⟩
    · simp at h
    · simp at hv
      obtain ⟨rfl, rfl⟩ := hv
      obtain ⟨cs, hcs⟩ : ∃ cs, cs = xs.map (fun x : Nat => Value.int .u64 (x : Int)) := ⟨_, rfl⟩
      have hcl : cs.length = n := by rw [hcs]; simp [hl]
      have hrun := fun ty => run_copy_row (P := Try.prog) w1 29 29 ty 28 g 0 n n ⟨b, off, none⟩ n cap cur 28 cs Try.underlying29 Try.size28 hcur (by rw [hcl]; exact (Nat.min_self n).symm)
        (by
          intro j v hj
          have hj1 : j < xs.length := by have := (List.getElem?_eq_some_iff.1 hj).1; omega
          have h1 := hr j hj1
          have e : xs.getD j 0 = xs[j] := by simp [List.getD, hj1]
          rw [hcs] at hj
          simp [hj1] at hj
          rw [show (⟨b, off, none⟩ : Addr).add j = ⟨b, off + j, none⟩ by unfold Addr.add; split <;> simp_all, ← hj, h1, e]) (by omega) (by rw [hcs]; intro v hv; simp at hv; obtain ⟨x, _, rfl⟩ := hv; rfl)
      have e : cur.toList.take 0 ++ cs ++ cur.toList.drop (0 + cs.length) = cs := by
        rw [List.drop_of_length_le (by simp; omega)]
        simp
      rw [e, hcl] at hrun
      have hrow := setRow_heap w1 g cur cs.toArray 28 (0, 0) hcur
      rw [hcs] at hrow
      refine ⟨_, hrun, ?_, ?_, ?_⟩
      · rw [hcs]; exact (row_of_cells hrow).1
      · rw [hcs]; exact (row_of_cells hrow).2
      · exact below_gb (below_setRow (gb_below hgr) hg _)

/-- x and y lie where nothing new is; of what was there nothing has turned. -/
def St (w wx : World) (A A' : Option Addr) (xs ys : List Nat) : Prop := Src wx wx.heap.size A xs ∧ Src wx wx.heap.size A' ys ∧ w.grownBy wx none
theorem Src.moved {w w' : World} {a : Option Addr} {zs : List Nat} (h : Src w w.heap.size a zs) (hg : w.grownBy w' none) : Src w' w'.heap.size a zs := (h.other hg.size).grown hg
theorem St.on {w wx wy : World} {A A' : Option Addr} {xs ys : List Nat} (h : St w wx A A' xs ys) (hg : wx.grownBy wy none) : St w wy A A' xs ys := ⟨h.1.moved hg, h.2.1.moved hg, gb_trans h.2.2 hg⟩
theorem St.row {w wx : World} {A A' : Option Addr} {xs ys : List Nat} {b off : Nat} (h : St w wx A A' xs ys) (hr : RowAt wx b off xs) (hb : b < wx.heap.size) : St w wx (some ⟨b, off, none⟩) A' xs ys := ⟨.inr ⟨b, off, rfl, hb, by omega, hr⟩, h.2⟩
theorem St.row' {w wx : World} {A A' : Option Addr} {xs ys : List Nat} {b off : Nat} (h : St w wx A A' xs ys) (hr : RowAt wx b off ys) (hb : b < wx.heap.size) : St w wx A (some ⟨b, off, none⟩) xs ys := ⟨h.1, .inr ⟨b, off, rfl, hb, by omega, hr⟩, h.2.2⟩

/-- Where y is no greater than x, what y has above x's length is zero. -/
theorem val_take_all {xs ys : List Nat} {n : Nat} (hx : xs.length = n) (hw : Words xs) (hle : val ys ≤ val xs) : val (ys.take n) = val ys := by
  have h1 := val_lt hw
  rw [hx] at h1
  have h2 := val_take_zero ys n (fun j hj => zero_above (Nat.lt_of_le_of_lt hle h1) hj) (max n ys.length) (Nat.le_max_left _ _)
  rw [List.take_of_length_le (Nat.le_max_right _ _)] at h2
  exact h2.symm

theorem AddInv.sum {xs ys ds : List Nat} {n c : Nat} (h : AddInv xs ys ds n c) (hx : xs.length = n) (hw : Words xs) (hle : val ys ≤ val xs) : val (ds ++ [c]) = val xs + val ys := by
  obtain ⟨h1, _, h3⟩ := h
  rw [val_snoc, h1, h3, val_take_all hx hw hle, List.take_of_length_le (by omega)]
theorem SubInv.diff {xs ys ds : List Nat} {n c : Nat} (h : SubInv xs ys ds n c) (hx : xs.length = n) (hw : Words xs) (hle : val ys ≤ val xs) (hc : c ≤ 1) : val ds + val ys = val xs := by
  obtain ⟨h1, h2, h3⟩ := h
  rw [val_take_all hx hw hle, List.take_of_length_le (show xs.length ≤ n by omega)] at h3
  have h4 := val_lt h2
  rw [h1] at h4
  exact sub_zero h3 h4 hle hc

/-- c2Cmp at two rows of one value. -/
theorem c2Cmp_zero (g n cap g' k cap' : Nat) (rs rs' : List Nat) (hl : rs.length = n) (hl' : rs'.length = k) (hw : Words rs) (hw' : Words rs') (hn : n ≤ 1000000) (hk : k ≤ 1000000) (hc : n ≤ cap) (hc' : k ≤ cap') (he : val rs = val rs') (w : World) (hr : RowAt w g 0 rs) (hg : g < w.heap.size) (hr' : RowAt w g' 0 rs') (hg' : g' < w.heap.size) :
    Calls Try.prog 18 #[.slice (some ⟨g, 0, none⟩) n cap, .slice (some ⟨g', 0, none⟩) k cap'] w fun e w' => e = .returned (.int .i64 0) ∧ ∃ q, w' = w.drewN q := by
  have := c2Cmp_any w.heap.size w.heap.size (some ⟨g, 0, none⟩) (some ⟨g', 0, none⟩) n k cap cap' rs rs' hl hl' hw hw' (by omega) (by omega) hc hc' w (.inr ⟨g, 0, rfl, hg, by omega, hr⟩) (.inr ⟨g', 0, rfl, hg', by omega, hr'⟩)
  rw [he, cmp3_eq rfl] at this
  exact this

/-- A row that was made, the first n of it. -/
theorem zero_take {w : World} {g n k : Nat} (h : RowAt w g 0 (List.replicate k 0)) (hn : n ≤ k) : RowAt w g 0 (List.replicate n 0) := by
  have := h.take n
  rw [List.take_replicate, Nat.min_eq_left hn] at this
  exact this

set_option maxHeartbeats 4000000 in
set_option maxRecDepth 20000 in
theorem listLaw_core (a a' : Option Addr) (n m cap cap' : Nat) (k : Int) (xs ys : List Nat) (hx : Hid (xs.length = n)) (hy : Hid (ys.length = m)) (hwx : Hid (Words xs)) (hwy : Hid (Words ys)) (hn : Hid (n ≤ 65536 ∧ m ≤ 65536)) (hgn : decide ((65536 : Int) < (n : Int)) = false) (hgm : decide ((65536 : Int) < (m : Int)) = false)
    (hn' : n ≤ 9223372036854775) (hm' : m ≤ 9223372036854775) (hcap : n ≤ cap) (hcap' : m ≤ cap') (hle : Hid (val ys ≤ val xs)) (hk : Hid (cmp3 (val xs : Int) (val ys : Int) = k)) (hk0 : decide (k < 0) = false)
    (w : World) (hu : Hid (Src w w.heap.size a xs)) (hv : Hid (Src w w.heap.size a' ys)) :
    Calls Try.prog 6 #[.slice a n cap, .slice a' m cap'] w fun e w' => e = .returned (.bool true) ∧ Below w.heap.size w w' := by
  obtain ⟨i0, hi, hz0, hz1, hz2⟩ := info_parts Try.info28w
  have q2 := fun a l c w => run_neq_slice_nil_any (P := Try.prog) w 29 28 a l c 0 0 Try.underlying29
  have C18 : Hid (∀ w, Src w w.heap.size a xs → Src w w.heap.size a' ys → Calls Try.prog 18 #[.slice a n cap, .slice a' m cap'] w fun e w' => e = .returned (.int .i64 k) ∧ ∃ q, w' = w.drewN q) := fun w h1 h2 => by
    have := c2Cmp_any w.heap.size w.heap.size a a' n m cap cap' xs ys hx hy hwx hwy (by omega) (by omega) hcap hcap' w h1 h2
    rw [hk.out] at this
    exact this
  go_enter Try.func6, Try.ntmps6
  go_upto_if 27 with (go_at_call 18; refine (C18.out _ hu.out hv.out).mono ?_; rintro e w' ⟨rfl, q, rfl⟩)
  have HS : Hid (St w (w.drewN q) a a' xs ys) := ⟨hu.out, hv.out, gb_drewN _ _ _⟩
  clear hu hv C18
  go_cut [0] (fun s0 wx => ∃ A cp, s0 = .slice A n cp ∧ n ≤ cp ∧ Hid (St w wx A a' xs ys))
  case first =>
    rcases a with _ | a
    · go_wp2
      go_meet
      case rel => exact ⟨none, cap, rfl, hcap, HS⟩
    · go_wp2_with (first | simp only [hrun] | (at_make; refine wpList_make_full _ rfl (.tmp 29) (.tmp 29) 29 rfl w.heap.size 28 i0 (.int .u64 0) 1 Try.underlying29 hi hz0 hz1 .i64 .i64 _ _ n rfl rfl rfl rfl (by rw [hz2]; have := hn.out; omega) (by unfold maxLen; have := hn.out; omega) (Nat.le_refl _) ?_; intro w1 hown hgrow; obtain ⟨w2, hrun, hr2, hl2, hg2⟩ := copy_run (g := w.heap.size) (w := w.drewN q) (cap := cap) hx.out hown (Nat.le_refl _) hgrow (HS.out.1.moved hgrow); have HS2 : Hid (St w w2 (some ⟨w.heap.size, 0, none⟩) a' xs ys) := (HS.out.on hg2).row hr2 hl2; clear hown hgrow hr2 hl2 hg2 HS))
      go_meet
      case rel => exact ⟨_, n, rfl, Nat.le_refl _, HS2⟩
  case rest =>
    obtain ⟨A, cp, rfl, hcp, HS⟩ := hcut
    go_upto_if 36 with fail
    go_cut [1] (fun s1 wx => ∃ A' cp', s1 = .slice A' m cp' ∧ m ≤ cp' ∧ Hid (St w wx A A' xs ys))
    case first =>
      rcases a' with _ | a'
      · go_wp2
        go_meet
        case rel => exact ⟨none, cap', rfl, hcap', HS⟩
      · go_wp2_with (first | simp only [hrun] | (at_make; refine wpList_make_full _ rfl (.tmp 38) (.tmp 38) 29 rfl wc.heap.size 28 i0 (.int .u64 0) 1 Try.underlying29 hi hz0 hz1 .i64 .i64 _ _ m rfl rfl rfl rfl (by rw [hz2]; have := hn.out; omega) (by unfold maxLen; have := hn.out; omega) (Nat.le_refl _) ?_; intro w1 hown hgrow; obtain ⟨w2, hrun, hr2, hl2, hg2⟩ := copy_run (cap := cap') hy.out hown (Nat.le_refl _) hgrow (HS.out.2.1.moved hgrow); have HS2 : Hid (St w w2 A (some ⟨wc.heap.size, 0, none⟩) xs ys) := (HS.out.on hg2).row' hr2 hl2; clear hown hgrow hr2 hl2 hg2 HS))
        go_meet
        case rel => exact ⟨_, m, rfl, Nat.le_refl _, HS2⟩
    case rest =>
      clear HS
      obtain ⟨A', cp', rfl, hcp', HS⟩ := hcut
      clear q2 hcap hcap' hgn hgm hk0
      have hn2 : Hid (n ≤ 200000 ∧ m ≤ 200000) := ⟨by have := hn.out; omega, by have := hn.out; omega⟩
      -- the sum
      go_wp2_with (at_make; refine wpList_make_full _ rfl (.tmp 46) (.tmp 46) 29 rfl wc.heap.size 28 i0 (.int .u64 0) 1 Try.underlying29 hi hz0 hz1 .i64 .i64 _ _ (n + 1) rfl rfl rfl rfl (by rw [hz2]; have := hn.out; omega) (by unfold maxLen; have := hn.out; omega) (Nat.le_refl _) ?_; intro w1 hown hgrow; have HM : Hid (RowAt w1 wc.heap.size 0 (List.replicate (n + 1) 0) ∧ FreeAt w1 wc.heap.size 0 (n + 1) ∧ wc.heap.size < w1.heap.size ∧ wc.grownBy w1 none) := ⟨(laid_row hown).1, (laid_row hown).2.1, (hown.lt _ rfl).2, hgrow⟩; clear hown hgrow)
      refine (zzAddWords_any wc.heap.size 0 n (n + 1) m cp cp' A A' (List.replicate n 0) xs ys (show _ = _ by simp) hx hy hwx hwy (by omega) (by omega) _ (zero_take HM.out.1 (Nat.le_succ _)) (fun j hj => HM.out.2.1 j (Nat.lt_succ_of_lt hj)) (HS.out.1.grown HM.out.2.2.2) (HS.out.2.1.grown HM.out.2.2.2)).mono ?_
      rintro e w2 ⟨ds, c, hI, hc, rfl, hO⟩
      obtain ⟨⟨u0, hcz⟩, hfz, hO'⟩ := round_row hO HM.out.1 HM.out.2.1 hI.1 (Nat.lt_succ_self n)
      have HV : Hid (val (ds ++ [c]) = val xs + val ys ∧ (ds ++ [c]).length = n + 1 ∧ Words (ds ++ [c]) ∧ Out w1 (w2.setCell ⟨wc.heap.size, n, none⟩ (.int .u64 (c : Int))) wc.heap.size 0 (ds ++ [c])) := ⟨hI.sum hx.out hwx.out hle.out, by simp [hI.1], words_snoc hI.2.1 (by omega), hO' c⟩
      clear hI hO hO'
      obtain ⟨rs, hrs⟩ : ∃ rs, ds ++ [c] = rs := ⟨_, rfl⟩
      rw [hrs] at HV
      clear hrs
      go_wp2_with fail
      have HS3 : Hid (St w (w2.setCell ⟨wc.heap.size, n, none⟩ (.int .u64 (c : Int))) A A' xs ys) := HS.out.on (gb_new HM.out.2.2.2 HV.out.2.2.2.2.1 (Nat.le_refl _))
      refine (c2Add_any _ _ A A' n m cp cp' xs ys hx hy hwx hwy hn2 _ HS3.out.1 HS3.out.2.1).mono ?_
      rintro e w4 ⟨v, rfl, g2, k2, cap2, rs2, rfl, m1, m2, m3, m4, m5, m6, m7, m8, m9, m10⟩
      have HS4 : Hid (St w w4 A A' xs ys) := HS3.out.on m10
      have hgs : wc.heap.size < (w2.setCell ⟨wc.heap.size, n, none⟩ (.int .u64 (c : Int))).heap.size := Nat.lt_of_lt_of_le HM.out.2.2.1 HV.out.2.2.2.2.size
      have C : Hid (∀ w', w' = w4 → Calls Try.prog 18 #[.slice (some ⟨wc.heap.size, 0, none⟩) (n + 1) (n + 1), .slice (some ⟨g2, 0, none⟩) k2 cap2] w' fun e w' => e = .returned (.int .i64 0) ∧ ∃ q, w' = w4.drewN q) := (show ∀ w', w' = w4 → _ by
        rintro w' rfl
        exact c2Cmp_zero wc.heap.size (n + 1) (n + 1) g2 k2 cap2 rs rs2 HV.out.2.1 m1 HV.out.2.2.1 m2 (by have := hn.out; omega) m6 (Nat.le_refl _) m5 (by rw [HV.out.1, m4]) _ (HV.out.2.2.2.1.grown m10 hgs (by simp)) (Nat.lt_of_lt_of_le hgs m10.size) m9 m8)
      clear m1 m2 m3 m4 m5 m6 m7 m8 m9 m10 hgs HS HS3 HV HM hcz hfz
      go_wp2_with fail
      refine (C.out _ rfl).mono ?_
      rintro e w5 ⟨rfl, q5, rfl⟩
      clear C
      -- the difference
      go_wp2_with (at_make; refine wpList_make_full _ rfl (.tmp 67) (.tmp 67) 29 rfl w4.heap.size 28 i0 (.int .u64 0) 1 Try.underlying29 hi hz0 hz1 .i64 .i64 _ _ n rfl rfl rfl rfl (by rw [hz2]; have := hn.out; omega) (by unfold maxLen; have := hn.out; omega) (Nat.le_refl _) ?_; intro w6 hown hgrow; have HM : Hid (RowAt w6 w4.heap.size 0 (List.replicate n 0) ∧ FreeAt w6 w4.heap.size 0 n ∧ w4.heap.size < w6.heap.size ∧ w4.grownBy w6 none) := ⟨(laid_row hown).1, (laid_row hown).2.1, (hown.lt _ rfl).2, gb_trans (gb_drewN _ _ _) hgrow⟩; clear hown hgrow)
      refine (zzSubWords_any w4.heap.size 0 n n m cp cp' A A' (List.replicate n 0) xs ys (show _ = _ by simp) hx hy hwx hwy (by omega) (by omega) _ HM.out.1 HM.out.2.1 (HS4.out.1.grown HM.out.2.2.2) (HS4.out.2.1.grown HM.out.2.2.2)).mono ?_
      rintro e w7 ⟨es, c', hI, hc', rfl, hO⟩
      have HV : Hid (val es + val ys = val xs ∧ es.length = n ∧ Words es ∧ Out w6 w7 w4.heap.size 0 es) := ⟨hI.diff hx.out hwx.out hle.out hc', hI.1, hI.2.1, hO⟩
      clear hI hO
      have HS7 : Hid (St w w7 A A' xs ys) := HS4.out.on (gb_new HM.out.2.2.2 HV.out.2.2.2.2.1 (Nat.le_refl _))
      go_wp2_with fail
      refine (c2Sub_any _ _ A A' n m cp cp' xs ys hx hy hwx hwy hn2 hle _ HS7.out.1 HS7.out.2.1).mono ?_
      rintro e w8 ⟨v, D, rfl, hD, g3, k3, cap3, rs3, rfl, m1, m2, m3, m4, m5, m6, m7, m8, m9, m10⟩
      have HS8 : Hid (St w w8 A A' xs ys) := HS7.out.on m10
      have hgs : w4.heap.size < w7.heap.size := Nat.lt_of_lt_of_le HM.out.2.2.1 HV.out.2.2.2.2.size
      have C : Hid (∀ w', w' = w8 → Calls Try.prog 18 #[.slice (some ⟨w4.heap.size, 0, none⟩) n n, .slice (some ⟨g3, 0, none⟩) k3 cap3] w' fun e w' => e = .returned (.int .i64 0) ∧ ∃ q, w' = w8.drewN q) := (show ∀ w', w' = w8 → _ by
        rintro w' rfl
        exact c2Cmp_zero w4.heap.size n n g3 k3 cap3 es rs3 HV.out.2.1 m1 HV.out.2.2.1 m2 (by have := hn.out; omega) m6 (Nat.le_refl _) m5 (by rw [m4]; have := HV.out.1; omega) _ (HV.out.2.2.2.1.grown m10 hgs (by simp)) (Nat.lt_of_lt_of_le hgs m10.size) m9 m8)
      clear m1 m2 m3 m4 m5 m6 m7 m8 m9 m10 hgs hD HS4 HS7 HV HM
      go_wp2_with fail
      refine (C.out _ rfl).mono ?_
      rintro e w9 ⟨rfl, q9, rfl⟩
      clear C
      -- the product
      go_wp2_with (at_make; refine wpList_make_full _ rfl (.tmp 86) (.tmp 86) 29 rfl w8.heap.size 28 i0 (.int .u64 0) 1 Try.underlying29 hi hz0 hz1 .i64 .i64 _ _ (n + m) rfl rfl rfl rfl (by rw [hz2]; have := hn.out; omega) (by unfold maxLen; have := hn.out; omega) (Nat.le_refl _) ?_; intro w10 hown hgrow; have HM : Hid (RowAt w10 w8.heap.size 0 (List.replicate (n + m) 0) ∧ FreeAt w10 w8.heap.size 0 (n + m) ∧ w8.heap.size < w10.heap.size ∧ w8.grownBy w10 none) := ⟨(laid_row hown).1, (laid_row hown).2.1, (hown.lt _ rfl).2, gb_trans (gb_drewN _ _ _) hgrow⟩; clear hown hgrow)
      refine (zzMulWords_any w8.heap.size 0 n (n + m) m cp cp' A A' xs ys hx hy hwx hwy (by omega) (Nat.le_refl _) _ HM.out.1 HM.out.2.1 (HS8.out.1.grown HM.out.2.2.2) (HS8.out.2.1.grown HM.out.2.2.2)).mono ?_
      rintro e w11 ⟨fs, hfl, hfw, hfv, rfl, hO⟩
      have HV : Hid (val fs = val xs * val ys ∧ fs.length = n + m ∧ Words fs ∧ Out w10 w11 w8.heap.size 0 fs) := ⟨hfv, hfl, hfw, hO⟩
      clear hfl hfw hfv hO
      have HS11 : Hid (St w w11 A A' xs ys) := HS8.out.on (gb_new HM.out.2.2.2 HV.out.2.2.2.2.1 (Nat.le_refl _))
      go_wp2_with fail
      refine (c2Mul_any _ _ A A' n m cp cp' xs ys hx hy hwx hwy hn2 _ HS11.out.1 HS11.out.2.1).mono ?_
      rintro e w12 ⟨v, rfl, g4, k4, cap4, rs4, rfl, m1, m2, m3, m4, m5, m6, m7, m8, m9, m10⟩
      have HS12 : Hid (St w w12 A A' xs ys) := HS11.out.on m10
      have hgs : w8.heap.size < w11.heap.size := Nat.lt_of_lt_of_le HM.out.2.2.1 HV.out.2.2.2.2.size
      have C : Hid (∀ w', w' = w12 → Calls Try.prog 18 #[.slice (some ⟨w8.heap.size, 0, none⟩) (n + m) (n + m), .slice (some ⟨g4, 0, none⟩) k4 cap4] w' fun e w' => e = .returned (.int .i64 0) ∧ ∃ q, w' = w12.drewN q) := (show ∀ w', w' = w12 → _ by
        rintro w' rfl
        exact c2Cmp_zero w8.heap.size (n + m) (n + m) g4 k4 cap4 fs rs4 HV.out.2.1 m1 HV.out.2.2.1 m2 (by have := hn.out; omega) m6 (Nat.le_refl _) m5 (by rw [HV.out.1, m4]) _ (HV.out.2.2.2.1.grown m10 hgs (by simp)) (Nat.lt_of_lt_of_le hgs m10.size) m9 m8)
      clear m1 m2 m3 m4 m5 m6 m7 m8 m9 m10 hgs HS8 HS11 HV HM hi hz0 hz1 hz2
      go_wp2_with fail
      refine (C.out _ rfl).mono ?_
      rintro e w13 ⟨rfl, q13, rfl⟩
      clear C
      -- trimming and comparing
      have hlx : tl xs ≤ n := by have := tl_le xs; rw [hx.out] at this; exact this
      have hly : tl ys ≤ m := by have := tl_le ys; rw [hy.out] at this; exact this
      have HU : Hid (val (xs.take (tl xs)) = val xs ∧ val (ys.take (tl ys)) = val ys ∧ (xs.take (tl xs)).length = tl xs ∧ (ys.take (tl ys)).length = tl ys ∧ Trimmed (xs.take (tl xs)) ∧ Trimmed (ys.take (tl ys))) :=
        ⟨val_tl xs, val_tl ys, by have := hx.out; simp; omega, by have := hy.out; simp; omega, trimmed_tl xs, trimmed_tl ys⟩
      have HS13 : Hid (St w (w12.drewN q13) A A' xs ys) := HS12.out.on (gb_drewN _ _ _)
      have T30 : Hid ((∀ w', w' = w12.drewN q13 → Calls Try.prog 30 #[.slice A n cp] w' fun e w'' => e = .returned (.slice A (tl xs) cp) ∧ w'' = w12.drewN q13) ∧ (∀ w', w' = w12.drewN q13 → Calls Try.prog 30 #[.slice A' m cp'] w' fun e w'' => e = .returned (.slice A' (tl ys) cp') ∧ w'' = w12.drewN q13)) :=
        ⟨fun w' h => by subst h; exact zzTrimWords_any _ A n cp xs hx (by omega) hcp _ HS13.out.1, fun w' h => by subst h; exact zzTrimWords_any _ A' m cp' ys hy (by omega) hcp' _ HS13.out.2.1⟩
      have T13 : Hid ((∀ w', w' = w12.drewN q13 → Calls Try.prog 13 #[.slice A n cp] w' fun e w'' => e = .returned (.slice A (tl xs) cp) ∧ w'' = w12.drewN q13) ∧ (∀ w', w' = w12.drewN q13 → Calls Try.prog 13 #[.slice A' m cp'] w' fun e w'' => e = .returned (.slice A' (tl ys) cp') ∧ w'' = w12.drewN q13)) :=
        ⟨fun w' h => by subst h; exact c2Trim_any _ A n cp xs hx (by omega) hcp _ HS13.out.1, fun w' h => by subst h; exact c2Trim_any _ A' m cp' ys hy (by omega) hcp' _ HS13.out.2.1⟩
      have K31 : Hid (∀ q, Calls Try.prog 31 #[.slice A (tl xs) cp, .slice A' (tl ys) cp'] (w12.drewN q) fun e w' => e = .returned (.int .i64 k) ∧ ∃ q, w' = w12.drewN q) := fun q => by
        have := zzCmpWords_any _ _ A A' (tl xs) (tl ys) cp cp' _ _ HU.out.2.2.1 HU.out.2.2.2.1 (words_take hwx.out _) (words_take hwy.out _) HU.out.2.2.2.2.1 HU.out.2.2.2.2.2 (by omega) (by omega) (w12.drewN q) (HS12.out.1.take _) (HS12.out.2.1.take _)
        rw [HU.out.1, HU.out.2.1, hk.out] at this
        refine this.mono ?_
        rintro e w' ⟨he, q', rfl⟩
        exact ⟨he, _, World.drewN_drewN _ _ _⟩
      obtain ⟨k', hk'⟩ : ∃ k', cmp3 (val ys : Int) (val xs : Int) = k' := ⟨_, rfl⟩
      have J31 : Hid (∀ q, Calls Try.prog 31 #[.slice A' (tl ys) cp', .slice A (tl xs) cp] (w12.drewN q) fun e w' => e = .returned (.int .i64 k') ∧ ∃ q, w' = w12.drewN q) := fun q => by
        have := zzCmpWords_any _ _ A' A (tl ys) (tl xs) cp' cp _ _ HU.out.2.2.2.1 HU.out.2.2.1 (words_take hwy.out _) (words_take hwx.out _) HU.out.2.2.2.2.2 HU.out.2.2.2.2.1 (by omega) (by omega) (w12.drewN q) (HS12.out.2.1.take _) (HS12.out.1.take _)
        rw [HU.out.1, HU.out.2.1, hk'] at this
        refine this.mono ?_
        rintro e w' ⟨he, q', rfl⟩
        exact ⟨he, _, World.drewN_drewN _ _ _⟩
      have K18 : Hid (∀ q, Calls Try.prog 18 #[.slice A n cp, .slice A' m cp'] (w12.drewN q) fun e w' => e = .returned (.int .i64 k) ∧ ∃ q, w' = w12.drewN q) := fun q => by
        have := c2Cmp_any _ _ A A' n m cp cp' xs ys hx hy hwx hwy (by omega) (by omega) hcp hcp' (w12.drewN q) HS12.out.1 HS12.out.2.1
        rw [hk.out] at this
        refine this.mono ?_
        rintro e w' ⟨he, q', rfl⟩
        exact ⟨he, _, World.drewN_drewN _ _ _⟩
      have J18 : Hid (∀ q, Calls Try.prog 18 #[.slice A' m cp', .slice A n cp] (w12.drewN q) fun e w' => e = .returned (.int .i64 k') ∧ ∃ q, w' = w12.drewN q) := fun q => by
        have := c2Cmp_any _ _ A' A m n cp' cp ys xs hy hx hwy hwx (by omega) (by omega) hcp' hcp (w12.drewN q) HS12.out.2.1 HS12.out.1
        rw [hk'] at this
        refine this.mono ?_
        rintro e w' ⟨he, q', rfl⟩
        exact ⟨he, _, World.drewN_drewN _ _ _⟩
      have HB : Hid (∀ q, Below w.heap.size w (w12.drewN q)) := fun q => gb_below (gb_trans HS12.out.2.2 (gb_drewN _ _ _))
      obtain ⟨tx, htx⟩ : ∃ tx, tl xs = tx := ⟨_, rfl⟩
      obtain ⟨ty, hty⟩ : ∃ ty, tl ys = ty := ⟨_, rfl⟩
      rw [htx] at T30 T13 K31 J31
      rw [hty] at T30 T13 K31 J31
      clear htx hty HU HS12 HS13 hlx hly hk hk' hcp hcp' hn2
      go_wp2_with fail
      refine (T30.out.1 _ rfl).mono ?_
      rintro e w' ⟨rfl, hw⟩
      subst w'
      go_wp2_with fail
      refine (T30.out.2 _ rfl).mono ?_
      rintro e w' ⟨rfl, hw⟩
      subst w'
      go_wp2_with fail
      refine (T13.out.1 _ rfl).mono ?_
      rintro e w' ⟨rfl, hw⟩
      subst w'
      go_wp2_with fail
      refine (T13.out.2 _ rfl).mono ?_
      rintro e w' ⟨rfl, hw⟩
      subst w'
      go_wp2_with fail
      refine (K31.out _).mono ?_
      rintro e w' ⟨rfl, q14, hw⟩
      subst w'
      go_wp2_with fail
      refine (K18.out _).mono ?_
      rintro e w' ⟨rfl, q15, hw⟩
      subst w'
      go_wp2_with fail
      refine (J31.out _).mono ?_
      rintro e w' ⟨rfl, q16, hw⟩
      subst w'
      go_wp2_with fail
      refine (J18.out _).mono ?_
      rintro e w' ⟨rfl, q17, hw⟩
      subst w'
      go_wp2
      go_ret
      exact ⟨rfl, HB.out _⟩
end Go.Proofs.Qxb6003404a
