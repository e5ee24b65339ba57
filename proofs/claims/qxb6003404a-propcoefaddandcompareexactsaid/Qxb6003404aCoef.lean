/-
  COEFFICIENTS IN MEMORY: THE WALK of ZZNewCoef (14).
-/
import Derived.Test.Qxb6003404aC2Add
import Derived.Laws.CopyOwn
import Derived.Deep.WholeRow
namespace Go.Proofs.Qxb6003404a
open Go.RowKit

theorem Try.size28 : (Try.prog.info? 28).map (·.size) = some 1 := by kernel_rfl

theorem Try.size41 : (Try.prog.info? 41).map (·.size) = some 15 := by kernel_rfl

theorem words_padded (xs : List Nat) (f : Nat → Nat) (hf : ∀ i, f i = xs.getD i 0) (k : Nat) (hn : xs.length ≤ k) :
    xs.map (fun x : Nat => Value.int .u64 (x : Int)) ++ List.replicate (k - xs.length) (Value.int .u64 0) = (List.range k).map (fun i => Value.int .u64 (f i : Int)) := by
  apply List.ext_getElem?
  intro i
  by_cases h : i < xs.length
  · rw [List.getElem?_append_left (by simpa using h)]
    simp [h, hf, show i < k by omega]
  · rw [List.getElem?_append_right (by simpa using h)]
    by_cases h2 : i < k
    · simp [h2, hf, h, show i - xs.length < k - xs.length by omega]
    · simp [h2, show ¬ i - xs.length < k - xs.length by omega]

theorem coef_copied (A B C : Value) (xs : List Nat) (f : Nat → Nat) (hf : ∀ i, f i = xs.getD i 0) (hn : xs.length ≤ 12) :
    [A, B] ++ xs.map (fun x : Nat => Value.int .u64 (x : Int)) ++ ([A, B] ++ (List.replicate 12 (Value.int .u64 0) ++ [C])).drop (2 + xs.length) = [A, B] ++ ((List.range 12).map (fun i => Value.int .u64 (f i : Int)) ++ [C]) := by
  have e : ([A, B] ++ (List.replicate 12 (Value.int .u64 0) ++ [C])).drop (2 + xs.length) = List.replicate (12 - xs.length) (Value.int .u64 0) ++ [C] := by
    rw [← List.drop_drop]
    rw [show ([A, B] ++ (List.replicate 12 (Value.int .u64 0) ++ [C])).drop 2 = List.replicate 12 (Value.int .u64 0) ++ [C] from rfl]
    rw [List.drop_append_of_le_length (by simpa using hn), List.drop_replicate]
  rw [e, ← words_padded xs f hf 12 hn, List.append_assoc, List.append_assoc]

/-- 'copy(c.words[:], w)' into a coef that has just been laid. -/
theorem coef_copy_run {w : World} {n cap z : Nat} {neg : Bool} {a : Option Addr} {xs : List Nat} (f : Nat → Nat) (hf : ∀ i, f i = xs.getD i 0) (hl : xs.length = n) (hn : n ≤ 12) (hs : Src w z a xs) (ty : TypeId) :
    (Builtin.copy_ #[29, 29] ty #[.slice (some ⟨w.heap.size, 2, none⟩) 12 12, .slice a n cap]).run Try.prog
      (w.alloc (.cells #[.bool neg, .int .i64 0, .int .u64 0, .int .u64 0, .int .u64 0, .int .u64 0, .int .u64 0, .int .u64 0, .int .u64 0, .int .u64 0, .int .u64 0, .int .u64 0, .int .u64 0, .int .u64 0, .pointer none] 41)) =
    .ok (.int .i64 (n : Int)) (w.alloc (.cells #[.bool neg, .int .i64 0, .int .u64 (f 0 : Int), .int .u64 (f 1 : Int), .int .u64 (f 2 : Int), .int .u64 (f 3 : Int), .int .u64 (f 4 : Int), .int .u64 (f 5 : Int), .int .u64 (f 6 : Int), .int .u64 (f 7 : Int), .int .u64 (f 8 : Int), .int .u64 (f 9 : Int), .int .u64 (f 10 : Int), .int .u64 (f 11 : Int), .pointer none] 41)) := by
  rcases hs with rfl | ⟨b, off, rfl, hb, hne, hr⟩
  · have : n = 0 := by simpa using hl.symm
    subst this
    have hf0 : ∀ i, f i = 0 := fun i => by rw [hf]; simp
    rw [run_copy_none _ 29 29 ty 28 _ _ _ _ _ _ Try.underlying29 Try.size28 (by simp [Nat.min])]
    simp only [hf0]
    rfl
  · obtain ⟨cs, hcs⟩ : ∃ cs, cs = xs.map (fun x : Nat => Value.int .u64 (x : Int)) := ⟨_, rfl⟩
    have hcl : cs.length = n := by rw [hcs]; simp [hl]
    rw [run_copy_row (P := Try.prog) _ 29 29 ty 28 w.heap.size 2 12 12 ⟨b, off, none⟩ n cap _ 41 cs Try.underlying29 Try.size28 (heap_alloc_new w _) (by rw [hcl]; exact (Nat.min_eq_left hn).symm)
      (by
        intro j v hj
        have hj1 : j < xs.length := by have := (List.getElem?_eq_some_iff.1 hj).1; omega
        have h1 := hr j hj1
        have e : xs.getD j 0 = xs[j] := by simp [List.getD, hj1]
        rw [hcs] at hj
        simp [hj1] at hj
        rw [show (⟨b, off, none⟩ : Addr).add j = ⟨b, off + j, none⟩ by unfold Addr.add; split <;> simp_all, ← hj, World.cell?_alloc_lt _ _ _ hb, h1, e]) (by rw [hcl]; simp; omega) (by rw [hcs]; intro v hv; simp at hv; obtain ⟨x, _, rfl⟩ := hv; rfl)]
    rw [World.setRow_alloc_new, hcl]
    have e := coef_copied (.bool neg) (.int .i64 0) (.pointer none) xs f hf (by omega)
    rw [← hcs, hl] at e
    exact congrArg (fun l : List Value => Result.ok (Value.int .i64 (n : Int)) (w.alloc (.cells l.toArray 41))) e

set_option maxRecDepth 20000 in
theorem newCoef_any (neg : Bool) (a : Option Addr) (n cap : Nat) (xs : List Nat) (f : Nat → Nat) (hf : Hid (∀ i, f i = xs.getD i 0)) (hx : Hid (xs.length = n)) (hn : n ≤ 12) (w : World) (hu : Hid (Src w w.heap.size a xs)) :
    Calls Try.prog 14 #[.bool neg, .slice a n cap] w fun e w' =>
      e = .returned (.agg #[.bool neg, .int .i64 (n : Int), .int .u64 (f 0 : Int), .int .u64 (f 1 : Int), .int .u64 (f 2 : Int), .int .u64 (f 3 : Int), .int .u64 (f 4 : Int), .int .u64 (f 5 : Int), .int .u64 (f 6 : Int), .int .u64 (f 7 : Int), .int .u64 (f 8 : Int), .int .u64 (f 9 : Int), .int .u64 (f 10 : Int), .int .u64 (f 11 : Int), .pointer none]) ∧ w.grownBy w' none := by
  have hrun := fun (o : Obj) ty => coef_copy_run (w := w.alloc o) (cap := cap) (neg := neg) f hf.out hx.out hn (((hu.out.other (Nat.le_succ _)).grown (World.grownBy_alloc w o none)) : Src (w.alloc o) (w.heap.size + 1) a xs) ty
  simp only [show ∀ o, (w.alloc o).heap.size = w.heap.size + 1 from fun o => by simp] at hrun
  go_enter Try.func14, Try.ntmps14
  go_wp2_with (simp only [hrun])
  (try simp only [Exit.inBlock, Exit.then])
  refine bodyPost_ret (results_cell_row Try.results14 _ _ w.heap.size 41 _ (0, 0) _ rfl ((heap_alloc_old _ _ (by simp)).trans (heap_alloc_new _ _)) Try.underlying41 rfl (by exact Try.size41)) rfl ⟨rfl, gb_trans (World.grownBy_alloc _ _ _) (World.grownBy_alloc _ _ _)⟩
end Go.Proofs.Qxb6003404a
