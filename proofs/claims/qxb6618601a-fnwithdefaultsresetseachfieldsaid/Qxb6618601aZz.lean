/-
  ZZwithDefaults (7), zzWD (5), zzDefaultOf (6): their contracts.
-/
import Derived.Test.Qxb6618601aWd
import Derived.Deep.WholeRow
namespace Go.Proofs.Qxb6618601a
open Go.RowKit

/-- withDefaults's values under names of their own. -/
theorem wd8y (x0 x1 x2 x3 x4 x5 x6 y0 y1 y2 y3 y4 y5 y6 : Int) (w : World) (h : Hid (y0 = dv x0 10000000000 ∧ y1 = dv x1 3600000000000 ∧ y2 = dv x2 10 ∧ y3 = dv x3 600000000000 ∧ y4 = dv x4 3600000000000 ∧ y5 = dv x5 1000000000 ∧ y6 = dv x6 10)) :
    Calls Try.prog 8 #[.agg #[.int .i64 x0, .int .i64 x1, .int .i64 x2, .int .i64 x3, .int .i64 x4, .nilFunc, .int .i64 x5, .int .i64 x6]] w fun e w' =>
      e = .returned (.agg #[.int .i64 y0, .int .i64 y1, .int .i64 y2, .int .i64 y3, .int .i64 y4, .nilFunc, .int .i64 y5, .int .i64 y6]) ∧ Below w.heap.size w w' := by
  obtain ⟨rfl, rfl, rfl, rfl, rfl, rfl, rfl⟩ := h.out
  exact wd8 x0 x1 x2 x3 x4 x5 x6 w

theorem results_tmp7 {fn : Func} {t0 t1 t2 t3 t4 t5 t6 : Tmp} (h : fn.results = #[.tmp t0, .tmp t1, .tmp t2, .tmp t3, .tmp t4, .tmp t5, .tmp t6]) (tmps : Array Value) (P : Program) (w : World) :
    (results fn tmps).run P w = .ok (.tuple #[tmps.getD t0 undef, tmps.getD t1 undef, tmps.getD t2 undef, tmps.getD t3 undef, tmps.getD t4 undef, tmps.getD t5 undef, tmps.getD t6 undef]) w := by
  simp [results, h]

set_option maxHeartbeats 800000 in
theorem zwd7 (x0 x1 x2 x3 x4 x5 x6 y0 y1 y2 y3 y4 y5 y6 : Int) (w : World) (h : Hid (y0 = dv x0 10000000000 ∧ y1 = dv x1 3600000000000 ∧ y2 = dv x2 10 ∧ y3 = dv x3 600000000000 ∧ y4 = dv x4 3600000000000 ∧ y5 = dv x5 1000000000 ∧ y6 = dv x6 10)) :
    Calls Try.prog 7 #[.int .i64 x0, .int .i64 x1, .int .i64 x2, .int .i64 x3, .int .i64 x4, .int .i64 x5, .int .i64 x6] w fun e w' => e = .returned (.tuple #[.int .i64 y0, .int .i64 y1, .int .i64 y2, .int .i64 y3, .int .i64 y4, .int .i64 y5, .int .i64 y6]) ∧ Below w.heap.size w w' := by
  go_enter Try.func7, Try.ntmps7
  go_wp2_with fail
  refine (wd8y x0 x1 x2 x3 x4 x5 x6 y0 y1 y2 y3 y4 y5 y6 _ h).mono ?_
  rintro e w1 ⟨rfl, bel⟩
  have HB : Hid (Below w.heap.size w w1) := bel
  clear bel
  go_wp2_with (refine wpList_store_row rfl 31 (.tmp 21) (.tmp 30) rfl w1.heap.size _ rfl rfl 31 _ (heap_alloc_new w1 _) Try.size31 rfl (one8 _ _ _ _ _ _ _) ?_)
  rw [World.setRow_alloc_new]
  simp only [Act.put]
  go_quiet (fail)
  go_wp2
  exact bodyPost_ret (results_tmp7 rfl _ _ _) rfl ⟨rfl, below_drewN (HB.out.alloc HB.out.size _) _⟩

theorem Try.size22 : (Try.prog.info? 22).map (·.size) = some 7 := by kernel_rfl
theorem one7 (a b c d e f g : Int) : (#[.int .i64 a, .int .i64 b, .int .i64 c, .int .i64 d, .int .i64 e, .int .i64 f, .int .i64 g] : Array Value).all (·.oneCell') = true := by
  simp [Value.oneCell']

set_option maxHeartbeats 800000 in
theorem zzwd (x0 x1 x2 x3 x4 x5 x6 y0 y1 y2 y3 y4 y5 y6 : Int) (w : World) (h : Hid (y0 = dv x0 10000000000 ∧ y1 = dv x1 3600000000000 ∧ y2 = dv x2 10 ∧ y3 = dv x3 600000000000 ∧ y4 = dv x4 3600000000000 ∧ y5 = dv x5 1000000000 ∧ y6 = dv x6 10)) :
    Calls Try.prog 5 #[.agg #[.int .i64 x0, .int .i64 x1, .int .i64 x2, .int .i64 x3, .int .i64 x4, .int .i64 x5, .int .i64 x6]] w fun e w' => e = .returned (.agg #[.int .i64 y0, .int .i64 y1, .int .i64 y2, .int .i64 y3, .int .i64 y4, .int .i64 y5, .int .i64 y6]) ∧ Below w.heap.size w w' := by
  go_enter Try.func5, Try.ntmps5
  go_wp2_with fail
  refine (zwd7 x0 x1 x2 x3 x4 x5 x6 y0 y1 y2 y3 y4 y5 y6 _ h).mono ?_
  rintro e w1 ⟨rfl, bel⟩
  have b0 : Below w.heap.size w ((w.alloc (.cells #[.int .i64 x0, .int .i64 x1, .int .i64 x2, .int .i64 x3, .int .i64 x4, .int .i64 x5, .int .i64 x6] 22)).alloc (.cells #[.int .i64 0, .int .i64 0, .int .i64 0, .int .i64 0, .int .i64 0, .int .i64 0, .int .i64 0] 22)) := ((Below.refl _ w).alloc (Nat.le_refl _) _).alloc (by simp) _
  have HB : Hid (Below w.heap.size w w1) := b0.trans (bel.mono b0.size)
  have HR : Hid (w1.heap[w.heap.size + 1]? = some (.cells #[.int .i64 0, .int .i64 0, .int .i64 0, .int .i64 0, .int .i64 0, .int .i64 0, .int .i64 0] 22 (0, 0))) := by
    have e1 := bel.block (w.heap.size + 1) (by simp)
    have e2 := heap_alloc_new (w.alloc (.cells #[.int .i64 x0, .int .i64 x1, .int .i64 x2, .int .i64 x3, .int .i64 x4, .int .i64 x5, .int .i64 x6] 22)) (.cells #[.int .i64 0, .int .i64 0, .int .i64 0, .int .i64 0, .int .i64 0, .int .i64 0, .int .i64 0] 22)
    rw [World.size_alloc] at e2
    exact e1.trans e2
  clear bel b0
  go_wp2_with (refine wpList_store_row rfl 22 (.tmp 2) (.tmp 40) rfl (w.heap.size + 1) _ rfl rfl 22 _ HR.out Try.size22 rfl (one7 _ _ _ _ _ _ _) ?_)
  exact bodyPost_ret (results_cell_row (p := 2) (ty := 22) rfl _ _ (w.heap.size + 1) 22 _ (0, 0) _ rfl (setRow_heap _ _ _ _ 22 _ HR.out) Try.underlying22 rfl Try.size22) rfl ⟨rfl, below_setRow HB.out (Nat.le_succ _) _⟩
end Go.Proofs.Qxb6618601a
