/-
  withDefaults's closure (9), withDefaults (8), ZZwithDefaults (7), zzWD (5): their contracts.
-/
import Derived.Test.Qxb6618601aRows
import Derived.WalkKit
import Derived.WalkLawsBesides
import Derived.Deep.QuietTactic
import Derived.BigQuiet
import Derived.WalkSmall
import Derived.Laws.CopyOwn
namespace Go.Proofs.Qxb6618601a
open Go.RowKit

/-- A field left zero gets its default. -/
def dv (x d : Int) : Int := if x = 0 then d else x
theorem dv_zero (d : Int) : dv 0 d = d := rfl
theorem dv_set {x : Int} (d : Int) (h : x ≠ 0) : dv x d = x := if_neg h

/-- The options in block B of the world wr, the result's variable in block B + 1, as it was laid; below B the world is as w was. -/
structure Two (B : Nat) (w wr : World) (cs : Array Value) : Prop where
  row : wr.heap[B]? = some (.cells cs 31 (0, 0))
  res : wr.heap[B + 1]? = some (.cells #[.int .i64 0, .int .i64 0, .int .i64 0, .int .i64 0, .int .i64 0, .nilFunc, .int .i64 0, .int .i64 0] 31 (0, 0))
  bel : Below B w wr

theorem Two.cell {B : Nat} {w wr : World} {cs : Array Value} (h : Two B w wr cs) {i : Nat} {v : Value} (hv : cs[i]? = some v) : wr.cell? ⟨B, i, none⟩ = some v := by
  rw [cell_of_row wr B i cs 31 (0, 0) h.row]; exact hv
theorem Two.free {B : Nat} {w wr : World} {cs : Array Value} (h : Two B w wr cs) (i : Nat) : wr.frozen? ⟨B, i, none⟩ = false := by
  simp [World.frozen?, h.row]
theorem Two.put {B : Nat} {w wr : World} {cs : Array Value} (h : Two B w wr cs) (i : Nat) (v : Value) : Two B w (wr.setCell ⟨B, i, none⟩ v) (cs.setIfInBounds i v) :=
  ⟨heap_setCell_same wr B i cs 31 v h.row, (Below.heap_setCell _ _ _ _ (by simp)).trans h.res, h.bel.setCell (Nat.le_refl _) _⟩
theorem set_self (cs : Array Value) (i : Nat) (v : Value) (h : cs[i]? = some v) : cs.setIfInBounds i v = cs := by
  apply Array.ext_getElem?
  intro j
  rw [Array.getElem?_setIfInBounds]
  by_cases e : i = j
  · subst e
    obtain ⟨h1, h2⟩ := Array.getElem?_eq_some_iff.1 h
    simp [h1, h2]
  · simp [e]

theorem set_any (B i : Nat) (x d : Int) (w wr : World) (cs : Array Value) (h : Two B w wr cs) (hx : cs[i]? = some (.int .i64 x)) :
    Calls Try.prog 9 #[.pointer (some ⟨B, i, none⟩), .int .i64 d] wr fun e w' => e = .returned (.tuple #[]) ∧ Two B w w' (cs.setIfInBounds i (.int .i64 (dv x d))) := by
  have hc := h.cell hx
  have hf := h.free i
  by_cases e0 : x = 0
  · subst e0
    have HT : Hid (Two B w wr cs) := h
    clear h hx
    go_enter Try.func9, Try.ntmps9
    go_wp2
    go_end0
    exact ⟨rfl, HT.out.put i _⟩
  · have e1 : (x == 0) = false := beq_eq_false_iff_ne.2 e0
    have HT : Hid (Two B w wr cs) := h
    have HX : Hid (cs[i]? = some (.int .i64 x)) := hx
    clear h hx
    go_enter Try.func9, Try.ntmps9
    go_wp2
    go_end0
    refine ⟨rfl, ?_⟩
    rw [dv_set d e0, set_self cs i _ HX.out]
    exact HT.out

theorem two_new (w : World) (x0 x1 x2 x3 x4 x5 x6 : Int) : Two w.heap.size w ((w.alloc (.cells #[.int .i64 x0, .int .i64 x1, .int .i64 x2, .int .i64 x3, .int .i64 x4, .nilFunc, .int .i64 x5, .int .i64 x6] 31)).alloc (.cells #[.int .i64 0, .int .i64 0, .int .i64 0, .int .i64 0, .int .i64 0, .nilFunc, .int .i64 0, .int .i64 0] 31)) #[.int .i64 x0, .int .i64 x1, .int .i64 x2, .int .i64 x3, .int .i64 x4, .nilFunc, .int .i64 x5, .int .i64 x6] := by
  refine ⟨?_, ?_, ((Below.refl _ _).alloc (Nat.le_refl _) _).alloc (by simp) _⟩
  · rw [Below.heap_alloc _ _ _ (by simp)]; exact heap_alloc_new _ _
  · have := heap_alloc_new (w.alloc (.cells #[.int .i64 x0, .int .i64 x1, .int .i64 x2, .int .i64 x3, .int .i64 x4, .nilFunc, .int .i64 x5, .int .i64 x6] 31)) (.cells #[.int .i64 0, .int .i64 0, .int .i64 0, .int .i64 0, .int .i64 0, .nilFunc, .int .i64 0, .int .i64 0] 31)
    rw [World.size_alloc] at this
    exact this

theorem one8 (a b c d e f g : Int) : (#[.int .i64 a, .int .i64 b, .int .i64 c, .int .i64 d, .int .i64 e, .nilFunc, .int .i64 f, .int .i64 g] : Array Value).all (·.oneCell') = true := by
  simp [Value.oneCell']

theorem Try.size31 : (Try.prog.info? 31).map (·.size) = some 8 := by kernel_rfl

set_option maxHeartbeats 800000 in
theorem wd8 (x0 x1 x2 x3 x4 x5 x6 : Int) (w : World) :
    Calls Try.prog 8 #[.agg #[.int .i64 x0, .int .i64 x1, .int .i64 x2, .int .i64 x3, .int .i64 x4, .nilFunc, .int .i64 x5, .int .i64 x6]] w fun e w' =>
      e = .returned (.agg #[.int .i64 (dv x0 10000000000), .int .i64 (dv x1 3600000000000), .int .i64 (dv x2 10), .int .i64 (dv x3 600000000000), .int .i64 (dv x4 3600000000000), .nilFunc, .int .i64 (dv x5 1000000000), .int .i64 (dv x6 10)]) ∧ Below w.heap.size w w' := by
  have H0 : Hid (Two w.heap.size w _ #[.int .i64 x0, .int .i64 x1, .int .i64 x2, .int .i64 x3, .int .i64 x4, .nilFunc, .int .i64 x5, .int .i64 x6]) := two_new w x0 x1 x2 x3 x4 x5 x6
  go_enter Try.func8, Try.ntmps8
  go_wp2_with fail
  refine (set_any w.heap.size 0 x0 10000000000 w _ _ H0.out rfl).mono ?_
  rintro e w1 ⟨rfl, u1⟩
  have H1 : Hid (Two w.heap.size w w1 #[.int .i64 (dv x0 10000000000), .int .i64 x1, .int .i64 x2, .int .i64 x3, .int .i64 x4, .nilFunc, .int .i64 x5, .int .i64 x6]) := u1
  clear u1 H0
  go_wp2_with fail
  refine (set_any w.heap.size 1 x1 3600000000000 w _ _ H1.out rfl).mono ?_
  rintro e w2 ⟨rfl, u2⟩
  have H2 : Hid (Two w.heap.size w w2 #[.int .i64 (dv x0 10000000000), .int .i64 (dv x1 3600000000000), .int .i64 x2, .int .i64 x3, .int .i64 x4, .nilFunc, .int .i64 x5, .int .i64 x6]) := u2
  clear u2 H1
  go_wp2_with fail
  refine (set_any w.heap.size 3 x3 600000000000 w _ _ H2.out rfl).mono ?_
  rintro e w3 ⟨rfl, u3⟩
  have H3 : Hid (Two w.heap.size w w3 #[.int .i64 (dv x0 10000000000), .int .i64 (dv x1 3600000000000), .int .i64 x2, .int .i64 (dv x3 600000000000), .int .i64 x4, .nilFunc, .int .i64 x5, .int .i64 x6]) := u3
  clear u3 H2
  go_wp2_with fail
  refine (set_any w.heap.size 4 x4 3600000000000 w _ _ H3.out rfl).mono ?_
  rintro e w4 ⟨rfl, u4⟩
  have H4 : Hid (Two w.heap.size w w4 #[.int .i64 (dv x0 10000000000), .int .i64 (dv x1 3600000000000), .int .i64 x2, .int .i64 (dv x3 600000000000), .int .i64 (dv x4 3600000000000), .nilFunc, .int .i64 x5, .int .i64 x6]) := u4
  clear u4 H3
  go_wp2_with fail
  refine (set_any w.heap.size 6 x5 1000000000 w _ _ H4.out rfl).mono ?_
  rintro e w5 ⟨rfl, u5⟩
  have H5 : Hid (Two w.heap.size w w5 #[.int .i64 (dv x0 10000000000), .int .i64 (dv x1 3600000000000), .int .i64 x2, .int .i64 (dv x3 600000000000), .int .i64 (dv x4 3600000000000), .nilFunc, .int .i64 (dv x5 1000000000), .int .i64 x6]) := u5
  clear u5 H4
  have c2 : w5.cell? ⟨w.heap.size, 2, none⟩ = some (.int .i64 x2) := H5.out.cell rfl
  have c7 : w5.cell? ⟨w.heap.size, 7, none⟩ = some (.int .i64 x6) := H5.out.cell rfl
  have f2 := H5.out.free 2
  have f7 := H5.out.free 7
  by_cases e2 : x2 = 0
  · subst e2
    by_cases e6 : x6 = 0
    · subst e6
      have HF : Hid (Two w.heap.size w ((w5.setCell ⟨w.heap.size, 2, none⟩ (.int .i64 10)).setCell ⟨w.heap.size, 7, none⟩ (.int .i64 10)) #[.int .i64 (dv x0 10000000000), .int .i64 (dv x1 3600000000000), .int .i64 10, .int .i64 (dv x3 600000000000), .int .i64 (dv x4 3600000000000), .nilFunc, .int .i64 (dv x5 1000000000), .int .i64 10]) := ((H5.out.put 2 (.int .i64 10)).put 7 (.int .i64 10))
      clear H5
      go_wp2_with (first | (refine wpList_load_row rfl 31 (.tmp 1) rfl w.heap.size rfl 31 _ (0, 0) _ HF.out.row Try.underlying31 rfl Try.size31 ?_) | (refine wpList_store_row rfl 31 (.tmp 2) (.tmp 27) rfl (w.heap.size + 1) _ rfl rfl 31 _ HF.out.res Try.size31 rfl (one8 _ _ _ _ _ _ _) ?_))
      exact bodyPost_ret (results_cell_row (p := 2) (ty := 31) rfl _ _ (w.heap.size + 1) 31 _ (0, 0) _ rfl (setRow_heap _ _ _ _ 31 _ HF.out.res) Try.underlying31 rfl Try.size31) rfl ⟨rfl, below_setRow HF.out.bel (Nat.le_succ _) _⟩
    · have HF : Hid (Two w.heap.size w (w5.setCell ⟨w.heap.size, 2, none⟩ (.int .i64 10)) #[.int .i64 (dv x0 10000000000), .int .i64 (dv x1 3600000000000), .int .i64 10, .int .i64 (dv x3 600000000000), .int .i64 (dv x4 3600000000000), .nilFunc, .int .i64 (dv x5 1000000000), .int .i64 x6]) := (H5.out.put 2 (.int .i64 10))
      clear H5
      have t6 : (x6 == 0) = false := beq_eq_false_iff_ne.2 e6
      go_wp2_with (first | (refine wpList_load_row rfl 31 (.tmp 1) rfl w.heap.size rfl 31 _ (0, 0) _ HF.out.row Try.underlying31 rfl Try.size31 ?_) | (refine wpList_store_row rfl 31 (.tmp 2) (.tmp 27) rfl (w.heap.size + 1) _ rfl rfl 31 _ HF.out.res Try.size31 rfl (one8 _ _ _ _ _ _ _) ?_))
      rw [dv_set 10 e6]
      exact bodyPost_ret (results_cell_row (p := 2) (ty := 31) rfl _ _ (w.heap.size + 1) 31 _ (0, 0) _ rfl (setRow_heap _ _ _ _ 31 _ HF.out.res) Try.underlying31 rfl Try.size31) rfl ⟨rfl, below_setRow HF.out.bel (Nat.le_succ _) _⟩
  · by_cases e6 : x6 = 0
    · subst e6
      have HF : Hid (Two w.heap.size w (w5.setCell ⟨w.heap.size, 7, none⟩ (.int .i64 10)) #[.int .i64 (dv x0 10000000000), .int .i64 (dv x1 3600000000000), .int .i64 x2, .int .i64 (dv x3 600000000000), .int .i64 (dv x4 3600000000000), .nilFunc, .int .i64 (dv x5 1000000000), .int .i64 10]) := (H5.out.put 7 (.int .i64 10))
      clear H5
      have t2 : (x2 == 0) = false := beq_eq_false_iff_ne.2 e2
      go_wp2_with (first | (refine wpList_load_row rfl 31 (.tmp 1) rfl w.heap.size rfl 31 _ (0, 0) _ HF.out.row Try.underlying31 rfl Try.size31 ?_) | (refine wpList_store_row rfl 31 (.tmp 2) (.tmp 27) rfl (w.heap.size + 1) _ rfl rfl 31 _ HF.out.res Try.size31 rfl (one8 _ _ _ _ _ _ _) ?_))
      rw [dv_set 10 e2]
      exact bodyPost_ret (results_cell_row (p := 2) (ty := 31) rfl _ _ (w.heap.size + 1) 31 _ (0, 0) _ rfl (setRow_heap _ _ _ _ 31 _ HF.out.res) Try.underlying31 rfl Try.size31) rfl ⟨rfl, below_setRow HF.out.bel (Nat.le_succ _) _⟩
    · have HF : Hid (Two w.heap.size w w5 #[.int .i64 (dv x0 10000000000), .int .i64 (dv x1 3600000000000), .int .i64 x2, .int .i64 (dv x3 600000000000), .int .i64 (dv x4 3600000000000), .nilFunc, .int .i64 (dv x5 1000000000), .int .i64 x6]) := H5.out
      clear H5
      have t2 : (x2 == 0) = false := beq_eq_false_iff_ne.2 e2
      have t6 : (x6 == 0) = false := beq_eq_false_iff_ne.2 e6
      go_wp2_with (first | (refine wpList_load_row rfl 31 (.tmp 1) rfl w.heap.size rfl 31 _ (0, 0) _ HF.out.row Try.underlying31 rfl Try.size31 ?_) | (refine wpList_store_row rfl 31 (.tmp 2) (.tmp 27) rfl (w.heap.size + 1) _ rfl rfl 31 _ HF.out.res Try.size31 rfl (one8 _ _ _ _ _ _ _) ?_))
      rw [dv_set 10 e2, dv_set 10 e6]
      exact bodyPost_ret (results_cell_row (p := 2) (ty := 31) rfl _ _ (w.heap.size + 1) 31 _ (0, 0) _ rfl (setRow_heap _ _ _ _ 31 _ HF.out.res) Try.underlying31 rfl Try.size31) rfl ⟨rfl, below_setRow HF.out.bel (Nat.le_succ _) _⟩
end Go.Proofs.Qxb6618601a
