/-
  FnWithDefaultsSettlesAtOnce (4): the walk.
-/
import Derived.Test.Qxb6618601aZz
import Derived.Deep.LoopGhost
namespace Go.Proofs.Qxb6618601a
open Go.RowKit

/-- The documented default of field k. -/
def defOf : Nat → Int
  | 0 => 10000000000
  | 1 => 3600000000000
  | 2 => 10
  | 3 => 600000000000
  | 4 => 3600000000000
  | 5 => 1000000000
  | _ => 10
theorem defOf_ne (k : Nat) : defOf k ≠ 0 := by
  match k with
  | 0 => decide
  | 1 => decide
  | 2 => decide
  | 3 => decide
  | 4 => decide
  | 5 => decide
  | n + 6 => show (10 : Int) ≠ 0; decide

theorem dv_ne (x : Int) (k : Nat) : dv x (defOf k) ≠ 0 := by
  unfold dv
  by_cases h : x = 0
  · rw [if_pos h]; exact defOf_ne k
  · rw [if_neg h]; exact h
theorem dv_dv (x : Int) (k : Nat) : dv (dv x (defOf k)) (defOf k) = dv x (defOf k) := dv_set _ (dv_ne x k)

/-- Block g of the world holds the seven numbers V 0 .. V 6. -/
def Row7 (w : World) (g : Nat) (V : Nat → Int) : Prop := w.heap[g]? = some (.cells #[.int .i64 (V 0), .int .i64 (V 1), .int .i64 (V 2), .int .i64 (V 3), .int .i64 (V 4), .int .i64 (V 5), .int .i64 (V 6)] 22 (0, 0))

theorem Row7.cell {w : World} {g : Nat} {V : Nat → Int} (h : Row7 w g V) (k : Nat) (hk : k < 7) : w.cell? ⟨g, k, none⟩ = some (.int .i64 (V k)) := by
  rw [cell_of_row w g k _ 22 (0, 0) h]
  match k, hk with
  | 0, _ => rfl
  | 1, _ => rfl
  | 2, _ => rfl
  | 3, _ => rfl
  | 4, _ => rfl
  | 5, _ => rfl
  | 6, _ => rfl
theorem Row7.below {w w' : World} {B g : Nat} {V : Nat → Int} (h : Row7 w g V) (hb : Below B w w') (hg : g < B) : Row7 w' g V := (hb.block g hg).trans h
theorem Row7.lt {w : World} {g : Nat} {V : Nat → Int} (h : Row7 w g V) : g < w.heap.size := (Array.getElem?_eq_some_iff.1 h).1
theorem Row7.alloc {w : World} {g : Nat} {V : Nat → Int} (h : Row7 w g V) (o : Obj) : Row7 (w.alloc o) g V := (Below.heap_alloc w o g h.lt).trans h

/-- zzWD on a row of numbers. -/
theorem zzwd_row (V : Nat → Int) (w : World) :
    Calls Try.prog 5 #[.agg #[.int .i64 (V 0), .int .i64 (V 1), .int .i64 (V 2), .int .i64 (V 3), .int .i64 (V 4), .int .i64 (V 5), .int .i64 (V 6)]] w fun e w' =>
      e = .returned (.agg #[.int .i64 (dv (V 0) (defOf 0)), .int .i64 (dv (V 1) (defOf 1)), .int .i64 (dv (V 2) (defOf 2)), .int .i64 (dv (V 3) (defOf 3)), .int .i64 (dv (V 4) (defOf 4)), .int .i64 (dv (V 5) (defOf 5)), .int .i64 (dv (V 6) (defOf 6))]) ∧ Below w.heap.size w w' :=
  zzwd _ _ _ _ _ _ _ _ _ _ _ _ _ _ w ⟨rfl, rfl, rfl, rfl, rfl, rfl, rfl⟩

set_option maxHeartbeats 800000 in
theorem settles (x0 x1 x2 x3 x4 x5 x6 : Int) (w : World) : Calls Try.prog 4 #[.int .i64 x0, .int .i64 x1, .int .i64 x2, .int .i64 x3, .int .i64 x4, .int .i64 x5, .int .i64 x6] w fun e w' => e = .returned (.bool true) ∧ Below w.heap.size w w' := by
  obtain ⟨y0, e0⟩ : ∃ y, y = dv x0 (defOf 0) := ⟨_, rfl⟩
  obtain ⟨y1, e1⟩ : ∃ y, y = dv x1 (defOf 1) := ⟨_, rfl⟩
  obtain ⟨y2, e2⟩ : ∃ y, y = dv x2 (defOf 2) := ⟨_, rfl⟩
  obtain ⟨y3, e3⟩ : ∃ y, y = dv x3 (defOf 3) := ⟨_, rfl⟩
  obtain ⟨y4, e4⟩ : ∃ y, y = dv x4 (defOf 4) := ⟨_, rfl⟩
  obtain ⟨y5, e5⟩ : ∃ y, y = dv x5 (defOf 5) := ⟨_, rfl⟩
  obtain ⟨y6, e6⟩ : ∃ y, y = dv x6 (defOf 6) := ⟨_, rfl⟩
  have HY : Hid (y0 = dv x0 10000000000 ∧ y1 = dv x1 3600000000000 ∧ y2 = dv x2 10 ∧ y3 = dv x3 600000000000 ∧ y4 = dv x4 3600000000000 ∧ y5 = dv x5 1000000000 ∧ y6 = dv x6 10) := ⟨e0, e1, e2, e3, e4, e5, e6⟩
  have HY2 : Hid (y0 = dv y0 10000000000 ∧ y1 = dv y1 3600000000000 ∧ y2 = dv y2 10 ∧ y3 = dv y3 600000000000 ∧ y4 = dv y4 3600000000000 ∧ y5 = dv y5 1000000000 ∧ y6 = dv y6 10) := by
    refine ⟨?_, ?_, ?_, ?_, ?_, ?_, ?_⟩
    · rw [e0]; exact (dv_dv x0 0).symm
    · rw [e1]; exact (dv_dv x1 1).symm
    · rw [e2]; exact (dv_dv x2 2).symm
    · rw [e3]; exact (dv_dv x3 3).symm
    · rw [e4]; exact (dv_dv x4 4).symm
    · rw [e5]; exact (dv_dv x5 5).symm
    · rw [e6]; exact (dv_dv x6 6).symm
  have HE : Hid (∀ k, k < 7 → [y0, y1, y2, y3, y4, y5, y6].getD k 0 = dv ([x0, x1, x2, x3, x4, x5, x6].getD k 0) (defOf k)) := by
    intro k hk
    match k, hk with
    | 0, _ => exact e0
    | 1, _ => exact e1
    | 2, _ => exact e2
    | 3, _ => exact e3
    | 4, _ => exact e4
    | 5, _ => exact e5
    | 6, _ => exact e6
  clear e0 e1 e2 e3 e4 e5 e6
  go_enter Try.func4, Try.ntmps4
  go_wp2_with fail
  refine (zzwd x0 x1 x2 x3 x4 x5 x6 y0 y1 y2 y3 y4 y5 y6 _ HY).mono ?_
  rintro e w1 ⟨rfl, bel1⟩
  have HB1 : Hid (Below w.heap.size w w1) := ((Below.refl _ w).alloc (Nat.le_refl _) _).trans (bel1.mono (by simp))
  have R1 : Hid (Row7 w1 w.heap.size (fun k => [x0, x1, x2, x3, x4, x5, x6].getD k 0)) := (bel1.block _ (by simp)).trans (heap_alloc_new w _)
  clear bel1
  go_wp2_with fail
  refine (zzwd y0 y1 y2 y3 y4 y5 y6 y0 y1 y2 y3 y4 y5 y6 _ HY2).mono ?_
  rintro e w2 ⟨rfl, bel2⟩
  have HB2 : Hid (Below w.heap.size w w2) := (HB1.out.alloc HB1.out.size _).trans (bel2.mono (by have := HB1.out.size; simp; omega))
  have R2 : Hid (Row7 w2 w.heap.size (fun k => [x0, x1, x2, x3, x4, x5, x6].getD k 0)) := (R1.out.alloc _).below bel2 (by have := R1.out.lt; simp; omega)
  have S2 : Hid (Row7 w2 w1.heap.size (fun k => [y0, y1, y2, y3, y4, y5, y6].getD k 0)) := (bel2.block _ (by simp)).trans (heap_alloc_new w1 _)
  clear bel2 R1 HB1
  go_wp2_with fail
  have R3 : Hid (Row7 (w2.alloc (.cells #[.int .i64 y0, .int .i64 y1, .int .i64 y2, .int .i64 y3, .int .i64 y4, .int .i64 y5, .int .i64 y6] 22)) w.heap.size (fun k => [x0, x1, x2, x3, x4, x5, x6].getD k 0)) := R2.out.alloc _
  have S3 : Hid (Row7 (w2.alloc (.cells #[.int .i64 y0, .int .i64 y1, .int .i64 y2, .int .i64 y3, .int .i64 y4, .int .i64 y5, .int .i64 y6] 22)) w1.heap.size (fun k => [y0, y1, y2, y3, y4, y5, y6].getD k 0)) := S2.out.alloc _
  have T3 : Hid (Row7 (w2.alloc (.cells #[.int .i64 y0, .int .i64 y1, .int .i64 y2, .int .i64 y3, .int .i64 y4, .int .i64 y5, .int .i64 y6] 22)) w2.heap.size (fun k => [y0, y1, y2, y3, y4, y5, y6].getD k 0)) := heap_alloc_new w2 _
  have HB3 : Hid (Below w.heap.size w (w2.alloc (.cells #[.int .i64 y0, .int .i64 y1, .int .i64 y2, .int .i64 y3, .int .i64 y4, .int .i64 y5, .int .i64 y6] 22))) := HB2.out.alloc HB2.out.size _
  clear R2 S2 HB2
  generalize (w2.alloc (.cells #[.int .i64 y0, .int .i64 y1, .int .i64 y2, .int .i64 y3, .int .i64 y4, .int .i64 y5, .int .i64 y6] 22)) = W at R3 S3 T3 HB3 ⊢
  go_loopg [18] 7 (fun m j wr => ∃ k n : Nat, k ≤ 7 ∧ 7 ≤ m + k ∧ j = .int .i64 k ∧ wr = W.drewN n)
  case atStart => exact ⟨0, 0, by omega, by omega, rfl, rfl⟩
  case round =>
    obtain ⟨k, n, hk, hm, rfl, rfl⟩ := hrel
    by_cases hlt : k < 7
    · have cX := R3.out.cell k hlt
      have cY := S3.out.cell k hlt
      have cZ := T3.out.cell k hlt
      have hE := HE.out k hlt
      generalize [x0, x1, x2, x3, x4, x5, x6].getD k 0 = a at cX hE
      generalize [y0, y1, y2, y3, y4, y5, y6].getD k 0 = b at cY cZ hE
      have hb : (b == 0) = false := beq_eq_false_iff_ne.2 (by rw [hE]; exact dv_ne a k)
      have hki : (k : Int) < 7 := by omega
      by_cases ha : a = 0
      · subst ha
        clear hE
        go_wp2_with fail
        go_quiet (fail)
        go_wp2_with fail
        go_quiet (fail)
        go_wp2
        go_roundg (gk - 1)
        case measure => omega
        case rel => exact ⟨k + 1, _, by omega, by omega, by go_num, rfl⟩
      · have hba : b = a := by rw [hE]; exact dv_set _ ha
        subst hba
        have hne : (b != 0) = true := bne_iff_ne.2 ha
        clear hE ha
        go_wp2_with fail
        go_quiet (fail)
        go_wp2_with fail
        go_quiet (fail)
        go_wp2
        go_roundg (gk - 1)
        case measure => omega
        case rel => exact ⟨k + 1, _, by omega, by omega, by go_num, rfl⟩
    · go_wp2_with fail
      go_ret
      exact ⟨rfl, below_drewN HB3.out _⟩
end Go.Proofs.Qxb6618601a
