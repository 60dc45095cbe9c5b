/-
  zzDefaultOf (6), FnWithDefaultsResetsEachField (3): the walks.
-/
import Derived.Test.Qxb6618601aSettle
namespace Go.Proofs.Qxb6618601a
open Go.RowKit

theorem def_0 (w : World) : Calls Try.prog 6 #[.int .i64 0] w fun e w' => e = .returned (.int .i64 10000000000) ∧ w' = w := by
  go_enter Try.func6, Try.ntmps6
  go_wp2
  go_ret
  exact ⟨rfl, rfl⟩
theorem def_1 (w : World) : Calls Try.prog 6 #[.int .i64 1] w fun e w' => e = .returned (.int .i64 3600000000000) ∧ w' = w := by
  go_enter Try.func6, Try.ntmps6
  go_wp2
  go_ret
  exact ⟨rfl, rfl⟩
theorem def_2 (w : World) : Calls Try.prog 6 #[.int .i64 2] w fun e w' => e = .returned (.int .i64 10) ∧ w' = w := by
  go_enter Try.func6, Try.ntmps6
  go_wp2
  go_ret
  exact ⟨rfl, rfl⟩
theorem def_3 (w : World) : Calls Try.prog 6 #[.int .i64 3] w fun e w' => e = .returned (.int .i64 600000000000) ∧ w' = w := by
  go_enter Try.func6, Try.ntmps6
  go_wp2
  go_ret
  exact ⟨rfl, rfl⟩
theorem def_4 (w : World) : Calls Try.prog 6 #[.int .i64 4] w fun e w' => e = .returned (.int .i64 3600000000000) ∧ w' = w := by
  go_enter Try.func6, Try.ntmps6
  go_wp2
  go_ret
  exact ⟨rfl, rfl⟩
theorem def_5 (w : World) : Calls Try.prog 6 #[.int .i64 5] w fun e w' => e = .returned (.int .i64 1000000000) ∧ w' = w := by
  go_enter Try.func6, Try.ntmps6
  go_wp2
  go_ret
  exact ⟨rfl, rfl⟩
theorem def_6 (w : World) : Calls Try.prog 6 #[.int .i64 6] w fun e w' => e = .returned (.int .i64 10) ∧ w' = w := by
  go_enter Try.func6, Try.ntmps6
  go_wp2
  go_ret
  exact ⟨rfl, rfl⟩

set_option maxHeartbeats 8000000 in
theorem resets (x0 x1 x2 x3 x4 x5 x6 : Int) (w : World) : Calls Try.prog 3 #[.int .i64 x0, .int .i64 x1, .int .i64 x2, .int .i64 x3, .int .i64 x4, .int .i64 x5, .int .i64 x6] w fun e w' => e = .returned (.bool true) ∧ Below w.heap.size w w' := by
  obtain ⟨y0, e0⟩ : ∃ y, y = dv x0 (defOf 0) := ⟨_, rfl⟩
  obtain ⟨y1, e1⟩ : ∃ y, y = dv x1 (defOf 1) := ⟨_, rfl⟩
  obtain ⟨y2, e2⟩ : ∃ y, y = dv x2 (defOf 2) := ⟨_, rfl⟩
  obtain ⟨y3, e3⟩ : ∃ y, y = dv x3 (defOf 3) := ⟨_, rfl⟩
  obtain ⟨y4, e4⟩ : ∃ y, y = dv x4 (defOf 4) := ⟨_, rfl⟩
  obtain ⟨y5, e5⟩ : ∃ y, y = dv x5 (defOf 5) := ⟨_, rfl⟩
  obtain ⟨y6, e6⟩ : ∃ y, y = dv x6 (defOf 6) := ⟨_, rfl⟩
  have HY : Hid (y0 = dv x0 10000000000 ∧ y1 = dv x1 3600000000000 ∧ y2 = dv x2 10 ∧ y3 = dv x3 600000000000 ∧ y4 = dv x4 3600000000000 ∧ y5 = dv x5 1000000000 ∧ y6 = dv x6 10) := ⟨e0, e1, e2, e3, e4, e5, e6⟩
  have HE : Hid (∀ k, k < 7 → [y0, y1, y2, y3, y4, y5, y6].getD k 0 = dv ([x0, x1, x2, x3, x4, x5, x6].getD k 0) (defOf k)) := by
    intro k hk
    match k, hk with
    | 0, _ => exact e0
    | 1, _ => exact e1
    | 2, _ => exact e2
    | 3, _ => exact e3
    | 4, _ => exact e4
    | 5, _ => exact e5
    | 6, _ => exact e6
  clear e0 e1 e2 e3 e4 e5 e6
  go_enter Try.func3, Try.ntmps3
  go_wp2_with fail
  refine (zzwd x0 x1 x2 x3 x4 x5 x6 y0 y1 y2 y3 y4 y5 y6 _ HY).mono ?_
  rintro e w1 ⟨rfl, bel1⟩
  have HB1 : Hid (Below w.heap.size w w1) := ((Below.refl _ w).alloc (Nat.le_refl _) _).trans (bel1.mono (by simp))
  have R1 : Hid (Row7 w1 w.heap.size (fun k => [x0, x1, x2, x3, x4, x5, x6].getD k 0)) := (bel1.block _ (by simp)).trans (heap_alloc_new w _)
  clear bel1
  go_wp2_with fail
  have R2 : Hid (Row7 (w1.alloc (.cells #[.int .i64 y0, .int .i64 y1, .int .i64 y2, .int .i64 y3, .int .i64 y4, .int .i64 y5, .int .i64 y6] 22)) w.heap.size (fun k => [x0, x1, x2, x3, x4, x5, x6].getD k 0)) := R1.out.alloc _
  have S2 : Hid (Row7 (w1.alloc (.cells #[.int .i64 y0, .int .i64 y1, .int .i64 y2, .int .i64 y3, .int .i64 y4, .int .i64 y5, .int .i64 y6] 22)) w1.heap.size (fun k => [y0, y1, y2, y3, y4, y5, y6].getD k 0)) := heap_alloc_new w1 _
  have HB2 : Hid (Below w.heap.size w (w1.alloc (.cells #[.int .i64 y0, .int .i64 y1, .int .i64 y2, .int .i64 y3, .int .i64 y4, .int .i64 y5, .int .i64 y6] 22))) := HB1.out.alloc HB1.out.size _
  clear R1 HB1
  generalize (w1.alloc (.cells #[.int .i64 y0, .int .i64 y1, .int .i64 y2, .int .i64 y3, .int .i64 y4, .int .i64 y5, .int .i64 y6] 22)) = W at R2 S2 HB2 ⊢
  go_loopg [17] 7 (fun m j wr => ∃ k n : Nat, k ≤ 7 ∧ 7 ≤ m + k ∧ j = .int .i64 k ∧ wr = W.drewN n)
  case atStart => exact ⟨0, 0, by omega, by omega, rfl, rfl⟩
  case round =>
    obtain ⟨k, n, hk, hm, rfl, rfl⟩ := hrel
    by_cases hlt : k < 7
    · have cX := R2.out.cell k hlt
      have cY := S2.out.cell k hlt
      have hE := HE.out k hlt
      generalize [x0, x1, x2, x3, x4, x5, x6].getD k 0 = a at cX hE
      generalize [y0, y1, y2, y3, y4, y5, y6].getD k 0 = b at cY hE
      have hki : (k : Int) < 7 := by omega
      by_cases ha : a = 0
      · subst ha
        clear hE
        go_wp2_with fail
        go_quiet (fail)
        go_wp2
        go_roundg (gk - 1)
        case measure => omega
        case rel => exact ⟨k + 1, _, by omega, by omega, by go_num, rfl⟩
      · have hba : b = a := by rw [hE]; exact dv_set _ ha
        subst hba
        have hne : (b != 0) = true := bne_iff_ne.2 ha
        clear hE ha
        go_wp2_with fail
        go_quiet (fail)
        go_wp2
        go_roundg (gk - 1)
        case measure => omega
        case rel => exact ⟨k + 1, _, by omega, by omega, by go_num, rfl⟩
    · have R3 : Hid (Row7 (W.drewN n) w.heap.size (fun k => [x0, x1, x2, x3, x4, x5, x6].getD k 0)) := R2.out
      have S3 : Hid (Row7 (W.drewN n) w1.heap.size (fun k => [y0, y1, y2, y3, y4, y5, y6].getD k 0)) := S2.out
      have HB3 : Hid (Below w.heap.size w (W.drewN n)) := below_drewN HB2.out _
      clear R2 S2 HB2
      go_wp2_with fail
      generalize W.drewN n = W2 at R3 S3 HB3 ⊢
      go_loopg [18] 7 (fun m kk wr => ∃ c : Nat, c ≤ 7 ∧ 7 ≤ m + c ∧ kk = .int .i64 c ∧ Hid (Row7 wr w.heap.size (fun k => [x0, x1, x2, x3, x4, x5, x6].getD k 0)) ∧ Hid (Row7 wr w1.heap.size (fun k => [y0, y1, y2, y3, y4, y5, y6].getD k 0)) ∧ Hid (Below w.heap.size w wr))
      case atStart => exact ⟨0, by omega, by omega, rfl, R3, S3, HB3⟩
      case round =>
        clear R3 S3 HB3
        obtain ⟨c, hc, hm2, rfl, R, S, HB⟩ := hrel
        obtain ⟨GK, hGK⟩ : ∃ GK, GK = gk := ⟨_, rfl⟩
        have HGK : Hid (GK = gk ∧ 7 ≤ gk + c) := ⟨hGK, hm2⟩
        clear hGK hm2 hm
        by_cases hlt2 : c < 7
        · rcases (show c = 0 ∨ c = 1 ∨ c = 2 ∨ c = 3 ∨ c = 4 ∨ c = 5 ∨ c = 6 by omega) with rfl | rfl | rfl | rfl | rfl | rfl | rfl
          · have HK : Hid (10000000000 = dv 0 10000000000 ∧ y1 = dv x1 3600000000000 ∧ y2 = dv x2 10 ∧ y3 = dv x3 600000000000 ∧ y4 = dv x4 3600000000000 ∧ y5 = dv x5 1000000000 ∧ y6 = dv x6 10) := ⟨(dv_zero _).symm, HY.out.2.1, HY.out.2.2.1, HY.out.2.2.2.1, HY.out.2.2.2.2.1, HY.out.2.2.2.2.2.1, HY.out.2.2.2.2.2.2⟩
            go_wp2_with (refine wpList_load_row rfl 22 (.tmp 15) rfl w.heap.size rfl 22 _ (0, 0) _ R.out Try.underlying22 rfl Try.size22 ?_)
            refine (zzwd 0 x1 x2 x3 x4 x5 x6 10000000000 y1 y2 y3 y4 y5 y6 _ HK).mono ?_
            rintro e w3 ⟨rfl, bel3⟩
            have Z3 : wr.heap.size < w3.heap.size := by have := bel3.size; simp at this; omega
            have R3 : Hid (Row7 (w3.alloc (.cells #[.int .i64 10000000000, .int .i64 y1, .int .i64 y2, .int .i64 y3, .int .i64 y4, .int .i64 y5, .int .i64 y6] 22)) w.heap.size (fun k => [x0, x1, x2, x3, x4, x5, x6].getD k 0)) := ((R.out.alloc _).below bel3 (by have := R.out.lt; simp; omega)).alloc _
            have S3 : Hid (Row7 (w3.alloc (.cells #[.int .i64 10000000000, .int .i64 y1, .int .i64 y2, .int .i64 y3, .int .i64 y4, .int .i64 y5, .int .i64 y6] 22)) w1.heap.size (fun k => [y0, y1, y2, y3, y4, y5, y6].getD k 0)) := ((S.out.alloc _).below bel3 (by have := S.out.lt; simp; omega)).alloc _
            have T3 : Hid (Row7 (w3.alloc (.cells #[.int .i64 10000000000, .int .i64 y1, .int .i64 y2, .int .i64 y3, .int .i64 y4, .int .i64 y5, .int .i64 y6] 22)) w3.heap.size (fun k => [10000000000, y1, y2, y3, y4, y5, y6].getD k 0)) := heap_alloc_new w3 _
            have HB3 : Hid (Below w.heap.size w (w3.alloc (.cells #[.int .i64 10000000000, .int .i64 y1, .int .i64 y2, .int .i64 y3, .int .i64 y4, .int .i64 y5, .int .i64 y6] 22))) := by
              have b1 := HB.out.alloc HB.out.size (.cells #[.int .i64 0, .int .i64 x1, .int .i64 x2, .int .i64 x3, .int .i64 x4, .int .i64 x5, .int .i64 x6] 22)
              have b2 := b1.trans (bel3.mono b1.size)
              exact b2.alloc b2.size _
            clear bel3 R S HB
            go_wp2_with fail
            generalize (w3.alloc (.cells #[.int .i64 10000000000, .int .i64 y1, .int .i64 y2, .int .i64 y3, .int .i64 y4, .int .i64 y5, .int .i64 y6] 22)) = W3 at R3 S3 T3 HB3 ⊢
            have cK : W3.cell? ⟨w3.heap.size, 0, none⟩ = some (.int .i64 10000000000) := T3.out.cell 0 (by omega)
            go_quiet ((go_at_call 6; exact Calls.quiet_of_same (def_0 _)))
            go_wp2_with fail
            go_loopg [21] 7 (fun m j wr => ∃ jj n : Nat, jj ≤ 7 ∧ 7 ≤ m + jj ∧ j = .int .i64 jj ∧ wr = W3.drewN n)
            case atStart => exact ⟨0, _, by omega, by omega, rfl, rfl⟩
            case round =>
              obtain ⟨jj, nn, hj, hmj, rfl, rfl⟩ := hrel
              by_cases hltj : jj < 7
              · have hji : (jj : Int) < 7 := by omega
                by_cases hjk : jj = 0
                · subst hjk
                  go_wp2_with fail
                  go_quiet (fail)
                  go_wp2
                  go_roundg (gk - 1)
                  case measure => omega
                  case rel => exact ⟨0 + 1, _, by omega, by omega, by go_num, rfl⟩
                · have cS := S3.out.cell jj hltj
                  have cT := T3.out.cell jj hltj
                  have hE : [10000000000, y1, y2, y3, y4, y5, y6].getD jj 0 = [y0, y1, y2, y3, y4, y5, y6].getD jj 0 := by
                    rcases (show jj = 1 ∨ jj = 2 ∨ jj = 3 ∨ jj = 4 ∨ jj = 5 ∨ jj = 6 by omega) with rfl | rfl | rfl | rfl | rfl | rfl <;> rfl
                  rw [hE] at cT
                  generalize [y0, y1, y2, y3, y4, y5, y6].getD jj 0 = b at cS cT
                  have hne : ((jj : Int) != 0) = true := bne_iff_ne.2 (by omega)
                  clear hE
                  go_wp2_with fail
                  go_quiet (fail)
                  go_wp2
                  go_roundg (gk - 1)
                  case measure => omega
                  case rel => exact ⟨jj + 1, _, by omega, by omega, by go_num, rfl⟩
              · have R4 : Hid (Row7 (W3.drewN nn) w.heap.size (fun k => [x0, x1, x2, x3, x4, x5, x6].getD k 0)) := R3.out
                have S4 : Hid (Row7 (W3.drewN nn) w1.heap.size (fun k => [y0, y1, y2, y3, y4, y5, y6].getD k 0)) := S3.out
                have HB4 : Hid (Below w.heap.size w (W3.drewN nn)) := below_drewN HB3.out _
                clear R3 S3 T3 HB3 cK
                go_wp2
                go_roundg (GK - 1)
                case measure => have := HGK.out; omega
                case rel => exact ⟨0 + 1, by omega, by have := HGK.out; omega, by go_num, R4, S4, HB4⟩
          · have HK : Hid (y0 = dv x0 10000000000 ∧ 3600000000000 = dv 0 3600000000000 ∧ y2 = dv x2 10 ∧ y3 = dv x3 600000000000 ∧ y4 = dv x4 3600000000000 ∧ y5 = dv x5 1000000000 ∧ y6 = dv x6 10) := ⟨HY.out.1, (dv_zero _).symm, HY.out.2.2.1, HY.out.2.2.2.1, HY.out.2.2.2.2.1, HY.out.2.2.2.2.2.1, HY.out.2.2.2.2.2.2⟩
            go_wp2_with (refine wpList_load_row rfl 22 (.tmp 15) rfl w.heap.size rfl 22 _ (0, 0) _ R.out Try.underlying22 rfl Try.size22 ?_)
            refine (zzwd x0 0 x2 x3 x4 x5 x6 y0 3600000000000 y2 y3 y4 y5 y6 _ HK).mono ?_
            rintro e w3 ⟨rfl, bel3⟩
            have Z3 : wr.heap.size < w3.heap.size := by have := bel3.size; simp at this; omega
            have R3 : Hid (Row7 (w3.alloc (.cells #[.int .i64 y0, .int .i64 3600000000000, .int .i64 y2, .int .i64 y3, .int .i64 y4, .int .i64 y5, .int .i64 y6] 22)) w.heap.size (fun k => [x0, x1, x2, x3, x4, x5, x6].getD k 0)) := ((R.out.alloc _).below bel3 (by have := R.out.lt; simp; omega)).alloc _
            have S3 : Hid (Row7 (w3.alloc (.cells #[.int .i64 y0, .int .i64 3600000000000, .int .i64 y2, .int .i64 y3, .int .i64 y4, .int .i64 y5, .int .i64 y6] 22)) w1.heap.size (fun k => [y0, y1, y2, y3, y4, y5, y6].getD k 0)) := ((S.out.alloc _).below bel3 (by have := S.out.lt; simp; omega)).alloc _
            have T3 : Hid (Row7 (w3.alloc (.cells #[.int .i64 y0, .int .i64 3600000000000, .int .i64 y2, .int .i64 y3, .int .i64 y4, .int .i64 y5, .int .i64 y6] 22)) w3.heap.size (fun k => [y0, 3600000000000, y2, y3, y4, y5, y6].getD k 0)) := heap_alloc_new w3 _
            have HB3 : Hid (Below w.heap.size w (w3.alloc (.cells #[.int .i64 y0, .int .i64 3600000000000, .int .i64 y2, .int .i64 y3, .int .i64 y4, .int .i64 y5, .int .i64 y6] 22))) := by
              have b1 := HB.out.alloc HB.out.size (.cells #[.int .i64 x0, .int .i64 0, .int .i64 x2, .int .i64 x3, .int .i64 x4, .int .i64 x5, .int .i64 x6] 22)
              have b2 := b1.trans (bel3.mono b1.size)
              exact b2.alloc b2.size _
            clear bel3 R S HB
            go_wp2_with fail
            generalize (w3.alloc (.cells #[.int .i64 y0, .int .i64 3600000000000, .int .i64 y2, .int .i64 y3, .int .i64 y4, .int .i64 y5, .int .i64 y6] 22)) = W3 at R3 S3 T3 HB3 ⊢
            have cK : W3.cell? ⟨w3.heap.size, 1, none⟩ = some (.int .i64 3600000000000) := T3.out.cell 1 (by omega)
            go_quiet ((go_at_call 6; exact Calls.quiet_of_same (def_1 _)))
            go_wp2_with fail
            go_loopg [21] 7 (fun m j wr => ∃ jj n : Nat, jj ≤ 7 ∧ 7 ≤ m + jj ∧ j = .int .i64 jj ∧ wr = W3.drewN n)
            case atStart => exact ⟨0, _, by omega, by omega, rfl, rfl⟩
            case round =>
              obtain ⟨jj, nn, hj, hmj, rfl, rfl⟩ := hrel
              by_cases hltj : jj < 7
              · have hji : (jj : Int) < 7 := by omega
                by_cases hjk : jj = 1
                · subst hjk
                  go_wp2_with fail
                  go_quiet (fail)
                  go_wp2
                  go_roundg (gk - 1)
                  case measure => omega
                  case rel => exact ⟨1 + 1, _, by omega, by omega, by go_num, rfl⟩
                · have cS := S3.out.cell jj hltj
                  have cT := T3.out.cell jj hltj
                  have hE : [y0, 3600000000000, y2, y3, y4, y5, y6].getD jj 0 = [y0, y1, y2, y3, y4, y5, y6].getD jj 0 := by
                    rcases (show jj = 0 ∨ jj = 2 ∨ jj = 3 ∨ jj = 4 ∨ jj = 5 ∨ jj = 6 by omega) with rfl | rfl | rfl | rfl | rfl | rfl <;> rfl
                  rw [hE] at cT
                  generalize [y0, y1, y2, y3, y4, y5, y6].getD jj 0 = b at cS cT
                  have hne : ((jj : Int) != 1) = true := bne_iff_ne.2 (by omega)
                  clear hE
                  go_wp2_with fail
                  go_quiet (fail)
                  go_wp2
                  go_roundg (gk - 1)
                  case measure => omega
                  case rel => exact ⟨jj + 1, _, by omega, by omega, by go_num, rfl⟩
              · have R4 : Hid (Row7 (W3.drewN nn) w.heap.size (fun k => [x0, x1, x2, x3, x4, x5, x6].getD k 0)) := R3.out
                have S4 : Hid (Row7 (W3.drewN nn) w1.heap.size (fun k => [y0, y1, y2, y3, y4, y5, y6].getD k 0)) := S3.out
                have HB4 : Hid (Below w.heap.size w (W3.drewN nn)) := below_drewN HB3.out _
                clear R3 S3 T3 HB3 cK
                go_wp2
                go_roundg (GK - 1)
                case measure => have := HGK.out; omega
                case rel => exact ⟨1 + 1, by omega, by have := HGK.out; omega, by go_num, R4, S4, HB4⟩
          · have HK : Hid (y0 = dv x0 10000000000 ∧ y1 = dv x1 3600000000000 ∧ 10 = dv 0 10 ∧ y3 = dv x3 600000000000 ∧ y4 = dv x4 3600000000000 ∧ y5 = dv x5 1000000000 ∧ y6 = dv x6 10) := ⟨HY.out.1, HY.out.2.1, (dv_zero _).symm, HY.out.2.2.2.1, HY.out.2.2.2.2.1, HY.out.2.2.2.2.2.1, HY.out.2.2.2.2.2.2⟩
            go_wp2_with (refine wpList_load_row rfl 22 (.tmp 15) rfl w.heap.size rfl 22 _ (0, 0) _ R.out Try.underlying22 rfl Try.size22 ?_)
            refine (zzwd x0 x1 0 x3 x4 x5 x6 y0 y1 10 y3 y4 y5 y6 _ HK).mono ?_
            rintro e w3 ⟨rfl, bel3⟩
            have Z3 : wr.heap.size < w3.heap.size := by have := bel3.size; simp at this; omega
            have R3 : Hid (Row7 (w3.alloc (.cells #[.int .i64 y0, .int .i64 y1, .int .i64 10, .int .i64 y3, .int .i64 y4, .int .i64 y5, .int .i64 y6] 22)) w.heap.size (fun k => [x0, x1, x2, x3, x4, x5, x6].getD k 0)) := ((R.out.alloc _).below bel3 (by have := R.out.lt; simp; omega)).alloc _
            have S3 : Hid (Row7 (w3.alloc (.cells #[.int .i64 y0, .int .i64 y1, .int .i64 10, .int .i64 y3, .int .i64 y4, .int .i64 y5, .int .i64 y6] 22)) w1.heap.size (fun k => [y0, y1, y2, y3, y4, y5, y6].getD k 0)) := ((S.out.alloc _).below bel3 (by have := S.out.lt; simp; omega)).alloc _
            have T3 : Hid (Row7 (w3.alloc (.cells #[.int .i64 y0, .int .i64 y1, .int .i64 10, .int .i64 y3, .int .i64 y4, .int .i64 y5, .int .i64 y6] 22)) w3.heap.size (fun k => [y0, y1, 10, y3, y4, y5, y6].getD k 0)) := heap_alloc_new w3 _
            have HB3 : Hid (Below w.heap.size w (w3.alloc (.cells #[.int .i64 y0, .int .i64 y1, .int .i64 10, .int .i64 y3, .int .i64 y4, .int .i64 y5, .int .i64 y6] 22))) := by
              have b1 := HB.out.alloc HB.out.size (.cells #[.int .i64 x0, .int .i64 x1, .int .i64 0, .int .i64 x3, .int .i64 x4, .int .i64 x5, .int .i64 x6] 22)
              have b2 := b1.trans (bel3.mono b1.size)
              exact b2.alloc b2.size _
            clear bel3 R S HB
            go_wp2_with fail
            generalize (w3.alloc (.cells #[.int .i64 y0, .int .i64 y1, .int .i64 10, .int .i64 y3, .int .i64 y4, .int .i64 y5, .int .i64 y6] 22)) = W3 at R3 S3 T3 HB3 ⊢
            have cK : W3.cell? ⟨w3.heap.size, 2, none⟩ = some (.int .i64 10) := T3.out.cell 2 (by omega)
            go_quiet ((go_at_call 6; exact Calls.quiet_of_same (def_2 _)))
            go_wp2_with fail
            go_loopg [21] 7 (fun m j wr => ∃ jj n : Nat, jj ≤ 7 ∧ 7 ≤ m + jj ∧ j = .int .i64 jj ∧ wr = W3.drewN n)
            case atStart => exact ⟨0, _, by omega, by omega, rfl, rfl⟩
            case round =>
              obtain ⟨jj, nn, hj, hmj, rfl, rfl⟩ := hrel
              by_cases hltj : jj < 7
              · have hji : (jj : Int) < 7 := by omega
                by_cases hjk : jj = 2
                · subst hjk
                  go_wp2_with fail
                  go_quiet (fail)
                  go_wp2
                  go_roundg (gk - 1)
                  case measure => omega
                  case rel => exact ⟨2 + 1, _, by omega, by omega, by go_num, rfl⟩
                · have cS := S3.out.cell jj hltj
                  have cT := T3.out.cell jj hltj
                  have hE : [y0, y1, 10, y3, y4, y5, y6].getD jj 0 = [y0, y1, y2, y3, y4, y5, y6].getD jj 0 := by
                    rcases (show jj = 0 ∨ jj = 1 ∨ jj = 3 ∨ jj = 4 ∨ jj = 5 ∨ jj = 6 by omega) with rfl | rfl | rfl | rfl | rfl | rfl <;> rfl
                  rw [hE] at cT
                  generalize [y0, y1, y2, y3, y4, y5, y6].getD jj 0 = b at cS cT
                  have hne : ((jj : Int) != 2) = true := bne_iff_ne.2 (by omega)
                  clear hE
                  go_wp2_with fail
                  go_quiet (fail)
                  go_wp2
                  go_roundg (gk - 1)
                  case measure => omega
                  case rel => exact ⟨jj + 1, _, by omega, by omega, by go_num, rfl⟩
              · have R4 : Hid (Row7 (W3.drewN nn) w.heap.size (fun k => [x0, x1, x2, x3, x4, x5, x6].getD k 0)) := R3.out
                have S4 : Hid (Row7 (W3.drewN nn) w1.heap.size (fun k => [y0, y1, y2, y3, y4, y5, y6].getD k 0)) := S3.out
                have HB4 : Hid (Below w.heap.size w (W3.drewN nn)) := below_drewN HB3.out _
                clear R3 S3 T3 HB3 cK
                go_wp2
                go_roundg (GK - 1)
                case measure => have := HGK.out; omega
                case rel => exact ⟨2 + 1, by omega, by have := HGK.out; omega, by go_num, R4, S4, HB4⟩
          · have HK : Hid (y0 = dv x0 10000000000 ∧ y1 = dv x1 3600000000000 ∧ y2 = dv x2 10 ∧ 600000000000 = dv 0 600000000000 ∧ y4 = dv x4 3600000000000 ∧ y5 = dv x5 1000000000 ∧ y6 = dv x6 10) := ⟨HY.out.1, HY.out.2.1, HY.out.2.2.1, (dv_zero _).symm, HY.out.2.2.2.2.1, HY.out.2.2.2.2.2.1, HY.out.2.2.2.2.2.2⟩
            go_wp2_with (refine wpList_load_row rfl 22 (.tmp 15) rfl w.heap.size rfl 22 _ (0, 0) _ R.out Try.underlying22 rfl Try.size22 ?_)
            refine (zzwd x0 x1 x2 0 x4 x5 x6 y0 y1 y2 600000000000 y4 y5 y6 _ HK).mono ?_
            rintro e w3 ⟨rfl, bel3⟩
            have Z3 : wr.heap.size < w3.heap.size := by have := bel3.size; simp at this; omega
            have R3 : Hid (Row7 (w3.alloc (.cells #[.int .i64 y0, .int .i64 y1, .int .i64 y2, .int .i64 600000000000, .int .i64 y4, .int .i64 y5, .int .i64 y6] 22)) w.heap.size (fun k => [x0, x1, x2, x3, x4, x5, x6].getD k 0)) := ((R.out.alloc _).below bel3 (by have := R.out.lt; simp; omega)).alloc _
            have S3 : Hid (Row7 (w3.alloc (.cells #[.int .i64 y0, .int .i64 y1, .int .i64 y2, .int .i64 600000000000, .int .i64 y4, .int .i64 y5, .int .i64 y6] 22)) w1.heap.size (fun k => [y0, y1, y2, y3, y4, y5, y6].getD k 0)) := ((S.out.alloc _).below bel3 (by have := S.out.lt; simp; omega)).alloc _
            have T3 : Hid (Row7 (w3.alloc (.cells #[.int .i64 y0, .int .i64 y1, .int .i64 y2, .int .i64 600000000000, .int .i64 y4, .int .i64 y5, .int .i64 y6] 22)) w3.heap.size (fun k => [y0, y1, y2, 600000000000, y4, y5, y6].getD k 0)) := heap_alloc_new w3 _
            have HB3 : Hid (Below w.heap.size w (w3.alloc (.cells #[.int .i64 y0, .int .i64 y1, .int .i64 y2, .int .i64 600000000000, .int .i64 y4, .int .i64 y5, .int .i64 y6] 22))) := by
              have b1 := HB.out.alloc HB.out.size (.cells #[.int .i64 x0, .int .i64 x1, .int .i64 x2, .int .i64 0, .int .i64 x4, .int .i64 x5, .int .i64 x6] 22)
              have b2 := b1.trans (bel3.mono b1.size)
              exact b2.alloc b2.size _
            clear bel3 R S HB
            go_wp2_with fail
            generalize (w3.alloc (.cells #[.int .i64 y0, .int .i64 y1, .int .i64 y2, .int .i64 600000000000, .int .i64 y4, .int .i64 y5, .int .i64 y6] 22)) = W3 at R3 S3 T3 HB3 ⊢
            have cK : W3.cell? ⟨w3.heap.size, 3, none⟩ = some (.int .i64 600000000000) := T3.out.cell 3 (by omega)
            go_quiet ((go_at_call 6; exact Calls.quiet_of_same (def_3 _)))
            go_wp2_with fail
            go_loopg [21] 7 (fun m j wr => ∃ jj n : Nat, jj ≤ 7 ∧ 7 ≤ m + jj ∧ j = .int .i64 jj ∧ wr = W3.drewN n)
            case atStart => exact ⟨0, _, by omega, by omega, rfl, rfl⟩
            case round =>
              obtain ⟨jj, nn, hj, hmj, rfl, rfl⟩ := hrel
              by_cases hltj : jj < 7
              · have hji : (jj : Int) < 7 := by omega
                by_cases hjk : jj = 3
                · subst hjk
                  go_wp2_with fail
                  go_quiet (fail)
                  go_wp2
                  go_roundg (gk - 1)
                  case measure => omega
                  case rel => exact ⟨3 + 1, _, by omega, by omega, by go_num, rfl⟩
                · have cS := S3.out.cell jj hltj
                  have cT := T3.out.cell jj hltj
                  have hE : [y0, y1, y2, 600000000000, y4, y5, y6].getD jj 0 = [y0, y1, y2, y3, y4, y5, y6].getD jj 0 := by
                    rcases (show jj = 0 ∨ jj = 1 ∨ jj = 2 ∨ jj = 4 ∨ jj = 5 ∨ jj = 6 by omega) with rfl | rfl | rfl | rfl | rfl | rfl <;> rfl
                  rw [hE] at cT
                  generalize [y0, y1, y2, y3, y4, y5, y6].getD jj 0 = b at cS cT
                  have hne : ((jj : Int) != 3) = true := bne_iff_ne.2 (by omega)
                  clear hE
                  go_wp2_with fail
                  go_quiet (fail)
                  go_wp2
                  go_roundg (gk - 1)
                  case measure => omega
                  case rel => exact ⟨jj + 1, _, by omega, by omega, by go_num, rfl⟩
              · have R4 : Hid (Row7 (W3.drewN nn) w.heap.size (fun k => [x0, x1, x2, x3, x4, x5, x6].getD k 0)) := R3.out
                have S4 : Hid (Row7 (W3.drewN nn) w1.heap.size (fun k => [y0, y1, y2, y3, y4, y5, y6].getD k 0)) := S3.out
                have HB4 : Hid (Below w.heap.size w (W3.drewN nn)) := below_drewN HB3.out _
                clear R3 S3 T3 HB3 cK
                go_wp2
                go_roundg (GK - 1)
                case measure => have := HGK.out; omega
                case rel => exact ⟨3 + 1, by omega, by have := HGK.out; omega, by go_num, R4, S4, HB4⟩
          · have HK : Hid (y0 = dv x0 10000000000 ∧ y1 = dv x1 3600000000000 ∧ y2 = dv x2 10 ∧ y3 = dv x3 600000000000 ∧ 3600000000000 = dv 0 3600000000000 ∧ y5 = dv x5 1000000000 ∧ y6 = dv x6 10) := ⟨HY.out.1, HY.out.2.1, HY.out.2.2.1, HY.out.2.2.2.1, (dv_zero _).symm, HY.out.2.2.2.2.2.1, HY.out.2.2.2.2.2.2⟩
            go_wp2_with (refine wpList_load_row rfl 22 (.tmp 15) rfl w.heap.size rfl 22 _ (0, 0) _ R.out Try.underlying22 rfl Try.size22 ?_)
            refine (zzwd x0 x1 x2 x3 0 x5 x6 y0 y1 y2 y3 3600000000000 y5 y6 _ HK).mono ?_
            rintro e w3 ⟨rfl, bel3⟩
            have Z3 : wr.heap.size < w3.heap.size := by have := bel3.size; simp at this; omega
            have R3 : Hid (Row7 (w3.alloc (.cells #[.int .i64 y0, .int .i64 y1, .int .i64 y2, .int .i64 y3, .int .i64 3600000000000, .int .i64 y5, .int .i64 y6] 22)) w.heap.size (fun k => [x0, x1, x2, x3, x4, x5, x6].getD k 0)) := ((R.out.alloc _).below bel3 (by have := R.out.lt; simp; omega)).alloc _
            have S3 : Hid (Row7 (w3.alloc (.cells #[.int .i64 y0, .int .i64 y1, .int .i64 y2, .int .i64 y3, .int .i64 3600000000000, .int .i64 y5, .int .i64 y6] 22)) w1.heap.size (fun k => [y0, y1, y2, y3, y4, y5, y6].getD k 0)) := ((S.out.alloc _).below bel3 (by have := S.out.lt; simp; omega)).alloc _
            have T3 : Hid (Row7 (w3.alloc (.cells #[.int .i64 y0, .int .i64 y1, .int .i64 y2, .int .i64 y3, .int .i64 3600000000000, .int .i64 y5, .int .i64 y6] 22)) w3.heap.size (fun k => [y0, y1, y2, y3, 3600000000000, y5, y6].getD k 0)) := heap_alloc_new w3 _
            have HB3 : Hid (Below w.heap.size w (w3.alloc (.cells #[.int .i64 y0, .int .i64 y1, .int .i64 y2, .int .i64 y3, .int .i64 3600000000000, .int .i64 y5, .int .i64 y6] 22))) := by
              have b1 := HB.out.alloc HB.out.size (.cells #[.int .i64 x0, .int .i64 x1, .int .i64 x2, .int .i64 x3, .int .i64 0, .int .i64 x5, .int .i64 x6] 22)
              have b2 := b1.trans (bel3.mono b1.size)
              exact b2.alloc b2.size _
            clear bel3 R S HB
            go_wp2_with fail
            generalize (w3.alloc (.cells #[.int .i64 y0, .int .i64 y1, .int .i64 y2, .int .i64 y3, .int .i64 3600000000000, .int .i64 y5, .int .i64 y6] 22)) = W3 at R3 S3 T3 HB3 ⊢
            have cK : W3.cell? ⟨w3.heap.size, 4, none⟩ = some (.int .i64 3600000000000) := T3.out.cell 4 (by omega)
            go_quiet ((go_at_call 6; exact Calls.quiet_of_same (def_4 _)))
            go_wp2_with fail
            go_loopg [21] 7 (fun m j wr => ∃ jj n : Nat, jj ≤ 7 ∧ 7 ≤ m + jj ∧ j = .int .i64 jj ∧ wr = W3.drewN n)
            case atStart => exact ⟨0, _, by omega, by omega, rfl, rfl⟩
            case round =>
              obtain ⟨jj, nn, hj, hmj, rfl, rfl⟩ := hrel
              by_cases hltj : jj < 7
              · have hji : (jj : Int) < 7 := by omega
                by_cases hjk : jj = 4
                · subst hjk
                  go_wp2_with fail
                  go_quiet (fail)
                  go_wp2
                  go_roundg (gk - 1)
                  case measure => omega
                  case rel => exact ⟨4 + 1, _, by omega, by omega, by go_num, rfl⟩
                · have cS := S3.out.cell jj hltj
                  have cT := T3.out.cell jj hltj
                  have hE : [y0, y1, y2, y3, 3600000000000, y5, y6].getD jj 0 = [y0, y1, y2, y3, y4, y5, y6].getD jj 0 := by
                    rcases (show jj = 0 ∨ jj = 1 ∨ jj = 2 ∨ jj = 3 ∨ jj = 5 ∨ jj = 6 by omega) with rfl | rfl | rfl | rfl | rfl | rfl <;> rfl
                  rw [hE] at cT
                  generalize [y0, y1, y2, y3, y4, y5, y6].getD jj 0 = b at cS cT
                  have hne : ((jj : Int) != 4) = true := bne_iff_ne.2 (by omega)
                  clear hE
                  go_wp2_with fail
                  go_quiet (fail)
                  go_wp2
                  go_roundg (gk - 1)
                  case measure => omega
                  case rel => exact ⟨jj + 1, _, by omega, by omega, by go_num, rfl⟩
              · have R4 : Hid (Row7 (W3.drewN nn) w.heap.size (fun k => [x0, x1, x2, x3, x4, x5, x6].getD k 0)) := R3.out
                have S4 : Hid (Row7 (W3.drewN nn) w1.heap.size (fun k => [y0, y1, y2, y3, y4, y5, y6].getD k 0)) := S3.out
                have HB4 : Hid (Below w.heap.size w (W3.drewN nn)) := below_drewN HB3.out _
                clear R3 S3 T3 HB3 cK
                go_wp2
                go_roundg (GK - 1)
                case measure => have := HGK.out; omega
                case rel => exact ⟨4 + 1, by omega, by have := HGK.out; omega, by go_num, R4, S4, HB4⟩
          · have HK : Hid (y0 = dv x0 10000000000 ∧ y1 = dv x1 3600000000000 ∧ y2 = dv x2 10 ∧ y3 = dv x3 600000000000 ∧ y4 = dv x4 3600000000000 ∧ 1000000000 = dv 0 1000000000 ∧ y6 = dv x6 10) := ⟨HY.out.1, HY.out.2.1, HY.out.2.2.1, HY.out.2.2.2.1, HY.out.2.2.2.2.1, (dv_zero _).symm, HY.out.2.2.2.2.2.2⟩
            go_wp2_with (refine wpList_load_row rfl 22 (.tmp 15) rfl w.heap.size rfl 22 _ (0, 0) _ R.out Try.underlying22 rfl Try.size22 ?_)
            refine (zzwd x0 x1 x2 x3 x4 0 x6 y0 y1 y2 y3 y4 1000000000 y6 _ HK).mono ?_
            rintro e w3 ⟨rfl, bel3⟩
            have Z3 : wr.heap.size < w3.heap.size := by have := bel3.size; simp at this; omega
            have R3 : Hid (Row7 (w3.alloc (.cells #[.int .i64 y0, .int .i64 y1, .int .i64 y2, .int .i64 y3, .int .i64 y4, .int .i64 1000000000, .int .i64 y6] 22)) w.heap.size (fun k => [x0, x1, x2, x3, x4, x5, x6].getD k 0)) := ((R.out.alloc _).below bel3 (by have := R.out.lt; simp; omega)).alloc _
            have S3 : Hid (Row7 (w3.alloc (.cells #[.int .i64 y0, .int .i64 y1, .int .i64 y2, .int .i64 y3, .int .i64 y4, .int .i64 1000000000, .int .i64 y6] 22)) w1.heap.size (fun k => [y0, y1, y2, y3, y4, y5, y6].getD k 0)) := ((S.out.alloc _).below bel3 (by have := S.out.lt; simp; omega)).alloc _
            have T3 : Hid (Row7 (w3.alloc (.cells #[.int .i64 y0, .int .i64 y1, .int .i64 y2, .int .i64 y3, .int .i64 y4, .int .i64 1000000000, .int .i64 y6] 22)) w3.heap.size (fun k => [y0, y1, y2, y3, y4, 1000000000, y6].getD k 0)) := heap_alloc_new w3 _
            have HB3 : Hid (Below w.heap.size w (w3.alloc (.cells #[.int .i64 y0, .int .i64 y1, .int .i64 y2, .int .i64 y3, .int .i64 y4, .int .i64 1000000000, .int .i64 y6] 22))) := by
              have b1 := HB.out.alloc HB.out.size (.cells #[.int .i64 x0, .int .i64 x1, .int .i64 x2, .int .i64 x3, .int .i64 x4, .int .i64 0, .int .i64 x6] 22)
              have b2 := b1.trans (bel3.mono b1.size)
              exact b2.alloc b2.size _
            clear bel3 R S HB
            go_wp2_with fail
            generalize (w3.alloc (.cells #[.int .i64 y0, .int .i64 y1, .int .i64 y2, .int .i64 y3, .int .i64 y4, .int .i64 1000000000, .int .i64 y6] 22)) = W3 at R3 S3 T3 HB3 ⊢
            have cK : W3.cell? ⟨w3.heap.size, 5, none⟩ = some (.int .i64 1000000000) := T3.out.cell 5 (by omega)
            go_quiet ((go_at_call 6; exact Calls.quiet_of_same (def_5 _)))
            go_wp2_with fail
            go_loopg [21] 7 (fun m j wr => ∃ jj n : Nat, jj ≤ 7 ∧ 7 ≤ m + jj ∧ j = .int .i64 jj ∧ wr = W3.drewN n)
            case atStart => exact ⟨0, _, by omega, by omega, rfl, rfl⟩
            case round =>
              obtain ⟨jj, nn, hj, hmj, rfl, rfl⟩ := hrel
              by_cases hltj : jj < 7
              · have hji : (jj : Int) < 7 := by omega
                by_cases hjk : jj = 5
                · subst hjk
                  go_wp2_with fail
                  go_quiet (fail)
                  go_wp2
                  go_roundg (gk - 1)
                  case measure => omega
                  case rel => exact ⟨5 + 1, _, by omega, by omega, by go_num, rfl⟩
                · have cS := S3.out.cell jj hltj
                  have cT := T3.out.cell jj hltj
                  have hE : [y0, y1, y2, y3, y4, 1000000000, y6].getD jj 0 = [y0, y1, y2, y3, y4, y5, y6].getD jj 0 := by
                    rcases (show jj = 0 ∨ jj = 1 ∨ jj = 2 ∨ jj = 3 ∨ jj = 4 ∨ jj = 6 by omega) with rfl | rfl | rfl | rfl | rfl | rfl <;> rfl
                  rw [hE] at cT
                  generalize [y0, y1, y2, y3, y4, y5, y6].getD jj 0 = b at cS cT
                  have hne : ((jj : Int) != 5) = true := bne_iff_ne.2 (by omega)
                  clear hE
                  go_wp2_with fail
                  go_quiet (fail)
                  go_wp2
                  go_roundg (gk - 1)
                  case measure => omega
                  case rel => exact ⟨jj + 1, _, by omega, by omega, by go_num, rfl⟩
              · have R4 : Hid (Row7 (W3.drewN nn) w.heap.size (fun k => [x0, x1, x2, x3, x4, x5, x6].getD k 0)) := R3.out
                have S4 : Hid (Row7 (W3.drewN nn) w1.heap.size (fun k => [y0, y1, y2, y3, y4, y5, y6].getD k 0)) := S3.out
                have HB4 : Hid (Below w.heap.size w (W3.drewN nn)) := below_drewN HB3.out _
                clear R3 S3 T3 HB3 cK
                go_wp2
                go_roundg (GK - 1)
                case measure => have := HGK.out; omega
                case rel => exact ⟨5 + 1, by omega, by have := HGK.out; omega, by go_num, R4, S4, HB4⟩
          · have HK : Hid (y0 = dv x0 10000000000 ∧ y1 = dv x1 3600000000000 ∧ y2 = dv x2 10 ∧ y3 = dv x3 600000000000 ∧ y4 = dv x4 3600000000000 ∧ y5 = dv x5 1000000000 ∧ 10 = dv 0 10) := ⟨HY.out.1, HY.out.2.1, HY.out.2.2.1, HY.out.2.2.2.1, HY.out.2.2.2.2.1, HY.out.2.2.2.2.2.1, (dv_zero _).symm⟩
            go_wp2_with (refine wpList_load_row rfl 22 (.tmp 15) rfl w.heap.size rfl 22 _ (0, 0) _ R.out Try.underlying22 rfl Try.size22 ?_)
            refine (zzwd x0 x1 x2 x3 x4 x5 0 y0 y1 y2 y3 y4 y5 10 _ HK).mono ?_
            rintro e w3 ⟨rfl, bel3⟩
            have Z3 : wr.heap.size < w3.heap.size := by have := bel3.size; simp at this; omega
            have R3 : Hid (Row7 (w3.alloc (.cells #[.int .i64 y0, .int .i64 y1, .int .i64 y2, .int .i64 y3, .int .i64 y4, .int .i64 y5, .int .i64 10] 22)) w.heap.size (fun k => [x0, x1, x2, x3, x4, x5, x6].getD k 0)) := ((R.out.alloc _).below bel3 (by have := R.out.lt; simp; omega)).alloc _
            have S3 : Hid (Row7 (w3.alloc (.cells #[.int .i64 y0, .int .i64 y1, .int .i64 y2, .int .i64 y3, .int .i64 y4, .int .i64 y5, .int .i64 10] 22)) w1.heap.size (fun k => [y0, y1, y2, y3, y4, y5, y6].getD k 0)) := ((S.out.alloc _).below bel3 (by have := S.out.lt; simp; omega)).alloc _
            have T3 : Hid (Row7 (w3.alloc (.cells #[.int .i64 y0, .int .i64 y1, .int .i64 y2, .int .i64 y3, .int .i64 y4, .int .i64 y5, .int .i64 10] 22)) w3.heap.size (fun k => [y0, y1, y2, y3, y4, y5, 10].getD k 0)) := heap_alloc_new w3 _
            have HB3 : Hid (Below w.heap.size w (w3.alloc (.cells #[.int .i64 y0, .int .i64 y1, .int .i64 y2, .int .i64 y3, .int .i64 y4, .int .i64 y5, .int .i64 10] 22))) := by
              have b1 := HB.out.alloc HB.out.size (.cells #[.int .i64 x0, .int .i64 x1, .int .i64 x2, .int .i64 x3, .int .i64 x4, .int .i64 x5, .int .i64 0] 22)
              have b2 := b1.trans (bel3.mono b1.size)
              exact b2.alloc b2.size _
            clear bel3 R S HB
            go_wp2_with fail
            generalize (w3.alloc (.cells #[.int .i64 y0, .int .i64 y1, .int .i64 y2, .int .i64 y3, .int .i64 y4, .int .i64 y5, .int .i64 10] 22)) = W3 at R3 S3 T3 HB3 ⊢
            have cK : W3.cell? ⟨w3.heap.size, 6, none⟩ = some (.int .i64 10) := T3.out.cell 6 (by omega)
            go_quiet ((go_at_call 6; exact Calls.quiet_of_same (def_6 _)))
            go_wp2_with fail
            go_loopg [21] 7 (fun m j wr => ∃ jj n : Nat, jj ≤ 7 ∧ 7 ≤ m + jj ∧ j = .int .i64 jj ∧ wr = W3.drewN n)
            case atStart => exact ⟨0, _, by omega, by omega, rfl, rfl⟩
            case round =>
              obtain ⟨jj, nn, hj, hmj, rfl, rfl⟩ := hrel
              by_cases hltj : jj < 7
              · have hji : (jj : Int) < 7 := by omega
                by_cases hjk : jj = 6
                · subst hjk
                  go_wp2_with fail
                  go_quiet (fail)
                  go_wp2
                  go_roundg (gk - 1)
                  case measure => omega
                  case rel => exact ⟨6 + 1, _, by omega, by omega, by go_num, rfl⟩
                · have cS := S3.out.cell jj hltj
                  have cT := T3.out.cell jj hltj
                  have hE : [y0, y1, y2, y3, y4, y5, 10].getD jj 0 = [y0, y1, y2, y3, y4, y5, y6].getD jj 0 := by
                    rcases (show jj = 0 ∨ jj = 1 ∨ jj = 2 ∨ jj = 3 ∨ jj = 4 ∨ jj = 5 by omega) with rfl | rfl | rfl | rfl | rfl | rfl <;> rfl
                  rw [hE] at cT
                  generalize [y0, y1, y2, y3, y4, y5, y6].getD jj 0 = b at cS cT
                  have hne : ((jj : Int) != 6) = true := bne_iff_ne.2 (by omega)
                  clear hE
                  go_wp2_with fail
                  go_quiet (fail)
                  go_wp2
                  go_roundg (gk - 1)
                  case measure => omega
                  case rel => exact ⟨jj + 1, _, by omega, by omega, by go_num, rfl⟩
              · have R4 : Hid (Row7 (W3.drewN nn) w.heap.size (fun k => [x0, x1, x2, x3, x4, x5, x6].getD k 0)) := R3.out
                have S4 : Hid (Row7 (W3.drewN nn) w1.heap.size (fun k => [y0, y1, y2, y3, y4, y5, y6].getD k 0)) := S3.out
                have HB4 : Hid (Below w.heap.size w (W3.drewN nn)) := below_drewN HB3.out _
                clear R3 S3 T3 HB3 cK
                go_wp2
                go_roundg (GK - 1)
                case measure => have := HGK.out; omega
                case rel => exact ⟨6 + 1, by omega, by have := HGK.out; omega, by go_num, R4, S4, HB4⟩
        · go_wp2_with fail
          go_ret
          exact ⟨rfl, HB.out⟩
end Go.Proofs.Qxb6618601a
