/-
  FnSkipStringIgnoresWhatFollows (6): the walk.
-/
import Derived.Test.Qxb6617151aBytes
import Derived.Test.Qxb6617151aSs
import Derived.WalkLawsBesides
namespace Go.Proofs.Qxb6617151a
open Go.RowKit Plain

set_option maxHeartbeats 400000 in
theorem ign_main (x : Addr) (l0 c0 : Nat) (zs : List Int) (pos : Nat) (line : Int) (a3 : Option Addr) (l3 c3 : Nat) (us : List Int) (w : World)
    (s0 : Src w (some x) l0 c0 zs) (s3 : Src w a3 l3 c3 us) (b0 : l0 ≤ 524288) (b3 : l3 ≤ 524288) (hp : pos < l0) (q : Nat) (HQ : Hid (closeFrom zs (pos + 1) false = some q)) :
    Calls Try.prog 6 #[.slice (some x) l0 c0, .int .i64 pos, .int .i64 line, .slice a3 l3 c3] w fun e w' => e = .returned (.bool true) ∧ Below w.heap.size w w' := by
  have hq := close_range HQ.out
  rw [s0.1] at hq
  obtain ⟨i5, hi, hz0, hz1, hz2⟩ := info_parts Try.info5
  have HI : Hid (i5.bytes = 1) := hz2
  clear hz2
  go_enter Try.func6, Try.ntmps6
  go_wp2_with (first
    | (go_at_call 18; refine (bytes18_yes _ _ _ _ _ _ _ _ _ (by omega)).mono ?_; rintro e w' ⟨rfl, rfl⟩)
    | (at_make; refine wpList_make_full _ rfl (.tmp 39) (.tmp 39) 22 rfl w.heap.size 5 i5 (.int .u8 0) 1 Try.underlying22 hi hz0 hz1 _ _ _ _ l0 rfl rfl rfl rfl (by rw [HI.out]; omega) (by unfold maxLen; omega) (Nat.le_refl _) ?_))
  intro w1 own1 grow1
  obtain ⟨w2, hcopy, row2, bel2⟩ := copied s0 own1 grow1
  have R2 : Hid (Row w2 w.heap.size zs) := row2
  have B2 : Hid (Below w.heap.size w w2) := bel2
  have S3 : Hid (Src w2 a3 l3 c3 us) := s3.below bel2
  have Z2 : w.heap.size < w2.heap.size := row2.lt
  have L0 : zs.length = l0 := s0.1
  clear own1 grow1 row2 bel2 s3 s0
  go_wp2_with fail
  refine (cq_some w.heap.size 0 l0 l0 zs pos q w2 L0 b0 hp (fun k hk => R2.out.cells k (by rw [L0]; exact hk)) HQ).mono ?_
  rintro e w' ⟨rfl, rfl⟩
  go_wp2_with (at_make; refine wpList_make_own _ rfl (.const (.int .i64 0)) (.tmp 54) 22 rfl w2.heap.size 5 i5 (.int .u8 0) 1 Try.underlying22 hi hz0 hz1 _ _ _ (q + 1 + l3) rfl rfl (by omega) (by rw [HI.out]; omega) (by unfold maxLen; omega) (Nat.le_refl _) ?_)
  intro w3 own3 grow3
  have R3 : Hid (Row w3 w.heap.size zs) := R2.out.kept (grow3.block _ Z2 (by simp))
  have B3 : Hid (Below w.heap.size w w3) := B2.out.grown grow3 (by omega) (by intro k hk; cases hk)
  have Z3 : w.heap.size < w3.heap.size := R3.out.lt
  have C3 : Hid (Below w2.heap.size w2 w3) := (Below.refl _ w2).grown grow3 (Nat.le_refl _) (by intro k hk; cases hk)
  have Y3 : w2.heap.size < w3.heap.size := own_lt own3
  clear R2 B2 grow3
  go_wp2_with (at_builtin; refine wpList_append_fits_any _ rfl (.tmp 56) (.tmp 60) 22 rfl w2.heap.size 5 i5 1 Try.underlying22 hi hz1 w2.heap.size 0 (q + 1 + l3) [] rfl own3 _ (q + 1) _ ((zs.take (q + 1)).map (Value.int .u8)) rfl (take_len L0 (by omega)) (fun h => by cases h) (R3.out.take_src _) (ints_oneCell _ _) (by omega) ?_)
  intro w4 own4 grow4
  rw [← List.map_take] at own4
  have R4 : Hid (Row w4 w.heap.size zs) := R3.out.kept (grow4.block _ Z3 (by simp; omega))
  have B4 : Hid (Below w.heap.size w w4) := B3.out.grown grow4 (by omega) (by intro k hk; cases hk; omega)
  have Z4 : w.heap.size < w4.heap.size := R4.out.lt
  have C4 : Hid (Below w2.heap.size w2 w4) := C3.out.grown grow4 (by omega) (by intro k hk; cases hk; omega)
  have S4 : Hid (Src w4 a3 l3 c3 us) := S3.out.below C4.out
  have Y4 : w2.heap.size < w4.heap.size := own_lt own4
  clear R3 B3 C3 C4 own3 grow4 S3
  go_wp2_with (at_builtin; refine wpList_append_fits_any _ rfl (.tmp 62) (.tmp 63) 22 rfl w2.heap.size 5 i5 1 Try.underlying22 hi hz1 w2.heap.size (q + 1) (q + 1 + l3) ((zs.take (q + 1)).map (Value.int .u8)) rfl own4 _ l3 _ (us.map (Value.int .u8)) rfl (by simp [S4.out.1]) S4.out.2.1 S4.out.2.2 (ints_oneCell _ _) (by omega) ?_)
  intro w5 own5 grow5
  simp only [← List.map_take, ← List.map_append] at own5
  have R5 : Hid (Row w5 w.heap.size zs) := R4.out.kept (grow5.block _ Z4 (by simp; omega))
  have B5 : Hid (Below w.heap.size w w5) := B4.out.grown grow5 (by omega) (by intro k hk; cases hk; omega)
  have Z5 : w.heap.size < w5.heap.size := R5.out.lt
  have Y5 : w2.heap.size < w5.heap.size := own_lt own5
  have N5 : (zs.take (q + 1) ++ us).length = q + 1 + l3 := by have := own5.1; simpa using this
  have D5 : ∀ k, k < q + 1 + l3 → w5.cell? ⟨w2.heap.size, 0 + k, none⟩ = some (.int .u8 ((zs.take (q + 1) ++ us).getD k 0)) := own_cells own5
  have HD : Hid (∀ k, k < q + 1 + l3 → w5.cell? ⟨w2.heap.size, 0 + k, none⟩ = some (.int .u8 ((zs.take (q + 1) ++ us).getD k 0))) := D5
  have HQ2 : Hid (closeFrom (zs.take (q + 1) ++ us) (pos + 1) false = some q) := close_follow zs us (pos + 1) q HQ.out
  clear R4 B4 own4 own5 grow5 S4 D5
  go_wp2_with fail
  refine (zss_any w.heap.size 0 l0 l0 zs pos q line w5 L0 (by omega) Z5 (fun k hk => R5.out.cells k (by rw [L0]; exact hk)) HQ).mono ?_
  rintro e w6 ⟨rfl, bel6⟩
  have HD6 : Hid (∀ k, k < q + 1 + l3 → w6.cell? ⟨w2.heap.size, 0 + k, none⟩ = some (.int .u8 ((zs.take (q + 1) ++ us).getD k 0))) := fun k hk => (bel6.cell Y5).trans (HD.out k hk)
  have Y6 : w2.heap.size < w6.heap.size := by have := bel6.size; omega
  have B6 : Hid (Below w.heap.size w w6) := B5.out.trans (bel6.mono (by omega))
  clear bel6 HD R5 B5
  go_wp2_with fail
  refine (zss_any w2.heap.size 0 (q + 1 + l3) (q + 1 + l3) (zs.take (q + 1) ++ us) pos q line w6 N5 (by omega) Y6 HD6.out HQ2).mono ?_
  rintro e w7 ⟨rfl, bel7⟩
  have B7 : Hid (Below w.heap.size w w7) := B6.out.trans (bel7.mono (by have := B6.out.size; omega))
  clear bel7 HD6 B6
  go_wp2
  go_ret
  exact ⟨rfl, B7.out⟩

set_option maxHeartbeats 400000 in
theorem ign_none (x : Addr) (l0 c0 : Nat) (zs : List Int) (pos : Nat) (line : Int) (a3 : Option Addr) (l3 c3 : Nat) (w : World)
    (s0 : Src w (some x) l0 c0 zs) (b0 : l0 ≤ 524288) (b3 : l3 ≤ 524288) (hp : pos < l0) (HQ : Hid (closeFrom zs (pos + 1) false = none)) :
    Calls Try.prog 6 #[.slice (some x) l0 c0, .int .i64 pos, .int .i64 line, .slice a3 l3 c3] w fun e w' => e = .returned (.bool true) ∧ Below w.heap.size w w' := by
  obtain ⟨i5, hi, hz0, hz1, hz2⟩ := info_parts Try.info5
  have HI : Hid (i5.bytes = 1) := hz2
  clear hz2
  go_enter Try.func6, Try.ntmps6
  go_wp2_with (first
    | (go_at_call 18; refine (bytes18_yes _ _ _ _ _ _ _ _ _ (by omega)).mono ?_; rintro e w' ⟨rfl, rfl⟩)
    | (at_make; refine wpList_make_full _ rfl (.tmp 39) (.tmp 39) 22 rfl w.heap.size 5 i5 (.int .u8 0) 1 Try.underlying22 hi hz0 hz1 _ _ _ _ l0 rfl rfl rfl rfl (by rw [HI.out]; omega) (by unfold maxLen; omega) (Nat.le_refl _) ?_))
  intro w1 own1 grow1
  obtain ⟨w2, hcopy, row2, bel2⟩ := copied s0 own1 grow1
  have R2 : Hid (Row w2 w.heap.size zs) := row2
  have B2 : Hid (Below w.heap.size w w2) := bel2
  have L0 : zs.length = l0 := s0.1
  clear own1 grow1 row2 bel2 s0
  go_wp2_with fail
  refine (cq_none w.heap.size 0 l0 l0 zs pos w2 L0 b0 hp (fun k hk => R2.out.cells k (by rw [L0]; exact hk)) HQ).mono ?_
  rintro e w' ⟨rfl, rfl⟩
  go_wp2
  go_ret
  exact ⟨rfl, B2.out⟩

set_option maxHeartbeats 400000 in
/-- The ways that end ahead of the copy. -/
theorem ign_early (a0 : Option Addr) (l0 c0 : Nat) (pos line : Int) (a3 : Option Addr) (l3 c3 : Nat) (w : World)
    (h : ¬ (l0 ≤ 524288 ∧ l3 ≤ 524288 ∧ 0 ≤ pos ∧ pos < (l0 : Int))) :
    Calls Try.prog 6 #[.slice a0 l0 c0, .int .i64 pos, .int .i64 line, .slice a3 l3 c3] w fun e w' => e = .returned (.bool true) ∧ Below w.heap.size w w' := by
  by_cases hs : l0 + l3 ≤ 1048576
  · by_cases h0 : l0 ≤ 524288
    · by_cases h3 : l3 ≤ 524288
      · by_cases h1 : pos < 0
        · clear h
          go_enter Try.func6, Try.ntmps6
          go_wp2_with (go_at_call 18; refine (bytes18_yes _ _ _ _ _ _ _ _ _ hs).mono ?_; rintro e w' ⟨rfl, rfl⟩)
          go_ret
          exact ⟨rfl, Below.refl _ _⟩
        · have h2 : (l0 : Int) ≤ pos := by omega
          clear h
          go_enter Try.func6, Try.ntmps6
          go_wp2_with (go_at_call 18; refine (bytes18_yes _ _ _ _ _ _ _ _ _ hs).mono ?_; rintro e w' ⟨rfl, rfl⟩)
          go_ret
          exact ⟨rfl, Below.refl _ _⟩
      · clear h
        go_enter Try.func6, Try.ntmps6
        go_wp2_with (go_at_call 18; refine (bytes18_yes _ _ _ _ _ _ _ _ _ hs).mono ?_; rintro e w' ⟨rfl, rfl⟩)
        go_ret
        exact ⟨rfl, Below.refl _ _⟩
    · clear h
      go_enter Try.func6, Try.ntmps6
      go_wp2_with (go_at_call 18; refine (bytes18_yes _ _ _ _ _ _ _ _ _ hs).mono ?_; rintro e w' ⟨rfl, rfl⟩)
      go_ret
      exact ⟨rfl, Below.refl _ _⟩
  · clear h
    go_enter Try.func6, Try.ntmps6
    go_wp2_with (go_at_call 18; refine (bytes18_no _ _ _ _ _ _ _ _ _ hs).mono ?_; rintro e w' ⟨rfl, rfl⟩)
    go_ret
    exact ⟨rfl, Below.refl _ _⟩
end Go.Proofs.Qxb6617151a
