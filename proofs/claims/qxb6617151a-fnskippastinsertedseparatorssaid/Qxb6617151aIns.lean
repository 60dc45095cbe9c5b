/-
  FnSkipPastInsertedSeparators (4): the walk.
-/
import Derived.Test.Qxb6617151aSkip
import Derived.WalkLawsBesides
namespace Go.Proofs.Qxb6617151a
open Go.RowKit Plain

theorem hid {p : Prop} (h : p) : Hid p := h

set_option maxHeartbeats 800000 in
theorem ins_main (x : Addr) (l0 c0 : Nat) (zs : List Int) (pos : Nat) (line : Int) (a3 : Option Addr) (l3 c3 : Nat) (us : List Int) (w : World)
    (s0 : Src w (some x) l0 c0 zs) (s3 : Src w a3 l3 c3 us) (b0 : l0 ≤ 524288) (b3 : l3 ≤ 524288) (hp : pos ≤ l0) (hwf : (Lit.int .i64 line).wf = true) (HS : Hid (allSep us = true)) (p : Nat) (HQ : Hid (tokFrom zs pos = some p)) :
    Calls Try.prog 4 #[.slice (some x) l0 c0, .int .i64 pos, .int .i64 line, .slice a3 l3 c3] w fun e w' => e = .returned (.bool true) ∧ Below w.heap.size w w' := by
  have hq := tok_range HQ.out
  rw [s0.1] at hq
  obtain ⟨i5, hi, hz0, hz1, hz2⟩ := info_parts Try.info5
  have HI : Hid (i5.bytes = 1) := hz2
  clear hz2
  -- what the two calls of skip give
  obtain ⟨z, hzz⟩ : ∃ z, z = zs.getD p 0 := ⟨_, rfl⟩
  obtain ⟨l1, hl1⟩ : ∃ l1, l1 = wrap64 (line + (lc zs pos p : Nat)) := ⟨_, rfl⟩
  obtain ⟨A, hA⟩ : ∃ A, A = lines us := ⟨_, rfl⟩
  have hAl : A ≤ 524288 := by
    have := lines_le us
    rw [s3.1] at this
    omega
  have HZ1 := fun w0 hb hc => zsk_any w.heap.size 0 l0 l0 zs pos p line w0 s0.1 (by omega) hb hwf hc HQ
  rw [← hzz, ← hl1] at HZ1
  have HQ2 : Hid (tokFrom (zs.take pos ++ us ++ zs.drop pos) pos = some (p + l3)) := by
    have := tok_insert zs us pos p (by rw [s0.1]; omega) HS.out HQ.out
    rw [s3.1] at this
    exact this
  have hlen2 : (zs.take pos ++ us ++ zs.drop pos).length = pos + l3 + (l0 - pos) := by simp [s0.1, s3.1]; omega
  have HZ2 := fun g w0 hb hc => zsk_any g 0 (pos + l3 + (l0 - pos)) (l0 + l3) (zs.take pos ++ us ++ zs.drop pos) pos (p + l3) line w0 hlen2 (by omega) hb hwf hc HQ2
  have ez : (zs.take pos ++ us ++ zs.drop pos).getD (p + l3) 0 = z := by
    have := insert_at zs us pos p hq.1 (by rw [s0.1]; omega)
    rw [s3.1] at this
    rw [this, hzz]
  have elc : wrap64 (line + (lc (zs.take pos ++ us ++ zs.drop pos) pos (p + l3) : Nat)) = wrap64 (l1 + A) := by
    have h1 := lines_insert zs us pos p hq.1 (by rw [s0.1]; omega)
    rw [s3.1] at h1
    have h2 := take_insert zs us pos (by rw [s0.1]; omega)
    have h3 : lc (zs.take pos ++ us ++ zs.drop pos) pos (p + l3) = lc zs pos p + A := by
      unfold lc
      rw [h1, h2, hA]
      have := lines_mono zs pos p hq.1
      omega
    rw [h3, hl1]
    unfold wrap64; omega
  rw [ez, elc] at HZ2
  have HZA : Hid (z = zs.getD p 0) := hzz
  have HT : Hid (skb z = false) := by
    have := (tok_at HQ.out).1
    rw [← hzz] at this
    exact this
  have HA : Hid (A = lines us) := hA
  have HZ1' := hid HZ1
  have HZ2' := hid HZ2
  clear hzz hl1 hA HZ1 HZ2 ez elc hlen2
  go_enter Try.func4, Try.ntmps4
  go_wp2_with (first
    | (go_at_call 12; refine (bytes12_yes _ _ _ _ _ _ _ _ _ (by omega)).mono ?_; rintro e w' ⟨rfl, rfl⟩)
    | (go_at_call 13; refine (as_yes a3 l3 c3 us w s3 b3 HS.out).mono ?_; rintro e w' ⟨rfl, rfl⟩)
    | (go_at_call 8; refine (ht_yes (some x) l0 c0 zs pos p w s0 b0 hp HQ.out).mono ?_; rintro e w' ⟨rfl, rfl⟩)
    | (at_make; refine wpList_make_full _ rfl (.tmp 47) (.tmp 47) 22 rfl w.heap.size 5 i5 (.int .u8 0) 1 Try.underlying22 hi hz0 hz1 _ _ _ _ l0 rfl rfl rfl rfl (by rw [HI.out]; omega) (by unfold maxLen; omega) (Nat.le_refl _) ?_))
  intro w1 own1 grow1
  obtain ⟨w2, hcopy, row2, bel2⟩ := copied s0 own1 grow1
  have R2 : Hid (Row w2 w.heap.size zs) := row2
  have B2 : Hid (Below w.heap.size w w2) := bel2
  have S0 : Hid (Src w a3 l3 c3 us) := s3
  have S3 : Hid (Src w2 a3 l3 c3 us) := s3.below bel2
  have Z2 : w.heap.size < w2.heap.size := row2.lt
  have L0 : zs.length = l0 := s0.1
  clear own1 grow1 row2 bel2 s3 s0
  go_wp2_with (at_make; refine wpList_make_own _ rfl (.const (.int .i64 0)) (.tmp 57) 22 rfl w2.heap.size 5 i5 (.int .u8 0) 1 Try.underlying22 hi hz0 hz1 _ _ _ (l0 + l3) rfl rfl (by omega) (by rw [HI.out]; omega) (by unfold maxLen; omega) (Nat.le_refl _) ?_)
  intro w3 own3 grow3
  have R3 : Hid (Row w3 w.heap.size zs) := R2.out.kept (grow3.block _ Z2 (by simp))
  have B3 : Hid (Below w.heap.size w w3) := B2.out.grown grow3 (by omega) (by intro k hk; cases hk)
  have Z3 : w.heap.size < w3.heap.size := R3.out.lt
  have C3 : Hid (Below w2.heap.size w2 w3) := (Below.refl _ w2).grown grow3 (Nat.le_refl _) (by intro k hk; cases hk)
  have Y3 : w2.heap.size < w3.heap.size := own_lt own3
  clear R2 B2 grow3
  go_wp2_with (at_builtin; refine wpList_append_fits_any _ rfl (.tmp 59) (.tmp 62) 22 rfl w2.heap.size 5 i5 1 Try.underlying22 hi hz1 w2.heap.size 0 (l0 + l3) [] rfl own3 _ pos _ ((zs.take pos).map (Value.int .u8)) rfl (take_len L0 (by omega)) (fun h => by cases h) (R3.out.take_src _) (ints_oneCell _ _) (by omega) ?_)
  intro w4 own4 grow4
  rw [← List.map_take] at own4
  have R4 : Hid (Row w4 w.heap.size zs) := R3.out.kept (grow4.block _ Z3 (by simp; omega))
  have B4 : Hid (Below w.heap.size w w4) := B3.out.grown grow4 (by omega) (by intro k hk; cases hk; omega)
  have Z4 : w.heap.size < w4.heap.size := R4.out.lt
  have C4 : Hid (Below w2.heap.size w2 w4) := C3.out.grown grow4 (by omega) (by intro k hk; cases hk; omega)
  have S4 : Hid (Src w4 a3 l3 c3 us) := S3.out.below C4.out
  have Y4 : w2.heap.size < w4.heap.size := own_lt own4
  clear R3 B3 C3 C4 own3 grow4 S3
  go_wp2_with (at_builtin; refine wpList_append_fits_any _ rfl (.tmp 64) (.tmp 65) 22 rfl w2.heap.size 5 i5 1 Try.underlying22 hi hz1 w2.heap.size pos (l0 + l3) ((zs.take pos).map (Value.int .u8)) rfl own4 _ l3 _ (us.map (Value.int .u8)) rfl (by simp [S4.out.1]) S4.out.2.1 S4.out.2.2 (ints_oneCell _ _) (by omega) ?_)
  intro w5 own5 grow5
  simp only [← List.map_take, ← List.map_append] at own5
  have R5 : Hid (Row w5 w.heap.size zs) := R4.out.kept (grow5.block _ Z4 (by simp; omega))
  have B5 : Hid (Below w.heap.size w w5) := B4.out.grown grow5 (by omega) (by intro k hk; cases hk; omega)
  have Z5 : w.heap.size < w5.heap.size := R5.out.lt
  have Y5 : w2.heap.size < w5.heap.size := own_lt own5
  clear R4 B4 own4 grow5 S4
  go_wp2_with (at_builtin; refine wpList_append_fits_any _ rfl (.tmp 67) (.tmp 70) 22 rfl w2.heap.size 5 i5 1 Try.underlying22 hi hz1 w2.heap.size (pos + l3) (l0 + l3) ((zs.take pos ++ us).map (Value.int .u8)) rfl own5 _ (l0 - pos) _ ((zs.drop pos).map (Value.int .u8)) rfl (drop_len L0) (fun h => by cases h) (R5.out.drop_src _) (ints_oneCell _ _) (by omega) ?_)
  intro w6 own6 grow6
  simp only [← List.map_take, ← List.map_drop, ← List.map_append] at own6
  rw [← List.append_assoc] at own6
  have R6 : Hid (Row w6 w.heap.size zs) := R5.out.kept (grow6.block _ Z5 (by simp; omega))
  have B6 : Hid (Below w.heap.size w w6) := B5.out.grown grow6 (by omega) (by intro k hk; cases hk; omega)
  have Z6 : w.heap.size < w6.heap.size := R6.out.lt
  have Y6 : w2.heap.size < w6.heap.size := own_lt own6
  have HD : Hid (∀ k, k < pos + l3 + (l0 - pos) → w6.cell? ⟨w2.heap.size, 0 + k, none⟩ = some (.int .u8 ((zs.take pos ++ us ++ zs.drop pos).getD k 0))) := own_cells own6
  clear R5 B5 own5 own6 grow6
  go_wp2_with fail
  refine (HZ1'.out w6 Z6 (fun k hk => R6.out.cells k (by rw [L0]; exact hk))).mono ?_
  rintro e w7 ⟨rfl, bel7⟩
  have HD7 : Hid (∀ k, k < pos + l3 + (l0 - pos) → w7.cell? ⟨w2.heap.size, 0 + k, none⟩ = some (.int .u8 ((zs.take pos ++ us ++ zs.drop pos).getD k 0))) := fun k hk => (bel7.cell Y6).trans (HD.out k hk)
  have Y7 : w2.heap.size < w7.heap.size := by have := bel7.size; omega
  have Z7 : w.heap.size < w7.heap.size := by have := bel7.size; omega
  have B7 : Hid (Below w.heap.size w w7) := B6.out.trans (bel7.mono (by omega))
  have R7 : Hid (Row w7 w.heap.size zs) := R6.out.kept (bel7.block _ Z6)
  clear bel7 HD R6 B6
  go_wp2_with fail
  refine (HZ2'.out w2.heap.size w7 Y7 HD7.out).mono ?_
  rintro e w8 ⟨rfl, bel8⟩
  have B8 : Hid (Below w.heap.size w w8) := B7.out.trans (bel8.mono (by omega))
  have S8 : Hid (Src w8 a3 l3 c3 us) := S0.out.below B8.out
  have hcell : w8.cell? ⟨w.heap.size, p, none⟩ = some (.int .u8 z) := by
    rw [bel8.cell (p := ⟨w.heap.size, p, none⟩) Z7]
    have := R7.out.cells p (by rw [L0]; exact hq.2)
    rw [Nat.zero_add, ← HZA.out] at this
    exact this
  have HLn := ln_any a3 l3 c3 us w8 S8.out (by omega)
  rw [← HA.out] at HLn
  have HL8 : Hid (Calls Try.prog 11 #[.slice a3 l3 c3] w8 fun e w' => e = .returned (.int .i64 A) ∧ w8 = w') := HLn
  clear bel8 HD7 B7 R7 HLn HZ1' HZ2' S0
  go_wp2_with (first
    | (go_at_call 10; refine (sk_no z _ HT.out).mono ?_; rintro e w' ⟨rfl, rfl⟩)
    | (go_at_call 11; refine HL8.out.mono ?_; rintro e w' ⟨rfl, rfl⟩))
  go_ret
  exact ⟨rfl, B8.out⟩

set_option maxHeartbeats 400000 in
theorem ins_notsep (a0 : Option Addr) (l0 c0 : Nat) (pos : Nat) (line : Int) (a3 : Option Addr) (l3 c3 : Nat) (us : List Int) (w : World)
    (s3 : Src w a3 l3 c3 us) (b0 : l0 ≤ 524288) (b3 : l3 ≤ 524288) (hp : pos ≤ l0) (HS : Hid (allSep us = false)) :
    Calls Try.prog 4 #[.slice a0 l0 c0, .int .i64 pos, .int .i64 line, .slice a3 l3 c3] w fun e w' => e = .returned (.bool true) ∧ Below w.heap.size w w' := by
  have hs : l0 + l3 ≤ 1048576 := by omega
  go_enter Try.func4, Try.ntmps4
  go_wp2_with (first | (go_at_call 12; refine (bytes12_yes _ _ _ _ _ _ _ _ _ hs).mono ?_; rintro e w' ⟨rfl, rfl⟩) | (go_at_call 13; refine (as_no a3 l3 c3 us w s3 b3 HS.out).mono ?_; rintro e w' ⟨rfl, rfl⟩))
  go_ret
  exact ⟨rfl, Below.refl _ _⟩

set_option maxHeartbeats 400000 in
theorem ins_notoken (a0 : Option Addr) (l0 c0 : Nat) (zs : List Int) (pos : Nat) (line : Int) (a3 : Option Addr) (l3 c3 : Nat) (us : List Int) (w : World)
    (s0 : Src w a0 l0 c0 zs) (s3 : Src w a3 l3 c3 us) (b0 : l0 ≤ 524288) (b3 : l3 ≤ 524288) (hp : pos ≤ l0) (HS : Hid (allSep us = true)) (HQ : Hid (tokFrom zs pos = none)) :
    Calls Try.prog 4 #[.slice a0 l0 c0, .int .i64 pos, .int .i64 line, .slice a3 l3 c3] w fun e w' => e = .returned (.bool true) ∧ Below w.heap.size w w' := by
  have hs : l0 + l3 ≤ 1048576 := by omega
  go_enter Try.func4, Try.ntmps4
  go_wp2_with (first | (go_at_call 12; refine (bytes12_yes _ _ _ _ _ _ _ _ _ hs).mono ?_; rintro e w' ⟨rfl, rfl⟩) | (go_at_call 13; refine (as_yes a3 l3 c3 us w s3 b3 HS.out).mono ?_; rintro e w' ⟨rfl, rfl⟩) | (go_at_call 8; refine (ht_no a0 l0 c0 zs pos w s0 b0 hp HQ.out).mono ?_; rintro e w' ⟨rfl, rfl⟩))
  go_ret
  exact ⟨rfl, Below.refl _ _⟩

set_option maxHeartbeats 400000 in
/-- The ways that end ahead of the look at the inserted run. -/
theorem ins_early (a0 : Option Addr) (l0 c0 : Nat) (pos line : Int) (a3 : Option Addr) (l3 c3 : Nat) (w : World)
    (h : ¬ (l0 ≤ 524288 ∧ l3 ≤ 524288 ∧ 0 ≤ pos ∧ pos ≤ (l0 : Int))) :
    Calls Try.prog 4 #[.slice a0 l0 c0, .int .i64 pos, .int .i64 line, .slice a3 l3 c3] w fun e w' => e = .returned (.bool true) ∧ Below w.heap.size w w' := by
  by_cases hs : l0 + l3 ≤ 1048576
  · by_cases h0 : l0 ≤ 524288
    · by_cases h3 : l3 ≤ 524288
      · by_cases h1 : pos < 0
        · clear h
          go_enter Try.func4, Try.ntmps4
          go_wp2_with (first | (go_at_call 12; refine (bytes12_yes _ _ _ _ _ _ _ _ _ hs).mono ?_; rintro e w' ⟨rfl, rfl⟩))
          go_ret
          exact ⟨rfl, Below.refl _ _⟩
        · have h2 : (l0 : Int) < pos := by omega
          clear h
          go_enter Try.func4, Try.ntmps4
          go_wp2_with (first | (go_at_call 12; refine (bytes12_yes _ _ _ _ _ _ _ _ _ hs).mono ?_; rintro e w' ⟨rfl, rfl⟩))
          go_ret
          exact ⟨rfl, Below.refl _ _⟩
      · clear h
        go_enter Try.func4, Try.ntmps4
        go_wp2_with (first | (go_at_call 12; refine (bytes12_yes _ _ _ _ _ _ _ _ _ hs).mono ?_; rintro e w' ⟨rfl, rfl⟩))
        go_ret
        exact ⟨rfl, Below.refl _ _⟩
    · clear h
      go_enter Try.func4, Try.ntmps4
      go_wp2_with (first | (go_at_call 12; refine (bytes12_yes _ _ _ _ _ _ _ _ _ hs).mono ?_; rintro e w' ⟨rfl, rfl⟩))
      go_ret
      exact ⟨rfl, Below.refl _ _⟩
  · clear h
    go_enter Try.func4, Try.ntmps4
    go_wp2_with (first | (go_at_call 12; refine (bytes12_no _ _ _ _ _ _ _ _ _ hs).mono ?_; rintro e w' ⟨rfl, rfl⟩))
    go_ret
    exact ⟨rfl, Below.refl _ _⟩
end Go.Proofs.Qxb6617151a
