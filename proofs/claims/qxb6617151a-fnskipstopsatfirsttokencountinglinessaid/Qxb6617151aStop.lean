/-
  FnSkipStopsAtFirstTokenCountingLines (3): the walk.
-/
import Derived.Test.Qxb6617151aSkip
import Derived.WalkLawsBesides
namespace Go.Proofs.Qxb6617151a
open Go.RowKit Plain

/-- zzLines of the first m bytes of a row, for a walk that draws. -/
theorem ln_row (B m l0 A k : Nat) (zs : List Int) (w : World) (R : Row w B zs) (L : zs.length = l0) (hm : m ≤ l0) (hl : l0 ≤ 1048576) (HA : Hid (A = lines (zs.take m))) :
    Calls Try.prog 11 #[.slice (some ⟨B, 0, none⟩) m l0] (w.drewN k) fun e w' => e = .returned (.int .i64 A) ∧ w' = w.drewN k := by
  refine (ln_block B 0 m l0 (zs.take m) (w.drewN k) (by simp; omega) (by omega) ?_).mono ?_
  · intro j hj
    have := R.cells j (by omega)
    rw [World.cell?_drewN, this]
    simp [List.getD, hj]
  · rintro e w' ⟨rfl, rfl⟩
    exact ⟨by rw [HA.out], rfl⟩

set_option maxHeartbeats 800000 in
theorem stop_main (x : Addr) (l0 c0 : Nat) (zs : List Int) (pos : Nat) (line : Int) (w : World)
    (s0 : Src w (some x) l0 c0 zs) (b0 : l0 ≤ 524288) (hp : pos ≤ l0) (hwf : (Lit.int .i64 line).wf = true) (p : Nat) (HQ : Hid (tokFrom zs pos = some p)) :
    Calls Try.prog 3 #[.slice (some x) l0 c0, .int .i64 pos, .int .i64 line] w fun e w' => e = .returned (.bool true) ∧ Below w.heap.size w w' := by
  have hq := tok_range HQ.out
  rw [s0.1] at hq
  obtain ⟨i5, hi, hz0, hz1, hz2⟩ := info_parts Try.info5
  have HI : Hid (i5.bytes = 1) := hz2
  clear hz2
  obtain ⟨A, hA⟩ : ∃ A, A = lines (zs.take p) := ⟨_, rfl⟩
  obtain ⟨C, hC⟩ : ∃ C, C = lines (zs.take pos) := ⟨_, rfl⟩
  have hCA : C ≤ A := by rw [hA, hC]; exact lines_mono zs pos p hq.1
  have hAl : A ≤ 524288 := by
    have := lines_le (zs.take p)
    rw [List.length_take] at this
    omega
  have HZS := fun w0 hb hc => zsk_any w.heap.size 0 l0 l0 zs pos p line w0 s0.1 (by omega) hb hwf hc HQ
  have elc : ((lc zs pos p : Nat) : Int) = (A : Int) - C := by unfold lc; rw [← hA, ← hC]; omega
  rw [elc] at HZS
  obtain ⟨z, hzz⟩ : ∃ z, z = zs.getD p 0 := ⟨_, rfl⟩
  rw [← hzz] at HZS
  have hza := tok_at HQ.out
  rw [← hzz] at hza
  have HZ : Hid (z = zs.getD p 0) := hzz
  have HA : Hid (A = lines (zs.take p)) := hA
  have HC : Hid (C = lines (zs.take pos)) := hC
  have HT : Hid (skb z = false ∧ ∀ i, pos ≤ i → i < p → skb (zs.getD i 0) = true) := hza
  have HH := hza.2
  clear hzz hA hC elc hza HH
  go_enter Try.func3, Try.ntmps3
  go_wp2_with (first
    | (go_at_call 7; refine (bytes7_yes _ _ _ _ _ _ (by omega)).mono ?_; rintro e w' ⟨rfl, rfl⟩)
    | (go_at_call 8; refine (ht_yes (some x) l0 c0 zs pos p w s0 b0 hp HQ.out).mono ?_; rintro e w' ⟨rfl, rfl⟩)
    | (at_make; refine wpList_make_full _ rfl (.tmp 35) (.tmp 35) 22 rfl w.heap.size 5 i5 (.int .u8 0) 1 Try.underlying22 hi hz0 hz1 _ _ _ _ l0 rfl rfl rfl rfl (by rw [HI.out]; omega) (by unfold maxLen; omega) (Nat.le_refl _) ?_))
  intro w1 own1 grow1
  obtain ⟨w2, hcopy, row2, bel2⟩ := copied s0 own1 grow1
  have R2 : Hid (Row w2 w.heap.size zs) := row2
  have B2 : Hid (Below w.heap.size w w2) := bel2
  have Z2 : w.heap.size < w2.heap.size := row2.lt
  have L0 : zs.length = l0 := s0.1
  have HZ2 := HZS w2 Z2 (fun k hk => R2.out.cells k (by rw [L0]; exact hk))
  clear own1 grow1 row2 bel2 s0 HZS
  go_wp2_with fail
  refine HZ2.mono ?_
  rintro e w3 ⟨rfl, bel3⟩
  have R3 : Hid (Row w3 w.heap.size zs) := R2.out.kept (bel3.block _ Z2)
  have B3 : Hid (Below w.heap.size w w3) := B2.out.trans (bel3.mono (by omega))
  have hcell : w3.cell? ⟨w.heap.size, p, none⟩ = some (.int .u8 z) := by
    have := R3.out.cells p (by rw [L0]; exact hq.2)
    rw [Nat.zero_add, ← HZ.out] at this
    exact this
  clear bel3 B2 R2 HZ2
  go_wp2_with (go_at_call 10; refine (sk_no z _ HT.out.1).mono ?_; rintro e w' ⟨rfl, rfl⟩)
  go_loop [11] (fun i => ∃ k : Nat, pos ≤ k ∧ k ≤ p ∧ i = .int .i64 k) (fun i => p - (intOf i).toNat)
  case atStart => exact ⟨pos, by omega, by omega, rfl⟩
  case round =>
    obtain ⟨k, hk1, hk2, rfl⟩ := hrel
    by_cases hlt : k < p
    · have hck : w3.cell? ⟨w.heap.size, k, none⟩ = some (.int .u8 (zs.getD k 0)) := by
        have := R3.out.cells k (by rw [L0]; omega)
        rw [Nat.zero_add] at this
        exact this
      have hT := HT.out.2 k hk1 hlt
      obtain ⟨y, hyy⟩ : ∃ y, y = zs.getD k 0 := ⟨_, rfl⟩
      rw [← hyy] at hck hT
      have HY : Hid (skb y = true) := hT
      clear hT hyy
      go_wp2_with (go_at_call 10; refine (sk_yes y _ HY.out).mono ?_; rintro e w' ⟨rfl, rfl⟩)
      go_round
      case rel => exact ⟨k + 1, by omega, by omega, by go_num⟩
      case measure => simp [intOf]; omega
    · go_wp2_with fail
      go_quiet ((go_at_call 11; refine Calls.quiet_of_same (ln_row _ _ _ _ _ zs w3 R3.out L0 (by omega) (by omega) (by first | exact HA | exact HC))))
      go_wp2
      go_ret
      exact ⟨rfl, below_drewN B3.out _⟩

set_option maxHeartbeats 400000 in
theorem stop_notoken (a0 : Option Addr) (l0 c0 : Nat) (zs : List Int) (pos : Nat) (line : Int) (w : World)
    (s0 : Src w a0 l0 c0 zs) (b0 : l0 ≤ 524288) (hp : pos ≤ l0) (HQ : Hid (tokFrom zs pos = none)) :
    Calls Try.prog 3 #[.slice a0 l0 c0, .int .i64 pos, .int .i64 line] w fun e w' => e = .returned (.bool true) ∧ Below w.heap.size w w' := by
  go_enter Try.func3, Try.ntmps3
  go_wp2_with (first
    | (go_at_call 7; refine (bytes7_yes _ _ _ _ _ _ (by omega)).mono ?_; rintro e w' ⟨rfl, rfl⟩)
    | (go_at_call 8; refine (ht_no a0 l0 c0 zs pos w s0 b0 hp HQ.out).mono ?_; rintro e w' ⟨rfl, rfl⟩))
  go_ret
  exact ⟨rfl, Below.refl _ _⟩

set_option maxHeartbeats 400000 in
/-- The ways that end ahead of the look for a token. -/
theorem stop_early (a0 : Option Addr) (l0 c0 : Nat) (pos line : Int) (w : World)
    (h : ¬ (l0 ≤ 524288 ∧ 0 ≤ pos ∧ pos ≤ (l0 : Int))) :
    Calls Try.prog 3 #[.slice a0 l0 c0, .int .i64 pos, .int .i64 line] w fun e w' => e = .returned (.bool true) ∧ Below w.heap.size w w' := by
  by_cases hs : l0 ≤ 1048576
  · by_cases h0 : l0 ≤ 524288
    · by_cases h1 : pos < 0
      · clear h
        go_enter Try.func3, Try.ntmps3
        go_wp2_with (go_at_call 7; refine (bytes7_yes _ _ _ _ _ _ hs).mono ?_; rintro e w' ⟨rfl, rfl⟩)
        go_ret
        exact ⟨rfl, Below.refl _ _⟩
      · have h2 : (l0 : Int) < pos := by omega
        clear h
        go_enter Try.func3, Try.ntmps3
        go_wp2_with (go_at_call 7; refine (bytes7_yes _ _ _ _ _ _ hs).mono ?_; rintro e w' ⟨rfl, rfl⟩)
        go_ret
        exact ⟨rfl, Below.refl _ _⟩
    · clear h
      go_enter Try.func3, Try.ntmps3
      go_wp2_with (go_at_call 7; refine (bytes7_yes _ _ _ _ _ _ hs).mono ?_; rintro e w' ⟨rfl, rfl⟩)
      go_ret
      exact ⟨rfl, Below.refl _ _⟩
  · clear h
    go_enter Try.func3, Try.ntmps3
    go_wp2_with (go_at_call 7; refine (bytes7_no _ _ _ _ _ _ hs).mono ?_; rintro e w' ⟨rfl, rfl⟩)
    go_ret
    exact ⟨rfl, Below.refl _ _⟩
end Go.Proofs.Qxb6617151a
