/-
  zzSkippable (10), zzHasToken (8), zzAllSeparators (13), zzLines (11): their contracts.
-/
import Derived.Test.Qxb6617151aBytes
namespace Go.Proofs.Qxb6617151a
open Go.RowKit Plain

theorem sk_yes (z : Int) (w : World) (h : skb z = true) : Calls Try.prog 10 #[.int .u8 z] w fun e w' => e = .returned (.bool true) ∧ w = w' := by
  have h' : z = 10 ∨ z = 32 ∨ z = 9 ∨ z = 13 ∨ z = 44 ∨ z = 58 := of_decide_eq_true h
  clear h
  rcases h' with rfl | rfl | rfl | rfl | rfl | rfl
  all_goals
    go_enter Try.func10, Try.ntmps10
    go_wp2
    go_ret
    exact ⟨rfl, rfl⟩
theorem sk_no (z : Int) (w : World) (h : skb z = false) : Calls Try.prog 10 #[.int .u8 z] w fun e w' => e = .returned (.bool false) ∧ w = w' := by
  have h' : ¬ (z = 10 ∨ z = 32 ∨ z = 9 ∨ z = 13 ∨ z = 44 ∨ z = 58) := of_decide_eq_false h
  have h1 : (z == 10) = false := by simp; omega
  have h2 : (z == 32) = false := by simp; omega
  have h3 : (z == 9) = false := by simp; omega
  have h4 : (z == 13) = false := by simp; omega
  have h5 : (z == 44) = false := by simp; omega
  have h6 : (z == 58) = false := by simp; omega
  clear h h'
  go_enter Try.func10, Try.ntmps10
  go_wp2
  go_ret
  exact ⟨rfl, rfl⟩

set_option maxHeartbeats 400000 in
theorem ht_block (b off n c : Nat) (zs : List Int) (pos : Nat) (w : World) (hz : zs.length = n) (hn : n ≤ 524288) (hp : pos ≤ n)
    (hc : ∀ k, k < n → w.cell? ⟨b, off + k, none⟩ = some (.int .u8 (zs.getD k 0))) :
    Calls Try.prog 8 #[.slice (some ⟨b, off, none⟩) n c, .int .i64 pos] w fun e w' => e = .returned (.bool (tokFrom zs pos).isSome) ∧ w = w' := by
  go_enter Try.func8, Try.ntmps8
  go_wp2
  go_loop [5] (fun i => ∃ k : Nat, pos ≤ k ∧ k ≤ n ∧ i = .int .i64 k ∧ Hid (tokFrom zs pos = tokFrom zs k)) (fun i => n - (intOf i).toNat)
  case atStart => exact ⟨pos, by omega, by omega, rfl, rfl⟩
  case round =>
    obtain ⟨k, hk1, hk2, rfl, HE⟩ := hrel
    by_cases hlt : k < n
    · have hcell := hc k hlt
      obtain ⟨z, hzz⟩ : ∃ z, z = zs.getD k 0 := ⟨_, rfl⟩
      rw [← hzz] at hcell
      have HZ : Hid (z = zs.getD k 0) := hzz
      clear hzz hc
      by_cases h1 : skb z = true
      · have HR : Hid (tokFrom zs pos = tokFrom zs (k + 1)) := by
          show _ = _
          rw [HE.out, tok_skip zs k (by omega) (by rw [← HZ.out]; exact h1)]
        have H1 : Hid (skb z = true) := h1
        clear HE h1
        go_wp2_with (go_at_call 10; refine (sk_yes _ _ H1.out).mono ?_; rintro e w' ⟨rfl, rfl⟩)
        go_round
        case rel => exact ⟨k + 1, by omega, by omega, by go_num, HR⟩
        case measure => simp [intOf]; omega
      · have H1 : Hid (skb z = false) := by show _ = _; simpa using h1
        have HR : Hid (tokFrom zs pos = some k) := by
          show _ = _
          rw [HE.out, tok_hit zs k (by omega) (by rw [← HZ.out]; exact H1.out)]
        clear HE h1
        go_wp2_with (go_at_call 10; refine (sk_no _ _ H1.out).mono ?_; rintro e w' ⟨rfl, rfl⟩)
        go_ret
        refine ⟨?_, rfl⟩
        rw [HR.out]; rfl
    · have HR : Hid (tokFrom zs pos = none) := by
        show _ = _
        rw [HE.out, tok_end zs k (by omega)]
      clear HE hc
      go_wp2_with fail
      go_ret
      refine ⟨?_, rfl⟩
      rw [HR.out]; rfl

set_option maxHeartbeats 400000 in
theorem ht_zero (a : Option Addr) (c : Nat) (w : World) :
    Calls Try.prog 8 #[.slice a 0 c, .int .i64 0] w fun e w' => e = .returned (.bool false) ∧ w = w' := by
  go_enter Try.func8, Try.ntmps8
  go_wp2
  refine wp_loop_rounds 1 ?_
  rw [rounds_succ]
  go_wp2
  go_ret
  exact ⟨rfl, rfl⟩

theorem ht_any (a : Option Addr) (n c : Nat) (zs : List Int) (pos : Nat) (w : World) (s : Src w a n c zs) (hn : n ≤ 524288) (hp : pos ≤ n) :
    Calls Try.prog 8 #[.slice a n c, .int .i64 pos] w fun e w' => e = .returned (.bool (tokFrom zs pos).isSome) ∧ w = w' := by
  by_cases h0 : n = 0
  · subst h0
    have e : zs = [] := List.eq_nil_of_length_eq_zero s.1
    subst e
    obtain rfl : pos = 0 := by omega
    exact ht_zero a c w
  · obtain ⟨b, off, rfl, _, hc⟩ := s.block (by omega)
    exact ht_block b off n c zs pos w s.1 hn hp hc
theorem ht_yes (a : Option Addr) (n c : Nat) (zs : List Int) (pos p : Nat) (w : World) (s : Src w a n c zs) (hn : n ≤ 524288) (hp : pos ≤ n) (H : tokFrom zs pos = some p) :
    Calls Try.prog 8 #[.slice a n c, .int .i64 pos] w fun e w' => e = .returned (.bool true) ∧ w = w' :=
  (ht_any a n c zs pos w s hn hp).mono fun _ _ ⟨he, hw⟩ => ⟨by rw [he, H]; rfl, hw⟩
theorem ht_no (a : Option Addr) (n c : Nat) (zs : List Int) (pos : Nat) (w : World) (s : Src w a n c zs) (hn : n ≤ 524288) (hp : pos ≤ n) (H : tokFrom zs pos = none) :
    Calls Try.prog 8 #[.slice a n c, .int .i64 pos] w fun e w' => e = .returned (.bool false) ∧ w = w' :=
  (ht_any a n c zs pos w s hn hp).mono fun _ _ ⟨he, hw⟩ => ⟨by rw [he, H]; rfl, hw⟩

/-! ### zzAllSeparators -/
theorem sep_end (zs : List Int) (k : Nat) (h : zs.length ≤ k) : allSep (zs.drop k) = true := by
  rw [List.drop_eq_nil_of_le h]; rfl
theorem sep_step (zs : List Int) (k : Nat) (h : k < zs.length) (e : skb (zs.getD k 0) = true) : allSep (zs.drop k) = allSep (zs.drop (k + 1)) := by
  rw [drop_at zs k h]; unfold allSep; rw [List.all_cons, e, Bool.true_and]
theorem sep_not (zs : List Int) (k : Nat) (h : k < zs.length) (e : skb (zs.getD k 0) = false) : allSep (zs.drop k) = false := by
  rw [drop_at zs k h]; unfold allSep; rw [List.all_cons, e, Bool.false_and]

set_option maxHeartbeats 400000 in
theorem as_block (b off n c : Nat) (zs : List Int) (w : World) (hz : zs.length = n) (hn : n ≤ 524288)
    (hc : ∀ k, k < n → w.cell? ⟨b, off + k, none⟩ = some (.int .u8 (zs.getD k 0))) :
    Calls Try.prog 13 #[.slice (some ⟨b, off, none⟩) n c] w fun e w' => e = .returned (.bool (allSep zs)) ∧ w = w' := by
  go_enter Try.func13, Try.ntmps13
  go_wp2
  go_loop [3] (fun i => ∃ k : Nat, k ≤ n ∧ i = .int .i64 k ∧ Hid (allSep zs = allSep (zs.drop k))) (fun i => n - (intOf i).toNat)
  case atStart => exact ⟨0, by omega, rfl, rfl⟩
  case round =>
    obtain ⟨k, hk2, rfl, HE⟩ := hrel
    by_cases hlt : k < n
    · have hcell := hc k hlt
      obtain ⟨z, hzz⟩ : ∃ z, z = zs.getD k 0 := ⟨_, rfl⟩
      rw [← hzz] at hcell
      have HZ : Hid (z = zs.getD k 0) := hzz
      clear hzz hc
      by_cases h1 : skb z = true
      · have HR : Hid (allSep zs = allSep (zs.drop (k + 1))) := by
          show _ = _
          rw [HE.out, sep_step zs k (by omega) (by rw [← HZ.out]; exact h1)]
        have H1 : Hid (skb z = true) := h1
        clear HE h1
        go_wp2_with (go_at_call 10; refine (sk_yes _ _ H1.out).mono ?_; rintro e w' ⟨rfl, rfl⟩)
        go_round
        case rel => exact ⟨k + 1, by omega, by go_num, HR⟩
        case measure => simp [intOf]; omega
      · have H1 : Hid (skb z = false) := by show _ = _; simpa using h1
        have HR : Hid (allSep zs = false) := by
          show _ = _
          rw [HE.out, sep_not zs k (by omega) (by rw [← HZ.out]; exact H1.out)]
        clear HE h1
        go_wp2_with (go_at_call 10; refine (sk_no _ _ H1.out).mono ?_; rintro e w' ⟨rfl, rfl⟩)
        go_ret
        refine ⟨?_, rfl⟩
        rw [HR.out]; rfl
    · have HR : Hid (allSep zs = true) := by
        show _ = _
        rw [HE.out, sep_end zs k (by omega)]
      clear HE hc
      go_wp2_with fail
      go_ret
      refine ⟨?_, rfl⟩
      rw [HR.out]; rfl

set_option maxHeartbeats 400000 in
theorem as_zero (a : Option Addr) (c : Nat) (w : World) :
    Calls Try.prog 13 #[.slice a 0 c] w fun e w' => e = .returned (.bool true) ∧ w = w' := by
  go_enter Try.func13, Try.ntmps13
  go_wp2
  refine wp_loop_rounds 1 ?_
  rw [rounds_succ]
  go_wp2
  go_ret
  exact ⟨rfl, rfl⟩

theorem as_any (a : Option Addr) (n c : Nat) (zs : List Int) (w : World) (s : Src w a n c zs) (hn : n ≤ 524288) :
    Calls Try.prog 13 #[.slice a n c] w fun e w' => e = .returned (.bool (allSep zs)) ∧ w = w' := by
  by_cases h0 : n = 0
  · subst h0
    have e : zs = [] := List.eq_nil_of_length_eq_zero s.1
    subst e
    exact as_zero a c w
  · obtain ⟨b, off, rfl, _, hc⟩ := s.block (by omega)
    exact as_block b off n c zs w s.1 hn hc
theorem as_yes (a : Option Addr) (n c : Nat) (zs : List Int) (w : World) (s : Src w a n c zs) (hn : n ≤ 524288) (H : allSep zs = true) :
    Calls Try.prog 13 #[.slice a n c] w fun e w' => e = .returned (.bool true) ∧ w = w' :=
  (as_any a n c zs w s hn).mono fun _ _ ⟨he, hw⟩ => ⟨by rw [he, H], hw⟩
theorem as_no (a : Option Addr) (n c : Nat) (zs : List Int) (w : World) (s : Src w a n c zs) (hn : n ≤ 524288) (H : allSep zs = false) :
    Calls Try.prog 13 #[.slice a n c] w fun e w' => e = .returned (.bool false) ∧ w = w' :=
  (as_any a n c zs w s hn).mono fun _ _ ⟨he, hw⟩ => ⟨by rw [he, H], hw⟩

/-! ### zzLines -/
set_option maxHeartbeats 400000 in
theorem ln_block (b off n c : Nat) (zs : List Int) (w : World) (hz : zs.length = n) (hn : n ≤ 1048576)
    (hc : ∀ k, k < n → w.cell? ⟨b, off + k, none⟩ = some (.int .u8 (zs.getD k 0))) :
    Calls Try.prog 11 #[.slice (some ⟨b, off, none⟩) n c] w fun e w' => e = .returned (.int .i64 (lines zs)) ∧ w = w' := by
  go_enter Try.func11, Try.ntmps11
  go_wp2
  go_loop [3, 4] (fun m i => ∃ k l : Nat, k ≤ n ∧ l ≤ k ∧ i = .int .i64 k ∧ m = .int .i64 l ∧ Hid (l = lines (zs.take k))) (fun _ i => n - (intOf i).toNat)
  case atStart => exact ⟨0, 0, by omega, by omega, rfl, rfl, rfl⟩
  case round =>
    obtain ⟨k, l, hk2, hl, rfl, rfl, HE⟩ := hrel
    by_cases hlt : k < n
    · have hcell := hc k hlt
      obtain ⟨z, hzz⟩ : ∃ z, z = zs.getD k 0 := ⟨_, rfl⟩
      rw [← hzz] at hcell
      have HZ : Hid (z = zs.getD k 0) := hzz
      clear hzz hc
      by_cases h1 : z = 10
      · have HR : Hid (l + 1 = lines (zs.take (k + 1))) := by
          show _ = _
          rw [HE.out, lines_take zs k (by omega), ← HZ.out, if_pos h1]
        clear HE
        go_wp2
        go_round
        case rel => exact ⟨k + 1, l + 1, by omega, by omega, by go_num, by go_num, HR⟩
        case measure => simp [intOf]; omega
      · have HR : Hid (l = lines (zs.take (k + 1))) := by
          show _ = _
          rw [lines_take zs k (by omega), ← HZ.out, if_neg h1, Nat.add_zero]
          exact HE.out
        clear HE
        go_wp2
        go_round
        case rel => exact ⟨k + 1, l, by omega, by omega, by go_num, rfl, HR⟩
        case measure => simp [intOf]; omega
    · have HR : Hid (l = lines zs) := by
        have e := HE.out
        rw [List.take_of_length_le (by omega)] at e
        exact e
      clear HE hc
      go_wp2
      go_ret
      refine ⟨?_, rfl⟩
      rw [← HR.out]; rfl

set_option maxHeartbeats 400000 in
theorem ln_zero (a : Option Addr) (c : Nat) (w : World) :
    Calls Try.prog 11 #[.slice a 0 c] w fun e w' => e = .returned (.int .i64 0) ∧ w = w' := by
  go_enter Try.func11, Try.ntmps11
  go_wp2
  refine wp_loop_rounds 1 ?_
  rw [rounds_succ]
  go_wp2
  go_ret
  exact ⟨rfl, rfl⟩

theorem ln_any (a : Option Addr) (n c : Nat) (zs : List Int) (w : World) (s : Src w a n c zs) (hn : n ≤ 1048576) :
    Calls Try.prog 11 #[.slice a n c] w fun e w' => e = .returned (.int .i64 (lines zs)) ∧ w = w' := by
  by_cases h0 : n = 0
  · subst h0
    have e : zs = [] := List.eq_nil_of_length_eq_zero s.1
    subst e
    exact ln_zero a c w
  · obtain ⟨b, off, rfl, _, hc⟩ := s.block (by omega)
    exact ln_block b off n c zs w s.1 hn hc
end Go.Proofs.Qxb6617151a
