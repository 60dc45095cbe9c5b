/-
  zzEscapeSafe (15): its contract.
-/
import Derived.Test.Qxb6617151aBytes
import Derived.Test.Qxb6617151aCq
namespace Go.Proofs.Qxb6617151a
open Go.RowKit Plain

theorem ret_bool {a b : Bool} (h : a = b) : Ending.returned (.bool a) = .returned (.bool b) := by rw [h]

set_option maxHeartbeats 400000 in
theorem es_block (b off n c : Nat) (zs : List Int) (w : World) (hz : zs.length = n) (hn : n ≤ 524288)
    (hc : ∀ k, k < n → w.cell? ⟨b, off + k, none⟩ = some (.int .u8 (zs.getD k 0))) :
    Calls Try.prog 15 #[.slice (some ⟨b, off, none⟩) n c] w fun e w' => e = .returned (.bool (safeFrom zs 0 false)) ∧ w = w' := by
  go_enter Try.func15, Try.ntmps15
  go_wp2
  go_loop [3, 4] (fun run i => ∃ k r : Nat, k ≤ n ∧ r ≤ k ∧ i = .int .i64 k ∧ run = .int .i64 r ∧ Hid (safeFrom zs 0 false = safeFrom zs k (r % 2 == 1))) (fun _ i => n - (intOf i).toNat)
  case atStart => exact ⟨0, 0, by omega, by omega, rfl, rfl, rfl⟩
  case round =>
    obtain ⟨k, r, hk2, hr, rfl, rfl, HE⟩ := hrel
    by_cases hlt : k < n
    · have hcell := hc k hlt
      obtain ⟨z, hzz⟩ : ∃ z, z = zs.getD k 0 := ⟨_, rfl⟩
      rw [← hzz] at hcell
      have HZ : Hid (z = zs.getD k 0) := hzz
      clear hzz hc
      by_cases h1 : z = 34
      · have e34 : zs.getD k 0 = 34 := by rw [← HZ.out]; exact h1
        by_cases h2 : r % 2 = 0
        · have h2' : (r : Int) % 2 = 0 := by omega
          have HR : Hid (safeFrom zs 0 false = false) := by
            show _ = _
            rw [HE.out, show (r % 2 == 1) = false by simp [h2]]
            exact safe_quote zs k (by omega) e34
          clear HE e34
          go_wp2
          go_ret
          exact ⟨ret_bool HR.out.symm, rfl⟩
        · have h2' : (r : Int) % 2 = 1 := by omega
          have HR : Hid (safeFrom zs 0 false = safeFrom zs (k + 1) false) := by
            show _ = _
            rw [HE.out, show (r % 2 == 1) = true by simp; omega]
            exact safe_esc zs k (by omega) e34
          clear HE e34
          go_wp2
          go_round
          case rel => exact ⟨k + 1, 0, by omega, by omega, by go_num, rfl, HR⟩
          case measure => simp [intOf]; omega
      · by_cases h2 : z = 92
        · have HR : Hid (safeFrom zs 0 false = safeFrom zs (k + 1) ((r + 1) % 2 == 1)) := by
            show _ = _
            rw [HE.out, safe_back zs k _ (by omega) (by rw [← HZ.out]; exact h2)]
            rw [par_succ]
          clear HE
          go_wp2
          go_round
          case rel => exact ⟨k + 1, r + 1, by omega, by omega, by go_num, by go_num, HR⟩
          case measure => simp [intOf]; omega
        · have HR : Hid (safeFrom zs 0 false = safeFrom zs (k + 1) false) := by
            show _ = _
            rw [HE.out, safe_other zs k _ (by omega) (by rw [← HZ.out]; exact h1) (by rw [← HZ.out]; exact h2)]
          clear HE
          go_wp2
          go_round
          case rel => exact ⟨k + 1, 0, by omega, by omega, by go_num, rfl, HR⟩
          case measure => simp [intOf]; omega
    · have HR : Hid (safeFrom zs 0 false = !(r % 2 == 1)) := by
        show _ = _
        rw [HE.out, safe_end zs k _ (by omega)]
      clear HE hc
      by_cases h2 : r % 2 = 0
      · have h2' : (r : Int) % 2 = 0 := by omega
        go_wp2
        go_ret
        exact ⟨ret_bool (by rw [HR.out]; simp [h2]), rfl⟩
      · have h2' : (r : Int) % 2 = 1 := by omega
        go_wp2
        go_ret
        exact ⟨ret_bool (by rw [HR.out]; simp; omega), rfl⟩

set_option maxHeartbeats 400000 in
theorem es_zero (a : Option Addr) (c : Nat) (w : World) :
    Calls Try.prog 15 #[.slice a 0 c] w fun e w' => e = .returned (.bool true) ∧ w = w' := by
  go_enter Try.func15, Try.ntmps15
  go_wp2
  refine wp_loop_rounds 1 ?_
  rw [rounds_succ]
  go_wp2
  go_ret
  exact ⟨rfl, rfl⟩

theorem es_any (a : Option Addr) (n c : Nat) (zs : List Int) (w : World) (s : Src w a n c zs) (hn : n ≤ 524288) :
    Calls Try.prog 15 #[.slice a n c] w fun e w' => e = .returned (.bool (safe false zs)) ∧ w = w' := by
  by_cases h0 : n = 0
  · subst h0
    have e : zs = [] := List.eq_nil_of_length_eq_zero s.1
    subst e
    exact es_zero a c w
  · obtain ⟨b, off, rfl, _, hc⟩ := s.block (by omega)
    exact es_block b off n c zs w s.1 hn hc
theorem es_yes (a : Option Addr) (n c : Nat) (zs : List Int) (w : World) (s : Src w a n c zs) (hn : n ≤ 524288) (H : safe false zs = true) :
    Calls Try.prog 15 #[.slice a n c] w fun e w' => e = .returned (.bool true) ∧ w = w' :=
  (es_any a n c zs w s hn).mono fun _ _ ⟨he, hw⟩ => ⟨by rw [he, H], hw⟩
theorem es_no (a : Option Addr) (n c : Nat) (zs : List Int) (w : World) (s : Src w a n c zs) (hn : n ≤ 524288) (H : safe false zs = false) :
    Calls Try.prog 15 #[.slice a n c] w fun e w' => e = .returned (.bool false) ∧ w = w' :=
  (es_any a n c zs w s hn).mono fun _ _ ⟨he, hw⟩ => ⟨by rw [he, H], hw⟩
end Go.Proofs.Qxb6617151a
