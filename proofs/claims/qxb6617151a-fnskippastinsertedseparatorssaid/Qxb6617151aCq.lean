/-
  zzClosingQuote (16): its contract.
-/
import Derived.Test.Qxb6617151aRows
import Derived.Test.Qxb6617151aPlain
import Derived.WalkKit
namespace Go.Proofs.Qxb6617151a
open Go.RowKit Plain

theorem ret_int {k : IntKind} {a b : Int} (h : a = b) : Ending.returned (.int k a) = .returned (.int k b) := by rw [h]

theorem par_succ (r : Nat) : (!(r % 2 == 1)) = ((r + 1) % 2 == 1) := by
  rcases Nat.mod_two_eq_zero_or_one r with h | h <;> simp [h, Nat.add_mod]

def cqI (o : Option Nat) : Int := match o with | none => -1 | some q => (q : Int)

set_option maxHeartbeats 400000 in
theorem cq_any (b off n c : Nat) (zs : List Int) (pos : Nat) (w : World) (hz : zs.length = n) (hn : n ≤ 524288) (hp : pos < n)
    (hc : ∀ k, k < n → w.cell? ⟨b, off + k, none⟩ = some (.int .u8 (zs.getD k 0))) :
    Calls Try.prog 16 #[.slice (some ⟨b, off, none⟩) n c, .int .i64 pos] w fun e w' => e = .returned (.int .i64 (cqI (closeFrom zs (pos + 1) false))) ∧ w = w' := by
  go_enter Try.func16, Try.ntmps16
  go_wp2
  go_loop [5, 6] (fun run i => ∃ k r : Nat, pos + 1 ≤ k ∧ k ≤ n ∧ r ≤ k ∧ i = .int .i64 k ∧ run = .int .i64 r ∧ Hid (closeFrom zs (pos + 1) false = closeFrom zs k (r % 2 == 1))) (fun _ i => n - (intOf i).toNat)
  case atStart => exact ⟨pos + 1, 0, by omega, by omega, by omega, by go_num, rfl, rfl⟩
  case round =>
    obtain ⟨k, r, hk1, hk2, hr, rfl, rfl, HE⟩ := hrel
    by_cases hlt : k < n
    · have hcell := hc k hlt
      obtain ⟨z, hzz⟩ : ∃ z, z = zs.getD k 0 := ⟨_, rfl⟩
      rw [← hzz] at hcell
      have HZ : Hid (z = zs.getD k 0) := hzz
      clear hzz hc
      by_cases h1 : z = 34
      · have e34 : zs.getD k 0 = 34 := by rw [← HZ.out]; exact h1
        by_cases h2 : r % 2 = 0
        · have h2' : (r : Int) % 2 = 0 := by omega
          have HR : Hid (closeFrom zs (pos + 1) false = some k) := by
            show _ = _
            rw [HE.out, show (r % 2 == 1) = false by simp [h2]]
            exact close_hit zs k (by omega) e34
          clear HE e34
          go_wp2
          go_ret
          exact ⟨ret_int (by rw [HR.out]; rfl), rfl⟩
        · have h2' : (r : Int) % 2 = 1 := by omega
          have HR : Hid (closeFrom zs (pos + 1) false = closeFrom zs (k + 1) false) := by
            show _ = _
            rw [HE.out, show (r % 2 == 1) = true by simp; omega]
            exact close_esc zs k (by omega) e34
          clear HE e34
          go_wp2
          go_round
          case rel => exact ⟨k + 1, 0, by omega, by omega, by omega, by go_num, rfl, HR⟩
          case measure => simp [intOf]; omega
      · by_cases h2 : z = 92
        · have HR : Hid (closeFrom zs (pos + 1) false = closeFrom zs (k + 1) ((r + 1) % 2 == 1)) := by
            show _ = _
            rw [HE.out, close_back zs k _ (by omega) (by rw [← HZ.out]; exact h2)]
            rw [par_succ]
          clear HE
          go_wp2
          go_round
          case rel => exact ⟨k + 1, r + 1, by omega, by omega, by omega, by go_num, by go_num, HR⟩
          case measure => simp [intOf]; omega
        · have HR : Hid (closeFrom zs (pos + 1) false = closeFrom zs (k + 1) false) := by
            show _ = _
            rw [HE.out, close_other zs k _ (by omega) (by rw [← HZ.out]; exact h1) (by rw [← HZ.out]; exact h2)]
          clear HE
          go_wp2
          go_round
          case rel => exact ⟨k + 1, 0, by omega, by omega, by omega, by go_num, rfl, HR⟩
          case measure => simp [intOf]; omega
    · have HR : Hid (closeFrom zs (pos + 1) false = none) := by
        show _ = _
        rw [HE.out, close_end zs k _ (by omega)]
      clear HE hc
      go_wp2
      go_ret
      exact ⟨ret_int (by rw [HR.out]; rfl), rfl⟩

theorem cq_none (b off n c : Nat) (zs : List Int) (pos : Nat) (w : World) (hz : zs.length = n) (hn : n ≤ 524288) (hp : pos < n)
    (hc : ∀ k, k < n → w.cell? ⟨b, off + k, none⟩ = some (.int .u8 (zs.getD k 0))) (H : Hid (closeFrom zs (pos + 1) false = none)) :
    Calls Try.prog 16 #[.slice (some ⟨b, off, none⟩) n c, .int .i64 pos] w fun e w' => e = .returned (.int .i64 (-1)) ∧ w = w' :=
  (cq_any b off n c zs pos w hz hn hp hc).mono fun _ _ ⟨he, hw⟩ => ⟨by rw [he, H.out]; rfl, hw⟩
theorem cq_some (b off n c : Nat) (zs : List Int) (pos q : Nat) (w : World) (hz : zs.length = n) (hn : n ≤ 524288) (hp : pos < n)
    (hc : ∀ k, k < n → w.cell? ⟨b, off + k, none⟩ = some (.int .u8 (zs.getD k 0))) (H : Hid (closeFrom zs (pos + 1) false = some q)) :
    Calls Try.prog 16 #[.slice (some ⟨b, off, none⟩) n c, .int .i64 pos] w fun e w' => e = .returned (.int .i64 (q : Int)) ∧ w = w' :=
  (cq_any b off n c zs pos w hz hn hp hc).mono fun _ _ ⟨he, hw⟩ => ⟨by rw [he, H.out]; rfl, hw⟩
end Go.Proofs.Qxb6617151a
