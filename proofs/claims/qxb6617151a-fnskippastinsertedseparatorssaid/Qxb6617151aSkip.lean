/-
  (*keyChecker).skip (19), ZZSkip (9): their contracts.
-/
import Derived.Test.Qxb6617151aSep
import Derived.Test.Qxb6617151aSs
import Derived.OpenShut
namespace Go.Proofs.Qxb6617151a
open Go.RowKit Plain

/-- The line feeds between two places. -/
def lc (zs : List Int) (pos p : Nat) : Nat := lines (zs.take p) - lines (zs.take pos)
theorem lc_self (zs : List Int) (pos : Nat) : lc zs pos pos = 0 := by unfold lc; omega
theorem lc_feed (zs : List Int) (pos p : Nat) (hp : pos ≤ p) (h : p < zs.length) (e : zs.getD p 0 = 10) : lc zs pos (p + 1) = lc zs pos p + 1 := by
  unfold lc
  have := lines_mono zs pos p hp
  rw [lines_take zs p h, if_pos e]; omega
theorem lc_other (zs : List Int) (pos p : Nat) (h : p < zs.length) (e : zs.getD p 0 ≠ 10) : lc zs pos (p + 1) = lc zs pos p := by
  unfold lc
  rw [lines_take zs p h, if_neg e, Nat.add_zero]
theorem wrap_start (line : Int) (hw : (Lit.int .i64 line).wf = true) : line = wrap64 (line + (0 : Nat)) := by
  have := bounds_i64 hw
  unfold wrap64; omega
theorem wrap_step (line l : Int) (k : Nat) (h : l = wrap64 (line + k)) : wrap64 (l + 1) = wrap64 (line + (k + 1 : Nat)) := by
  subst h; unfold wrap64; omega

set_option maxHeartbeats 800000 in
theorem skip_any (g b off n c : Nat) (zs : List Int) (pos q : Nat) (line : Int) (w : World) (hz : zs.length = n) (hn : n ≤ 1048576) (hbg : b < g) (hw : (Lit.int .i64 line).wf = true)
    (hc : ∀ k, k < n → w.cell? ⟨b, off + k, none⟩ = some (.int .u8 (zs.getD k 0))) (hk : KC g (.slice (some ⟨b, off, none⟩) n c) w w pos line)
    (HQ : Hid (tokFrom zs pos = some q)) :
    Calls Try.prog 19 #[.pointer (some ⟨g, 0, none⟩)] w fun e w' => e = .returned (.int .u8 (zs.getD q 0)) ∧ KC g (.slice (some ⟨b, off, none⟩) n c) w w' q (wrap64 (line + (lc zs pos q : Nat))) := by
  have hq := tok_range HQ.out
  go_enter Try.func19, Try.ntmps19
  go_wp2
  go_loopg [] (n + 1) (fun m wr => ∃ p : Nat, ∃ l : Int, n ≤ m + p ∧ pos ≤ p ∧ p ≤ q ∧ Hid (tokFrom zs p = some q) ∧ Hid (l = wrap64 (line + (lc zs pos p : Nat))) ∧ KC g (.slice (some ⟨b, off, none⟩) n c) w wr p l)
  case atStart => 
    exact ⟨pos, line, by omega, by omega, by omega, HQ, (by show _ = _; rw [lc_self]; exact wrap_start line hw), hk⟩
  case round =>
    obtain ⟨p, l, hm, hpp, hpq, HP, HL, hK⟩ := hrel
    have hcell := (hK.bel.cell (p := ⟨b, off + p, none⟩) hbg).trans (hc p (by omega))
    have c2 := hK.c2
    have c3 := hK.c3
    have c4 := hK.c4
    have f3 := hK.f3
    have f4 := hK.f4
    clear hc hk
    obtain ⟨z, hzz⟩ : ∃ z, z = zs.getD p 0 := ⟨_, rfl⟩
    rw [← hzz] at hcell
    have HZ : Hid (z = zs.getD p 0) := hzz
    clear hzz
    have hpn : (p : Int) < (n : Int) := by omega
    by_cases e1 : skb z = true
    · have hs := tok_skip zs p (by omega) (HZ.out ▸ e1)
      have e1' : z = 10 ∨ z = 32 ∨ z = 9 ∨ z = 13 ∨ z = 44 ∨ z = 58 := of_decide_eq_true e1
      have HN : Hid (tokFrom zs (p + 1) = some q) := hs.symm.trans HP.out
      clear hs e1
      have hnr := tok_range HN.out
      by_cases h10 : z = 10
      · clear e1'
        go_wp2_with fail
        go_quiet (fail)
        go_wp2_with fail
        go_quiet (fail)
        go_wp2
        go_roundg (gk - 1)
        case measure => omega
        case rel =>
          refine ⟨p + 1, _, by omega, by omega, by omega, HN, ?_, (((hK.drewN _).put4 _).put3 _).to (by omega)⟩
          show _ = _
          rw [lc_feed zs pos p hpp (by omega) (HZ.out ▸ h10)]
          exact wrap_step line l _ HL.out
      · rcases e1' with h | h | h | h | h | h
        · exact absurd h h10
        all_goals
          go_wp2_with fail
          go_quiet (fail)
          go_wp2_with fail
          go_quiet (fail)
          go_wp2
          go_roundg (gk - 1)
          case measure => omega
          case rel =>
            refine ⟨p + 1, l, by omega, by omega, by omega, HN, ?_, ((hK.drewN _).put3 _).to (by omega)⟩
            show _ = _
            rw [lc_other zs pos p (by omega) (HZ.out ▸ h10)]
            exact HL.out
    · have e1' : ¬ (z = 10 ∨ z = 32 ∨ z = 9 ∨ z = 13 ∨ z = 44 ∨ z = 58) := fun h => e1 (decide_eq_true h)
      have h1 : (z == 10) = false := by simp; omega
      have h2 : (z == 32) = false := by simp; omega
      have h3 : (z == 9) = false := by simp; omega
      have h4 : (z == 13) = false := by simp; omega
      have h5 : (z == 44) = false := by simp; omega
      have h6 : (z == 58) = false := by simp; omega
      have hqp : q = p := by
        have := tok_hit zs p (by omega) (by rw [← HZ.out]; simpa using e1)
        rw [HP.out] at this
        cases this
        rfl
      subst hqp
      clear e1 e1'
      go_wp2_with fail
      go_quiet (fail)
      go_wp2_with fail
      go_quiet (fail)
      go_wp2
      go_ret
      refine ⟨?_, ?_⟩
      · rw [← HZ.out]; rfl
      · rw [← HL.out]; exact hK.drewN _

set_option maxHeartbeats 400000 in
/-- ZZSkip. -/
theorem zsk_any (b off n c : Nat) (zs : List Int) (pos q : Nat) (line : Int) (w : World) (hz : zs.length = n) (hn : n ≤ 1048576) (hb : b < w.heap.size) (hw : (Lit.int .i64 line).wf = true)
    (hc : ∀ k, k < n → w.cell? ⟨b, off + k, none⟩ = some (.int .u8 (zs.getD k 0))) (HQ : Hid (tokFrom zs pos = some q)) :
    Calls Try.prog 9 #[.slice (some ⟨b, off, none⟩) n c, .int .i64 pos, .int .i64 line] w fun e w' => e = .returned (.tuple #[.int .u8 (zs.getD q 0), .int .i64 q, .int .i64 (wrap64 (line + (lc zs pos q : Nat)))]) ∧ Below w.heap.size w w' := by
  obtain ⟨z, hzz⟩ : ∃ z, z = zs.getD q 0 := ⟨_, rfl⟩
  obtain ⟨l, hll⟩ : ∃ l, l = wrap64 (line + (lc zs pos q : Nat)) := ⟨_, rfl⟩
  have HS := fun w0 => skip_any w.heap.size b off n c zs pos q line w0 hz hn hb hw
  rw [← hzz, ← hll] at HS
  rw [← hzz, ← hll]
  have HZ : Hid (z = zs.getD q 0) := hzz
  have HL : Hid (l = wrap64 (line + (lc zs pos q : Nat))) := hll
  clear hzz hll
  go_enter Try.func9, Try.ntmps9
  go_wp2_with fail
  refine (HS _ ?_ (kc_new w _ _ _) HQ).mono ?_
  · intro k hk
    rw [World.cell?_alloc_lt _ _ _ hb]
    exact hc k hk
  · rintro e w1 ⟨rfl, hK⟩
    have c3 := hK.c3
    have c4 := hK.c4
    have hB : Hid (Below w.heap.size w w1) := ((Below.refl _ w).alloc (Nat.le_refl _) _).trans hK.bel
    clear hK hc HS
    go_wp2_with fail
    go_quiet (fail)
    go_wp2
    go_ret3
    exact ⟨rfl, below_drewN hB.out _⟩
end Go.Proofs.Qxb6617151a
