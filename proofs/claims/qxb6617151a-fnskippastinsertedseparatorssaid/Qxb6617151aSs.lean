/-
  (*keyChecker).skipString (20), ZZSkipString (17): their contracts.
-/
import Derived.Test.Qxb6617151aCq
import Derived.Deep.LoopGhost
import Derived.Deep.QuietTactic
import Derived.BigQuiet
import Derived.WalkSmall
namespace Go.Proofs.Qxb6617151a
open Go.RowKit Plain

/-- The walker in memory: block g of the world wr holds the slice d, the place p and the line l; below g the world is as w was. -/
structure KC (g : Nat) (d : Value) (w wr : World) (p l : Int) : Prop where
  bel : Below g w wr
  c2 : wr.cell? ⟨g, 2, none⟩ = some d
  c3 : wr.cell? ⟨g, 3, none⟩ = some (.int .i64 p)
  c4 : wr.cell? ⟨g, 4, none⟩ = some (.int .i64 l)
  f3 : wr.frozen? ⟨g, 3, none⟩ = false
  f4 : wr.frozen? ⟨g, 4, none⟩ = false

theorem KC.drewN {g : Nat} {d : Value} {w wr : World} {p l : Int} (h : KC g d w wr p l) (n : Nat) : KC g d w (wr.drewN n) p l :=
  ⟨below_drewN h.bel n, h.c2, h.c3, h.c4, h.f3, h.f4⟩

theorem KC.put3 {g : Nat} {d : Value} {w wr : World} {p l : Int} (h : KC g d w wr p l) (p' : Int) : KC g d w (wr.setCell ⟨g, 3, none⟩ (.int .i64 p')) p' l :=
  ⟨h.bel.setCell (Nat.le_refl _) _, (World.cell?_setCell_other _ _ _ _ (by simp)).trans h.c2, World.cell?_setCell_same _ _ _ h.c3,
    (World.cell?_setCell_other _ _ _ _ (by simp)).trans h.c4, (World.frozen?_setCell _ _ _ _).trans h.f3, (World.frozen?_setCell _ _ _ _).trans h.f4⟩

theorem KC.put4 {g : Nat} {d : Value} {w wr : World} {p l : Int} (h : KC g d w wr p l) (l' : Int) : KC g d w (wr.setCell ⟨g, 4, none⟩ (.int .i64 l')) p l' :=
  ⟨h.bel.setCell (Nat.le_refl _) _, (World.cell?_setCell_other _ _ _ _ (by simp)).trans h.c2, (World.cell?_setCell_other _ _ _ _ (by simp)).trans h.c3,
    World.cell?_setCell_same _ _ _ h.c4, (World.frozen?_setCell _ _ _ _).trans h.f3, (World.frozen?_setCell _ _ _ _).trans h.f4⟩

theorem KC.to {g : Nat} {d : Value} {w wr : World} {p p' l : Int} (h : KC g d w wr p l) (e : p = p') : KC g d w wr p' l := e ▸ h

set_option maxHeartbeats 400000 in
theorem ss_any (g b off n c : Nat) (zs : List Int) (pos q : Nat) (line : Int) (w : World) (hz : zs.length = n) (hn : n ≤ 1048576) (hbg : b < g)
    (hc : ∀ k, k < n → w.cell? ⟨b, off + k, none⟩ = some (.int .u8 (zs.getD k 0))) (hk : KC g (.slice (some ⟨b, off, none⟩) n c) w w pos line)
    (HQ : Hid (closeFrom zs (pos + 1) false = some q)) :
    Calls Try.prog 20 #[.pointer (some ⟨g, 0, none⟩)] w fun e w' => e = .returned (.tuple #[]) ∧ KC g (.slice (some ⟨b, off, none⟩) n c) w w' ((q : Int) + 1) line := by
  have hq := close_range HQ.out
  have h3 := hk.c3
  have hf := hk.f3
  go_enter Try.func20, Try.ntmps20
  go_wp2
  go_loopg [] (n + 1) (fun m wr => ∃ p : Nat, n ≤ m + p ∧ p ≤ q ∧ Hid (closeFrom zs p false = some q) ∧ KC g (.slice (some ⟨b, off, none⟩) n c) w wr p line)
  case atStart => exact ⟨pos + 1, by omega, by omega, HQ, (hk.put3 _).to (by omega)⟩
  case round =>
    obtain ⟨p, hm, hpq, HP, hK⟩ := hrel
    have hcell := (hK.bel.cell (p := ⟨b, off + p, none⟩) hbg).trans (hc p (by omega))
    have c2 := hK.c2
    have c3 := hK.c3
    have f3 := hK.f3
    clear hc h3 hf hk
    obtain ⟨z, hzz⟩ : ∃ z, z = zs.getD p 0 := ⟨_, rfl⟩
    rw [← hzz] at hcell
    have HZ : Hid (z = zs.getD p 0) := hzz
    clear hzz
    have hpn : (p : Int) < (n : Int) := by omega
    by_cases e1 : z = 34
    · have hqp := close_here HP.out (HZ.out ▸ e1)
      subst hqp
      go_wp2_with fail
      go_quiet (fail)
      go_wp2
      go_end0
      exact ⟨rfl, (hK.drewN _).put3 _⟩
    · by_cases e2 : z = 92
      · have h2 := close_two HP.out (HZ.out ▸ e2)
        have H2 : Hid (closeFrom zs (p + 2) false = some q) := h2.2
        have hr := close_range h2.2
        clear h2
        go_wp2_with fail
        go_quiet (fail)
        go_wp2_with fail
        go_quiet (fail)
        go_wp2
        go_roundg (gk - 1)
        case measure => omega
        case rel => exact ⟨p + 2, by omega, by omega, H2, (((hK.drewN _).put3 _).put3 _).to (by omega)⟩
      · have h1 := close_one HP.out (HZ.out ▸ e1) (HZ.out ▸ e2)
        have hr := close_range h1
        have H1 : Hid (closeFrom zs (p + 1) false = some q) := h1
        clear h1
        go_wp2_with fail
        go_quiet (fail)
        go_wp2_with fail
        go_quiet (fail)
        go_wp2
        go_roundg (gk - 1)
        case measure => omega
        case rel => exact ⟨p + 1, by omega, by omega, H1, ((hK.drewN _).put3 _).to (by omega)⟩

/-- The walker as '&keyChecker{data: d, pos: p, line: l}' lays it. -/
theorem kc_new (w : World) (d : Value) (p l : Int) : KC w.heap.size d (w.alloc (.cells #[.string { data := #[] }, .string { data := #[] }, d, .int .i64 p, .int .i64 l, .slice none 0 0] 37)) (w.alloc (.cells #[.string { data := #[] }, .string { data := #[] }, d, .int .i64 p, .int .i64 l, .slice none 0 0] 37)) p l :=
  ⟨Below.refl _ _, by simp, by simp, by simp, by simp [go_sem], by simp [go_sem]⟩

set_option maxHeartbeats 400000 in
/-- ZZSkipString. -/
theorem zss_any (b off n c : Nat) (zs : List Int) (pos q : Nat) (line : Int) (w : World) (hz : zs.length = n) (hn : n ≤ 1048576) (hb : b < w.heap.size)
    (hc : ∀ k, k < n → w.cell? ⟨b, off + k, none⟩ = some (.int .u8 (zs.getD k 0))) (HQ : Hid (closeFrom zs (pos + 1) false = some q)) :
    Calls Try.prog 17 #[.slice (some ⟨b, off, none⟩) n c, .int .i64 pos, .int .i64 line] w fun e w' => e = .returned (.tuple #[.int .i64 ((q : Int) + 1), .int .i64 line]) ∧ Below w.heap.size w w' := by
  go_enter Try.func17, Try.ntmps17
  go_wp2_with fail
  refine (ss_any w.heap.size b off n c zs pos q line _ hz hn hb ?_ (kc_new w _ _ _) HQ).mono ?_
  · intro k hk
    rw [World.cell?_alloc_lt _ _ _ hb]
    exact hc k hk
  · rintro e w1 ⟨rfl, hK⟩
    have c3 := hK.c3
    have c4 := hK.c4
    have hB : Hid (Below w.heap.size w w1) := ((Below.refl _ w).alloc (Nat.le_refl _) _).trans hK.bel
    clear hK hc
    go_wp2_with fail
    go_quiet (fail)
    go_wp2
    go_ret2
    exact ⟨rfl, below_drewN hB.out _⟩
end Go.Proofs.Qxb6617151a
