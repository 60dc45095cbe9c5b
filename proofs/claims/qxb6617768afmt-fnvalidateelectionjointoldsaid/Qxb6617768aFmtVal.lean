/-
  electionChar (12), ValidateElection (8): their contracts, FOR EVERY F.
-/
import Derived.Test.Qxb6617768aFmtErrs
namespace Go.Proofs.Qxb6617768aFmt
open Go.RowKit Go.Extern.Stop Go.Stop Go.Extern

/-- May the character stand in an election's name? -/
def ec (x : Int) : Bool := decide ((97 ≤ x ∧ x ≤ 122) ∨ (65 ≤ x ∧ x ≤ 90) ∨ (48 ≤ x ∧ x ≤ 57) ∨ x = 46 ∨ x = 95 ∨ x = 45)

set_option maxHeartbeats 800000 in
theorem ec_yes (x : Int) (w : World) (h : ec x = true) : Calls Tryf.prog 12 #[.int .i32 x] w fun e w' => e = .returned (.bool true) ∧ w = w' := by
  have h' : (97 ≤ x ∧ x ≤ 122) ∨ (65 ≤ x ∧ x ≤ 90) ∨ (48 ≤ x ∧ x ≤ 57) ∨ x = 46 ∨ x = 95 ∨ x = 45 := of_decide_eq_true h
  clear h
  rcases h' with ⟨h1, h2⟩ | ⟨h1, h2⟩ | ⟨h1, h2⟩ | rfl | rfl | rfl
  all_goals
    go_enter Tryf.func12, Tryf.ntmps12
    go_wp2
    go_ret
    exact ⟨rfl, rfl⟩
set_option maxHeartbeats 800000 in
theorem ec_no (x : Int) (w : World) (h : ec x = false) : Calls Tryf.prog 12 #[.int .i32 x] w fun e w' => e = .returned (.bool false) ∧ w = w' := by
  have h' : ¬ ((97 ≤ x ∧ x ≤ 122) ∨ (65 ≤ x ∧ x ≤ 90) ∨ (48 ≤ x ∧ x ≤ 57) ∨ x = 46 ∨ x = 95 ∨ x = 45) := of_decide_eq_false h
  have h3 : x < 45 ∨ x = 47 ∨ (58 ≤ x ∧ x ≤ 64) ∨ (91 ≤ x ∧ x ≤ 94) ∨ x = 96 ∨ 123 ≤ x := by omega
  have e1 : (x == 46) = false := by simp; omega
  have e2 : (x == 95) = false := by simp; omega
  have e3 : (x == 45) = false := by simp; omega
  clear h h'
  rcases h3 with h1 | rfl | ⟨h1, h2⟩ | ⟨h1, h2⟩ | rfl | h1
  all_goals
    go_enter Tryf.func12, Tryf.ntmps12
    go_wp2
    go_ret
    exact ⟨rfl, rfl⟩

/-- Are all bytes of the string from place k on fit for an election's name? -/
def okFrom (s : ByteArray) (k : Nat) : Bool := (s.data.toList.drop k).all fun c => ec (c.toNat : Int)

theorem ok_end (s : ByteArray) (k : Nat) (h : ¬ k < s.size) : okFrom s k = true := by
  unfold okFrom
  rw [List.drop_eq_nil_of_le (by simpa using h)]; rfl
theorem drop_cons (s : ByteArray) (k : Nat) (h : k < s.size) : s.data.toList.drop k = s[k] :: s.data.toList.drop (k + 1) := by
  rw [List.drop_eq_getElem_cons (by simpa using h)]; rfl
theorem ok_step (s : ByteArray) (k : Nat) (h : k < s.size) (e : ec (s[k].toNat : Int) = true) : okFrom s k = okFrom s (k + 1) := by
  unfold okFrom
  rw [drop_cons s k h, List.all_cons, e, Bool.true_and]
theorem ok_not (s : ByteArray) (k : Nat) (h : k < s.size) (e : ec (s[k].toNat : Int) = false) : okFrom s k = false := by
  unfold okFrom
  rw [drop_cons s k h, List.all_cons, e, Bool.false_and]
theorem ec_high (x : Int) (h : 128 ≤ x) : ec x = false := decide_eq_false (by omega)

theorem ne_empty (s : ByteArray) (h : 0 < s.size) : s.toList.isEmpty = false := by
  rw [ByteArray.toList_eq]
  have hl : s.data.toList.length = s.size := by simp
  cases hd : s.data.toList with
  | nil => rw [hd] at hl; simp at hl; omega
  | cons a r => rfl

theorem below_iter (w : World) (s : ByteArray) (k : Nat) : Below w.heap.size w (w.iter s k) := (Below.refl _ w).alloc (Nat.le_refl _) _
theorem below_err {w w1 : World} {s : ByteArray} {k : Nat} {o : Obj} (bel : Below ((w.iter s k).alloc o).heap.size ((w.iter s k).alloc o) w1) : Below w.heap.size w w1 := by
  have h1 := (below_iter w s k).alloc (below_iter w s k).size o
  exact h1.trans (bel.mono h1.size)

set_option maxHeartbeats 1600000 in
/-- A name of 1 to 64 bytes. -/
theorem ve_loop (F : Interp) (s : ByteArray) (w : World) (hF : F.answers w.tape) (h1 : 0 < s.size) (h2 : s.size ≤ 64) :
    Calls Tryf.prog 8 #[.string s] w fun e w' => ((okFrom s 0 = true ∧ e = .returned .nilIface) ∨ (okFrom s 0 = false ∧ ∃ p, e = .returned (.iface 40 (.pointer (some p))))) ∧ Below w.heap.size w w' := by
  have hne := ne_empty s h1
  go_enter Tryf.func8, Tryf.ntmps8
  go_wp2
  go_loopw [] (fun w' => ∃ pos : Nat, w' = w.iter s pos ∧ Hid (okFrom s 0 = okFrom s pos)) (fun w' => s.size - w'.iterPos w.heap.size)
  case atStart => exact ⟨0, rfl, rfl⟩
  case round =>
    obtain ⟨pos, rfl, HO⟩ := hrel
    by_cases hp : pos < s.size
    · by_cases ha : (s[pos]'hp).toNat < 128
      · obtain ⟨z, hz⟩ : ∃ z : Int, z = ((s[pos]'hp).toNat : Int) := ⟨_, rfl⟩
        have hnx : ∀ ty, (Instr.next (.pointer (some ⟨w.heap.size, 0, none⟩)) true ty).run Tryf.prog (w.iter s pos) = .ok (.tuple #[.bool true, .int .i64 pos, .int .i32 z]) (w.iter s (pos + 1)) := fun ty => by rw [hz]; exact run_next_ascii w s pos ty hp ha
        have HZ : Hid (z = ((s[pos]'hp).toNat : Int)) := hz
        clear hz ha
        by_cases he : ec z = true
        · have HE : Hid (ec z = true) := he
          have HR : Hid (okFrom s 0 = okFrom s (pos + 1)) := HO.out.trans (ok_step s pos hp (by rw [← HZ.out]; exact he))
          clear he HO HZ
          go_wp2_with (go_at_call 12; refine (ec_yes z _ HE.out).mono ?_; rintro e w' ⟨rfl, rfl⟩)
          go_roundw
          case rel => exact ⟨pos + 1, rfl, HR⟩
          case measure =>
            simp
            omega
        · have HE : Hid (ec z = false) := by show _ = _; simpa using he
          have HR : Hid (okFrom s 0 = false) := HO.out.trans (ok_not s pos hp (by rw [← HZ.out]; exact HE.out))
          clear he HO HZ
          go_wp2_with (go_at_call 12; refine (ec_no z _ HE.out).mono ?_; rintro e w' ⟨rfl, rfl⟩)
          refine (errorf1 F s z _ _ (by exact hF) ?_ ?_).mono ?_
          · simp
          · simp
          · rintro e w1 ⟨⟨p, rfl⟩, bel⟩
            have HB : Hid (Below w.heap.size w w1) := below_err bel
            clear bel
            go_wp2
            go_ret
            exact ⟨.inr ⟨HR.out, p, rfl⟩, HB.out⟩
      · obtain ⟨z, hz⟩ : ∃ z : Int, z = ((Utf8.decode s pos).1 : Int) := ⟨_, rfl⟩
        obtain ⟨np, hnp⟩ : ∃ np : Nat, np = pos + (Utf8.decode s pos).2 := ⟨_, rfl⟩
        have hnx : ∀ ty, (Instr.next (.pointer (some ⟨w.heap.size, 0, none⟩)) true ty).run Tryf.prog (w.iter s pos) = .ok (.tuple #[.bool true, .int .i64 pos, .int .i32 z]) (w.iter s np) := fun ty => by rw [hz, hnp]; exact run_next_any w s pos ty hp
        have HE : Hid (ec z = false) := by
          show _ = _
          rw [hz]
          have := (decode_high s pos hp (by omega)).1
          exact ec_high _ (by omega)
        have HR : Hid (okFrom s 0 = false) := HO.out.trans (ok_not s pos hp (ec_high _ (by omega)))
        clear HO hz hnp ha
        go_wp2_with (go_at_call 12; refine (ec_no z _ HE.out).mono ?_; rintro e w' ⟨rfl, rfl⟩)
        refine (errorf1 F s z _ _ (by exact hF) ?_ ?_).mono ?_
        · simp
        · simp
        · rintro e w1 ⟨⟨p, rfl⟩, bel⟩
          have HB : Hid (Below w.heap.size w w1) := below_err bel
          clear bel
          go_wp2
          go_ret
          exact ⟨.inr ⟨HR.out, p, rfl⟩, HB.out⟩
    · have hnx : ∀ ty, (Instr.next (.pointer (some ⟨w.heap.size, 0, none⟩)) true ty).run Tryf.prog (w.iter s pos) = _ := fun ty => run_next_end w s pos ty hp
      have HR : Hid (okFrom s 0 = true) := HO.out.trans (ok_end s pos hp)
      go_wp2
      go_ret
      exact ⟨.inl ⟨HR.out, rfl⟩, (Below.refl _ _).alloc (Nat.le_refl _) _⟩

set_option maxHeartbeats 800000 in
/-- The empty name. -/
theorem ve_empty (F : Interp) (s : ByteArray) (w : World) (hF : F.answers w.tape) (h1 : s.size = 0) :
    Calls Tryf.prog 8 #[.string s] w fun e w' => (∃ p, e = .returned (.iface 40 (.pointer (some p)))) ∧ Below w.heap.size w w' := by
  have hne : s.toList.isEmpty = true := by
    rw [ByteArray.toList_eq]
    have hl : s.data.toList.length = s.size := by simp
    rw [List.isEmpty_iff]
    exact List.eq_nil_of_length_eq_zero (by omega)
  clear h1
  go_enter Tryf.func8, Tryf.ntmps8
  go_wp2_with fail
  refine (errorf0 F s _ _ (by exact hF) ?_ ?_).mono ?_
  · simp
  · simp
  · rintro e w1 ⟨⟨p, rfl⟩, bel⟩
    have HB : Hid (Below w.heap.size w w1) := ((Below.refl _ w).alloc (Nat.le_refl _) _).trans (bel.mono (by simp))
    clear bel
    go_wp2
    go_ret
    exact ⟨⟨p, rfl⟩, HB.out⟩

set_option maxHeartbeats 800000 in
/-- A name of more than 64 bytes. -/
theorem ve_long (F : Interp) (s : ByteArray) (w : World) (hF : F.answers w.tape) (h1 : 64 < s.size) :
    Calls Tryf.prog 8 #[.string s] w fun e w' => (∃ p, e = .returned (.iface 40 (.pointer (some p)))) ∧ Below w.heap.size w w' := by
  have hne := ne_empty s (by omega)
  go_enter Tryf.func8, Tryf.ntmps8
  go_wp2_with fail
  refine (errorf0 F s _ _ (by exact hF) ?_ ?_).mono ?_
  · simp
  · simp
  · rintro e w1 ⟨⟨p, rfl⟩, bel⟩
    have HB : Hid (Below w.heap.size w w1) := ((Below.refl _ w).alloc (Nat.le_refl _) _).trans (bel.mono (by simp))
    clear bel
    go_wp2
    go_ret
    exact ⟨⟨p, rfl⟩, HB.out⟩

/-- Is the name accepted? -/
def okName (s : ByteArray) : Bool := decide (0 < s.size ∧ s.size ≤ 64) && okFrom s 0

theorem ve_yes (F : Interp) (s : ByteArray) (w : World) (hF : F.answers w.tape) (h : okName s = true) :
    Calls Tryf.prog 8 #[.string s] w fun e w' => e = .returned .nilIface ∧ Below w.heap.size w w' := by
  unfold okName at h
  rw [Bool.and_eq_true] at h
  have h1 := of_decide_eq_true h.1
  refine (ve_loop F s w hF h1.1 h1.2).mono ?_
  rintro e w' ⟨⟨_, he⟩ | ⟨hf, _⟩, hb⟩
  · exact ⟨he, hb⟩
  · rw [h.2] at hf; cases hf
theorem ve_no (F : Interp) (s : ByteArray) (w : World) (hF : F.answers w.tape) (h : okName s = false) :
    Calls Tryf.prog 8 #[.string s] w fun e w' => (∃ p, e = .returned (.iface 40 (.pointer (some p)))) ∧ Below w.heap.size w w' := by
  by_cases h0 : s.size = 0
  · exact ve_empty F s w hF h0
  · by_cases h64 : 64 < s.size
    · exact ve_long F s w hF h64
    · refine (ve_loop F s w hF (by omega) (by omega)).mono ?_
      rintro e w' ⟨⟨ht, _⟩ | ⟨_, he⟩, hb⟩
      · unfold okName at h
        rw [ht, decide_eq_true (by omega)] at h
        cases h
      · exact ⟨he, hb⟩
end Go.Proofs.Qxb6617768aFmt
