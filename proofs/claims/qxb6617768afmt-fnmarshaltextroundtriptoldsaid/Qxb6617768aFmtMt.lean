/-
  (State).MarshalText (5), (*State).UnmarshalText (6), FnMarshalTextRoundTrip (3): the walks, FOR EVERY F.
-/
import Derived.Test.Qxb6617768aFmtErrs
import Derived.Laws.IdiomStrings
import Derived.Lib.SliceRun
import Derived.WalkLawsBesides
namespace Go.Proofs.Qxb6617768aFmt
open Go.RowKit Go.Extern.Stop Go.Stop Go.Extern

theorem known_yes (x : Int) (w : World) (h : x = 1 ∨ x = 2) : Calls Tryf.prog 9 #[.int .i64 x] w fun e w' => e = .returned (.bool true) ∧ w = w' := by
  rcases h with rfl | rfl
  all_goals
    go_enter Tryf.func9, Tryf.ntmps9
    go_wp2
    go_ret
    exact ⟨rfl, rfl⟩
theorem known_no (x : Int) (w : World) (h1 : x ≠ 1) (h2 : x ≠ 2) : Calls Tryf.prog 9 #[.int .i64 x] w fun e w' => e = .returned (.bool false) ∧ w = w' := by
  have e1 : (x == 1) = false := beq_eq_false_iff_ne.2 h1
  have e2 : (x == 2) = false := beq_eq_false_iff_ne.2 h2
  go_enter Tryf.func9, Tryf.ntmps9
  go_wp2
  go_ret
  exact ⟨rfl, rfl⟩

set_option maxHeartbeats 800000 in
/-- MarshalText at an unknown state. -/
theorem mt_other (F : Interp) (x : Int) (w : World) (hF : F.answers w.tape) (h1 : x ≠ 1) (h2 : x ≠ 2) :
    Calls Tryf.prog 5 #[.int .i64 x] w fun e w' => (∃ p, e = .returned (.tuple #[.slice none 0 0, .iface 40 (.pointer (some p))])) ∧ Below w.heap.size w w' := by
  go_enter Tryf.func5, Tryf.ntmps5
  go_wp2_with (go_at_call 9; refine (known_no x _ h1 h2).mono ?_; rintro e w' ⟨rfl, rfl⟩)
  refine (errorf2 F x _ _ (by exact hF) (by simp) h1 h2 (by simp)).mono ?_
  rintro e w1 ⟨⟨p, rfl⟩, bel⟩
  have HB : Hid (Below w.heap.size w w1) := ((Below.refl _ w).alloc (Nat.le_refl _) _).trans (bel.mono (by simp))
  clear bel
  go_wp2
  go_ret2
  exact ⟨⟨p, rfl⟩, HB.out⟩

/-- A block that begins with the bytes of l. -/
def Holds (w : World) (b : Nat) (l : List UInt8) : Prop := ∀ j (hj : j < l.length), w.cell? ⟨b, j, none⟩ = some (.int .u8 (l[j].toNat : Int))

/-- '[]byte(s)'. -/
theorem bytes_run (s : ByteArray) (w : World) : ∃ c w1, (convert 9 23 (.string s)).run Tryf.prog w = .ok (.slice (some ⟨w.heap.size, 0, none⟩) s.size c) w1 ∧ Holds w1 w.heap.size s.data.toList ∧ Below w.heap.size w w1 ∧ w.heap.size < w1.heap.size := by
  refine ⟨_, _, run_bytes_of_string (P := Tryf.prog) w 9 23 5 s Tryf.underlying9 Tryf.underlying23 Tryf.underlying5, ?_, ?_, ?_⟩
  · intro j hj
    have hj' : j < s.data.size := by simpa using hj
    have hs : j < s.size := hj'
    rw [show w.heap.size = w.drew.heap.size from rfl, World.cell?_alloc_mark]
    simp only [bytesRow, Array.getElem?_append, Array.size_map, hj', if_true, Array.getElem?_eq_getElem, Array.getElem_map, Array.getElem_toList]
  · exact ((Below.refl _ w).drew).alloc (Nat.le_refl _) _
  · simp

/-- 'string(b)'. -/
theorem back_run (w : World) (b c : Nat) (l : List UInt8) (h : Holds w b l) : (convert 23 9 (.slice (some ⟨b, 0, none⟩) l.length c)).run Tryf.prog w = .ok (.string ⟨l.toArray⟩) w := by
  refine run_convert_bytes_back w 23 9 5 ⟨b, 0, none⟩ c l Tryf.underlying23 Tryf.underlying5 Tryf.underlying9 ?_
  intro j hj
  rw [Addr.add_lit, Nat.zero_add]
  exact h j hj

set_option maxHeartbeats 800000 in
theorem mt_ready (w : World) :
    Calls Tryf.prog 5 #[.int .i64 1] w fun e w' => (∃ c, e = .returned (.tuple #[.slice (some ⟨w.heap.size, 0, none⟩) 5 c, .nilIface])) ∧ Holds w' w.heap.size [114, 101, 97, 100, 121] ∧ Below w.heap.size w w' ∧ w.heap.size < w'.heap.size := by
  obtain ⟨c, w1, hrun, hH, hB, hs⟩ := bytes_run ⟨#[114, 101, 97, 100, 121]⟩ w
  have HH : Hid (Holds w1 w.heap.size [114, 101, 97, 100, 121]) := hH
  have HB : Hid (Below w.heap.size w w1) := hB
  clear hH hB
  go_enter Tryf.func5, Tryf.ntmps5
  go_wp2_with (first
    | (go_at_call 9; refine (known_yes 1 _ (.inl rfl)).mono ?_; rintro e w' ⟨rfl, rfl⟩)
    | (go_at_call 11; refine (string_ready _).mono ?_; rintro e w' ⟨rfl, rfl⟩))
  go_ret2
  exact ⟨⟨c, rfl⟩, HH.out, HB.out, hs⟩
set_option maxHeartbeats 800000 in
theorem mt_yielded (w : World) :
    Calls Tryf.prog 5 #[.int .i64 2] w fun e w' => (∃ c, e = .returned (.tuple #[.slice (some ⟨w.heap.size, 0, none⟩) 7 c, .nilIface])) ∧ Holds w' w.heap.size [121, 105, 101, 108, 100, 101, 100] ∧ Below w.heap.size w w' ∧ w.heap.size < w'.heap.size := by
  obtain ⟨c, w1, hrun, hH, hB, hs⟩ := bytes_run ⟨#[121, 105, 101, 108, 100, 101, 100]⟩ w
  have HH : Hid (Holds w1 w.heap.size [121, 105, 101, 108, 100, 101, 100]) := hH
  have HB : Hid (Below w.heap.size w w1) := hB
  clear hH hB
  go_enter Tryf.func5, Tryf.ntmps5
  go_wp2_with (first
    | (go_at_call 9; refine (known_yes 2 _ (.inr rfl)).mono ?_; rintro e w' ⟨rfl, rfl⟩)
    | (go_at_call 11; refine (string_yielded _).mono ?_; rintro e w' ⟨rfl, rfl⟩))
  go_ret2
  exact ⟨⟨c, rfl⟩, HH.out, HB.out, hs⟩

set_option maxHeartbeats 800000 in
theorem um_ready (g b c : Nat) (w : World) (v : Value) (h : Holds w b [114, 101, 97, 100, 121]) (hg : w.cell? ⟨g, 0, none⟩ = some v) (hf : w.frozen? ⟨g, 0, none⟩ = false) :
    Calls Tryf.prog 6 #[.pointer (some ⟨g, 0, none⟩), .slice (some ⟨b, 0, none⟩) 5 c] w fun e w' => e = .returned .nilIface ∧ w' = w.setCell ⟨g, 0, none⟩ (.int .i64 1) := by
  have hrun : (convert 23 9 (.slice (some ⟨b, 0, none⟩) 5 c)).run Tryf.prog w = .ok (.string ⟨#[114, 101, 97, 100, 121]⟩) w := back_run w b c _ h
  clear h
  go_enter Tryf.func6, Tryf.ntmps6
  go_wp2_with (go_at_call 11; refine (string_ready _).mono ?_; rintro e w' ⟨rfl, rfl⟩)
  go_ret
  exact ⟨rfl, rfl⟩
set_option maxHeartbeats 800000 in
theorem um_yielded (g b c : Nat) (w : World) (v : Value) (h : Holds w b [121, 105, 101, 108, 100, 101, 100]) (hg : w.cell? ⟨g, 0, none⟩ = some v) (hf : w.frozen? ⟨g, 0, none⟩ = false) :
    Calls Tryf.prog 6 #[.pointer (some ⟨g, 0, none⟩), .slice (some ⟨b, 0, none⟩) 7 c] w fun e w' => e = .returned .nilIface ∧ w' = w.setCell ⟨g, 0, none⟩ (.int .i64 2) := by
  have hrun : (convert 23 9 (.slice (some ⟨b, 0, none⟩) 7 c)).run Tryf.prog w = .ok (.string ⟨#[121, 105, 101, 108, 100, 101, 100]⟩) w := back_run w b c _ h
  clear h
  go_enter Tryf.func6, Tryf.ntmps6
  go_wp2_with fail
  refine (string_ready _).mono ?_
  rintro e w' ⟨rfl, rfl⟩
  go_wp2_with fail
  refine (string_yielded _).mono ?_
  rintro e w' ⟨rfl, rfl⟩
  go_wp2
  go_ret
  exact ⟨rfl, rfl⟩
set_option maxHeartbeats 800000 in
theorem rt_ready (w : World) : Calls Tryf.prog 3 #[.int .i64 1] w fun e w' => e = .returned (.bool true) ∧ Below w.heap.size w w' := by
  go_enter Tryf.func3, Tryf.ntmps3
  go_wp2_with fail
  refine (mt_ready w).mono ?_
  rintro e w1 ⟨⟨c, rfl⟩, hH, hB, hs⟩
  have HH : Hid (∀ o, Holds (w1.alloc o) w.heap.size [114, 101, 97, 100, 121]) := fun o j hj => (World.cell?_alloc_lt w1 o _ hs).trans (hH j hj)
  have HB : Hid (Below w.heap.size w w1) := hB
  clear hH hB
  go_wp2_with fail
  refine (um_ready _ _ _ _ _ (HH.out _) (World.cell?_alloc_new w1 _ _ _) (by simp [go_sem])).mono ?_
  rintro e w2 ⟨rfl, rfl⟩
  go_wp2
  go_ret
  exact ⟨rfl, HB.out.alloc HB.out.size _⟩

set_option maxHeartbeats 800000 in
theorem rt_yielded (w : World) : Calls Tryf.prog 3 #[.int .i64 2] w fun e w' => e = .returned (.bool true) ∧ Below w.heap.size w w' := by
  go_enter Tryf.func3, Tryf.ntmps3
  go_wp2_with fail
  refine (mt_yielded w).mono ?_
  rintro e w1 ⟨⟨c, rfl⟩, hH, hB, hs⟩
  have HH : Hid (∀ o, Holds (w1.alloc o) w.heap.size [121, 105, 101, 108, 100, 101, 100]) := fun o j hj => (World.cell?_alloc_lt w1 o _ hs).trans (hH j hj)
  have HB : Hid (Below w.heap.size w w1) := hB
  clear hH hB
  go_wp2_with fail
  refine (um_yielded _ _ _ _ _ (HH.out _) (World.cell?_alloc_new w1 _ _ _) (by simp [go_sem])).mono ?_
  rintro e w2 ⟨rfl, rfl⟩
  go_wp2
  go_ret
  exact ⟨rfl, HB.out.alloc HB.out.size _⟩

set_option maxHeartbeats 800000 in
theorem rt_other (F : Interp) (x : Int) (w : World) (hF : F.answers w.tape) (h1 : x ≠ 1) (h2 : x ≠ 2) : Calls Tryf.prog 3 #[.int .i64 x] w fun e w' => e = .returned (.bool true) ∧ Below w.heap.size w w' := by
  have e1 : (x != 1) = true := bne_iff_ne.2 h1
  have e2 : (x != 2) = true := bne_iff_ne.2 h2
  have q23 : ∀ (w : World) (a : Option Addr) (n c n' c' : Nat), (binOp .eql 23 (.slice a n c) (.slice none n' c')).run Tryf.prog w = .ok (.bool a.isNone) w := fun w a n c n' c' => Lib.run_eql_slice_nil w _ _ a n c n' c' Tryf.underlying23
  go_enter Tryf.func3, Tryf.ntmps3
  go_wp2_with fail
  refine (mt_other F x _ (by exact hF) h1 h2).mono ?_
  rintro e w1 ⟨⟨p, rfl⟩, bel⟩
  have HB : Hid (Below w.heap.size w w1) := bel
  clear bel
  go_wp2
  go_ret
  exact ⟨rfl, HB.out⟩

/-- FnMarshalTextRoundTrip returns true, whatever the int and whatever fmt's texts. -/
theorem rt_any (F : Interp) (x : Int) (w : World) (hF : F.answers w.tape) : Calls Tryf.prog 3 #[.int .i64 x] w fun e w' => e = .returned (.bool true) ∧ Below w.heap.size w w' := by
  by_cases h1 : x = 1
  · subst h1; exact rt_ready w
  · by_cases h2 : x = 2
    · subst h2; exact rt_yielded w
    · exact rt_other F x w hF h1 h2
end Go.Proofs.Qxb6617768aFmt
