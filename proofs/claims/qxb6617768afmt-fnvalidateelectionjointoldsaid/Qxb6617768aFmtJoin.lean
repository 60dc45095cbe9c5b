/-
  zzBytes_FnValidateElectionJoin (7), FnValidateElectionJoin (4): the walks, FOR EVERY F.
-/
import Derived.Test.Qxb6617768aFmtVal
import Derived.WalkLawsBesides
namespace Go.Proofs.Qxb6617768aFmt
open Go.RowKit Go.Extern.Stop Go.Stop Go.Extern

theorem bytes7_yes (a b : ByteArray) (w : World) (h : a.size + b.size ≤ 1048576) :
    Calls Tryf.prog 7 #[.string a, .string b] w fun e w' => e = .returned (.bool true) ∧ w = w' := by
  go_enter Tryf.func7, Tryf.ntmps7
  go_wp2
  go_ret
  exact ⟨rfl, rfl⟩
theorem bytes7_no (a b : ByteArray) (w : World) (h : ¬ a.size + b.size ≤ 1048576) :
    Calls Tryf.prog 7 #[.string a, .string b] w fun e w' => e = .returned (.bool false) ∧ w = w' := by
  by_cases h1 : a.size ≤ 1048576
  · by_cases h2 : b.size ≤ 1048576
    · go_enter Tryf.func7, Tryf.ntmps7
      go_wp2
      go_ret
      exact ⟨rfl, rfl⟩
    · go_enter Tryf.func7, Tryf.ntmps7
      go_wp2
      go_ret
      exact ⟨rfl, rfl⟩
  · go_enter Tryf.func7, Tryf.ntmps7
    go_wp2
    go_ret
    exact ⟨rfl, rfl⟩

/-! ### The plain law -/
theorem okFrom_append (a b : ByteArray) : okFrom (a ++ b) 0 = (okFrom a 0 && okFrom b 0) := by
  unfold okFrom
  simp [List.all_append]
theorem okName_none (a b : ByteArray) (h : a.size + b.size = 0 ∨ 64 < a.size + b.size) : okName (a ++ b) = false := by
  unfold okName
  rw [decide_eq_false (by rw [ByteArray.size_append]; omega)]; rfl
theorem okName_empty (a : ByteArray) (h : a.size = 0) : okName a = false := by
  unfold okName
  rw [decide_eq_false (by omega)]; rfl
theorem okFrom_empty (a : ByteArray) (h : a.size = 0) : okFrom a 0 = true := ok_end a 0 (by omega)
theorem okName_both (a b : ByteArray) (h1 : 0 < a.size) (h2 : 0 < b.size) (h3 : a.size + b.size ≤ 64) : okName (a ++ b) = (okName a && okName b) := by
  unfold okName
  rw [okFrom_append, ByteArray.size_append, decide_eq_true (by omega), decide_eq_true (by omega), decide_eq_true (by omega)]
  simp

set_option maxHeartbeats 800000 in
/-- The whole is empty or too long. -/
theorem join_none (F : Interp) (a b : ByteArray) (w : World) (hF : F.answers w.tape) (ha : a.size ≤ 65536) (hb : b.size ≤ 65536) (h : a.size + b.size = 0 ∨ 64 < a.size + b.size) :
    Calls Tryf.prog 4 #[.string a, .string b] w fun e w' => e = .returned (.bool true) ∧ Below w.heap.size w w' := by
  have H1 : Hid (okName (a ++ b) = false) := okName_none a b h
  rcases h with h | h
  · go_enter Tryf.func4, Tryf.ntmps4
    go_wp2_with (go_at_call 7; refine (bytes7_yes a b _ (by omega)).mono ?_; rintro e w' ⟨rfl, rfl⟩)
    refine (ve_no F (a ++ b) _ (by exact hF) H1.out).mono ?_
    rintro e w1 ⟨⟨p, rfl⟩, bel⟩
    go_wp2
    go_ret
    exact ⟨rfl, bel⟩
  · go_enter Tryf.func4, Tryf.ntmps4
    go_wp2_with (go_at_call 7; refine (bytes7_yes a b _ (by omega)).mono ?_; rintro e w' ⟨rfl, rfl⟩)
    refine (ve_no F (a ++ b) _ (by exact hF) H1.out).mono ?_
    rintro e w1 ⟨⟨p, rfl⟩, bel⟩
    go_wp2
    go_ret
    exact ⟨rfl, bel⟩
set_option maxHeartbeats 800000 in
theorem join_aft (F : Interp) (b : ByteArray) (w : World) (hF : F.answers w.tape) (h2 : 0 < b.size) (h3 : b.size ≤ 64) (HV : Hid (okName b = true)) :
    Calls Tryf.prog 4 #[.string ByteArray.empty, .string b] w fun e w' => e = .returned (.bool true) ∧ Below w.heap.size w w' := by
  have t1 : ((b.size : Int) == 0) = false := beq_eq_false_iff_ne.2 (by omega)
  have t2 : decide ((64 : Int) < (b.size : Int)) = false := decide_eq_false (by omega)
  go_enter Tryf.func4, Tryf.ntmps4
  go_wp2_with (go_at_call 7; refine (bytes7_yes _ _ _ (by simp; omega)).mono ?_; rintro e w' ⟨rfl, rfl⟩)
  refine (ve_yes F b _ (by exact hF) HV.out).mono ?_
  rintro e w1 ⟨rfl, bel1⟩
  have B1 : Hid (Below w.heap.size w w1) := bel1
  clear bel1
  go_wp2_with fail
  refine (ve_no F ByteArray.empty _ (by rw [B1.out.tape]; exact hF) (okName_empty _ rfl)).mono ?_
  rintro e w2 ⟨⟨p2, rfl⟩, bel2⟩
  have B2 : Hid (Below w.heap.size w w2) := B1.out.trans (bel2.mono B1.out.size)
  clear bel2
  go_wp2_with fail
  refine (ve_yes F b _ (by rw [B2.out.tape]; exact hF) HV.out).mono ?_
  rintro e w3 ⟨rfl, bel3⟩
  have B3 : Hid (Below w.heap.size w w3) := B2.out.trans (bel3.mono B2.out.size)
  clear bel3
  go_wp2
  go_ret
  exact ⟨rfl, B3.out⟩

set_option maxHeartbeats 800000 in
theorem join_aff (F : Interp) (b : ByteArray) (w : World) (hF : F.answers w.tape) (h2 : 0 < b.size) (h3 : b.size ≤ 64) (HV : Hid (okName b = false)) :
    Calls Tryf.prog 4 #[.string ByteArray.empty, .string b] w fun e w' => e = .returned (.bool true) ∧ Below w.heap.size w w' := by
  have t1 : ((b.size : Int) == 0) = false := beq_eq_false_iff_ne.2 (by omega)
  have t2 : decide ((64 : Int) < (b.size : Int)) = false := decide_eq_false (by omega)
  go_enter Tryf.func4, Tryf.ntmps4
  go_wp2_with (go_at_call 7; refine (bytes7_yes _ _ _ (by simp; omega)).mono ?_; rintro e w' ⟨rfl, rfl⟩)
  refine (ve_no F b _ (by exact hF) HV.out).mono ?_
  rintro e w1 ⟨⟨p1, rfl⟩, bel1⟩
  have B1 : Hid (Below w.heap.size w w1) := bel1
  clear bel1
  go_wp2_with fail
  refine (ve_no F ByteArray.empty _ (by rw [B1.out.tape]; exact hF) (okName_empty _ rfl)).mono ?_
  rintro e w2 ⟨⟨p2, rfl⟩, bel2⟩
  have B2 : Hid (Below w.heap.size w w2) := B1.out.trans (bel2.mono B1.out.size)
  clear bel2
  go_wp2_with fail
  refine (ve_no F b _ (by rw [B2.out.tape]; exact hF) HV.out).mono ?_
  rintro e w3 ⟨⟨p3, rfl⟩, bel3⟩
  have B3 : Hid (Below w.heap.size w w3) := B2.out.trans (bel3.mono B2.out.size)
  clear bel3
  go_wp2
  go_ret
  exact ⟨rfl, B3.out⟩

set_option maxHeartbeats 800000 in
theorem join_btf (F : Interp) (a : ByteArray) (w : World) (hF : F.answers w.tape) (h2 : 0 < a.size) (h3 : a.size ≤ 64) (HV : Hid (okName a = true)) :
    Calls Tryf.prog 4 #[.string a, .string ByteArray.empty] w fun e w' => e = .returned (.bool true) ∧ Below w.heap.size w w' := by
  have t1 : ((a.size : Int) == 0) = false := beq_eq_false_iff_ne.2 (by omega)
  have t2 : decide ((64 : Int) < (a.size : Int)) = false := decide_eq_false (by omega)
  go_enter Tryf.func4, Tryf.ntmps4
  go_wp2_with (go_at_call 7; refine (bytes7_yes _ _ _ (by simp; omega)).mono ?_; rintro e w' ⟨rfl, rfl⟩)
  refine (ve_yes F a _ (by exact hF) HV.out).mono ?_
  rintro e w1 ⟨rfl, bel1⟩
  have B1 : Hid (Below w.heap.size w w1) := bel1
  clear bel1
  go_wp2_with fail
  refine (ve_yes F a _ (by rw [B1.out.tape]; exact hF) HV.out).mono ?_
  rintro e w2 ⟨rfl, bel2⟩
  have B2 : Hid (Below w.heap.size w w2) := B1.out.trans (bel2.mono B1.out.size)
  clear bel2
  go_wp2_with fail
  refine (ve_no F ByteArray.empty _ (by rw [B2.out.tape]; exact hF) (okName_empty _ rfl)).mono ?_
  rintro e w3 ⟨⟨p3, rfl⟩, bel3⟩
  have B3 : Hid (Below w.heap.size w w3) := B2.out.trans (bel3.mono B2.out.size)
  clear bel3
  go_wp2
  go_ret
  exact ⟨rfl, B3.out⟩

set_option maxHeartbeats 800000 in
theorem join_bff (F : Interp) (a : ByteArray) (w : World) (hF : F.answers w.tape) (h2 : 0 < a.size) (h3 : a.size ≤ 64) (HV : Hid (okName a = false)) :
    Calls Tryf.prog 4 #[.string a, .string ByteArray.empty] w fun e w' => e = .returned (.bool true) ∧ Below w.heap.size w w' := by
  have t1 : ((a.size : Int) == 0) = false := beq_eq_false_iff_ne.2 (by omega)
  have t2 : decide ((64 : Int) < (a.size : Int)) = false := decide_eq_false (by omega)
  go_enter Tryf.func4, Tryf.ntmps4
  go_wp2_with (go_at_call 7; refine (bytes7_yes _ _ _ (by simp; omega)).mono ?_; rintro e w' ⟨rfl, rfl⟩)
  refine (ve_no F a _ (by exact hF) HV.out).mono ?_
  rintro e w1 ⟨⟨p1, rfl⟩, bel1⟩
  have B1 : Hid (Below w.heap.size w w1) := bel1
  clear bel1
  go_wp2_with fail
  refine (ve_no F a _ (by rw [B1.out.tape]; exact hF) HV.out).mono ?_
  rintro e w2 ⟨⟨p2, rfl⟩, bel2⟩
  have B2 : Hid (Below w.heap.size w w2) := B1.out.trans (bel2.mono B1.out.size)
  clear bel2
  go_wp2_with fail
  refine (ve_no F ByteArray.empty _ (by rw [B2.out.tape]; exact hF) (okName_empty _ rfl)).mono ?_
  rintro e w3 ⟨⟨p3, rfl⟩, bel3⟩
  have B3 : Hid (Below w.heap.size w w3) := B2.out.trans (bel3.mono B2.out.size)
  clear bel3
  go_wp2
  go_ret
  exact ⟨rfl, B3.out⟩

set_option maxHeartbeats 800000 in
theorem join_ctt (F : Interp) (a b : ByteArray) (w : World) (hF : F.answers w.tape) (h1 : 0 < a.size) (h2 : 0 < b.size) (h3 : a.size + b.size ≤ 64) (HO : Hid (okName (a ++ b) = true)) (HA : Hid (okName a = true)) (HB : Hid (okName b = true)) :
    Calls Tryf.prog 4 #[.string a, .string b] w fun e w' => e = .returned (.bool true) ∧ Below w.heap.size w w' := by
  have t1 : ((a.size : Int) + (b.size : Int) == 0) = false := beq_eq_false_iff_ne.2 (by omega)
  have t2 : decide ((64 : Int) < (a.size : Int) + (b.size : Int)) = false := decide_eq_false (by omega)
  have t3 : ((a.size : Int) == 0) = false := beq_eq_false_iff_ne.2 (by omega)
  have t4 : ((b.size : Int) == 0) = false := beq_eq_false_iff_ne.2 (by omega)
  go_enter Tryf.func4, Tryf.ntmps4
  go_wp2_with (go_at_call 7; refine (bytes7_yes _ _ _ (by omega)).mono ?_; rintro e w' ⟨rfl, rfl⟩)
  refine (ve_yes F (a ++ b) _ (by exact hF) HO.out).mono ?_
  rintro e w1 ⟨rfl, bel1⟩
  have B1 : Hid (Below w.heap.size w w1) := bel1
  clear bel1
  go_wp2_with fail
  refine (ve_yes F a _ (by rw [B1.out.tape]; exact hF) HA.out).mono ?_
  rintro e w2 ⟨rfl, bel2⟩
  have B2 : Hid (Below w.heap.size w w2) := B1.out.trans (bel2.mono B1.out.size)
  clear bel2
  go_wp2_with fail
  refine (ve_yes F b _ (by rw [B2.out.tape]; exact hF) HB.out).mono ?_
  rintro e w3 ⟨rfl, bel3⟩
  have B3 : Hid (Below w.heap.size w w3) := B2.out.trans (bel3.mono B2.out.size)
  clear bel3
  go_wp2
  go_ret
  exact ⟨rfl, B3.out⟩

set_option maxHeartbeats 800000 in
theorem join_ctf (F : Interp) (a b : ByteArray) (w : World) (hF : F.answers w.tape) (h1 : 0 < a.size) (h2 : 0 < b.size) (h3 : a.size + b.size ≤ 64) (HO : Hid (okName (a ++ b) = false)) (HA : Hid (okName a = true)) (HB : Hid (okName b = false)) :
    Calls Tryf.prog 4 #[.string a, .string b] w fun e w' => e = .returned (.bool true) ∧ Below w.heap.size w w' := by
  have t1 : ((a.size : Int) + (b.size : Int) == 0) = false := beq_eq_false_iff_ne.2 (by omega)
  have t2 : decide ((64 : Int) < (a.size : Int) + (b.size : Int)) = false := decide_eq_false (by omega)
  have t3 : ((a.size : Int) == 0) = false := beq_eq_false_iff_ne.2 (by omega)
  have t4 : ((b.size : Int) == 0) = false := beq_eq_false_iff_ne.2 (by omega)
  go_enter Tryf.func4, Tryf.ntmps4
  go_wp2_with (go_at_call 7; refine (bytes7_yes _ _ _ (by omega)).mono ?_; rintro e w' ⟨rfl, rfl⟩)
  refine (ve_no F (a ++ b) _ (by exact hF) HO.out).mono ?_
  rintro e w1 ⟨⟨p1, rfl⟩, bel1⟩
  have B1 : Hid (Below w.heap.size w w1) := bel1
  clear bel1
  go_wp2_with fail
  refine (ve_yes F a _ (by rw [B1.out.tape]; exact hF) HA.out).mono ?_
  rintro e w2 ⟨rfl, bel2⟩
  have B2 : Hid (Below w.heap.size w w2) := B1.out.trans (bel2.mono B1.out.size)
  clear bel2
  go_wp2_with fail
  refine (ve_no F b _ (by rw [B2.out.tape]; exact hF) HB.out).mono ?_
  rintro e w3 ⟨⟨p3, rfl⟩, bel3⟩
  have B3 : Hid (Below w.heap.size w w3) := B2.out.trans (bel3.mono B2.out.size)
  clear bel3
  go_wp2
  go_ret
  exact ⟨rfl, B3.out⟩

set_option maxHeartbeats 800000 in
theorem join_cft (F : Interp) (a b : ByteArray) (w : World) (hF : F.answers w.tape) (h1 : 0 < a.size) (h2 : 0 < b.size) (h3 : a.size + b.size ≤ 64) (HO : Hid (okName (a ++ b) = false)) (HA : Hid (okName a = false)) (HB : Hid (okName b = true)) :
    Calls Tryf.prog 4 #[.string a, .string b] w fun e w' => e = .returned (.bool true) ∧ Below w.heap.size w w' := by
  have t1 : ((a.size : Int) + (b.size : Int) == 0) = false := beq_eq_false_iff_ne.2 (by omega)
  have t2 : decide ((64 : Int) < (a.size : Int) + (b.size : Int)) = false := decide_eq_false (by omega)
  have t3 : ((a.size : Int) == 0) = false := beq_eq_false_iff_ne.2 (by omega)
  have t4 : ((b.size : Int) == 0) = false := beq_eq_false_iff_ne.2 (by omega)
  go_enter Tryf.func4, Tryf.ntmps4
  go_wp2_with (go_at_call 7; refine (bytes7_yes _ _ _ (by omega)).mono ?_; rintro e w' ⟨rfl, rfl⟩)
  refine (ve_no F (a ++ b) _ (by exact hF) HO.out).mono ?_
  rintro e w1 ⟨⟨p1, rfl⟩, bel1⟩
  have B1 : Hid (Below w.heap.size w w1) := bel1
  clear bel1
  go_wp2_with fail
  refine (ve_no F a _ (by rw [B1.out.tape]; exact hF) HA.out).mono ?_
  rintro e w2 ⟨⟨p2, rfl⟩, bel2⟩
  have B2 : Hid (Below w.heap.size w w2) := B1.out.trans (bel2.mono B1.out.size)
  clear bel2
  go_wp2_with fail
  refine (ve_yes F b _ (by rw [B2.out.tape]; exact hF) HB.out).mono ?_
  rintro e w3 ⟨rfl, bel3⟩
  have B3 : Hid (Below w.heap.size w w3) := B2.out.trans (bel3.mono B2.out.size)
  clear bel3
  go_wp2
  go_ret
  exact ⟨rfl, B3.out⟩

set_option maxHeartbeats 800000 in
theorem join_cff (F : Interp) (a b : ByteArray) (w : World) (hF : F.answers w.tape) (h1 : 0 < a.size) (h2 : 0 < b.size) (h3 : a.size + b.size ≤ 64) (HO : Hid (okName (a ++ b) = false)) (HA : Hid (okName a = false)) (HB : Hid (okName b = false)) :
    Calls Tryf.prog 4 #[.string a, .string b] w fun e w' => e = .returned (.bool true) ∧ Below w.heap.size w w' := by
  have t1 : ((a.size : Int) + (b.size : Int) == 0) = false := beq_eq_false_iff_ne.2 (by omega)
  have t2 : decide ((64 : Int) < (a.size : Int) + (b.size : Int)) = false := decide_eq_false (by omega)
  have t3 : ((a.size : Int) == 0) = false := beq_eq_false_iff_ne.2 (by omega)
  have t4 : ((b.size : Int) == 0) = false := beq_eq_false_iff_ne.2 (by omega)
  go_enter Tryf.func4, Tryf.ntmps4
  go_wp2_with (go_at_call 7; refine (bytes7_yes _ _ _ (by omega)).mono ?_; rintro e w' ⟨rfl, rfl⟩)
  refine (ve_no F (a ++ b) _ (by exact hF) HO.out).mono ?_
  rintro e w1 ⟨⟨p1, rfl⟩, bel1⟩
  have B1 : Hid (Below w.heap.size w w1) := bel1
  clear bel1
  go_wp2_with fail
  refine (ve_no F a _ (by rw [B1.out.tape]; exact hF) HA.out).mono ?_
  rintro e w2 ⟨⟨p2, rfl⟩, bel2⟩
  have B2 : Hid (Below w.heap.size w w2) := B1.out.trans (bel2.mono B1.out.size)
  clear bel2
  go_wp2_with fail
  refine (ve_no F b _ (by rw [B2.out.tape]; exact hF) HB.out).mono ?_
  rintro e w3 ⟨⟨p3, rfl⟩, bel3⟩
  have B3 : Hid (Below w.heap.size w w3) := B2.out.trans (bel3.mono B2.out.size)
  clear bel3
  go_wp2
  go_ret
  exact ⟨rfl, B3.out⟩

set_option maxHeartbeats 800000 in
/-- The ways that end at the bounds. -/
theorem join_early (a b : ByteArray) (w : World) (h : ¬ (a.size ≤ 65536 ∧ b.size ≤ 65536)) :
    Calls Tryf.prog 4 #[.string a, .string b] w fun e w' => e = .returned (.bool true) ∧ Below w.heap.size w w' := by
  by_cases hs : a.size + b.size ≤ 1048576
  · by_cases ha : a.size ≤ 65536
    · have hb : ¬ b.size ≤ 65536 := fun hb => h ⟨ha, hb⟩
      clear h
      go_enter Tryf.func4, Tryf.ntmps4
      go_wp2_with (go_at_call 7; refine (bytes7_yes a b _ hs).mono ?_; rintro e w' ⟨rfl, rfl⟩)
      go_ret
      exact ⟨rfl, Below.refl _ _⟩
    · clear h
      go_enter Tryf.func4, Tryf.ntmps4
      go_wp2_with (go_at_call 7; refine (bytes7_yes a b _ hs).mono ?_; rintro e w' ⟨rfl, rfl⟩)
      go_ret
      exact ⟨rfl, Below.refl _ _⟩
  · clear h
    go_enter Tryf.func4, Tryf.ntmps4
    go_wp2_with (go_at_call 7; refine (bytes7_no a b _ hs).mono ?_; rintro e w' ⟨rfl, rfl⟩)
    go_ret
    exact ⟨rfl, Below.refl _ _⟩

/-- FnValidateElectionJoin returns true, whatever the two strings and whatever fmt's texts. -/
theorem join_any (F : Interp) (a b : ByteArray) (w : World) (hF : F.answers w.tape) :
    Calls Tryf.prog 4 #[.string a, .string b] w fun e w' => e = .returned (.bool true) ∧ Below w.heap.size w w' := by
  by_cases h : a.size ≤ 65536 ∧ b.size ≤ 65536
  · obtain ⟨ha, hb⟩ := h
    by_cases hn : a.size + b.size = 0 ∨ 64 < a.size + b.size
    · exact join_none F a b w hF ha hb hn
    · have h3 : a.size + b.size ≤ 64 := by omega
      by_cases h1 : a.size = 0
      · have h2 : 0 < b.size := by omega
        obtain rfl : a = ByteArray.empty := ByteArray.size_eq_zero_iff.1 h1
        cases hob : okName b with
        | true => exact join_aft F b w hF h2 (by omega) hob
        | false => exact join_aff F b w hF h2 (by omega) hob
      · have h1' : 0 < a.size := by omega
        by_cases h2 : b.size = 0
        · obtain rfl : b = ByteArray.empty := ByteArray.size_eq_zero_iff.1 h2
          cases hoa : okName a with
          | true => exact join_btf F a w hF h1' (by omega) hoa
          | false => exact join_bff F a w hF h1' (by omega) hoa
        · have h2' : 0 < b.size := by omega
          have e := okName_both a b h1' h2' h3
          cases hoa : okName a with
          | true =>
            cases hob : okName b with
            | true => exact join_ctt F a b w hF h1' h2' h3 (by rw [e, hoa, hob]; rfl) hoa hob
            | false => exact join_ctf F a b w hF h1' h2' h3 (by rw [e, hoa, hob]; rfl) hoa hob
          | false =>
            cases hob : okName b with
            | true => exact join_cft F a b w hF h1' h2' h3 (by rw [e, hoa, hob]; rfl) hoa hob
            | false => exact join_cff F a b w hF h1' h2' h3 (by rw [e, hoa, hob]; rfl) hoa hob
  · exact join_early a b w h
end Go.Proofs.Qxb6617768aFmt
