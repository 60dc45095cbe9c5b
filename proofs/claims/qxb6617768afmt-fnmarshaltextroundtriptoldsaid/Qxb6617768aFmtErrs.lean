/-
  fmt.Errorf (10) at this program's formats, (State).String (11): their contracts, FOR EVERY F.
-/
import Derived.Test.Qxb6617768aFmtRows
import Derived.Test.Qxb6617768aFmtFacts
import Derived.WalkKit
import Derived.WalkSpells
namespace Go.Proofs.Qxb6617768aFmt
open Go.RowKit Go.Extern.Stop Go.Stop Go.Extern

set_option maxHeartbeats 800000 in
/-- "election name %q is not 1 to %d characters long" -/
theorem errorf0 (F : Interp) (s : ByteArray) (b : Nat) (w : World) (hF : F.answers w.tape) (h0 : w.cell? ⟨b, 0, none⟩ = some (.iface 9 (.string s))) (h1 : w.cell? ⟨b, 1, none⟩ = some (.iface 3 (.int .i64 64))) :
    Calls Tryf.prog 10 #[.string ⟨#[101, 108, 101, 99, 116, 105, 111, 110, 32, 110, 97, 109, 101, 32, 37, 113, 32, 105, 115, 32, 110, 111, 116, 32, 49, 32, 116, 111, 32, 37, 100, 32, 99, 104, 97, 114, 97, 99, 116, 101, 114, 115, 32, 108, 111, 110, 103]⟩, .slice (some ⟨b, 0, none⟩) 2 2] w fun e w' => (∃ p, e = .returned (.iface 40 (.pointer (some p)))) ∧ Below w.heap.size w w' := by
  have hF' := answers_open hF
  go_enter Tryf.func10, Tryf.ntmps10
  go_wp2
  apply rows_value Fx.nextTurns
  case hr =>
    go_simp
    exact ⟨rfl, rfl⟩
  case h =>
    go_wp2
    go_ret
    exact ⟨⟨_, rfl⟩, ((Below.refl _ _).alloc (Nat.le_refl _) _).drew⟩

set_option maxHeartbeats 800000 in
/-- "election name %q holds %q: only A-Z a-z 0-9 . _ - are allowed" -/
theorem errorf1 (F : Interp) (s : ByteArray) (c : Int) (b : Nat) (w : World) (hF : F.answers w.tape) (h0 : w.cell? ⟨b, 0, none⟩ = some (.iface 9 (.string s))) (h1 : w.cell? ⟨b, 1, none⟩ = some (.iface 21 (.int .i32 c))) :
    Calls Tryf.prog 10 #[.string ⟨#[101, 108, 101, 99, 116, 105, 111, 110, 32, 110, 97, 109, 101, 32, 37, 113, 32, 104, 111, 108, 100, 115, 32, 37, 113, 58, 32, 111, 110, 108, 121, 32, 65, 45, 90, 32, 97, 45, 122, 32, 48, 45, 57, 32, 46, 32, 95, 32, 45, 32, 97, 114, 101, 32, 97, 108, 108, 111, 119, 101, 100]⟩, .slice (some ⟨b, 0, none⟩) 2 2] w fun e w' => (∃ p, e = .returned (.iface 40 (.pointer (some p)))) ∧ Below w.heap.size w w' := by
  have hF' := answers_open hF
  go_enter Tryf.func10, Tryf.ntmps10
  go_wp2
  apply rows_value Fx.nextTurns
  case hr =>
    go_simp
    exact ⟨rfl, rfl⟩
  case h =>
    go_wp2
    go_ret
    exact ⟨⟨_, rfl⟩, ((Below.refl _ _).alloc (Nat.le_refl _) _).drew⟩

theorem string_ready (w : World) : Calls Tryf.prog 11 #[.int .i64 1] w fun e w' => e = .returned (.string ⟨#[114, 101, 97, 100, 121]⟩) ∧ w = w' := by
  go_enter Tryf.func11, Tryf.ntmps11
  go_wp2
  go_ret
  exact ⟨rfl, rfl⟩
theorem string_yielded (w : World) : Calls Tryf.prog 11 #[.int .i64 2] w fun e w' => e = .returned (.string ⟨#[121, 105, 101, 108, 100, 101, 100]⟩) ∧ w = w' := by
  go_enter Tryf.func11, Tryf.ntmps11
  go_wp2
  go_ret
  exact ⟨rfl, rfl⟩
set_option maxHeartbeats 800000 in
theorem string_other (F : Interp) (x : Int) (w : World) (hF : F.answers w.tape) (h1 : x ≠ 1) (h2 : x ≠ 2) :
    Calls Tryf.prog 11 #[.int .i64 x] w fun e w' => (∃ t, e = .returned (.string t)) ∧ Below w.heap.size w w' := by
  have hF' := answers_open hF
  go_enter Tryf.func11, Tryf.ntmps11
  go_wp2
  go_ret
  exact ⟨⟨_, rfl⟩, ((Below.refl _ _).alloc (Nat.le_refl _) _).drew⟩

set_option maxHeartbeats 800000 in
/-- "unknown state %v" -/
theorem errorf2 (F : Interp) (x : Int) (b : Nat) (w : World) (hF : F.answers w.tape) (hb : b < w.heap.size) (h1 : x ≠ 1) (h2 : x ≠ 2) (h0 : w.cell? ⟨b, 0, none⟩ = some (.iface 22 (.int .i64 x))) :
    Calls Tryf.prog 10 #[.string ⟨#[117, 110, 107, 110, 111, 119, 110, 32, 115, 116, 97, 116, 101, 32, 37, 118]⟩, .slice (some ⟨b, 0, none⟩) 1 1] w fun e w' => (∃ p, e = .returned (.iface 40 (.pointer (some p)))) ∧ Below w.heap.size w w' := by
  have hF' := answers_open hF
  go_enter Tryf.func10, Tryf.ntmps10
  go_wp2
  apply rows_call Fx.nextTurns
  case hr =>
    go_simp
    exact ⟨⟨rfl, rfl, rfl⟩, rfl⟩
  case hi => exact Fx.invokeString22 _ _
  case hc =>
    refine (string_other F x _ (by exact hF) h1 h2).mono fun e w₃ ⟨he, hx⟩ => ?_
    obtain ⟨t, he⟩ := he
    subst he
    have hF3 := answers_open (show F.answers w₃.tape by rw [hx.tape]; exact hF)
    have hc3 : w₃.cell? ⟨b, 0, none⟩ = some (.iface 22 (.int .i64 x)) := by rw [hx.cell hb]; exact h0
    apply rows_value Fx.nextReturned
    case hr =>
      go_simp
      exact ⟨rfl, rfl⟩
    case h =>
      go_wp2
      go_ret
      exact ⟨⟨_, rfl⟩, (hx.alloc hx.size _).drew⟩
end Go.Proofs.Qxb6617768aFmt
