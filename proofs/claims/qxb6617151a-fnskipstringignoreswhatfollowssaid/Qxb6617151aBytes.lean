/-
  zzBytes_.. (18, 14, 12, 7): their contracts. Rows of bytes in memory.
-/
import Derived.Test.Qxb6617151aRows
import Derived.Test.Qxb6617151aPlain
import Derived.WalkKit
import Derived.Laws.CopyOwn
namespace Go.Proofs.Qxb6617151a
open Go.RowKit Plain

theorem bytes18_yes (a0 a3 : Option Addr) (l0 c0 l3 c3 : Nat) (x y : Int) (w : World) (h : l0 + l3 ≤ 1048576) :
    Calls Try.prog 18 #[.slice a0 l0 c0, .int .i64 x, .int .i64 y, .slice a3 l3 c3] w fun e w' => e = .returned (.bool true) ∧ w = w' := by
  go_enter Try.func18, Try.ntmps18
  go_wp2
  go_ret
  exact ⟨rfl, rfl⟩
theorem bytes18_no (a0 a3 : Option Addr) (l0 c0 l3 c3 : Nat) (x y : Int) (w : World) (h : ¬ l0 + l3 ≤ 1048576) :
    Calls Try.prog 18 #[.slice a0 l0 c0, .int .i64 x, .int .i64 y, .slice a3 l3 c3] w fun e w' => e = .returned (.bool false) ∧ w = w' := by
  by_cases h1 : l0 ≤ 1048576
  · by_cases h2 : l3 ≤ 1048576
    · go_enter Try.func18, Try.ntmps18
      go_wp2
      go_ret
      exact ⟨rfl, rfl⟩
    · go_enter Try.func18, Try.ntmps18
      go_wp2
      go_ret
      exact ⟨rfl, rfl⟩
  · go_enter Try.func18, Try.ntmps18
    go_wp2
    go_ret
    exact ⟨rfl, rfl⟩
theorem bytes14_yes (a0 a3 : Option Addr) (l0 c0 l3 c3 : Nat) (x y : Int) (w : World) (h : l0 + l3 ≤ 1048576) :
    Calls Try.prog 14 #[.slice a0 l0 c0, .int .i64 x, .int .i64 y, .slice a3 l3 c3] w fun e w' => e = .returned (.bool true) ∧ w = w' := by
  go_enter Try.func14, Try.ntmps14
  go_wp2
  go_ret
  exact ⟨rfl, rfl⟩
theorem bytes14_no (a0 a3 : Option Addr) (l0 c0 l3 c3 : Nat) (x y : Int) (w : World) (h : ¬ l0 + l3 ≤ 1048576) :
    Calls Try.prog 14 #[.slice a0 l0 c0, .int .i64 x, .int .i64 y, .slice a3 l3 c3] w fun e w' => e = .returned (.bool false) ∧ w = w' := by
  by_cases h1 : l0 ≤ 1048576
  · by_cases h2 : l3 ≤ 1048576
    · go_enter Try.func14, Try.ntmps14
      go_wp2
      go_ret
      exact ⟨rfl, rfl⟩
    · go_enter Try.func14, Try.ntmps14
      go_wp2
      go_ret
      exact ⟨rfl, rfl⟩
  · go_enter Try.func14, Try.ntmps14
    go_wp2
    go_ret
    exact ⟨rfl, rfl⟩
theorem bytes12_yes (a0 a3 : Option Addr) (l0 c0 l3 c3 : Nat) (x y : Int) (w : World) (h : l0 + l3 ≤ 1048576) :
    Calls Try.prog 12 #[.slice a0 l0 c0, .int .i64 x, .int .i64 y, .slice a3 l3 c3] w fun e w' => e = .returned (.bool true) ∧ w = w' := by
  go_enter Try.func12, Try.ntmps12
  go_wp2
  go_ret
  exact ⟨rfl, rfl⟩
theorem bytes12_no (a0 a3 : Option Addr) (l0 c0 l3 c3 : Nat) (x y : Int) (w : World) (h : ¬ l0 + l3 ≤ 1048576) :
    Calls Try.prog 12 #[.slice a0 l0 c0, .int .i64 x, .int .i64 y, .slice a3 l3 c3] w fun e w' => e = .returned (.bool false) ∧ w = w' := by
  by_cases h1 : l0 ≤ 1048576
  · by_cases h2 : l3 ≤ 1048576
    · go_enter Try.func12, Try.ntmps12
      go_wp2
      go_ret
      exact ⟨rfl, rfl⟩
    · go_enter Try.func12, Try.ntmps12
      go_wp2
      go_ret
      exact ⟨rfl, rfl⟩
  · go_enter Try.func12, Try.ntmps12
    go_wp2
    go_ret
    exact ⟨rfl, rfl⟩
theorem bytes7_yes (a0 : Option Addr) (l0 c0 : Nat) (x y : Int) (w : World) (h : l0 ≤ 1048576) :
    Calls Try.prog 7 #[.slice a0 l0 c0, .int .i64 x, .int .i64 y] w fun e w' => e = .returned (.bool true) ∧ w = w' := by
  go_enter Try.func7, Try.ntmps7
  go_wp2
  go_ret
  exact ⟨rfl, rfl⟩
theorem bytes7_no (a0 : Option Addr) (l0 c0 : Nat) (x y : Int) (w : World) (h : ¬ l0 ≤ 1048576) :
    Calls Try.prog 7 #[.slice a0 l0 c0, .int .i64 x, .int .i64 y] w fun e w' => e = .returned (.bool false) ∧ w = w' := by
  go_enter Try.func7, Try.ntmps7
  go_wp2
  go_ret
  exact ⟨rfl, rfl⟩

/-! ### Rows of bytes -/
/-- Block g of the world holds just the bytes zs. -/
def Row (w : World) (g : Nat) (zs : List Int) : Prop := w.heap[g]? = some (.cells (zs.map (Value.int .u8)).toArray 5 (0, 0))

theorem Row.cells {w : World} {g : Nat} {zs : List Int} (h : Row w g zs) : ∀ k, k < zs.length → w.cell? ⟨g, 0 + k, none⟩ = some (.int .u8 (zs.getD k 0)) := by
  intro k hk
  unfold Row at h
  simp [World.cell?, h, List.getD, hk]

theorem Row.kept {w w' : World} {g : Nat} {zs : List Int} (h : Row w g zs) (e : w'.heap[g]? = w.heap[g]?) : Row w' g zs := by
  unfold Row at h ⊢; rw [e]; exact h

theorem Row.lt {w : World} {g : Nat} {zs : List Int} (h : Row w g zs) : g < w.heap.size := by
  unfold Row at h
  exact (Array.getElem?_eq_some_iff.1 h).1

/-- What the shell tells of a slice of bytes that came in. -/
def IsRow (k : IntKind) (w : World) (a : Option Addr) (len cap : Nat) (zs : List Int) : Prop :=
  (a = none ∧ len = 0 ∧ cap = 0 ∧ zs = []) ∨
  ∃ x, a = some x ∧ len ≤ cap ∧ cap ≤ maxLen ∧ zs.length = cap ∧ (∀ i, i < zs.length → w.cell? (x.add i) = some (.int k (zs.getD i 0))) ∧ ∀ n ∈ zs, (Lit.int k n).wf = true

/-- The elements of a slice that came in, from any address: the cells as the laws on copy and append ask them. -/
def Src (w : World) (a : Option Addr) (l c : Nat) (zs : List Int) : Prop :=
  zs.length = l ∧ (a = none → l = 0 ∧ c = 0) ∧ ∀ ad, a = some ad → ∀ j u, (zs.map (Value.int .u8))[j]? = some u → w.cell? (ad.add j) = some u

theorem IsRow.src {w : World} {a : Option Addr} {l c : Nat} {zs : List Int} (h : IsRow .u8 w a l c zs) : Src w a l c (zs.take l) := by
  rcases h with ⟨rfl, rfl, rfl, rfl⟩ | ⟨x, rfl, h1, _, h3, h4, _⟩
  · exact ⟨rfl, fun _ => ⟨rfl, rfl⟩, fun ad h => by cases h⟩
  · refine ⟨by simp; omega, ?_, ?_⟩
    · intro h; cases h
    intro ad had j u hu
    cases had
    have hj : j < l := by
      have := (List.getElem?_eq_some_iff.1 hu).1
      simp at this; omega
    rw [h4 j (by omega)]
    rw [List.getElem?_map, List.getElem?_take] at hu
    simp [hj] at hu
    obtain ⟨y, hy, rfl⟩ := hu
    simp only [List.getD, hy, Option.getD_some]

theorem Src.block {w : World} {a : Option Addr} {l c : Nat} {zs : List Int} (h : Src w a l c zs) (hl : 0 < l) : ∃ b off, a = some ⟨b, off, none⟩ ∧ b < w.heap.size ∧ ∀ k, k < l → w.cell? ⟨b, off + k, none⟩ = some (.int .u8 (zs.getD k 0)) := by
  obtain ⟨h1, h2, h3⟩ := h
  cases a with
  | none => have := (h2 rfl).1; omega
  | some ad =>
    have hcell : ∀ k, k < l → w.cell? (ad.add k) = some (.int .u8 (zs.getD k 0)) := by
      intro k hk
      refine h3 ad rfl k _ ?_
      simp [List.getD, show k < zs.length by omega]
    obtain ⟨b, off, spot⟩ := ad
    have hspot : spot = none := by simpa [Addr.add] using World.cell?_spot (hcell 0 hl)
    subst hspot
    refine ⟨b, off, rfl, ?_, fun k hk => by rw [← Addr.add_lit]; exact hcell k hk⟩
    have := World.block_lt_of_cell? w _ (hcell 0 hl)
    simpa [Addr.add] using this

theorem Src.below {w w' : World} {a : Option Addr} {l c : Nat} {zs : List Int} (h : Src w a l c zs) (hb : Below w.heap.size w w') : Src w' a l c zs := by
  refine ⟨h.1, h.2.1, fun ad had j u hu => ?_⟩
  have := h.2.2 ad had j u hu
  rw [hb.cell (World.block_lt_of_cell? w _ this)]
  exact this

theorem Row.take_src {w : World} {g : Nat} {zs : List Int} (h : Row w g zs) (m : Nat) : ∀ ad, some (⟨g, 0, none⟩ : Addr) = some ad → ∀ j u, ((zs.take m).map (Value.int .u8))[j]? = some u → w.cell? (ad.add j) = some u := by
  intro ad had j u hu
  cases had
  have hj := (List.getElem?_eq_some_iff.1 hu).1
  simp at hj
  rw [Addr.add_lit, h.cells j (by omega)]
  rw [List.getElem?_map, List.getElem?_take, if_pos (by omega)] at hu
  obtain ⟨y, hy, rfl⟩ := Option.map_eq_some_iff.1 hu
  simp only [List.getD, hy, Option.getD_some]

theorem Row.drop_src {w : World} {g : Nat} {zs : List Int} (h : Row w g zs) (m : Nat) : ∀ ad, some (⟨g, m, none⟩ : Addr) = some ad → ∀ j u, ((zs.drop m).map (Value.int .u8))[j]? = some u → w.cell? (ad.add j) = some u := by
  intro ad had j u hu
  cases had
  have hj := (List.getElem?_eq_some_iff.1 hu).1
  simp at hj
  have hc := h.cells (m + j) (by omega)
  rw [Nat.zero_add] at hc
  rw [Addr.add_lit, hc]
  rw [List.getElem?_map, List.getElem?_drop] at hu
  obtain ⟨y, hy, rfl⟩ := Option.map_eq_some_iff.1 hu
  simp only [List.getD, hy, Option.getD_some]

theorem take_len {zs : List Int} {l m : Nat} (h : zs.length = l) (hm : m ≤ l) : ((zs.take m).map (Value.int .u8)).length = m * 1 := by simp; omega
theorem drop_len {zs : List Int} {l m : Nat} (h : zs.length = l) : ((zs.drop m).map (Value.int .u8)).length = (l - m) * 1 := by simp; omega

/-- A row of the call's own that owns all of the bytes zs reads as a slice of them. -/
theorem own_cells {w : World} {base g n cap : Nat} {zs : List Int} (h : w.ownsRow base 5 1 (.slice (some ⟨g, 0, none⟩) n cap) n (zs.map (Value.int .u8))) : ∀ k, k < n → w.cell? ⟨g, 0 + k, none⟩ = some (.int .u8 (zs.getD k 0)) := by
  intro k hk
  have hl := h.1
  simp at hl
  have := h.cells (g := g) rfl k (.int .u8 (zs.getD k 0)) (by simp [List.getD, show k < zs.length by omega])
  rw [Addr.add_lit] at this
  exact this

theorem own_lt {w : World} {base g n cap : Nat} {xs : List Value} (h : w.ownsRow base 5 1 (.slice (some ⟨g, 0, none⟩) n cap) n xs) : g < w.heap.size := (h.lt g rfl).2

theorem Try.info5 : (Try.prog.info? 5).map (fun i => (i.zero, i.size, i.bytes)) = some (some (.int .u8 0), 1, 1) := by kernel_rfl
theorem Try.size5 : (Try.prog.info? 5).map (·.size) = some 1 := by kernel_rfl

/-- 'zzc := make([]byte, len(data)); copy(zzc, data)': the copy's run; a new block that holds just the bytes. -/
theorem copied {w w1 : World} {x : Addr} {l0 c0 : Nat} {zs : List Int} {xs : List Value} (s0 : Src w (some x) l0 c0 zs) (own : w1.ownsRow w.heap.size 5 1 (.slice (some ⟨w.heap.size, 0, none⟩) l0 l0) l0 xs) (grow : w.grownBy w1 none) :
    ∃ w2, (Builtin.copy_ #[22, 22] 3 #[.slice (some ⟨w.heap.size, 0, none⟩) l0 l0, .slice (some x) l0 c0]).run Try.prog w1 = .ok (.int .i64 l0) w2 ∧ Row w2 w.heap.size zs ∧ Below w.heap.size w w2 := by
  have b1 : Below w.heap.size w w1 := (Below.refl _ w).grown grow (Nat.le_refl _) (by intro k hk; cases hk)
  rcases own.2 with ⟨hv, _⟩ | ⟨g, cap, cur, hv, hg, hh, _, _, hs, _⟩
  · cases hv
  · injection hv with h1 h2 h3
    injection h1 with h1
    injection h1 with h1
    subst h1; subst h3
    have s1 := s0.below b1
    have hlen : (zs.map (Value.int .u8)).length = l0 := by simp [s0.1]
    have hrun := run_copy_row (P := Try.prog) w1 22 22 3 5 w.heap.size 0 l0 l0 x l0 c0 cur 5 (zs.map (Value.int .u8)) Try.underlying22 Try.size5 hh (by rw [hlen]; simp) (s1.2.2 x rfl) (by rw [hlen]; omega) (ints_oneCell _ _)
    have e : (cur.toList.take 0 ++ zs.map (Value.int .u8) ++ cur.toList.drop (0 + (zs.map (Value.int .u8)).length)).toArray = (zs.map (Value.int .u8)).toArray := by
      rw [hlen, List.drop_eq_nil_of_le (by simp; omega)]; simp
    rw [e, hlen] at hrun
    exact ⟨_, hrun, setRow_heap w1 _ _ _ 5 _ hh, below_setRow b1 (Nat.le_refl _) _⟩
end Go.Proofs.Qxb6617151a
