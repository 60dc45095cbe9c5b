/-
  PLAIN MATHEMATICS FOR SEAT b6617151a: lists of byte values; no Go in sight.
-/
namespace Go.Proofs.Qxb6617151a.Plain

/-- The offset of the first unescaped quote in a list of byte values; 'odd': an odd run of backslashes stands right ahead of the list. -/
def cq : Bool → List Int → Option Nat
  | _, [] => none
  | odd, x :: r =>
    if x = 34 then (if odd = true then (cq false r).map (· + 1) else some 0)
    else if x = 92 then (cq (!odd) r).map (· + 1)
    else (cq false r).map (· + 1)

/-- The place of the first unescaped quote at or behind place k. -/
def closeFrom (zs : List Int) (k : Nat) (odd : Bool) : Option Nat := (cq odd (zs.drop k)).map (· + k)

theorem drop_at (zs : List Int) (k : Nat) (h : k < zs.length) : zs.drop k = zs.getD k 0 :: zs.drop (k + 1) := by
  rw [List.drop_eq_getElem_cons h]
  simp [List.getD, h]

theorem close_end (zs : List Int) (k : Nat) (odd : Bool) (h : zs.length ≤ k) : closeFrom zs k odd = none := by
  unfold closeFrom
  rw [List.drop_eq_nil_of_le h]
  rfl

theorem map_shift (o : Option Nat) (k : Nat) : (o.map (· + 1)).map (· + k) = o.map (· + (k + 1)) := by
  cases o with
  | none => rfl
  | some x => simp; omega

theorem close_hit (zs : List Int) (k : Nat) (h : k < zs.length) (e : zs.getD k 0 = 34) : closeFrom zs k false = some k := by
  unfold closeFrom
  rw [drop_at zs k h, e]
  simp [cq]

theorem close_esc (zs : List Int) (k : Nat) (h : k < zs.length) (e : zs.getD k 0 = 34) : closeFrom zs k true = closeFrom zs (k + 1) false := by
  unfold closeFrom
  rw [drop_at zs k h, e]
  simp only [cq, if_true]
  rw [map_shift]

theorem close_back (zs : List Int) (k : Nat) (odd : Bool) (h : k < zs.length) (e : zs.getD k 0 = 92) : closeFrom zs k odd = closeFrom zs (k + 1) (!odd) := by
  unfold closeFrom
  rw [drop_at zs k h, e]
  simp only [cq]
  rw [if_neg (by decide), if_pos (by trivial), map_shift]

theorem close_other (zs : List Int) (k : Nat) (odd : Bool) (h : k < zs.length) (e : zs.getD k 0 ≠ 34) (e' : zs.getD k 0 ≠ 92) : closeFrom zs k odd = closeFrom zs (k + 1) false := by
  unfold closeFrom
  rw [drop_at zs k h]
  simp only [cq]
  rw [if_neg e, if_neg e', map_shift]

theorem close_range {zs : List Int} {k : Nat} {odd : Bool} {q : Nat} (h : closeFrom zs k odd = some q) : k ≤ q ∧ q < zs.length := by
  unfold closeFrom at h
  have aux : ∀ (l : List Int) (o : Bool) (j : Nat), cq o l = some j → j < l.length := by
    intro l
    induction l with
    | nil => intro o j hj; simp [cq] at hj
    | cons x r ih =>
      intro o j hj
      simp only [cq] at hj
      have step : ∀ b, (cq b r).map (· + 1) = some j → j < (x :: r).length := by
        intro b hb
        obtain ⟨i, hi, rfl⟩ := Option.map_eq_some_iff.1 hb
        have := ih b i hi
        simp; omega
      by_cases h1 : x = 34
      · rw [if_pos h1] at hj
        by_cases h2 : o = true
        · rw [if_pos h2] at hj; exact step _ hj
        · rw [if_neg h2] at hj; cases hj; simp
      · rw [if_neg h1] at hj
        by_cases h2 : x = 92
        · rw [if_pos h2] at hj; exact step _ hj
        · rw [if_neg h2] at hj; exact step _ hj
  obtain ⟨i, hi, rfl⟩ := Option.map_eq_some_iff.1 h
  have := aux _ _ _ hi
  simp at this
  omega

/-- The step of skipString over an escaped byte. -/
theorem close_two {zs : List Int} {k : Nat} {q : Nat} (h : closeFrom zs k false = some q) (e : zs.getD k 0 = 92) : k + 1 < zs.length ∧ closeFrom zs (k + 2) false = some q := by
  have hr := close_range h
  have hk : k < zs.length := by omega
  rw [close_back zs k false hk e] at h
  have hr' := close_range h
  have hk' : k + 1 < zs.length := by omega
  refine ⟨hk', ?_⟩
  by_cases h1 : zs.getD (k + 1) 0 = 34
  · rw [show (!false) = true from rfl, close_esc zs (k + 1) hk' h1] at h; exact h
  · by_cases h2 : zs.getD (k + 1) 0 = 92
    · rw [close_back zs (k + 1) _ hk' h2] at h; exact h
    · rw [close_other zs (k + 1) _ hk' h1 h2] at h; exact h

theorem close_one {zs : List Int} {k : Nat} {q : Nat} (h : closeFrom zs k false = some q) (e : zs.getD k 0 ≠ 34) (e' : zs.getD k 0 ≠ 92) : closeFrom zs (k + 1) false = some q := by
  have hr := close_range h
  rw [close_other zs k false (by omega) e e'] at h; exact h

theorem close_here {zs : List Int} {k : Nat} {q : Nat} (h : closeFrom zs k false = some q) (e : zs.getD k 0 = 34) : q = k := by
  have hr := close_range h
  rw [close_hit zs k (by omega) e] at h; cases h; rfl

/-- What the scan of a list that holds its quote gives does not hang on what follows the quote. -/
theorem cq_follow (l : List Int) : ∀ (o : Bool) (j : Nat) (u : List Int), cq o l = some j → cq o (l.take (j + 1) ++ u) = some j := by
  induction l with
  | nil => intro o j u hj; simp [cq] at hj
  | cons x r ih =>
    intro o j u hj
    simp only [cq] at hj
    have step : ∀ b, (cq b r).map (· + 1) = some j → (cq b ((r.take j) ++ u)).map (· + 1) = some j := by
      intro b hb
      obtain ⟨i, hi, rfl⟩ := Option.map_eq_some_iff.1 hb
      rw [ih b i u hi]; rfl
    simp only [List.take_succ_cons, List.cons_append, cq]
    by_cases h1 : x = 34
    · rw [if_pos h1] at hj ⊢
      by_cases h2 : o = true
      · rw [if_pos h2] at hj ⊢; exact step _ hj
      · rw [if_neg h2] at hj ⊢; exact hj
    · rw [if_neg h1] at hj ⊢
      by_cases h2 : x = 92
      · rw [if_pos h2] at hj ⊢; exact step _ hj
      · rw [if_neg h2] at hj ⊢; exact step _ hj

theorem close_follow (zs u : List Int) (k q : Nat) (h : closeFrom zs k false = some q) : closeFrom (zs.take (q + 1) ++ u) k false = some q := by
  have hr := close_range h
  unfold closeFrom at h ⊢
  obtain ⟨j, hj, rfl⟩ := Option.map_eq_some_iff.1 h
  have e : (zs.take (j + k + 1) ++ u).drop k = (zs.drop k).take (j + 1) ++ u := by
    rw [List.drop_append_of_le_length (by simp; omega), List.drop_take]
    congr 2; omega
  rw [e, cq_follow _ _ _ _ hj]; rfl

/-- Text that closes no string and leaves no escape open; 'odd': an odd run of backslashes stands right ahead of it. -/
def safe : Bool → List Int → Bool
  | odd, [] => !odd
  | odd, x :: r =>
    if x = 34 then (if odd = true then safe false r else false)
    else if x = 92 then safe (!odd) r
    else safe false r

theorem cq_safe (t : List Int) : ∀ (o : Bool) (l : List Int), safe o t = true → cq o (t ++ l) = (cq false l).map (· + t.length) := by
  induction t with
  | nil =>
    intro o l h
    simp [safe] at h
    subst h
    simp
  | cons x r ih =>
    intro o l h
    simp only [safe] at h
    have step : ∀ b, safe b r = true → (cq b (r ++ l)).map (· + 1) = (cq false l).map (· + (x :: r).length) := by
      intro b hb
      rw [ih b l hb]
      cases cq false l with
      | none => rfl
      | some y => simp; omega
    simp only [List.cons_append, cq]
    by_cases h1 : x = 34
    · rw [if_pos h1] at h ⊢
      by_cases h2 : o = true
      · rw [if_pos h2] at h ⊢; exact step _ h
      · rw [if_neg h2] at h; cases h
    · rw [if_neg h1] at h ⊢
      by_cases h2 : x = 92
      · rw [if_pos h2] at h ⊢; exact step _ h
      · rw [if_neg h2] at h ⊢; exact step _ h

theorem close_insert (zs t : List Int) (k q : Nat) (hk : k ≤ zs.length) (ht : safe false t = true) (h : closeFrom zs k false = some q) :
    closeFrom (zs.take k ++ t ++ zs.drop k) k false = some (q + t.length) := by
  unfold closeFrom at h ⊢
  obtain ⟨j, hj, rfl⟩ := Option.map_eq_some_iff.1 h
  have e : (zs.take k ++ t ++ zs.drop k).drop k = t ++ zs.drop k := by
    rw [List.append_assoc, List.drop_append]
    simp
    simp [Nat.min_eq_left hk]
  rw [e, cq_safe t false _ ht, hj]
  simp; omega

/-- 'safe' over a list from place k on. -/
def safeFrom (zs : List Int) (k : Nat) (odd : Bool) : Bool := safe odd (zs.drop k)
theorem safe_end (zs : List Int) (k : Nat) (odd : Bool) (h : zs.length ≤ k) : safeFrom zs k odd = !odd := by
  unfold safeFrom
  rw [List.drop_eq_nil_of_le h]; rfl
theorem safe_quote (zs : List Int) (k : Nat) (h : k < zs.length) (e : zs.getD k 0 = 34) : safeFrom zs k false = false := by
  unfold safeFrom
  rw [drop_at zs k h, e]; simp [safe]
theorem safe_esc (zs : List Int) (k : Nat) (h : k < zs.length) (e : zs.getD k 0 = 34) : safeFrom zs k true = safeFrom zs (k + 1) false := by
  unfold safeFrom
  rw [drop_at zs k h, e]; simp [safe]
theorem safe_back (zs : List Int) (k : Nat) (odd : Bool) (h : k < zs.length) (e : zs.getD k 0 = 92) : safeFrom zs k odd = safeFrom zs (k + 1) (!odd) := by
  unfold safeFrom
  rw [drop_at zs k h, e]; simp [safe]
theorem safe_other (zs : List Int) (k : Nat) (odd : Bool) (h : k < zs.length) (e : zs.getD k 0 ≠ 34) (e' : zs.getD k 0 ≠ 92) : safeFrom zs k odd = safeFrom zs (k + 1) false := by
  unfold safeFrom
  rw [drop_at zs k h]; simp only [safe]; rw [if_neg e, if_neg e']

/-! ### Separators, tokens, lines -/
/-- Is it a separator? -/
def skb (x : Int) : Bool := decide (x = 10 ∨ x = 32 ∨ x = 9 ∨ x = 13 ∨ x = 44 ∨ x = 58)
/-- The offset of the first byte that is no separator. -/
def tok : List Int → Option Nat
  | [] => none
  | x :: r => if skb x = true then (tok r).map (· + 1) else some 0
/-- How many line feeds. -/
def lines : List Int → Nat
  | [] => 0
  | x :: r => (if x = 10 then 1 else 0) + lines r
def tokFrom (zs : List Int) (k : Nat) : Option Nat := (tok (zs.drop k)).map (· + k)

theorem tok_end (zs : List Int) (k : Nat) (h : zs.length ≤ k) : tokFrom zs k = none := by
  unfold tokFrom
  rw [List.drop_eq_nil_of_le h]; rfl
theorem tok_hit (zs : List Int) (k : Nat) (h : k < zs.length) (e : skb (zs.getD k 0) = false) : tokFrom zs k = some k := by
  unfold tokFrom
  rw [drop_at zs k h]; simp only [tok]; rw [if_neg (by rw [e]; decide)]; simp
theorem tok_skip (zs : List Int) (k : Nat) (h : k < zs.length) (e : skb (zs.getD k 0) = true) : tokFrom zs k = tokFrom zs (k + 1) := by
  unfold tokFrom
  rw [drop_at zs k h]; simp only [tok]; rw [if_pos e, map_shift]
theorem tok_lt (l : List Int) : ∀ j, tok l = some j → j < l.length := by
  induction l with
  | nil => intro j h; simp [tok] at h
  | cons x r ih =>
    intro j h
    simp only [tok] at h
    by_cases hs : skb x = true
    · rw [if_pos hs] at h
      obtain ⟨i, hi, rfl⟩ := Option.map_eq_some_iff.1 h
      have := ih i hi
      simp; omega
    · rw [if_neg hs] at h; cases h; simp
theorem tok_range {zs : List Int} {k p : Nat} (h : tokFrom zs k = some p) : k ≤ p ∧ p < zs.length := by
  unfold tokFrom at h
  obtain ⟨j, hj, rfl⟩ := Option.map_eq_some_iff.1 h
  have := tok_lt _ _ hj
  simp at this
  omega
theorem tok_at {zs : List Int} {k p : Nat} (h : tokFrom zs k = some p) : skb (zs.getD p 0) = false ∧ ∀ i, k ≤ i → i < p → skb (zs.getD i 0) = true := by
  obtain ⟨d, hd⟩ : ∃ d, d = p - k := ⟨_, rfl⟩
  induction d generalizing k with
  | zero =>
    have hr := tok_range h
    have e : k = p := by omega
    subst e
    refine ⟨?_, fun i h1 h2 => by omega⟩
    by_cases hs : skb (zs.getD k 0) = true
    · rw [tok_skip zs k hr.2 hs] at h
      have := tok_range h; omega
    · simpa using hs
  | succ d ih =>
    have hr := tok_range h
    by_cases hs : skb (zs.getD k 0) = true
    · rw [tok_skip zs k (by omega) hs] at h
      have := ih h (by omega)
      refine ⟨this.1, fun i h1 h2 => ?_⟩
      by_cases e : i = k
      · rw [e]; exact hs
      · exact this.2 i (by omega) h2
    · rw [tok_hit zs k (by omega) (by simpa using hs)] at h
      cases h; omega

theorem lines_append (a b : List Int) : lines (a ++ b) = lines a + lines b := by
  induction a with
  | nil => simp [lines]
  | cons x r ih => simp only [List.cons_append, lines, ih]; omega
theorem lines_le (l : List Int) : lines l ≤ l.length := by
  induction l with
  | nil => simp [lines]
  | cons x r ih => simp only [lines, List.length_cons]; split <;> omega
theorem take_at (zs : List Int) (k : Nat) (h : k < zs.length) : zs.take (k + 1) = zs.take k ++ [zs.getD k 0] := by
  rw [List.take_succ_eq_append_getElem h]; simp [List.getD, h]
theorem lines_take (zs : List Int) (k : Nat) (h : k < zs.length) : lines (zs.take (k + 1)) = lines (zs.take k) + (if zs.getD k 0 = 10 then 1 else 0) := by
  rw [take_at zs k h, lines_append]; simp [lines]
theorem lines_mono (zs : List Int) (j k : Nat) (h : j ≤ k) : lines (zs.take j) ≤ lines (zs.take k) := by
  have e : zs.take k = zs.take j ++ (zs.drop j).take (k - j) := by
    rw [← List.take_add]; congr 1; omega
  rw [e, lines_append]; omega

/-- Every byte a separator. -/
def allSep (l : List Int) : Bool := l.all skb
theorem tok_allSep (t l : List Int) (h : allSep t = true) : tok (t ++ l) = (tok l).map (· + t.length) := by
  induction t with
  | nil => simp
  | cons x r ih =>
    simp [allSep] at h
    have h2 : allSep r = true := by simpa [allSep] using h.2
    simp only [List.cons_append, tok]
    rw [if_pos h.1, ih h2]
    cases tok l with
    | none => rfl
    | some y => simp; omega
theorem tok_insert (zs t : List Int) (k p : Nat) (hk : k ≤ zs.length) (ht : allSep t = true) (h : tokFrom zs k = some p) :
    tokFrom (zs.take k ++ t ++ zs.drop k) k = some (p + t.length) := by
  unfold tokFrom at h ⊢
  obtain ⟨j, hj, rfl⟩ := Option.map_eq_some_iff.1 h
  have e : (zs.take k ++ t ++ zs.drop k).drop k = t ++ zs.drop k := by
    rw [List.append_assoc, List.drop_append]
    simp
    simp [Nat.min_eq_left hk]
  rw [e, tok_allSep t _ ht, hj]
  simp; omega
theorem insert_at (zs t : List Int) (k p : Nat) (hk : k ≤ p) (hp : p < zs.length) : (zs.take k ++ t ++ zs.drop k).getD (p + t.length) 0 = zs.getD p 0 := by
  have hl : (zs.take k ++ t).length = k + t.length := by simp; omega
  simp only [List.getD]
  rw [List.getElem?_append_right (by omega), hl, List.getElem?_drop]
  congr 2; omega
theorem lines_insert (zs t : List Int) (k p : Nat) (hk : k ≤ p) (hp : p < zs.length) :
    lines ((zs.take k ++ t ++ zs.drop k).take (p + t.length)) = lines (zs.take p) + lines t := by
  have hl : (zs.take k ++ t).length = k + t.length := by simp; omega
  have e : (zs.take k ++ t ++ zs.drop k).take (p + t.length) = zs.take k ++ t ++ (zs.drop k).take (p - k) := by
    rw [List.take_append, hl, List.take_of_length_le (by omega)]
    congr 2; omega
  have e2 : zs.take p = zs.take k ++ (zs.drop k).take (p - k) := by
    rw [← List.take_add]; congr 1; omega
  rw [e, e2, lines_append, lines_append, lines_append]; omega
theorem take_insert (zs t : List Int) (k : Nat) (hk : k ≤ zs.length) : (zs.take k ++ t ++ zs.drop k).take k = zs.take k := by
  rw [List.append_assoc, List.take_append_of_le_length (by simp; omega), List.take_take]; simp

end Go.Proofs.Qxb6617151a.Plain
