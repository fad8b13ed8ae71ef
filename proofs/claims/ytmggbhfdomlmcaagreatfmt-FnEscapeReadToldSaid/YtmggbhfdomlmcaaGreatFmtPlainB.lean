/-
  Plain facts on the escapes of a Jsonnet string: which runes stand for which, in three cases. Nothing of Go or of memory stands here.
-/
import Derived.Test.YtmggbhfdomlmcaaGreatFmtPlainA
namespace Go.Proofs.YtmggbhfdomlmcaaGreatFmt
open Go.Lib

/-- A figure of base 16, small letters. -/
def hexRune (k : Nat) : Nat := if k < 10 then 48 + k else 87 + k

/-- What stands for a rune between quotes. -/
def esc1 (single : Bool) (r : Nat) : List Nat :=
  if r = 34 then (if single then [34] else [92, 34])
  else if r = 39 then (if single then [92, 39] else [39])
  else if r = 92 then [92, 92]
  else if r = 8 then [92, 98]
  else if r = 12 then [92, 102]
  else if r = 10 then [92, 110]
  else if r = 13 then [92, 114]
  else if r = 9 then [92, 116]
  else if r < 32 ∨ (127 ≤ r ∧ r ≤ 159) then [92, 117, 48, 48, hexRune (r / 16), hexRune (r % 16)]
  else [r]

/-- What stands for a list of runes. -/
def escR (single : Bool) : List Nat → List Nat
  | [] => []
  | r :: t => esc1 single r ++ escR single t

/-- The quote. -/
def quoteOf (single : Bool) : Nat := if single then 39 else 34

/-- The rune for which a letter behind a backslash stands. -/
def Says (x r : Nat) : Prop := (x = 34 ∧ r = 34) ∨ (x = 39 ∧ r = 39) ∨ (x = 92 ∧ r = 92) ∨ (x = 98 ∧ r = 8) ∨ (x = 102 ∧ r = 12) ∨ (x = 110 ∧ r = 10) ∨ (x = 114 ∧ r = 13) ∨ (x = 116 ∧ r = 9)

/-- The three cases. -/
theorem esc1_cases (single : Bool) (r : Nat) :
    (esc1 single r = [r] ∧ r ≠ quoteOf single ∧ r ≠ 92 ∧ 32 ≤ r ∧ ¬ (127 ≤ r ∧ r ≤ 159)) ∨
    (∃ x, esc1 single r = [92, x] ∧ Says x r) ∨
    (esc1 single r = [92, 117, 48, 48, hexRune (r / 16), hexRune (r % 16)] ∧ r < 160) := by
  unfold esc1 quoteOf Says
  by_cases h1 : r = 34
  · subst h1; cases single <;> simp
  by_cases h2 : r = 39
  · subst h2; cases single <;> simp
  by_cases h3 : r = 92
  · subst h3; simp
  by_cases h4 : r = 8
  · subst h4; simp
  by_cases h5 : r = 12
  · subst h5; simp
  by_cases h6 : r = 10
  · subst h6; simp
  by_cases h7 : r = 13
  · subst h7; simp
  by_cases h8 : r = 9
  · subst h8; simp
  by_cases h9 : r < 32 ∨ (127 ≤ r ∧ r ≤ 159)
  · right; right
    rw [if_neg h1, if_neg h2, if_neg h3, if_neg h4, if_neg h5, if_neg h6, if_neg h7, if_neg h8, if_pos h9]
    exact ⟨rfl, by omega⟩
  · left
    rw [if_neg h1, if_neg h2, if_neg h3, if_neg h4, if_neg h5, if_neg h6, if_neg h7, if_neg h8, if_neg h9]
    refine ⟨rfl, ?_, h3, by omega, by omega⟩
    cases single
    · simpa using h1
    · simpa using h2

theorem esc1_len (single : Bool) (r : Nat) : 1 ≤ (esc1 single r).length ∧ (esc1 single r).length ≤ 6 := by
  rcases esc1_cases single r with ⟨e, _⟩ | ⟨x, e, _⟩ | ⟨e, _⟩ <;> rw [e] <;> simp

theorem escR_append (single : Bool) (a b : List Nat) : escR single (a ++ b) = escR single a ++ escR single b := by
  induction a with
  | nil => rfl
  | cons r t ih => simp [escR, ih]

theorem hexRune_cases (k : Nat) (h : k < 16) : (48 ≤ hexRune k ∧ hexRune k ≤ 57 ∧ k = hexRune k - 48) ∨ (97 ≤ hexRune k ∧ hexRune k ≤ 102 ∧ k = hexRune k - 87) := by
  unfold hexRune
  split <;> omega

/-- Runes that are neither the quote nor a backslash nor a new line. -/
def Plain (q : Nat) (l : List Nat) : Prop := ∀ r ∈ l, r ≠ q ∧ r ≠ 92 ∧ r ≠ 10 ∧ RuneOk r

/-- What a lexer meets where a rune is escaped: a plain rune, or a backslash, a rune, and plain ones. -/
theorem esc1_scan (single : Bool) (r : Nat) :
    (esc1 single r = [r] ∧ r ≠ quoteOf single ∧ r ≠ 92 ∧ r ≠ 10) ∨ (∃ x p, esc1 single r = 92 :: x :: p ∧ x ≠ 10 ∧ RuneOk x ∧ Plain (quoteOf single) p) := by
  rcases esc1_cases single r with ⟨e, h1, h2, h3, _⟩ | ⟨x, e, h⟩ | ⟨e, h⟩
  · exact Or.inl ⟨e, h1, h2, by omega⟩
  · refine Or.inr ⟨x, [], e, ?_, ?_, fun _ hm => by cases hm⟩
    · unfold Says at h; omega
    · unfold Says at h; unfold RuneOk; omega
  · have k1 := hexRune_cases (r / 16) (by omega)
    have k2 := hexRune_cases (r % 16) (by omega)
    refine Or.inr ⟨117, [48, 48, hexRune (r / 16), hexRune (r % 16)], e, by omega, by unfold RuneOk; omega, ?_⟩
    intro y hy
    have hq : quoteOf single = 39 ∨ quoteOf single = 34 := by unfold quoteOf; cases single <;> simp
    unfold RuneOk
    simp only [List.mem_cons, List.mem_nil_iff, or_false] at hy
    rcases hy with rfl | rfl | rfl | rfl <;> omega

end Go.Proofs.YtmggbhfdomlmcaaGreatFmt
