/-
  What a lexer meets between quotes.
-/
import Derived.Test.YtmggbhfdomlmcaaGreatFmtPlainC
namespace Go.Proofs.YtmggbhfdomlmcaaGreatFmt
open Go.Lib

/-- Runes up to a quote q that ends them, in which a backslash hides what follows it. -/
def scanOk (q : Nat) : List Nat → Bool
  | [] => false
  | [x] => x == q
  | x :: y :: l => if x = q then false else if x = 92 then scanOk q l else scanOk q (y :: l)

theorem scan_one (q : Nat) (a : List Nat) (x : Nat) (h1 : x ≠ q) (h2 : x ≠ 92) (ha : a ≠ []) (h : scanOk q a = true) : scanOk q (x :: a) = true := by
  cases a with
  | nil => exact absurd rfl ha
  | cons y l => simp only [scanOk, if_neg h1, if_neg h2, h]

theorem scan_plain (q : Nat) (a : List Nat) : ∀ p : List Nat, Plain q p → a ≠ [] → scanOk q a = true → scanOk q (p ++ a) = true
  | [], _, _, h => h
  | x :: p, hp, ha, h =>
    scan_one q (p ++ a) x (hp x List.mem_cons_self).1 (hp x List.mem_cons_self).2.1 (by simp [ha]) (scan_plain q a p (fun r hr => hp r (List.mem_cons_of_mem _ hr)) ha h)

theorem scan_esc (single : Bool) : ∀ rs : List Nat, scanOk (quoteOf single) (escR single rs ++ [quoteOf single]) = true
  | [] => by simp [escR, scanOk]
  | r :: rs => by
    have ih := scan_esc single rs
    simp only [escR, List.append_assoc]
    rcases esc1_scan single r with ⟨e, h1, h2, _⟩ | ⟨x, p, e, _, _, hp⟩
    · rw [e]
      exact scan_one _ _ r h1 h2 (by simp) ih
    · rw [e]
      have := scan_plain _ _ p hp (by simp) ih
      have hq : (92 : Nat) ≠ quoteOf single := by cases single <;> decide
      simp only [List.cons_append, scanOk, if_neg hq, if_true, this]

/-- What stands between the quotes are runes, and none is a new line. -/
theorem esc_ok (single : Bool) : ∀ rs : List Nat, (∀ r ∈ rs, RuneOk r) → ∀ x ∈ escR single rs, RuneOk x ∧ x ≠ 10
  | [], _, x, hx => by simp [escR] at hx
  | r :: rs, h, x, hx => by
    simp only [escR, List.mem_append] at hx
    rcases hx with hx | hx
    · rcases esc1_scan single r with ⟨e, h1, h2, h3⟩ | ⟨y, p, e, h1, h2, hp⟩
      · rw [e] at hx
        have : x = r := by simpa using hx
        subst this
        exact ⟨h x List.mem_cons_self, h3⟩
      · rw [e] at hx
        rcases List.mem_cons.1 hx with rfl | hx
        · exact ⟨by unfold RuneOk; omega, by decide⟩
        rcases List.mem_cons.1 hx with rfl | hx
        · exact ⟨h2, h1⟩
        · exact ⟨(hp x hx).2.2.2, (hp x hx).2.2.1⟩
    · exact esc_ok single rs (fun r hr => h r (List.mem_cons_of_mem _ hr)) x hx

end Go.Proofs.YtmggbhfdomlmcaaGreatFmt
