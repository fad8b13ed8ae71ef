/-
  The walks of the small functions on runes and bytes, of the parser and of the reference: what each answers.
-/
import Derived.Test.YtmggbhfdomlmcaaGreatFmtProg
import Derived.WalkKit
import Derived.Deep.QuietTactic
import Derived.BigQuiet
namespace Go.Proofs.YtmggbhfdomlmcaaGreatFmt
open Go.RowKit

def upB (r : Int) : Bool := decide (65 ≤ r ∧ r ≤ 90)
def lowB (r : Int) : Bool := decide (97 ≤ r ∧ r ≤ 122)
def numB (r : Int) : Bool := decide (48 ≤ r ∧ r ≤ 57)
def firstB (r : Int) : Bool := upB r || lowB r || decide (r = 95)
def identB (r : Int) : Bool := firstB r || numB r
def hwsB (r : Int) : Bool := decide (r = 32 ∨ r = 9 ∨ r = 13)
def wsB (r : Int) : Bool := decide (r = 10) || hwsB r

theorem up_any (r : Int) (w : World) : Calls Tryz.prog 47 #[.int .i32 r] w fun e w' => e = .returned (.bool (upB r)) ∧ w = w' := by
  by_cases h1 : 65 ≤ r <;> by_cases h2 : r ≤ 90
  all_goals
    go_enter Tryz.func47, Tryz.ntmps47
    go_wp2
    go_ret
    exact ⟨by simp [upB, h1, h2], rfl⟩

theorem low_any (r : Int) (w : World) : Calls Tryz.prog 48 #[.int .i32 r] w fun e w' => e = .returned (.bool (lowB r)) ∧ w = w' := by
  by_cases h1 : 97 ≤ r <;> by_cases h2 : r ≤ 122
  all_goals
    go_enter Tryz.func48, Tryz.ntmps48
    go_wp2
    go_ret
    exact ⟨by simp [lowB, h1, h2], rfl⟩

theorem num_any (r : Int) (w : World) : Calls Tryz.prog 49 #[.int .i32 r] w fun e w' => e = .returned (.bool (numB r)) ∧ w = w' := by
  by_cases h1 : 48 ≤ r <;> by_cases h2 : r ≤ 57
  all_goals
    go_enter Tryz.func49, Tryz.ntmps49
    go_wp2
    go_ret
    exact ⟨by simp [numB, h1, h2], rfl⟩

theorem hws_any (r : Int) (w : World) : Calls Tryz.prog 113 #[.int .i32 r] w fun e w' => e = .returned (.bool (hwsB r)) ∧ w = w' := by
  by_cases h1 : r = 32
  · subst h1
    go_enter Tryz.func113, Tryz.ntmps113
    go_wp2
    go_ret
    exact ⟨by simp [hwsB], rfl⟩
  by_cases h2 : r = 9
  · subst h2
    go_enter Tryz.func113, Tryz.ntmps113
    go_wp2
    go_ret
    exact ⟨by simp [hwsB], rfl⟩
  by_cases h3 : r = 13
  · subst h3
    go_enter Tryz.func113, Tryz.ntmps113
    go_wp2
    go_ret
    exact ⟨by simp [hwsB], rfl⟩
  · have b1 : (r == 32) = false := by simpa using h1
    have b2 : (r == 9) = false := by simpa using h2
    have b3 : (r == 13) = false := by simpa using h3
    go_enter Tryz.func113, Tryz.ntmps113
    go_wp2
    go_ret
    exact ⟨by simp [hwsB, h1, h2, h3], rfl⟩

theorem ws_any (r : Int) (w : World) : Calls Tryz.prog 82 #[.int .i32 r] w fun e w' => e = .returned (.bool (wsB r)) ∧ w = w' := by
  by_cases h1 : r = 10
  · subst h1
    go_enter Tryz.func82, Tryz.ntmps82
    go_wp2
    go_ret
    exact ⟨by simp [wsB], rfl⟩
  · have b1 : (r == 10) = false := by simpa using h1
    go_enter Tryz.func82, Tryz.ntmps82
    go_wp2_with (go_at_call 113; refine (hws_any _ _).mono ?_; rintro e w' ⟨rfl, rfl⟩)
    go_ret
    exact ⟨by simp [wsB, h1], rfl⟩

theorem first_any (r : Int) (w : World) : Calls Tryz.prog 29 #[.int .i32 r] w fun e w' => e = .returned (.bool (firstB r)) ∧ w = w' := by
  cases h1 : upB r <;> cases h2 : lowB r <;> cases h3 : (r == 95)
  all_goals
    go_enter Tryz.func29, Tryz.ntmps29
    go_wp2_with (first | (go_at_call 47; refine (up_any _ _).mono ?_; rintro e w' ⟨rfl, rfl⟩) | (go_at_call 48; refine (low_any _ _).mono ?_; rintro e w' ⟨rfl, rfl⟩))
    go_ret
    exact ⟨by have : decide (r = 95) = (r == 95) := rfl; simp [firstB, h1, h2, this, h3], rfl⟩

theorem ident_any (r : Int) (w : World) : Calls Tryz.prog 30 #[.int .i32 r] w fun e w' => e = .returned (.bool (identB r)) ∧ w = w' := by
  cases h1 : firstB r
  all_goals
    go_enter Tryz.func30, Tryz.ntmps30
    go_wp2_with (first | (go_at_call 29; refine (first_any _ _).mono ?_; rintro e w' ⟨rfl, rfl⟩) | (go_at_call 49; refine (num_any _ _).mono ?_; rintro e w' ⟨rfl, rfl⟩))
    go_ret
    exact ⟨by simp [identB, h1], rfl⟩

end Go.Proofs.YtmggbhfdomlmcaaGreatFmt
