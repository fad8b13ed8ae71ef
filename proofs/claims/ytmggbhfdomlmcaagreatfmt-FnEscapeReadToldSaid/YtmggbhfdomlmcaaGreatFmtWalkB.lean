/-
  The words that are no names: the parser's switch over them, and the reference's list.
-/
import Derived.Test.YtmggbhfdomlmcaaGreatFmtWalkA
import Derived.Lib.Strings
namespace Go.Proofs.YtmggbhfdomlmcaaGreatFmt
open Go.RowKit

/-- The words that are no names, in the order of the reference. -/
def keys : List (List UInt8) := [[97, 115, 115, 101, 114, 116], [101, 108, 115, 101], [101, 114, 114, 111, 114], [102, 97, 108, 115, 101], [102, 111, 114], [102, 117, 110, 99, 116, 105, 111, 110], [105, 102], [105, 109, 112, 111, 114, 116], [105, 109, 112, 111, 114, 116, 115, 116, 114], [105, 109, 112, 111, 114, 116, 98, 105, 110], [105, 110], [108, 111, 99, 97, 108], [110, 117, 108, 108], [116, 97, 105, 108, 115, 116, 114, 105, 99, 116], [116, 104, 101, 110], [115, 101, 108, 102], [115, 117, 112, 101, 114], [116, 114, 117, 101]]

theorem str_eq (s : ByteArray) (l : List UInt8) (h : s.data.toList = l) : s = ⟨l.toArray⟩ := by
  subst h
  cases s
  simp

theorem kind_name (s : ByteArray) (w : World) (h : s.data.toList ∉ keys) : Calls Tryz.prog 31 #[.string s] w fun e w' => e = .returned (.int .i64 10) ∧ w = w' := by
  simp only [keys, List.mem_cons, List.mem_nil_iff, or_false, not_or] at h
  obtain ⟨h0, h1, h2, h3, h4, h5, h6, h7, h8, h9, h10, h11, h12, h13, h14, h15, h16, h17⟩ := h
  have b0 : (s.toList == [97, 115, 115, 101, 114, 116]) = false := by rw [Lib.toList_data]; simpa using h0
  have b1 : (s.toList == [101, 108, 115, 101]) = false := by rw [Lib.toList_data]; simpa using h1
  have b2 : (s.toList == [101, 114, 114, 111, 114]) = false := by rw [Lib.toList_data]; simpa using h2
  have b3 : (s.toList == [102, 97, 108, 115, 101]) = false := by rw [Lib.toList_data]; simpa using h3
  have b4 : (s.toList == [102, 111, 114]) = false := by rw [Lib.toList_data]; simpa using h4
  have b5 : (s.toList == [102, 117, 110, 99, 116, 105, 111, 110]) = false := by rw [Lib.toList_data]; simpa using h5
  have b6 : (s.toList == [105, 102]) = false := by rw [Lib.toList_data]; simpa using h6
  have b7 : (s.toList == [105, 109, 112, 111, 114, 116]) = false := by rw [Lib.toList_data]; simpa using h7
  have b8 : (s.toList == [105, 109, 112, 111, 114, 116, 115, 116, 114]) = false := by rw [Lib.toList_data]; simpa using h8
  have b9 : (s.toList == [105, 109, 112, 111, 114, 116, 98, 105, 110]) = false := by rw [Lib.toList_data]; simpa using h9
  have b10 : (s.toList == [105, 110]) = false := by rw [Lib.toList_data]; simpa using h10
  have b11 : (s.toList == [108, 111, 99, 97, 108]) = false := by rw [Lib.toList_data]; simpa using h11
  have b12 : (s.toList == [110, 117, 108, 108]) = false := by rw [Lib.toList_data]; simpa using h12
  have b13 : (s.toList == [116, 97, 105, 108, 115, 116, 114, 105, 99, 116]) = false := by rw [Lib.toList_data]; simpa using h13
  have b14 : (s.toList == [116, 104, 101, 110]) = false := by rw [Lib.toList_data]; simpa using h14
  have b15 : (s.toList == [115, 101, 108, 102]) = false := by rw [Lib.toList_data]; simpa using h15
  have b16 : (s.toList == [115, 117, 112, 101, 114]) = false := by rw [Lib.toList_data]; simpa using h16
  have b17 : (s.toList == [116, 114, 117, 101]) = false := by rw [Lib.toList_data]; simpa using h17
  clear h0 h1 h2 h3 h4 h5 h6 h7 h8 h9 h10 h11 h12 h13 h14 h15 h16 h17
  go_enter Tryz.func31, Tryz.ntmps31
  go_wp2
  go_ret
  exact ⟨rfl, rfl⟩

theorem kind_key (s : ByteArray) (w : World) (h : s.data.toList ∈ keys) : Calls Tryz.prog 31 #[.string s] w fun e w' => e ≠ .returned (.int .i64 10) ∧ (∃ n : Int, n ≠ 10 ∧ e = .returned (.int .i64 n)) ∧ w = w' := by
  simp only [keys, List.mem_cons, List.mem_nil_iff, or_false] at h
  rcases h with h | h | h | h | h | h | h | h | h | h | h | h | h | h | h | h | h | h
  all_goals
    have hs := str_eq s _ h
    subst hs
    clear h
    go_enter Tryz.func31, Tryz.ntmps31
    go_wp2
    go_ret
    exact ⟨by simp, ⟨_, by decide, rfl⟩, rfl⟩

theorem letter_any (c : Int) (w : World) : Calls Tryz.prog 16 #[.int .u8 c] w fun e w' => e = .returned (.bool (firstB c)) ∧ w = w' := by
  cases h3 : (c == 95) <;> by_cases h1 : 65 ≤ c <;> by_cases h2 : c ≤ 90 <;> by_cases h4 : 97 ≤ c <;> by_cases h5 : c ≤ 122
  all_goals
    go_enter Tryz.func16, Tryz.ntmps16
    go_wp2
    go_ret
    exact ⟨by have : decide (c = 95) = (c == 95) := rfl; simp [firstB, upB, lowB, h1, h2, h4, h5, this, h3], rfl⟩

theorem digit_any (c : Int) (w : World) : Calls Tryz.prog 17 #[.int .u8 c] w fun e w' => e = .returned (.bool (numB c)) ∧ w = w' := by
  by_cases h1 : 48 ≤ c <;> by_cases h2 : c ≤ 57
  all_goals
    go_enter Tryz.func17, Tryz.ntmps17
    go_wp2
    go_ret
    exact ⟨by simp [numB, h1, h2], rfl⟩

end Go.Proofs.YtmggbhfdomlmcaaGreatFmt
