/-
  An escaped text, byte by byte.
-/
import Derived.Test.YtmggbhfdomlmcaaGreatFmtPlainF
namespace Go.Proofs.YtmggbhfdomlmcaaGreatFmt
open Go.Lib

/-- A text's rest begins with a byte. -/
theorem drop_cons {s : ByteArray} {i : Nat} {c : UInt8} {l : List UInt8} (h : s.data.toList.drop i = c :: l) : ∃ hi : i < s.size, s[i]'hi = c ∧ s.data.toList.drop (i + 1) = l := by
  have hl : i < s.data.toList.length := by
    rcases Nat.lt_or_ge i s.data.toList.length with h1 | h1
    · exact h1
    · rw [List.drop_eq_nil_of_le h1] at h; cases h
  have hi : i < s.size := by rw [← data_size]; exact hl
  rw [List.drop_eq_getElem_cons hl] at h
  injection h with h1 h2
  exact ⟨hi, h1, h2⟩

/-- From i on: what is left of a rune's bytes, then runes escaped. -/
def Mid (single : Bool) (s : ByteArray) (i : Nat) (cs : List UInt8) (l : List Nat) : Prop :=
  s.data.toList.drop i = cs ++ enc (escR single l) ∧ (∀ c ∈ cs, c ≠ 92)

theorem enc_no92 (r : Nat) (h : r ≠ 92) (hr : RuneOk r) : ∀ c ∈ encodeRune (r : Int), c ≠ 92 := by
  intro c hc
  rcases (show r < 128 ∨ (128 ≤ r ∧ r < 2048) ∨ ((2048 ≤ r ∧ r < 55296) ∨ (57343 < r ∧ r ≤ 65535)) ∨ (65536 ≤ r ∧ r ≤ 1114111) by unfold RuneOk at hr; omega) with h1 | h1 | h1 | h1
  · rw [enc_ascii r h1] at hc
    simp only [List.mem_singleton] at hc
    subst hc
    intro e
    have := congrArg UInt8.toNat e
    simp at this
    omega
  · simp only [encodeRune, encodeRuneZ_two (r := (r : Int)) (by omega) (by omega), List.map_cons, List.map_nil, List.mem_cons, List.not_mem_nil, or_false] at hc
    rintro rfl
    rcases hc with e | e <;>
    · have := congrArg UInt8.toNat e
      simp at this
      omega
  · simp only [encodeRune, encodeRuneZ_three (r := (r : Int)) (by omega), List.map_cons, List.map_nil, List.mem_cons, List.not_mem_nil, or_false] at hc
    rintro rfl
    rcases hc with e | e | e <;>
    · have := congrArg UInt8.toNat e
      simp at this
      omega
  · simp only [encodeRune, encodeRuneZ_four (r := (r : Int)) (by omega) (by omega), List.map_cons, List.map_nil, List.mem_cons, List.not_mem_nil, or_false] at hc
    rintro rfl
    rcases hc with e | e | e | e <;>
    · have := congrArg UInt8.toNat e
      simp at this
      omega

theorem Mid.start {single : Bool} {s : ByteArray} {l : List Nat} (h : Tail s 0 (escR single l)) : Mid single s 0 [] l := ⟨h.2.1, fun _ hc => by cases hc⟩

/-- A byte that is no backslash, and what it leads to. -/
theorem Mid.byte {single : Bool} {s : ByteArray} {i : Nat} {c : UInt8} {cs : List UInt8} {l : List Nat} (h : Mid single s i (c :: cs) l) :
    ∃ hi : i < s.size, s[i]'hi = c ∧ c ≠ 92 ∧ Mid single s (i + 1) cs l := by
  obtain ⟨hi, h1, h2⟩ := drop_cons (h.1.trans (List.cons_append ..))
  exact ⟨hi, h1, h.2 c List.mem_cons_self, h2, fun x hx => h.2 x (List.mem_cons_of_mem _ hx)⟩

/-- The five ways to go on. -/
theorem Mid.cases {single : Bool} {s : ByteArray} {i : Nat} {cs : List UInt8} {l : List Nat} (h : Mid single s i cs l) (hok : ∀ r ∈ l, RuneOk r) :
    (s.size ≤ i ∧ cs = [] ∧ l = []) ∨
    (∃ c cs' l', (∃ hi : i < s.size, s[i]'hi = c) ∧ c ≠ 92 ∧ Mid single s (i + 1) cs' l' ∧ cs ++ enc l = c :: (cs' ++ enc l') ∧ ∀ r ∈ l', RuneOk r) ∨
    (∃ x r l', cs = [] ∧ l = r :: l' ∧ Says x r ∧ (∃ hi : i < s.size, s[i]'hi = 92) ∧ (∃ hi : i + 1 < s.size, s[i + 1]'hi = UInt8.ofNat x) ∧ Mid single s (i + 2) [] l') ∨
    (∃ r l', cs = [] ∧ l = r :: l' ∧ r < 160 ∧ (∃ hi : i < s.size, s[i]'hi = 92) ∧ (∃ hi : i + 1 < s.size, s[i + 1]'hi = 117) ∧ (∃ hi : i + 2 < s.size, s[i + 2]'hi = 48) ∧ (∃ hi : i + 3 < s.size, s[i + 3]'hi = 48) ∧
      (∃ hi : i + 4 < s.size, s[i + 4]'hi = UInt8.ofNat (hexRune (r / 16))) ∧ (∃ hi : i + 5 < s.size, s[i + 5]'hi = UInt8.ofNat (hexRune (r % 16))) ∧ Mid single s (i + 6) [] l') := by
  cases cs with
  | cons c cs =>
    obtain ⟨hi, h1, h2, h3⟩ := h.byte
    exact Or.inr (Or.inl ⟨c, cs, l, ⟨hi, h1⟩, h2, h3, by simp, hok⟩)
  | nil =>
    cases l with
    | nil =>
      left
      have h1 := h.1
      simp only [escR, enc, List.append_nil] at h1
      have := congrArg List.length h1
      simp only [List.length_drop, data_size, List.length_nil] at this
      exact ⟨by omega, rfl, rfl⟩
    | cons r l =>
      have hr := hok r List.mem_cons_self
      have hl : ∀ x ∈ l, RuneOk x := fun x hx => hok x (List.mem_cons_of_mem _ hx)
      have h1 := h.1
      simp only [escR, enc_append, List.nil_append] at h1
      rcases esc1_cases single r with ⟨e, h2, h3, _⟩ | ⟨x, e, hx⟩ | ⟨e, h160⟩
      · rw [e] at h1
        simp only [enc, List.append_nil] at h1
        have hM : Mid single s i (encodeRune (r : Int)) l := ⟨h1, enc_no92 r h3 hr⟩
        have hn := (encodeRune_len (r : Int)).1
        right; left
        cases he : encodeRune (r : Int) with
        | nil => rw [he] at hn; simp at hn
        | cons c cs =>
          rw [he] at hM
          obtain ⟨hi, g1, g2, g3⟩ := hM.byte
          exact ⟨c, cs, l, ⟨hi, g1⟩, g2, g3, by simp [enc, he], hl⟩
      · have hx8 : x < 128 := by unfold Says at hx; omega
        rw [e] at h1
        simp only [enc, enc_ascii 92 (by omega), enc_ascii x hx8, List.cons_append, List.nil_append] at h1
        obtain ⟨i0, a0, h1⟩ := drop_cons h1
        obtain ⟨i1, a1, h1⟩ := drop_cons h1
        exact Or.inr (Or.inr (Or.inl ⟨x, r, l, rfl, rfl, hx, ⟨i0, a0⟩, ⟨i1, a1⟩, h1, fun _ hc => by cases hc⟩))
      · rw [e] at h1
        have ha := hexRune_lt (r / 16) (by omega)
        have hb := hexRune_lt (r % 16) (by omega)
        simp only [enc, enc_ascii 92 (by omega), enc_ascii 117 (by omega), enc_ascii 48 (by omega), enc_ascii _ ha, enc_ascii _ hb, List.cons_append, List.nil_append] at h1
        obtain ⟨i0, a0, h1⟩ := drop_cons h1
        obtain ⟨i1, a1, h1⟩ := drop_cons h1
        obtain ⟨i2, a2, h1⟩ := drop_cons h1
        obtain ⟨i3, a3, h1⟩ := drop_cons h1
        obtain ⟨i4, a4, h1⟩ := drop_cons h1
        obtain ⟨i5, a5, h1⟩ := drop_cons h1
        exact Or.inr (Or.inr (Or.inr ⟨r, l, rfl, rfl, h160, ⟨i0, a0⟩, ⟨i1, a1⟩, ⟨i2, a2⟩, ⟨i3, a3⟩, ⟨i4, a4⟩, ⟨i5, a5⟩, h1, fun _ hc => by cases hc⟩))

end Go.Proofs.YtmggbhfdomlmcaaGreatFmt
