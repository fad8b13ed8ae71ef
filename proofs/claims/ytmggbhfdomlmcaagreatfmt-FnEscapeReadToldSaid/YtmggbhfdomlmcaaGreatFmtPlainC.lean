/-
  A text that from some place on is made of encoded runes.
-/
import Derived.Test.YtmggbhfdomlmcaaGreatFmtPlainB
import Derived.Lib.TrimUEq
namespace Go.Proofs.YtmggbhfdomlmcaaGreatFmt
open Go.Lib

/-- From pos on the text is made of the runes rs. -/
def Tail (t : ByteArray) (pos : Nat) (rs : List Nat) : Prop := pos ≤ t.size ∧ t.data.toList.drop pos = enc rs ∧ ∀ r ∈ rs, RuneOk r

theorem data_size (t : ByteArray) : t.data.toList.length = t.size := (size_eq t).symm

theorem Tail.size {t : ByteArray} {pos : Nat} {rs : List Nat} (h : Tail t pos rs) : t.size = pos + (enc rs).length := by
  obtain ⟨h1, h2, _⟩ := h
  rw [← h2, List.length_drop, data_size]
  omega

theorem Tail.start (rs : List Nat) (h : ∀ r ∈ rs, RuneOk r) : Tail ⟨(enc rs).toArray⟩ 0 rs := ⟨Nat.zero_le _, by simp, h⟩

theorem Tail.at_end {t : ByteArray} {pos : Nat} (h : Tail t pos []) : t.size ≤ pos := by rw [h.size]; simp [enc]

theorem Tail.next {t : ByteArray} {pos : Nat} {r : Nat} {rs : List Nat} (h : Tail t pos (r :: rs)) :
    Utf8.decode t pos = (r, (encodeRune (r : Int)).length) ∧ Tail t (pos + (encodeRune (r : Int)).length) rs ∧ pos < t.size ∧ 1 ≤ (encodeRune (r : Int)).length ∧ (encodeRune (r : Int)).length ≤ 4 := by
  have hs := h.size
  obtain ⟨h1, h2, h3⟩ := h
  have hl := encodeRune_len (r : Int)
  simp only [enc, List.length_append] at hs
  refine ⟨?_, ⟨by omega, ?_, fun x hx => h3 x (List.mem_cons_of_mem _ hx)⟩, by omega, hl.1, hl.2⟩
  · rw [← decodeL_drop, h2]
    exact decode_enc r (h3 r List.mem_cons_self) _
  · rw [← List.drop_drop, h2]
    simp [enc]

/-- The bytes of a part of the text. -/
theorem Tail.cut {t : ByteArray} {pos : Nat} {a b : List Nat} (h : Tail t pos (a ++ b)) : t.extract pos (pos + (enc a).length) = ⟨(enc a).toArray⟩ := by
  have h2 := h.2.1
  rw [enc_append] at h2
  have : (t.extract pos (pos + (enc a).length)).data.toList = enc a := by
    rw [extract_data, h2, Nat.add_sub_cancel_left]
    simp
  generalize t.extract pos (pos + (enc a).length) = x at *
  rw [← this]

theorem Tail.skip {t : ByteArray} : ∀ {a : List Nat} {pos : Nat} {b : List Nat}, Tail t pos (a ++ b) → Tail t (pos + (enc a).length) b
  | [], pos, b, h => by simpa [enc] using h
  | r :: a, pos, b, h => by
    have := Tail.skip (a := a) h.next.2.1
    simpa [enc, Nat.add_assoc] using this

theorem Tail.skip_all {t : ByteArray} {a : List Nat} {pos : Nat} (h : Tail t pos a) : Tail t t.size [] := by
  have h1 := Tail.skip (a := a) (b := []) (by simpa using h)
  rwa [← h.size] at h1

end Go.Proofs.YtmggbhfdomlmcaaGreatFmt
