/-
  Plain facts on UTF-8 and on the escapes of a Jsonnet string: what is decoded from a text that is made of encoded runes, and what a text says whose special runes are escaped. Nothing of Go or of memory stands here.
-/
import Derived.Lib.MapLaws
import Derived.Lib.RuneCountTail
import Derived.Lib.QuoteLoop
namespace Go.Proofs.YtmggbhfdomlmcaaGreatFmt
open Go.Lib

/-- A rune that UTF-8 has a form for. -/
def RuneOk (r : Nat) : Prop := r < 55296 ∨ (57343 < r ∧ r ≤ 1114111)

/-- The bytes of a list of runes. -/
def enc : List Nat → List UInt8
  | [] => []
  | r :: t => encodeRune (r : Int) ++ enc t

theorem enc_append (a b : List Nat) : enc (a ++ b) = enc a ++ enc b := by
  induction a with
  | nil => rfl
  | cons r t ih => simp [enc, ih]

theorem enc_ascii (r : Nat) (h : r < 128) : encodeRune (r : Int) = [UInt8.ofNat r] := by
  simp only [encodeRune, encodeRuneZ_one (r := (r : Int)) (by omega) (by omega), List.map_cons, List.map_nil, Int.toNat_natCast]

theorem encodeRune_len (r : Int) : 1 ≤ (encodeRune r).length ∧ (encodeRune r).length ≤ 4 := by
  have := encodeRuneZ_length r
  simpa [encodeRune] using this

theorem enc_len (l : List Nat) : l.length ≤ (enc l).length ∧ (enc l).length ≤ 4 * l.length := by
  induction l with
  | nil => simp [enc]
  | cons r t ih => have := encodeRune_len (r : Int); simp only [enc, List.length_append, List.length_cons]; omega

/-- What is decoded in front of the bytes of a rune is that rune. -/
theorem decode_enc (r : Nat) (h : RuneOk r) (t : List UInt8) : decodeL (encodeRune (r : Int) ++ t) = (r, (encodeRune (r : Int)).length) := by
  rw [decodeL_N]
  rcases (show r < 128 ∨ (128 ≤ r ∧ r < 2048) ∨ ((2048 ≤ r ∧ r < 55296) ∨ (57343 < r ∧ r ≤ 65535)) ∨ (65536 ≤ r ∧ r ≤ 1114111) by unfold RuneOk at h; omega) with h | h | h | h
  · simp only [encodeRune, encodeRuneZ_one (r := (r : Int)) (by omega) (by omega), List.map_cons, List.map_nil, List.cons_append, List.nil_append, List.getD_cons_zero, List.length_cons, List.length_nil, Int.toNat_natCast]
    have e : (Nat.toUInt8 r).toNat = r := by simp; omega
    simp only [decodeN, e, if_pos h]
  · simp only [encodeRune, encodeRuneZ_two (r := (r : Int)) (by omega) (by omega), List.map_cons, List.map_nil, List.cons_append, List.nil_append, List.getD_cons_zero, List.getD_cons_succ, List.length_cons, List.length_nil]
    have e0 : ((192 + (r : Int) / 64).toNat.toUInt8).toNat = 192 + r / 64 := by simp; omega
    have e1 : ((128 + (r : Int) % 64).toNat.toUInt8).toNat = 128 + r % 64 := by simp; omega
    simp only [e0, e1]
    rcases decodeN_shape (t.length + 1 + 1) (192 + r / 64) (128 + r % 64) (t.getD 0 0).toNat (t.getD 1 0).toNat with ⟨c, e⟩ | ⟨c1, c2, c3, cv, e⟩ | ⟨c1, c2, c3, c4, cv, cs, e⟩ | ⟨c1, c2, c3, c4, c5, cv, cw, e⟩ | e
    · omega
    · rw [e]; congr 1; omega
    · omega
    · omega
    · exfalso
      unfold decodeN at e
      rw [if_neg (by omega), if_pos (by omega)] at e
      split at e
      · simp at e
      · omega
  · simp only [encodeRune, encodeRuneZ_three (r := (r : Int)) (by omega), List.map_cons, List.map_nil, List.cons_append, List.nil_append, List.getD_cons_zero, List.getD_cons_succ, List.length_cons, List.length_nil]
    have e0 : ((224 + (r : Int) / 4096).toNat.toUInt8).toNat = 224 + r / 4096 := by simp; omega
    have e1 : ((128 + (r : Int) / 64 % 64).toNat.toUInt8).toNat = 128 + r / 64 % 64 := by simp; omega
    have e2 : ((128 + (r : Int) % 64).toNat.toUInt8).toNat = 128 + r % 64 := by simp; omega
    simp only [e0, e1, e2]
    rcases decodeN_shape (t.length + 1 + 1 + 1) (224 + r / 4096) (128 + r / 64 % 64) (128 + r % 64) (t.getD 0 0).toNat with ⟨c, e⟩ | ⟨c1, c2, c3, cv, e⟩ | ⟨c1, c2, c3, c4, cv, cs, e⟩ | ⟨c1, c2, c3, c4, c5, cv, cw, e⟩ | e
    · omega
    · omega
    · rw [e]; congr 1; omega
    · omega
    · exfalso
      unfold decodeN at e
      rw [if_neg (by omega), if_neg (by omega), if_pos (by omega)] at e
      split at e
      · simp at e
      · omega
  · simp only [encodeRune, encodeRuneZ_four (r := (r : Int)) (by omega) (by omega), List.map_cons, List.map_nil, List.cons_append, List.nil_append, List.getD_cons_zero, List.getD_cons_succ, List.length_cons, List.length_nil]
    have e0 : ((240 + (r : Int) / 262144).toNat.toUInt8).toNat = 240 + r / 262144 := by simp; omega
    have e1 : ((128 + (r : Int) / 4096 % 64).toNat.toUInt8).toNat = 128 + r / 4096 % 64 := by simp; omega
    have e2 : ((128 + (r : Int) / 64 % 64).toNat.toUInt8).toNat = 128 + r / 64 % 64 := by simp; omega
    have e3 : ((128 + (r : Int) % 64).toNat.toUInt8).toNat = 128 + r % 64 := by simp; omega
    simp only [e0, e1, e2, e3]
    rcases decodeN_shape (t.length + 1 + 1 + 1 + 1) (240 + r / 262144) (128 + r / 4096 % 64) (128 + r / 64 % 64) (128 + r % 64) with ⟨c, e⟩ | ⟨c1, c2, c3, cv, e⟩ | ⟨c1, c2, c3, c4, cv, cs, e⟩ | ⟨c1, c2, c3, c4, c5, cv, cw, e⟩ | e
    · omega
    · omega
    · omega
    · rw [e]; congr 1; omega
    · exfalso
      unfold decodeN at e
      rw [if_neg (by omega), if_neg (by omega), if_neg (by omega), if_pos (by omega)] at e
      split at e
      · simp at e
      · omega

end Go.Proofs.YtmggbhfdomlmcaaGreatFmt
