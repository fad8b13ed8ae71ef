/-
  Hexadecimal figures; single bytes of a text.
-/
import Derived.Test.YtmggbhfdomlmcaaGreatFmtPlainD
import Derived.Lib.HexFns2
namespace Go.Proofs.YtmggbhfdomlmcaaGreatFmt
open Go.Lib

theorem Tail.next1 {t : ByteArray} {pos : Nat} {r : Nat} {rs : List Nat} (h : Tail t pos (r :: rs)) (hr : r < 128) : Utf8.decode t pos = (r, 1) ∧ Tail t (pos + 1) rs ∧ pos < t.size := by
  have hl : (encodeRune (r : Int)).length = 1 := by rw [enc_ascii r hr]; rfl
  have h1 := h.next
  rw [hl] at h1
  exact ⟨h1.1, h1.2.1, h1.2.2.1⟩

theorem hexRune_lt (k : Nat) (h : k < 16) : hexRune k < 128 := by
  unfold hexRune
  split <;> omega

/-- Four figures say a rune below 256. -/
def hexOk (c : Nat) : Bool := match Hx.decode [48, 48, UInt8.ofNat (hexRune (c / 16)), UInt8.ofNat (hexRune (c % 16))] with
  | ([a, b], .ok) => a == 0 && b == UInt8.ofNat c
  | _ => false

theorem hex_all : (List.range 256).all hexOk = true := by kernel_rfl

theorem hex_decode (c : Nat) (h : c < 256) : Hx.decode [48, 48, UInt8.ofNat (hexRune (c / 16)), UInt8.ofNat (hexRune (c % 16))] = ([0, UInt8.ofNat c], .ok) := by
  have h1 := List.all_eq_true.1 hex_all c (List.mem_range.2 h)
  unfold hexOk at h1
  split at h1
  · rename_i a b e
    simp only [Bool.and_eq_true, beq_iff_eq] at h1
    rw [e, h1.1, h1.2]
  · cases h1

theorem enc_four (c : Nat) (h : c < 256) : enc [48, 48, hexRune (c / 16), hexRune (c % 16)] = [48, 48, UInt8.ofNat (hexRune (c / 16)), UInt8.ofNat (hexRune (c % 16))] := by
  have a := hexRune_lt (c / 16) (by omega)
  have b := hexRune_lt (c % 16) (by omega)
  simp only [enc]
  rw [enc_ascii 48 (by omega), enc_ascii _ a, enc_ascii _ b]
  rfl

end Go.Proofs.YtmggbhfdomlmcaaGreatFmt
