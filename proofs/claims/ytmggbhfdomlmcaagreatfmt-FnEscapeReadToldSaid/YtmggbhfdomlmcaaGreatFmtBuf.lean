/-
  Writing into a buffer, told by its bytes.
-/
import Derived.Test.YtmggbhfdomlmcaaGreatFmtShelf
import Derived.Test.YtmggbhfdomlmcaaGreatFmtPlainE
import Derived.Lib.BufferOld
import Derived.Laws.IdiomStrings
namespace Go.Proofs.YtmggbhfdomlmcaaGreatFmt
open Go.RowKit

theorem addr_add (b j : Nat) : (⟨b, 0, none⟩ : Addr).add j = ⟨b, j, none⟩ := by
  cases j <;> simp [Addr.add]

theorem wrune (B : Nat) (acc : List UInt8) (r : Int) (hr0 : 0 ≤ r) (hr1 : r ≤ 1114111) (w : World) (h : Lib.IsBuffer 56 5 B B (Lib.byteCells acc) w) (hB : B ≤ w.heap.size) (hl : acc.length ≤ 100000000) :
    Calls Tryz.prog 24 #[.pointer (some ⟨B, 0, none⟩), .int .i32 r] w fun e w' => e = .returned (.tuple #[.int .i64 (Lib.runeCells r).length, .nilIface]) ∧ Lib.IsBuffer 56 5 B B (Lib.byteCells (acc ++ Lib.encodeRune r)) w' ∧ Below B w w' := by
  refine (Tryz.Buffer_WriteRune_k B B _ r (by omega) (by omega) w h hB (Lib.byteCells_one _) (by rw [Lib.byteCells_length]; omega)).mono ?_
  rintro e w2 ⟨rfl, h2, b2, _⟩
  refine ⟨rfl, ?_, b2⟩
  rw [Lib.byteCells_append, Lib.byteCells_encodeRune]
  exact h2

theorem wstr (B : Nat) (acc : List UInt8) (s : ByteArray) (w : World) (h : Lib.IsBuffer 56 5 B B (Lib.byteCells acc) w) (hB : B ≤ w.heap.size) (hl : acc.length ≤ 100000000) (hs : s.size ≤ 100000000) :
    Calls Tryz.prog 25 #[.pointer (some ⟨B, 0, none⟩), .string s] w fun e w' => e = .returned (.tuple #[.int .i64 s.size, .nilIface]) ∧ Lib.IsBuffer 56 5 B B (Lib.byteCells (acc ++ s.data.toList)) w' ∧ Below B w w' := by
  refine (Tryz.Buffer_WriteString_k B B _ s w h hB (Lib.byteCells_one _) (by rw [Lib.byteCells_length]; omega)).mono ?_
  rintro e w2 ⟨rfl, h2, b2, _⟩
  refine ⟨rfl, ?_, b2⟩
  rw [Lib.byteCells_append]
  exact h2

theorem wbytes (B : Nat) (acc bs : List UInt8) (a c : Nat) (w : World) (h : Lib.IsBuffer 56 5 B B (Lib.byteCells acc) w) (hB : B ≤ w.heap.size) (hl : acc.length ≤ 100000000) (hs : bs.length ≤ 100000000) (hne : a ≠ B)
    (hsrc : ∀ j v, (Lib.byteCells bs)[j]? = some v → w.cell? ⟨a, j, none⟩ = some v) :
    Calls Tryz.prog 26 #[.pointer (some ⟨B, 0, none⟩), .slice (some ⟨a, 0, none⟩) bs.length c] w fun e w' => e = .returned (.tuple #[.int .i64 bs.length, .nilIface]) ∧ Lib.IsBuffer 56 5 B B (Lib.byteCells (acc ++ bs)) w' ∧ Below B w w' := by
  refine (Tryz.Buffer_Write_any B B _ (Lib.byteCells bs) ⟨a, 0, none⟩ bs.length c w h hB (Lib.byteCells_one _) (Lib.byteCells_length _) hne (fun j v hj => by rw [addr_add]; exact hsrc j v hj) (Lib.byteCells_one _) (by rw [Lib.byteCells_length]; omega)).mono ?_
  rintro e w2 ⟨rfl, h2, b2, _⟩
  refine ⟨rfl, ?_, b2⟩
  rw [Lib.byteCells_append]
  exact h2

end Go.Proofs.YtmggbhfdomlmcaaGreatFmt
