/-
  What the parser leans on beside its text; the cells of a node of a string.
-/
import Derived.Test.YtmggbhfdomlmcaaGreatFmtWalkN
namespace Go.Proofs.YtmggbhfdomlmcaaGreatFmt
open Go.RowKit

/-- The tables of UTF-8, and the error of base 16. -/
def Env (ev : Value) (w : World) : Prop := 14 ≤ w.heap.size ∧ Lib.Utf8Tabs 0 1 w ∧ w.cell? ⟨13, 0, none⟩ = some ev

theorem Env.below {ev : Value} {w w' : World} {B : Nat} (h : Env ev w) (b : Below B w w') (hB : 14 ≤ B) : Env ev w' :=
  ⟨Nat.le_trans h.1 b.size, tabs_below h.2.1 b (by omega), (b.cell (p := ⟨13, 0, none⟩) (by show 13 < B; omega)).trans h.2.2⟩

abbrev strCells (data : ByteArray) (fa xa : Option Addr) (S : Nat) (imf : ByteArray) (bl bc el ec ko : Int) : List Value :=
  .string data :: .string ⟨#[]⟩ :: .string ⟨#[]⟩ :: (baseCells fa xa S imf bl bc el ec ++ [.int .i64 ko])

end Go.Proofs.YtmggbhfdomlmcaaGreatFmt
