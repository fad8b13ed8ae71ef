/-
  More on what a write keeps.
-/
import Derived.Test.YtmggbhfdomlmcaaGreatFmtMemA
namespace Go.Proofs.YtmggbhfdomlmcaaGreatFmt
open Go.RowKit

/-- A store into a block below an owned row. -/
theorem own_set {w : World} {B : Nat} {e : TypeId} {k : Nat} {v : Value} {n : Nat} {xs : List Value} (h : w.ownsRow B e k v n xs) {L : Nat} (hL : L < B) (j : Nat) (u : Value) : (w.setCell ⟨L, j, none⟩ u).ownsRow B e k v n xs :=
  h.kept (w' := w.setCell ⟨L, j, none⟩ u) (row := some L) ⟨rfl, rfl, rfl, by simp [World.setCell], fun k _ hb => Below.heap_setCell _ _ _ _ (fun e => hb (by rw [e]))⟩ (Or.inr (own_ne h hL))

/-- What an append leaves below its own row. -/
theorem below_grown {w w' : World} {row : Option Nat} (h : w.grownBy w' row) {B : Nat} (hB : B ≤ w.heap.size) (hr : ∀ k, k < B → row ≠ some k) : Below B w w' :=
  ⟨h.os, h.tape, h.output, h.size, fun k hk => h.block k (by omega) (fun e => hr k hk e.symm)⟩

end Go.Proofs.YtmggbhfdomlmcaaGreatFmt
