/-
  Small facts on memory: a block that is known whole, its cells and marks; what a step leaves of the other blocks.
-/
import Derived.WalkKit
import Derived.Lib.Hide
import Derived.Lib.Strings
import Derived.Deep.Draws
namespace Go.Proofs.YtmggbhfdomlmcaaGreatFmt
open Go.RowKit

theorem heap_new (w : World) (o : Obj) : (w.alloc o).heap[w.heap.size]? = some o := by
  show (w.heap.push o)[w.heap.size]? = _
  simp

theorem heap_old (w : World) (o : Obj) {k : Nat} (h : k < w.heap.size) : (w.alloc o).heap[k]? = w.heap[k]? := Below.heap_alloc w o k h

theorem lt_of_heap {w : World} {k : Nat} {o : Obj} (h : w.heap[k]? = some o) : k < w.heap.size := (Array.getElem?_eq_some_iff.1 h).1

/-- A cell of a block that is known whole. -/
theorem cell_of_heap {w : World} {b : Nat} {C : Array Value} {t : TypeId} {fz : Nat × Nat} (h : w.heap[b]? = some (.cells C t fz)) (j : Nat) : w.cell? ⟨b, j, none⟩ = C[j]? := by
  simp [World.cell?, h]

/-- No cell of it is frozen. -/
theorem free_of_heap {w : World} {b : Nat} {C : Array Value} {t : TypeId} (h : w.heap[b]? = some (.cells C t (0, 0))) (j : Nat) : w.frozen? ⟨b, j, none⟩ = false := by
  simp [World.frozen?, h]

/-- A store into a block that is known whole. -/
theorem heap_setCell {w : World} {b : Nat} {C : Array Value} {t : TypeId} {fz : Nat × Nat} (h : w.heap[b]? = some (.cells C t fz)) (j : Nat) (v : Value) :
    (w.setCell ⟨b, j, none⟩ v).heap[b]? = some (.cells (C.setIfInBounds j v) t fz) := by
  simp only [World.setCell, Array.getElem?_modify, if_true, h, Option.map_some]
  rfl

/-- The world has new blocks; of the old ones only b may have turned. -/
structure But (b : Nat) (w w' : World) : Prop where
  os : w'.os = w.os
  tape : w'.tape = w.tape
  output : w'.output = w.output
  size : w.heap.size ≤ w'.heap.size
  block : ∀ k, k < w.heap.size → k ≠ b → w'.heap[k]? = w.heap[k]?

theorem But.refl (b : Nat) (w : World) : But b w w := ⟨rfl, rfl, rfl, Nat.le_refl _, fun _ _ _ => rfl⟩
theorem But.trans {b : Nat} {u v w : World} (h : But b u v) (k : But b v w) : But b u w :=
  ⟨k.os.trans h.os, k.tape.trans h.tape, k.output.trans h.output, Nat.le_trans h.size k.size, fun i hi hb => (k.block i (Nat.lt_of_lt_of_le hi h.size) hb).trans (h.block i hi hb)⟩
theorem But.of_below {b : Nat} {w w' : World} (h : Below w.heap.size w w') : But b w w' := ⟨h.os, h.tape, h.output, h.size, fun k hk _ => h.block k hk⟩
theorem But.setCell {b : Nat} {u w : World} (h : But b u w) {p : Addr} (hp : p.block = b) (v : Value) : But b u (w.setCell p v) :=
  h.trans ⟨rfl, rfl, rfl, by simp [World.setCell], fun k _ hb => Below.heap_setCell _ _ _ _ (by rw [hp]; exact hb)⟩
theorem But.set {b : Nat} {u w : World} (h : But b u w) (j : Nat) (v : Value) : But b u (w.setCell ⟨b, j, none⟩ v) := h.setCell rfl v
theorem But.alloc {b : Nat} {u w : World} (h : But b u w) (o : Obj) : But b u (w.alloc o) := h.trans (But.of_below ((Below.refl _ w).alloc (Nat.le_refl _) o))
theorem But.drew {b : Nat} {u w : World} (h : But b u w) : But b u w.drew := h.trans ⟨rfl, rfl, rfl, Nat.le_refl _, fun _ _ _ => rfl⟩
theorem But.drewN {b : Nat} {u w : World} (h : But b u w) (n : Nat) : But b u (w.drewN n) := h.trans ⟨rfl, rfl, rfl, Nat.le_refl _, fun _ _ _ => rfl⟩
/-- A block that was there and is not b. -/
theorem But.keep {b : Nat} {w w' : World} (h : But b w w') {k : Nat} {o : Obj} (hk : w.heap[k]? = some o) (hb : k ≠ b) : w'.heap[k]? = some o := (h.block k (lt_of_heap hk) hb).trans hk
theorem But.below {b : Nat} {w w' : World} (h : But b w w') {B : Nat} (hB : B ≤ b) (hw : b ≤ w.heap.size) : Below B w w' :=
  ⟨h.os, h.tape, h.output, h.size, fun k hk => h.block k (by omega) (by omega)⟩
/-- Draws at the begin turn no block. -/
theorem below_undrew {w w' : World} {n : Nat} (h : Below (w.drewN n).heap.size (w.drewN n) w') : Below w.heap.size w w' := ⟨h.os, h.tape, h.output, h.size, h.block⟩
theorem below_drewN {B : Nat} {w w' : World} (h : Below B w w') (n : Nat) : Below B w (w'.drewN n) := ⟨h.os, h.tape, h.output, h.size, h.block⟩
/-- A block that was new stands behind what keeps it. -/
theorem new_keep {n : Nat} {w w' : World} {o : Obj} (h : Below n (w.alloc o) w') (hn : w.heap.size < n) : w'.heap[w.heap.size]? = some o := (h.block _ hn).trans (heap_new w o)
/-- What lay below, behind a new block. -/
theorem below_alloc {n : Nat} {w w' : World} {o : Obj} (h : Below n (w.alloc o) w') (hn : w.heap.size < n) : Below w.heap.size w w' :=
  ((Below.refl _ w).alloc (Nat.le_refl _) o).trans (h.mono (by omega))
/-- What a call of the kind 'Below' leaves, in the word of the append's laws. -/
theorem grown_of_below {w w' : World} (h : Below w.heap.size w w') : w.grownBy w' none := ⟨h.os, h.tape, h.output, h.size, fun k hk _ => h.block k hk⟩
theorem own_below {w w' : World} {B : Nat} {e : TypeId} {k : Nat} {v : Value} {n : Nat} {xs : List Value} (h : w.ownsRow B e k v n xs) (hb : Below w.heap.size w w') : w'.ownsRow B e k v n xs :=
  h.kept (grown_of_below hb) (by cases v.ownBlock <;> simp)
/-- An owned row is no block below its base. -/
theorem own_ne {w : World} {B : Nat} {e : TypeId} {k : Nat} {v : Value} {n : Nat} {xs : List Value} (h : w.ownsRow B e k v n xs) {L : Nat} (hL : L < B) : v.ownBlock ≠ some L := fun e1 => by
  have := (h.lt L e1).1
  omega
/-- Below a number that the heap had reached. -/
theorem below_keep {B : Nat} {w w' : World} (h : Below B w w') {k : Nat} {o : Obj} (hk : w.heap[k]? = some o) (hB : k < B) : w'.heap[k]? = some o := (h.block k hB).trans hk

end Go.Proofs.YtmggbhfdomlmcaaGreatFmt
