/-
  The parser's tokens, and the base of a node.
-/
import Derived.Test.YtmggbhfdomlmcaaGreatFmtWalkI
import Derived.BigQuiet
namespace Go.Proofs.YtmggbhfdomlmcaaGreatFmt
open Go.RowKit

/-- The cells of a row of tokens. -/
def TokRow (g : Nat) (xs : List Value) (w : World) : Prop := ∀ j v, xs[j]? = some v → w.cell? ⟨g, j, none⟩ = some v

theorem TokRow.below {g : Nat} {xs : List Value} {w w' : World} {B : Nat} (h : TokRow g xs w) (b : Below B w w') (hg : g < B) : TokRow g xs w' :=
  fun j v hj => (b.cell (p := ⟨g, j, none⟩) hg).trans (h j v hj)

theorem TokRow.of_own {w : World} {B g cap : Nat} {xs : List Value} (h : w.ownsRow B 249 11 (.slice (some ⟨g, 0, none⟩) 2 cap) 2 xs) : TokRow g xs w ∧ B ≤ g ∧ g < w.heap.size := by
  obtain ⟨_, h1⟩ := h
  rcases h1 with ⟨h1, _⟩ | ⟨g', cap', cur, h1, h2, h3, h4, h5, h6, h7⟩
  · cases h1
  · obtain ⟨rfl⟩ : g = g' := by injection h1 with h1; injection h1 with h1; injection h1
    refine ⟨fun j v hj => ?_, h2, lt_of_heap h3⟩
    rw [cell_of_heap h3, ← Array.getElem?_toList]
    rw [← h7] at hj
    rw [List.getElem?_take] at hj
    split at hj
    · exact hj
    · cases hj

/-- A parser at P, on a row of two tokens at g, of which it has taken cur. -/
def ParseAt (P g cap : Nat) (xs : List Value) (cur : Nat) (w : World) : Prop :=
  w.heap[P]? = some (.cells #[.slice (some ⟨g, 0, none⟩) 2 cap, .int .i64 cur] 268 (0, 0)) ∧ TokRow g xs w ∧ g < P

theorem ParseAt.lt {P g cap : Nat} {xs : List Value} {cur : Nat} {w : World} (h : ParseAt P g cap xs cur w) : P < w.heap.size := lt_of_heap h.1
theorem ParseAt.below {P g cap : Nat} {xs : List Value} {cur : Nat} {w w' : World} (h : ParseAt P g cap xs cur w) (b : Below w.heap.size w w') : ParseAt P g cap xs cur w' :=
  ⟨below_keep b h.1 h.lt, h.2.1.below b (Nat.lt_trans h.2.2 h.lt), h.2.2⟩

theorem mkparser_any {g cap : Nat} {xs : List Value} (w : World) (h : TokRow g xs w) (hg : g < w.heap.size) :
    Calls Tryz.prog 74 #[.slice (some ⟨g, 0, none⟩) 2 cap] w fun e w' => (∃ P, e = .returned (.pointer (some ⟨P, 0, none⟩)) ∧ w.heap.size ≤ P ∧ ParseAt P g cap xs 0 w') ∧ Below w.heap.size w w' := by
  have hh := heap_new w (.cells #[.slice (some ⟨g, 0, none⟩) 2 cap, .int .i64 0] 268 (0, 0))
  have hb := (Below.refl w.heap.size w).alloc (Nat.le_refl _) (.cells #[.slice (some ⟨g, 0, none⟩) 2 cap, .int .i64 0] 268 (0, 0))
  have ht := h.below hb hg
  go_enter Tryz.func74, Tryz.ntmps74
  go_wp2_with fail
  go_ret
  exact ⟨⟨w.heap.size, rfl, Nat.le_refl _, hh, ht, hg⟩, hb⟩

theorem ParseAt.peek {P g cap : Nat} {xs : List Value} {cur : Nat} {w : World} (h : ParseAt P g cap xs cur w) (hc : cur = 0 ∨ cur = 1) :
    Calls Tryz.prog 76 #[.pointer (some ⟨P, 0, none⟩)] w fun e w' => e = .returned (.pointer (some ⟨g, 11 * cur, none⟩)) ∧ ParseAt P g cap xs cur w' ∧ Below w.heap.size w w' := by
  have c0 := cell_of_heap h.1 0
  have c1 := cell_of_heap h.1 1
  simp at c0 c1
  have H := Lib.hid h
  clear h
  rcases hc with rfl | rfl
  all_goals
    go_enter Tryz.func76, Tryz.ntmps76
    go_wp2_with fail
    go_quiet (fail)
    go_wp2_with fail
    go_ret
    exact ⟨rfl, H.out, below_drewN (Below.refl _ w) _⟩

theorem ParseAt.pop {P g cap : Nat} {xs : List Value} {cur : Nat} {w : World} (h : ParseAt P g cap xs cur w) (hc : cur = 0 ∨ cur = 1) :
    Calls Tryz.prog 94 #[.pointer (some ⟨P, 0, none⟩)] w fun e w' => e = .returned (.pointer (some ⟨g, 11 * cur, none⟩)) ∧ ParseAt P g cap xs (cur + 1) w' ∧ Below P w w' := by
  have c0 := cell_of_heap h.1 0
  have c1 := cell_of_heap h.1 1
  have f1 := free_of_heap h.1 1
  simp at c0 c1
  have H := Lib.hid h
  clear h
  rcases hc with rfl | rfl
  · go_enter Tryz.func94, Tryz.ntmps94
    go_wp2_with fail
    go_quiet (fail)
    go_wp2_with fail
    go_ret
    have hb := (((But.refl P w).drewN nq).set 1 (.int .i64 1)).below (Nat.le_refl P) (Nat.le_of_lt H.out.lt)
    exact ⟨rfl, ⟨heap_setCell (w := w.drewN nq) H.out.1 1 _, H.out.2.1.below hb H.out.2.2, H.out.2.2⟩, hb⟩
  · go_enter Tryz.func94, Tryz.ntmps94
    go_wp2_with fail
    go_quiet (fail)
    go_wp2_with fail
    go_ret
    have hb := (((But.refl P w).drewN nq).set 1 (.int .i64 2)).below (Nat.le_refl P) (Nat.le_of_lt H.out.lt)
    exact ⟨rfl, ⟨heap_setCell (w := w.drewN nq) H.out.1 1 _, H.out.2.1.below hb H.out.2.2, H.out.2.2⟩, hb⟩

/-- The cells of a node's base. -/
abbrev baseCells (fa xa : Option Addr) (S : Nat) (fn : ByteArray) (a b c d : Int) : List Value :=
  [.slice fa 0 0, .pointer none, .slice xa 0 0, .pointer (some ⟨S, 0, none⟩), .string fn, .int .i64 a, .int .i64 b, .int .i64 c, .int .i64 d]

theorem base_any (fa xa : Option Addr) (S : Nat) (fn : ByteArray) (a b c d : Int) (w : World) :
    Calls Tryz.prog 120 #[.agg #[.pointer (some ⟨S, 0, none⟩), .string fn, .int .i64 a, .int .i64 b, .int .i64 c, .int .i64 d], .slice fa 0 0, .slice xa 0 0] w fun e w' => e = .returned (.agg (baseCells fa xa S fn a b c d).toArray) ∧ Below w.heap.size w w' := by
  go_enter Tryz.func120, Tryz.ntmps120
  go_wp2
  exact bodyPost_ret (v := .agg (baseCells fa xa S fn a b c d).toArray) (by simp [results, Tryz.results120, go_sem]) rfl ⟨rfl, ((Below.refl _ _).alloc (Nat.le_refl _) _).alloc (by simp) _⟩

end Go.Proofs.YtmggbhfdomlmcaaGreatFmt
