/-
  addContext on a tree of one node.
-/
import Derived.Test.YtmggbhfdomlmcaaGreatFmtWalkP
namespace Go.Proofs.YtmggbhfdomlmcaaGreatFmt
open Go.RowKit

set_option maxRecDepth 1000000 in
set_option maxHeartbeats 6400000 in
theorem addctx_var (N X : Nat) (an : ByteArray) (C : Array Value) (u : Value) (w : World) (h : w.heap[N]? = some (.cells C 183 (0, 0))) (hu : C[2]? = some u) (hx : w.cell? ⟨X, 0, none⟩ = some (.string ⟨#[36]⟩)) (hne : X ≠ N) :
    Calls Tryz.prog 79 #[.iface 181 (.pointer (some ⟨N, 0, none⟩)), .pointer (some ⟨X, 0, none⟩), .string an] w fun e w' => e = .returned (.tuple #[]) ∧ w'.heap[N]? = some (.cells (C.setIfInBounds 2 (.pointer (some ⟨X, 0, none⟩))) 183 (0, 0)) ∧ But N w w' := by
  have c2 := (cell_of_heap h 2).trans hu
  have f2 := free_of_heap h 2
  have hX : (w.setCell ⟨N, 2, none⟩ (.pointer (some ⟨X, 0, none⟩))).cell? ⟨X, 0, none⟩ = some (.string ⟨#[36]⟩) := (World.cell?_setCell_other w _ _ _ (by intro e; injection e with e; exact hne e.symm)).trans hx
  have H := Lib.hid h
  clear h
  go_enter Tryz.func79, Tryz.ntmps79
  go_wp2_with (first
    | (go_at_call 173; refine (setctx_any N 1 (some ⟨X, 0, none⟩) C 183 u _ H.out hu).mono ?_; rintro e w' ⟨rfl, rfl⟩)
    | (go_at_call 109; refine (direct_var N _).mono ?_; rintro e w' ⟨rfl, rfl⟩)
    | (go_at_call 112; refine (thunk_var N _).mono ?_; rintro e w' ⟨rfl, rfl⟩))
  refine wp_loop_once ?_
  go_wp2_with (first
    | (go_at_call 112; refine (thunk_var N _).mono ?_; rintro e w' ⟨rfl, rfl⟩))
  refine wp_loop_once ?_
  go_wp2_with fail
  go_end0
  have hs : N < (w.setCell ⟨N, 2, none⟩ (.pointer (some ⟨X, 0, none⟩))).heap.size := by simpa [World.setCell] using lt_of_heap H.out
  exact ⟨rfl, (heap_old _ _ hs).trans (heap_setCell H.out 2 _), ((But.refl N w).set 2 _).alloc _⟩

set_option maxRecDepth 1000000 in
set_option maxHeartbeats 6400000 in
theorem addctx_str (N X : Nat) (an : ByteArray) (C : Array Value) (u : Value) (w : World) (h : w.heap[N]? = some (.cells C 178 (0, 0))) (hu : C[4]? = some u) (hx : w.cell? ⟨X, 0, none⟩ = some (.string ⟨#[36]⟩)) (hne : X ≠ N) :
    Calls Tryz.prog 79 #[.iface 175 (.pointer (some ⟨N, 0, none⟩)), .pointer (some ⟨X, 0, none⟩), .string an] w fun e w' => e = .returned (.tuple #[]) ∧ w'.heap[N]? = some (.cells (C.setIfInBounds 4 (.pointer (some ⟨X, 0, none⟩))) 178 (0, 0)) ∧ But N w w' := by
  have c2 := (cell_of_heap h 4).trans hu
  have f2 := free_of_heap h 4
  have hX : (w.setCell ⟨N, 4, none⟩ (.pointer (some ⟨X, 0, none⟩))).cell? ⟨X, 0, none⟩ = some (.string ⟨#[36]⟩) := (World.cell?_setCell_other w _ _ _ (by intro e; injection e with e; exact hne e.symm)).trans hx
  have H := Lib.hid h
  clear h
  go_enter Tryz.func79, Tryz.ntmps79
  go_wp2_with (first
    | (go_at_call 173; refine (setctx_any N 3 (some ⟨X, 0, none⟩) C 178 u _ H.out hu).mono ?_; rintro e w' ⟨rfl, rfl⟩)
    | (go_at_call 109; refine (direct_str N _).mono ?_; rintro e w' ⟨rfl, rfl⟩)
    | (go_at_call 112; refine (thunk_str N _).mono ?_; rintro e w' ⟨rfl, rfl⟩))
  refine wp_loop_once ?_
  go_wp2_with (first
    | (go_at_call 112; refine (thunk_str N _).mono ?_; rintro e w' ⟨rfl, rfl⟩))
  refine wp_loop_once ?_
  go_wp2_with fail
  go_end0
  have hs : N < (w.setCell ⟨N, 4, none⟩ (.pointer (some ⟨X, 0, none⟩))).heap.size := by simpa [World.setCell] using lt_of_heap H.out
  exact ⟨rfl, (heap_old _ _ hs).trans (heap_setCell H.out 4 _), ((But.refl N w).set 4 _).alloc _⟩

end Go.Proofs.YtmggbhfdomlmcaaGreatFmt
