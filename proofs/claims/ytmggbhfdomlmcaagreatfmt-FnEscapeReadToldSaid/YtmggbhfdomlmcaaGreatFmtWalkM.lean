/-
  The base of a node.
-/
import Derived.Test.YtmggbhfdomlmcaaGreatFmtWalkL
import Derived.BigQuiet
namespace Go.Proofs.YtmggbhfdomlmcaaGreatFmt
open Go.RowKit

theorem heap_new' {w : World} {k : Nat} (o : Obj) (h : w.heap.size = k) : (w.alloc o).heap[k]? = some o := h ▸ heap_new w o

theorem baseloc_any (fa : Option Addr) (S : Nat) (fn : ByteArray) (a b c d : Int) (w : World) :
    Calls Tryz.prog 96 #[.agg #[.pointer (some ⟨S, 0, none⟩), .string fn, .int .i64 a, .int .i64 b, .int .i64 c, .int .i64 d], .slice fa 0 0] w fun e w' => (∃ xa, e = .returned (.agg (baseCells fa xa S fn a b c d).toArray)) ∧ Below w.heap.size w w' := by
  go_enter Tryz.func96, Tryz.ntmps96
  go_wp2_with (go_at_call 120; refine (base_any fa _ S fn a b c d _).mono ?_; rintro e w1 ⟨rfl, hb⟩; have hn := (hb.block (w.heap.size + 1) (by simp)).trans ((heap_old _ _ (by simp)).trans (heap_new' _ (by simp))); have k0 := cell_of_heap hn 0; have f0 := free_of_heap hn 0; have k1 := cell_of_heap hn 1; have f1 := free_of_heap hn 1; have k2 := cell_of_heap hn 2; have f2 := free_of_heap hn 2; have k3 := cell_of_heap hn 3; have f3 := free_of_heap hn 3; have k4 := cell_of_heap hn 4; have f4 := free_of_heap hn 4; have k5 := cell_of_heap hn 5; have f5 := free_of_heap hn 5; have k6 := cell_of_heap hn 6; have f6 := free_of_heap hn 6; have k7 := cell_of_heap hn 7; have f7 := free_of_heap hn 7; have k8 := cell_of_heap hn 8; have f8 := free_of_heap hn 8; simp at k0 k1 k2 k3 k4 k5 k6 k7 k8; have HN := Lib.hid hn; have HB := Lib.hid hb; clear hn hb)
  have hb : Below w.heap.size w w1 := ((((Below.refl _ w).alloc (Nat.le_refl _) _).alloc (by simp) _).alloc (by simp; omega) _).trans (HB.out.mono (by simp; omega))
  have hp : w.heap.size ≤ w.heap.size + 1 := Nat.le_succ _
  exact bodyPost_ret (v := .agg (baseCells fa (some ⟨w.heap.size + 1 + 1, 0, none⟩) S fn a b c d).toArray) (by simp [results, Tryz.results96, go_sem, k0, k1, k2, k3, k4, k5, k6, k7, k8]) rfl ⟨⟨_, rfl⟩, ((((((((hb.setCell hp _).setCell hp _).setCell hp _).setCell hp _).setCell hp _).setCell hp _).setCell hp _).setCell hp _).setCell hp _⟩

end Go.Proofs.YtmggbhfdomlmcaaGreatFmt
