/-
  The contexts of a tree of one node.
-/
import Derived.Test.YtmggbhfdomlmcaaGreatFmtTypes
namespace Go.Proofs.YtmggbhfdomlmcaaGreatFmt
open Go.RowKit

set_option maxRecDepth 1000000 in
set_option maxHeartbeats 6400000 in
theorem direct_var (N : Nat) (w : World) : Calls Tryz.prog 109 #[.iface 181 (.pointer (some ⟨N, 0, none⟩))] w fun e w' => e = .returned (.slice none 0 0) ∧ w = w' := by
  go_enter Tryz.func109, Tryz.ntmps109
  go_wp2_with fail

  go_ret
  exact ⟨rfl, rfl⟩

set_option maxRecDepth 1000000 in
set_option maxHeartbeats 6400000 in
theorem direct_str (N : Nat) (w : World) : Calls Tryz.prog 109 #[.iface 175 (.pointer (some ⟨N, 0, none⟩))] w fun e w' => e = .returned (.slice none 0 0) ∧ w = w' := by
  go_enter Tryz.func109, Tryz.ntmps109
  go_wp2_with fail
  go_ret
  exact ⟨rfl, rfl⟩

set_option maxRecDepth 1000000 in
set_option maxHeartbeats 6400000 in
theorem thunk_var (N : Nat) (w : World) : Calls Tryz.prog 112 #[.iface 181 (.pointer (some ⟨N, 0, none⟩))] w fun e w' => e = .returned (.slice none 0 0) ∧ w = w' := by
  go_enter Tryz.func112, Tryz.ntmps112
  go_wp2_with fail
  go_ret
  exact ⟨rfl, rfl⟩

set_option maxRecDepth 1000000 in
set_option maxHeartbeats 6400000 in
theorem thunk_str (N : Nat) (w : World) : Calls Tryz.prog 112 #[.iface 175 (.pointer (some ⟨N, 0, none⟩))] w fun e w' => e = .returned (.slice none 0 0) ∧ w = w' := by
  go_enter Tryz.func112, Tryz.ntmps112
  go_wp2_with fail
  go_ret
  exact ⟨rfl, rfl⟩

theorem setctx_any (N o : Nat) (x : Option Addr) (C : Array Value) (t : TypeId) (u : Value) (w : World) (h : w.heap[N]? = some (.cells C t (0, 0))) (hu : C[o + 1]? = some u) :
    Calls Tryz.prog 173 #[.pointer (some ⟨N, o, none⟩), .pointer x] w fun e w' => e = .returned (.tuple #[]) ∧ w.setCell ⟨N, o + 1, none⟩ (.pointer x) = w' := by
  have c1 := (cell_of_heap h (o + 1)).trans hu
  have f1 := free_of_heap h (o + 1)
  go_enter Tryz.func173, Tryz.ntmps173
  go_wp2_with fail
  go_end0
  exact ⟨rfl, rfl⟩

end Go.Proofs.YtmggbhfdomlmcaaGreatFmt
