/-
  Closed facts of the row FnNameRead, second part.
-/
import Derived.Test.YtmggbhfdomlmcaaGreatFmtRows
import Derived.Test.YtmggbhfdomlmcaaGreatFmtCards
import Derived.Stop.JoinedAt
import Derived.Stop.JoinedTold
namespace Go.Proofs.YtmggbhfdomlmcaaGreatFmt

theorem Tryz.n_maps : mapsRowed Tryz.pinned.checked.prog = true := by kernel_rfl
theorem Tryz.n_goes : false = Rows.fnNameReadRow.goesBy Tryz.pinned.checked.prog := by kernel_rfl
theorem Tryz.n_enter : Tryz.pinned.checked.prog.mayEnter = true := by kernel_rfl
theorem Tryz.n_keys : Rows.fnNameReadRow.plainKeys = Tryz.pinned.checked.prog.plainKeys := by kernel_rfl

end Go.Proofs.YtmggbhfdomlmcaaGreatFmt
