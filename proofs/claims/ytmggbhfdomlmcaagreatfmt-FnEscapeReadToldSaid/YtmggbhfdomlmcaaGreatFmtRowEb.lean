/-
  Closed facts of the row FnEscapeRead, second part.
-/
import Derived.Test.YtmggbhfdomlmcaaGreatFmtRows
import Derived.Test.YtmggbhfdomlmcaaGreatFmtCards
import Derived.Stop.JoinedAt
import Derived.Stop.JoinedTold
namespace Go.Proofs.YtmggbhfdomlmcaaGreatFmt

theorem Tryz.e_maps : mapsRowed Tryz.pinned.checked.prog = true := by kernel_rfl
theorem Tryz.e_goes : false = Rows.fnEscapeReadRow.goesBy Tryz.pinned.checked.prog := by kernel_rfl
theorem Tryz.e_enter : Tryz.pinned.checked.prog.mayEnter = true := by kernel_rfl
theorem Tryz.e_keys : Rows.fnEscapeReadRow.plainKeys = Tryz.pinned.checked.prog.plainKeys := by kernel_rfl

end Go.Proofs.YtmggbhfdomlmcaaGreatFmt
