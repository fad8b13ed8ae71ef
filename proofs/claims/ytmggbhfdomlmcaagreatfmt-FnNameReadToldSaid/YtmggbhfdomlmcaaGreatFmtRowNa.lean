/-
  Closed facts of the row FnNameRead, first part: what the program's own tables say of its function.
-/
import Derived.Test.YtmggbhfdomlmcaaGreatFmtRows
import Derived.Test.YtmggbhfdomlmcaaGreatFmtCards
import Derived.Stop.JoinedAt
import Derived.Stop.JoinedTold
namespace Go.Proofs.YtmggbhfdomlmcaaGreatFmt

theorem Tryz.n_inPlace : Rows.fnNameReadRow.inPlace = Tryz.pinned.checked.prog.inPlace 4 := by kernel_rfl
theorem Tryz.n_unfollowed : Rows.fnNameReadRow.unfollowed = Tryz.pinned.checked.prog.unfollowed 4 := by kernel_rfl
theorem Tryz.n_recurses : Rows.fnNameReadRow.recurses = Tryz.pinned.checked.prog.recurses 4 := by kernel_rfl
theorem Tryz.n_named : Rows.fnNameReadRow.named = Tryz.pinned.checked.prog.varsNamed 4 := by kernel_rfl

end Go.Proofs.YtmggbhfdomlmcaaGreatFmt
