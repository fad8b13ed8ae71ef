/-
  Closed facts of the row FnEscapeRead, first part: what the program's own tables say of its function.
-/
import Derived.Test.YtmggbhfdomlmcaaGreatFmtRows
import Derived.Test.YtmggbhfdomlmcaaGreatFmtCards
import Derived.Stop.JoinedAt
import Derived.Stop.JoinedTold
namespace Go.Proofs.YtmggbhfdomlmcaaGreatFmt

theorem Tryz.e_inPlace : Rows.fnEscapeReadRow.inPlace = Tryz.pinned.checked.prog.inPlace 3 := by kernel_rfl
theorem Tryz.e_unfollowed : Rows.fnEscapeReadRow.unfollowed = Tryz.pinned.checked.prog.unfollowed 3 := by kernel_rfl
theorem Tryz.e_recurses : Rows.fnEscapeReadRow.recurses = Tryz.pinned.checked.prog.recurses 3 := by kernel_rfl
theorem Tryz.e_named : Rows.fnEscapeReadRow.named = Tryz.pinned.checked.prog.varsNamed 3 := by kernel_rfl

end Go.Proofs.YtmggbhfdomlmcaaGreatFmt
