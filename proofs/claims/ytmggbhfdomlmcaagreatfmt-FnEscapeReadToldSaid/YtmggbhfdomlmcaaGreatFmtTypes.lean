/-
  Of which type a node is.
-/
import Derived.Test.YtmggbhfdomlmcaaGreatFmtWalkL
namespace Go.Proofs.YtmggbhfdomlmcaaGreatFmt
open Go.RowKit

@[go_sem] theorem Tryz.as175_71 (v : Value) (w : World) : (Instr.typeAssert (.iface 175 v) 42 71 true).run Tryz.prog w = .ok (.tuple #[.pointer none, .bool false]) w := by kernel_rfl
@[go_sem] theorem Tryz.as175_87 (v : Value) (w : World) : (Instr.typeAssert (.iface 175 v) 42 87 true).run Tryz.prog w = .ok (.tuple #[.pointer none, .bool false]) w := by kernel_rfl
@[go_sem] theorem Tryz.as175_91 (v : Value) (w : World) : (Instr.typeAssert (.iface 175 v) 42 91 true).run Tryz.prog w = .ok (.tuple #[.pointer none, .bool false]) w := by kernel_rfl
@[go_sem] theorem Tryz.as175_94 (v : Value) (w : World) : (Instr.typeAssert (.iface 175 v) 42 94 true).run Tryz.prog w = .ok (.tuple #[.pointer none, .bool false]) w := by kernel_rfl
@[go_sem] theorem Tryz.as175_96 (v : Value) (w : World) : (Instr.typeAssert (.iface 175 v) 42 96 true).run Tryz.prog w = .ok (.tuple #[.pointer none, .bool false]) w := by kernel_rfl
@[go_sem] theorem Tryz.as175_98 (v : Value) (w : World) : (Instr.typeAssert (.iface 175 v) 42 98 true).run Tryz.prog w = .ok (.tuple #[.pointer none, .bool false]) w := by kernel_rfl
@[go_sem] theorem Tryz.as175_100 (v : Value) (w : World) : (Instr.typeAssert (.iface 175 v) 42 100 true).run Tryz.prog w = .ok (.tuple #[.pointer none, .bool false]) w := by kernel_rfl
@[go_sem] theorem Tryz.as175_103 (v : Value) (w : World) : (Instr.typeAssert (.iface 175 v) 42 103 true).run Tryz.prog w = .ok (.tuple #[.pointer none, .bool false]) w := by kernel_rfl
@[go_sem] theorem Tryz.as175_108 (v : Value) (w : World) : (Instr.typeAssert (.iface 175 v) 42 108 true).run Tryz.prog w = .ok (.tuple #[.pointer none, .bool false]) w := by kernel_rfl
@[go_sem] theorem Tryz.as175_111 (v : Value) (w : World) : (Instr.typeAssert (.iface 175 v) 42 111 true).run Tryz.prog w = .ok (.tuple #[.pointer none, .bool false]) w := by kernel_rfl
@[go_sem] theorem Tryz.as175_117 (v : Value) (w : World) : (Instr.typeAssert (.iface 175 v) 42 117 true).run Tryz.prog w = .ok (.tuple #[.pointer none, .bool false]) w := by kernel_rfl
@[go_sem] theorem Tryz.as175_125 (v : Value) (w : World) : (Instr.typeAssert (.iface 175 v) 42 125 true).run Tryz.prog w = .ok (.tuple #[.pointer none, .bool false]) w := by kernel_rfl
@[go_sem] theorem Tryz.as175_131 (v : Value) (w : World) : (Instr.typeAssert (.iface 175 v) 42 131 true).run Tryz.prog w = .ok (.tuple #[.pointer none, .bool false]) w := by kernel_rfl
@[go_sem] theorem Tryz.as175_134 (v : Value) (w : World) : (Instr.typeAssert (.iface 175 v) 42 134 true).run Tryz.prog w = .ok (.tuple #[.pointer none, .bool false]) w := by kernel_rfl
@[go_sem] theorem Tryz.as175_137 (v : Value) (w : World) : (Instr.typeAssert (.iface 175 v) 42 137 true).run Tryz.prog w = .ok (.tuple #[.pointer none, .bool false]) w := by kernel_rfl
@[go_sem] theorem Tryz.as175_140 (v : Value) (w : World) : (Instr.typeAssert (.iface 175 v) 42 140 true).run Tryz.prog w = .ok (.tuple #[.pointer none, .bool false]) w := by kernel_rfl
@[go_sem] theorem Tryz.as175_143 (v : Value) (w : World) : (Instr.typeAssert (.iface 175 v) 42 143 true).run Tryz.prog w = .ok (.tuple #[.pointer none, .bool false]) w := by kernel_rfl
@[go_sem] theorem Tryz.as175_146 (v : Value) (w : World) : (Instr.typeAssert (.iface 175 v) 42 146 true).run Tryz.prog w = .ok (.tuple #[.pointer none, .bool false]) w := by kernel_rfl
@[go_sem] theorem Tryz.as175_168 (v : Value) (w : World) : (Instr.typeAssert (.iface 175 v) 42 168 true).run Tryz.prog w = .ok (.tuple #[.pointer none, .bool false]) w := by kernel_rfl
@[go_sem] theorem Tryz.as175_169 (v : Value) (w : World) : (Instr.typeAssert (.iface 175 v) 42 169 true).run Tryz.prog w = .ok (.tuple #[.pointer none, .bool false]) w := by kernel_rfl
@[go_sem] theorem Tryz.as175_172 (v : Value) (w : World) : (Instr.typeAssert (.iface 175 v) 42 172 true).run Tryz.prog w = .ok (.tuple #[.pointer none, .bool false]) w := by kernel_rfl
@[go_sem] theorem Tryz.as175_175 (v : Value) (w : World) : (Instr.typeAssert (.iface 175 v) 42 175 true).run Tryz.prog w = .ok (.tuple #[v, .bool true]) w := by kernel_rfl
@[go_sem] theorem Tryz.as175_179 (v : Value) (w : World) : (Instr.typeAssert (.iface 175 v) 42 179 true).run Tryz.prog w = .ok (.tuple #[.pointer none, .bool false]) w := by kernel_rfl
@[go_sem] theorem Tryz.as175_180 (v : Value) (w : World) : (Instr.typeAssert (.iface 175 v) 42 180 true).run Tryz.prog w = .ok (.tuple #[.pointer none, .bool false]) w := by kernel_rfl
@[go_sem] theorem Tryz.as175_181 (v : Value) (w : World) : (Instr.typeAssert (.iface 175 v) 42 181 true).run Tryz.prog w = .ok (.tuple #[.pointer none, .bool false]) w := by kernel_rfl
@[go_sem] theorem Tryz.as175_184 (v : Value) (w : World) : (Instr.typeAssert (.iface 175 v) 42 184 true).run Tryz.prog w = .ok (.tuple #[.pointer none, .bool false]) w := by kernel_rfl
@[go_sem] theorem Tryz.as175_187 (v : Value) (w : World) : (Instr.typeAssert (.iface 175 v) 42 187 true).run Tryz.prog w = .ok (.tuple #[.pointer none, .bool false]) w := by kernel_rfl
@[go_sem] theorem Tryz.as175_189 (v : Value) (w : World) : (Instr.typeAssert (.iface 175 v) 42 189 true).run Tryz.prog w = .ok (.tuple #[.pointer none, .bool false]) w := by kernel_rfl
@[go_sem] theorem Tryz.as175_340 (v : Value) (w : World) : (Instr.typeAssert (.iface 175 v) 42 340 true).run Tryz.prog w = .ok (.tuple #[.pointer none, .bool false]) w := by kernel_rfl
@[go_sem] theorem Tryz.as181_71 (v : Value) (w : World) : (Instr.typeAssert (.iface 181 v) 42 71 true).run Tryz.prog w = .ok (.tuple #[.pointer none, .bool false]) w := by kernel_rfl
@[go_sem] theorem Tryz.as181_87 (v : Value) (w : World) : (Instr.typeAssert (.iface 181 v) 42 87 true).run Tryz.prog w = .ok (.tuple #[.pointer none, .bool false]) w := by kernel_rfl
@[go_sem] theorem Tryz.as181_91 (v : Value) (w : World) : (Instr.typeAssert (.iface 181 v) 42 91 true).run Tryz.prog w = .ok (.tuple #[.pointer none, .bool false]) w := by kernel_rfl
@[go_sem] theorem Tryz.as181_94 (v : Value) (w : World) : (Instr.typeAssert (.iface 181 v) 42 94 true).run Tryz.prog w = .ok (.tuple #[.pointer none, .bool false]) w := by kernel_rfl
@[go_sem] theorem Tryz.as181_96 (v : Value) (w : World) : (Instr.typeAssert (.iface 181 v) 42 96 true).run Tryz.prog w = .ok (.tuple #[.pointer none, .bool false]) w := by kernel_rfl
@[go_sem] theorem Tryz.as181_98 (v : Value) (w : World) : (Instr.typeAssert (.iface 181 v) 42 98 true).run Tryz.prog w = .ok (.tuple #[.pointer none, .bool false]) w := by kernel_rfl
@[go_sem] theorem Tryz.as181_100 (v : Value) (w : World) : (Instr.typeAssert (.iface 181 v) 42 100 true).run Tryz.prog w = .ok (.tuple #[.pointer none, .bool false]) w := by kernel_rfl
@[go_sem] theorem Tryz.as181_103 (v : Value) (w : World) : (Instr.typeAssert (.iface 181 v) 42 103 true).run Tryz.prog w = .ok (.tuple #[.pointer none, .bool false]) w := by kernel_rfl
@[go_sem] theorem Tryz.as181_108 (v : Value) (w : World) : (Instr.typeAssert (.iface 181 v) 42 108 true).run Tryz.prog w = .ok (.tuple #[.pointer none, .bool false]) w := by kernel_rfl
@[go_sem] theorem Tryz.as181_111 (v : Value) (w : World) : (Instr.typeAssert (.iface 181 v) 42 111 true).run Tryz.prog w = .ok (.tuple #[.pointer none, .bool false]) w := by kernel_rfl
@[go_sem] theorem Tryz.as181_117 (v : Value) (w : World) : (Instr.typeAssert (.iface 181 v) 42 117 true).run Tryz.prog w = .ok (.tuple #[.pointer none, .bool false]) w := by kernel_rfl
@[go_sem] theorem Tryz.as181_125 (v : Value) (w : World) : (Instr.typeAssert (.iface 181 v) 42 125 true).run Tryz.prog w = .ok (.tuple #[.pointer none, .bool false]) w := by kernel_rfl
@[go_sem] theorem Tryz.as181_131 (v : Value) (w : World) : (Instr.typeAssert (.iface 181 v) 42 131 true).run Tryz.prog w = .ok (.tuple #[.pointer none, .bool false]) w := by kernel_rfl
@[go_sem] theorem Tryz.as181_134 (v : Value) (w : World) : (Instr.typeAssert (.iface 181 v) 42 134 true).run Tryz.prog w = .ok (.tuple #[.pointer none, .bool false]) w := by kernel_rfl
@[go_sem] theorem Tryz.as181_137 (v : Value) (w : World) : (Instr.typeAssert (.iface 181 v) 42 137 true).run Tryz.prog w = .ok (.tuple #[.pointer none, .bool false]) w := by kernel_rfl
@[go_sem] theorem Tryz.as181_140 (v : Value) (w : World) : (Instr.typeAssert (.iface 181 v) 42 140 true).run Tryz.prog w = .ok (.tuple #[.pointer none, .bool false]) w := by kernel_rfl
@[go_sem] theorem Tryz.as181_143 (v : Value) (w : World) : (Instr.typeAssert (.iface 181 v) 42 143 true).run Tryz.prog w = .ok (.tuple #[.pointer none, .bool false]) w := by kernel_rfl
@[go_sem] theorem Tryz.as181_146 (v : Value) (w : World) : (Instr.typeAssert (.iface 181 v) 42 146 true).run Tryz.prog w = .ok (.tuple #[.pointer none, .bool false]) w := by kernel_rfl
@[go_sem] theorem Tryz.as181_168 (v : Value) (w : World) : (Instr.typeAssert (.iface 181 v) 42 168 true).run Tryz.prog w = .ok (.tuple #[.pointer none, .bool false]) w := by kernel_rfl
@[go_sem] theorem Tryz.as181_169 (v : Value) (w : World) : (Instr.typeAssert (.iface 181 v) 42 169 true).run Tryz.prog w = .ok (.tuple #[.pointer none, .bool false]) w := by kernel_rfl
@[go_sem] theorem Tryz.as181_172 (v : Value) (w : World) : (Instr.typeAssert (.iface 181 v) 42 172 true).run Tryz.prog w = .ok (.tuple #[.pointer none, .bool false]) w := by kernel_rfl
@[go_sem] theorem Tryz.as181_175 (v : Value) (w : World) : (Instr.typeAssert (.iface 181 v) 42 175 true).run Tryz.prog w = .ok (.tuple #[.pointer none, .bool false]) w := by kernel_rfl
@[go_sem] theorem Tryz.as181_179 (v : Value) (w : World) : (Instr.typeAssert (.iface 181 v) 42 179 true).run Tryz.prog w = .ok (.tuple #[.pointer none, .bool false]) w := by kernel_rfl
@[go_sem] theorem Tryz.as181_180 (v : Value) (w : World) : (Instr.typeAssert (.iface 181 v) 42 180 true).run Tryz.prog w = .ok (.tuple #[.pointer none, .bool false]) w := by kernel_rfl
@[go_sem] theorem Tryz.as181_181 (v : Value) (w : World) : (Instr.typeAssert (.iface 181 v) 42 181 true).run Tryz.prog w = .ok (.tuple #[v, .bool true]) w := by kernel_rfl
@[go_sem] theorem Tryz.as181_184 (v : Value) (w : World) : (Instr.typeAssert (.iface 181 v) 42 184 true).run Tryz.prog w = .ok (.tuple #[.pointer none, .bool false]) w := by kernel_rfl
@[go_sem] theorem Tryz.as181_187 (v : Value) (w : World) : (Instr.typeAssert (.iface 181 v) 42 187 true).run Tryz.prog w = .ok (.tuple #[.pointer none, .bool false]) w := by kernel_rfl
@[go_sem] theorem Tryz.as181_189 (v : Value) (w : World) : (Instr.typeAssert (.iface 181 v) 42 189 true).run Tryz.prog w = .ok (.tuple #[.pointer none, .bool false]) w := by kernel_rfl
@[go_sem] theorem Tryz.as181_340 (v : Value) (w : World) : (Instr.typeAssert (.iface 181 v) 42 340 true).run Tryz.prog w = .ok (.tuple #[.pointer none, .bool false]) w := by kernel_rfl

end Go.Proofs.YtmggbhfdomlmcaaGreatFmt
