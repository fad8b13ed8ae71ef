/-
  What fmt.Sprintf says of "%04x".
-/
import Derived.Test.YtmggbhfdomlmcaaGreatFmtPlainE
import Derived.Test.YtmggbhfdomlmcaaGreatFmtProg
import Derived.Stop.CallBack
import Derived.Stop.IfaceNil
import Derived.Stop.Texts
import Derived.Stop.Told
import Derived.Stop.FmtTextKit
import Derived.Stop.FmtTextBases
import Derived.WalkKit
import Derived.WalkSpells
import GoSem.ClaimData
namespace Go.Proofs.YtmggbhfdomlmcaaGreatFmt
open Go.RowKit Go.Kit Go.Extern.Stop Go.Stop Go.Extern

def shapeI : List UInt8 := [5, 3, 0, 0, 0, 0, 0, 0, 0, 105, 110, 116]

/-- What fmt is asked. -/
def hexReading (r : Int) : List (List UInt8) := [[37, 48, 52, 120], shapeI, digits 8 (r % 18446744073709551616).toNat]

/-- Four figures. -/
def hexBytes (c : Nat) : List UInt8 := [48, 48, UInt8.ofNat (hexRune (c / 16)), UInt8.ofNat (hexRune (c % 16))]

theorem hexz_all : (List.range 256).all (fun r => FmtText.hexZeros false false 4 (r : Int) == hexBytes r) = true := by kernel_rfl

theorem hexz (r : Nat) (h : r < 256) : FmtText.hexZeros false false 4 (r : Int) = hexBytes r := by
  have := List.all_eq_true.1 hexz_all r (List.mem_range.2 h)
  simpa using this

theorem hex_parse : (FmtText.parse [37, 48, 52, 120]).map FmtText.glue = some [.verb { widPresent := true, wid := 4, zero := true } 120] := by rfl

theorem hex_text (r : Nat) (h : r < 256) : FmtText.text "fmt.Sprintf" (hexReading (r : Int)) = some (hexBytes r) := by
  have hw : (Lit.int .i64 (r : Int)).wf = true := by
    have e1 : IntKind.i64.min = -9223372036854775808 := rfl
    have e2 : IntKind.i64.max = 9223372036854775807 := rfl
    simp [Lit.wf, e1, e2]
    omega
  have hi := FmtText.operand_int_at (sh := shapeI) (k := .i64) rfl rfl (r : Int) hw
  rw [hexReading, FmtText.text_sprintf_glued hex_parse (FmtText.operands_cons hi FmtText.operands_nil)]
  simp [FmtText.render, FmtText.printArg_x_zero _ false 4 _ hw, hexz r h]

theorem hex_told (F : Interp) (r : Nat) (h : r < 256) : FmtStop.textOf (F.told "fmt.Sprintf" (hexReading (r : Int)) 0) = ⟨(hexBytes r).toArray⟩ := by
  have ht := told_string F (hex_text r h) (by show (4 : Nat) < _; decide)
  have h1 : (FmtStop.textOf (F.told "fmt.Sprintf" (hexReading (r : Int)) 0)).data.toList = hexBytes r := by rw [textOf_list, ht]
  generalize FmtStop.textOf (F.told "fmt.Sprintf" (hexReading (r : Int)) 0) = x at *
  rw [← h1]

@[go_sem] theorem Tryz.call27 (args : Array Value) (w : World) : (callFunc 27 args).run Tryz.prog w = (FmtCalls.sprintf #[9, 153] #[9] args).run Tryz.prog w :=
  run_callFunc_next Tryz.func27 (by kernel_rfl) (by kernel_rfl) (by kernel_rfl) args w

@[go_sem] theorem Tryz.fmtGuard (name : String) (w : World) : (FmtStop.guard name).run Tryz.prog w = .ok () w := by kernel_rfl
theorem Tryz.nextTurns : Extern.next FmtCalls.turnsRow = some (FmtCalls.begun #[] #[]) := by kernel_rfl

@[go_sem] theorem Tryz.fmtHex : FmtStop.printed? ⟨#[37, 48, 52, 120]⟩ 1 = some [(0, 120, false)] := by kernel_rfl
@[go_sem] theorem Tryz.fmtHexR (w : World) : (FmtDoors.printed ⟨#[37, 48, 52, 120]⟩ 1).run Tryz.prog w = .ok [(0, 120, false)] w := by kernel_rfl
@[go_sem] theorem Tryz.act3_120 (name : String) (x : Value) (w : World) : (FmtCalls.act name false 120 false (.iface 3 x)).run Tryz.prog w = .ok (.closed false) w := by kernel_rfl
@[go_sem] theorem Tryz.op3_120 (name : String) (x : Int) (w : World) : (FmtStop.operand name false 120 false (.iface 3 (.int .i64 x))).run Tryz.prog w = .ok (shapeI, digits 8 (x % 2 ^ 64).toNat) w := by kernel_rfl

end Go.Proofs.YtmggbhfdomlmcaaGreatFmt
