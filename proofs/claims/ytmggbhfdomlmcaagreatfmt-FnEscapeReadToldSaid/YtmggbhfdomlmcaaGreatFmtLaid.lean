/-
  A start that meets the rows' conditions: the settled world, its listed variables laid.
-/
import Derived.Test.YtmggbhfdomlmcaaGreatFmtRows
import Derived.Deep.DeepWitnessRowRef
import Derived.Lib.LaidIn
import Derived.Great.LaidInts
import Derived.ProofKit
namespace Go.Proofs.YtmggbhfdomlmcaaGreatFmt
open Go.Great

noncomputable def zp16 : List Int := Go.Pinned.isPrint16Z.map Int.ofNat
noncomputable def zn16 : List Int := Go.Pinned.isNotPrint16Z.map Int.ofNat
noncomputable def zp32 : List Int := Go.Pinned.isPrint32Z.map Int.ofNat
noncomputable def zn32 : List Int := Go.Pinned.isNotPrint32Z.map Int.ofNat
noncomputable def zgr : List Int := Go.Pinned.isGraphicZ.map Int.ofNat

noncomputable def laidWorld (os : Os) : World :=
  let N := (World.settled Tryz.prog os).heap.size
  let w0 := World.holding Tryz.prog os ⟨#[
    .cells (zp16.map (Value.int .u16)).toArray 367, .cells (zn16.map (Value.int .u16)).toArray 367, .cells (zp32.map (Value.int .u32)).toArray 154, .cells (zn32.map (Value.int .u16)).toArray 367, .cells (zgr.map (Value.int .u16)).toArray 367,
    .cells #[.string ⟨#[98, 121, 116, 101, 115, 46, 66, 117, 102, 102, 101, 114, 58, 32, 116, 111, 111, 32, 108, 97, 114, 103, 101]⟩] 399, .cells #[.string ⟨#[101, 110, 99, 111, 100, 105, 110, 103, 47, 104, 101, 120, 58, 32, 111, 100, 100, 32, 108, 101, 110, 103, 116, 104, 32, 104, 101, 120, 32, 115, 116, 114, 105, 110, 103]⟩] 399,
    .map #[⟨.string ⟨#[33]⟩, .int .i64 0, 0⟩, ⟨.string ⟨#[43]⟩, .int .i64 2, 1⟩, ⟨.string ⟨#[45]⟩, .int .i64 3, 2⟩, ⟨.string ⟨#[126]⟩, .int .i64 1, 3⟩] 4,
    .map #[⟨.string ⟨#[33, 61]⟩, .int .i64 13, 0⟩, ⟨.string ⟨#[37]⟩, .int .i64 2, 1⟩, ⟨.string ⟨#[38]⟩, .int .i64 14, 2⟩, ⟨.string ⟨#[38, 38]⟩, .int .i64 17, 3⟩, ⟨.string ⟨#[42]⟩, .int .i64 0, 4⟩, ⟨.string ⟨#[43]⟩, .int .i64 3, 5⟩, ⟨.string ⟨#[45]⟩, .int .i64 4, 6⟩, ⟨.string ⟨#[47]⟩, .int .i64 1, 7⟩, ⟨.string ⟨#[60]⟩, .int .i64 9, 8⟩, ⟨.string ⟨#[60, 60]⟩, .int .i64 5, 9⟩, ⟨.string ⟨#[60, 61]⟩, .int .i64 10, 10⟩, ⟨.string ⟨#[61, 61]⟩, .int .i64 12, 11⟩, ⟨.string ⟨#[62]⟩, .int .i64 7, 12⟩, ⟨.string ⟨#[62, 61]⟩, .int .i64 8, 13⟩, ⟨.string ⟨#[62, 62]⟩, .int .i64 6, 14⟩, ⟨.string ⟨#[94]⟩, .int .i64 15, 15⟩, ⟨.string ⟨#[105, 110]⟩, .int .i64 11, 16⟩, ⟨.string ⟨#[124]⟩, .int .i64 16, 17⟩, ⟨.string ⟨#[124, 124]⟩, .int .i64 18, 18⟩] 19,
    .map #[⟨.int .i64 0, .int .i64 5, 0⟩, ⟨.int .i64 1, .int .i64 5, 1⟩, ⟨.int .i64 2, .int .i64 5, 2⟩, ⟨.int .i64 3, .int .i64 6, 3⟩, ⟨.int .i64 4, .int .i64 6, 4⟩, ⟨.int .i64 5, .int .i64 7, 5⟩, ⟨.int .i64 6, .int .i64 7, 6⟩, ⟨.int .i64 7, .int .i64 8, 7⟩, ⟨.int .i64 8, .int .i64 8, 8⟩, ⟨.int .i64 9, .int .i64 8, 9⟩, ⟨.int .i64 10, .int .i64 8, 10⟩, ⟨.int .i64 11, .int .i64 8, 11⟩, ⟨.int .i64 12, .int .i64 9, 12⟩, ⟨.int .i64 13, .int .i64 9, 13⟩, ⟨.int .i64 14, .int .i64 10, 14⟩, ⟨.int .i64 15, .int .i64 11, 15⟩, ⟨.int .i64 16, .int .i64 12, 16⟩, ⟨.int .i64 17, .int .i64 13, 17⟩, ⟨.int .i64 18, .int .i64 14, 18⟩] 19], #[], []⟩
  let put (h : Array Obj) (g : Nat) (cs : Array Value) : Array Obj := h.modify g fun
    | .cells _ t frozen => .cells cs t frozen
    | o => o
  let h0 := put w0.heap 0 (Go.Pinned.utf8FirstZ.map fun (n : Nat) => Value.int .u8 n).toArray
  let h1 := put h0 1 #[.int .u8 128, .int .u8 191, .int .u8 160, .int .u8 191, .int .u8 128, .int .u8 159, .int .u8 144, .int .u8 191, .int .u8 128, .int .u8 143, .int .u8 0, .int .u8 0, .int .u8 0, .int .u8 0, .int .u8 0, .int .u8 0, .int .u8 0, .int .u8 0, .int .u8 0, .int .u8 0, .int .u8 0, .int .u8 0, .int .u8 0, .int .u8 0, .int .u8 0, .int .u8 0, .int .u8 0, .int .u8 0, .int .u8 0, .int .u8 0, .int .u8 0, .int .u8 0]
  let h2 := put (put h1 2 #[.iface 374 (.pointer (some ⟨N + 5, 0, none⟩))]) 13 #[.iface 374 (.pointer (some ⟨N + 6, 0, none⟩))]
  let h3 := put (put (put h2 3 #[.map (some (N + 7))]) 4 #[.map (some (N + 8))]) 6 #[.map (some (N + 9))]
  let h4 := put h3 8 #[.slice (some ⟨N, 0, none⟩) zp16.length zp16.length]
  let h5 := put h4 9 #[.slice (some ⟨N + 1, 0, none⟩) zn16.length zn16.length]
  let h6 := put h5 10 #[.slice (some ⟨N + 2, 0, none⟩) zp32.length zp32.length]
  let h7 := put h6 11 #[.slice (some ⟨N + 3, 0, none⟩) zn32.length zn32.length]
  let h8 := put h7 12 #[.slice (some ⟨N + 4, 0, none⟩) zgr.length zgr.length]
  { w0 with heap := h8 }

theorem fits (k : IntKind) (zs : List Int) (h : (zs.all fun n => (Lit.int k n).wf) = true) : ∀ n ∈ zs, (Lit.int k n).wf = true := fun n hn => List.all_eq_true.1 h n hn

noncomputable abbrev N0 : Nat := (World.settled Tryz.prog default).heap.size
set_option maxRecDepth 1000000 in
theorem piece0 (os : Os) (args : Array Value) : LaidIn Tryz.prog ((laidWorld os).forCall (fun _ _ => 0) ⟨#[], args, []⟩).memory (Rows.fnNameReadRow.laid.take 6) [1, 2, N0 + 5, 4, N0 + 8, 3, N0 + 7, 6, N0 + 9, 13, N0 + 6] :=
  LaidIn.of_run [1, 2, N0 + 5, 4, N0 + 8, 3, N0 + 7, 6, N0 + 9, 13, N0 + 6] 10 (by kernel_rfl) (by kernel_rfl) (by kernel_rfl) (by kernel_rfl)
set_option maxRecDepth 1000000 in
theorem piece_isGraphic (os : Os) (args : Array Value) : LaidIn Tryz.prog ((laidWorld os).forCall (fun _ _ => 0) ⟨#[], args, []⟩).memory [("strconv.isGraphic", .slice (zgr.map fun n => .lit (.int .u16 n)) [])] [12, N0 + 4] :=
  laidIn_ints (name := "strconv.isGraphic") (g := 12) (R := N0 + 4) (t := 368) (e := 367) (tg := 368) (k := .u16) (zs := zgr) (by kernel_rfl) (by kernel_rfl) (by kernel_rfl) (by kernel_rfl) (by kernel_rfl) (Nat.le_of_ble_eq_true (by kernel_rfl)) (fits _ _ (by kernel_rfl)) (by kernel_rfl) (by kernel_rfl) (Nat.ne_of_beq_eq_false (by kernel_rfl))
set_option maxRecDepth 1000000 in
theorem piece_isNotPrint16 (os : Os) (args : Array Value) : LaidIn Tryz.prog ((laidWorld os).forCall (fun _ _ => 0) ⟨#[], args, []⟩).memory [("strconv.isNotPrint16", .slice (zn16.map fun n => .lit (.int .u16 n)) [])] [9, N0 + 1] :=
  laidIn_ints (name := "strconv.isNotPrint16") (g := 9) (R := N0 + 1) (t := 368) (e := 367) (tg := 368) (k := .u16) (zs := zn16) (by kernel_rfl) (by kernel_rfl) (by kernel_rfl) (by kernel_rfl) (by kernel_rfl) (Nat.le_of_ble_eq_true (by kernel_rfl)) (fits _ _ (by kernel_rfl)) (by kernel_rfl) (by kernel_rfl) (Nat.ne_of_beq_eq_false (by kernel_rfl))
set_option maxRecDepth 1000000 in
theorem piece_isNotPrint32 (os : Os) (args : Array Value) : LaidIn Tryz.prog ((laidWorld os).forCall (fun _ _ => 0) ⟨#[], args, []⟩).memory [("strconv.isNotPrint32", .slice (zn32.map fun n => .lit (.int .u16 n)) [])] [11, N0 + 3] :=
  laidIn_ints (name := "strconv.isNotPrint32") (g := 11) (R := N0 + 3) (t := 368) (e := 367) (tg := 368) (k := .u16) (zs := zn32) (by kernel_rfl) (by kernel_rfl) (by kernel_rfl) (by kernel_rfl) (by kernel_rfl) (Nat.le_of_ble_eq_true (by kernel_rfl)) (fits _ _ (by kernel_rfl)) (by kernel_rfl) (by kernel_rfl) (Nat.ne_of_beq_eq_false (by kernel_rfl))
set_option maxRecDepth 1000000 in
theorem piece_isPrint16 (os : Os) (args : Array Value) : LaidIn Tryz.prog ((laidWorld os).forCall (fun _ _ => 0) ⟨#[], args, []⟩).memory [("strconv.isPrint16", .slice (zp16.map fun n => .lit (.int .u16 n)) [])] [8, N0 + 0] :=
  laidIn_ints (name := "strconv.isPrint16") (g := 8) (R := N0 + 0) (t := 368) (e := 367) (tg := 368) (k := .u16) (zs := zp16) (by kernel_rfl) (by kernel_rfl) (by kernel_rfl) (by kernel_rfl) (by kernel_rfl) (Nat.le_of_ble_eq_true (by kernel_rfl)) (fits _ _ (by kernel_rfl)) (by kernel_rfl) (by kernel_rfl) (Nat.ne_of_beq_eq_false (by kernel_rfl))
set_option maxRecDepth 1000000 in
theorem piece_isPrint32 (os : Os) (args : Array Value) : LaidIn Tryz.prog ((laidWorld os).forCall (fun _ _ => 0) ⟨#[], args, []⟩).memory [("strconv.isPrint32", .slice (zp32.map fun n => .lit (.int .u32 n)) [])] [10, N0 + 2] :=
  laidIn_ints (name := "strconv.isPrint32") (g := 10) (R := N0 + 2) (t := 370) (e := 154) (tg := 370) (k := .u32) (zs := zp32) (by kernel_rfl) (by kernel_rfl) (by kernel_rfl) (by kernel_rfl) (by kernel_rfl) (Nat.le_of_ble_eq_true (by kernel_rfl)) (fits _ _ (by kernel_rfl)) (by kernel_rfl) (by kernel_rfl) (Nat.ne_of_beq_eq_false (by kernel_rfl))
set_option maxRecDepth 1000000 in
theorem piece_first (os : Os) (args : Array Value) : LaidIn Tryz.prog ((laidWorld os).forCall (fun _ _ => 0) ⟨#[], args, []⟩).memory [("unicode/utf8.first", Rows.laid_unicode_utf8_first)] [0] :=
  LaidIn.of_run [0] 10 (by kernel_rfl) (by kernel_rfl) (by kernel_rfl) (by kernel_rfl)

theorem laid_list : Rows.fnNameReadRow.laid = Rows.fnNameReadRow.laid.take 6 ++ ([("strconv.isGraphic", .slice (zgr.map fun n => .lit (.int .u16 n)) [])] ++ ([("strconv.isNotPrint16", .slice (zn16.map fun n => .lit (.int .u16 n)) [])] ++ ([("strconv.isNotPrint32", .slice (zn32.map fun n => .lit (.int .u16 n)) [])] ++ ([("strconv.isPrint16", .slice (zp16.map fun n => .lit (.int .u16 n)) [])] ++ ([("strconv.isPrint32", .slice (zp32.map fun n => .lit (.int .u32 n)) [])] ++ [("unicode/utf8.first", Rows.laid_unicode_utf8_first)]))))) := by kernel_rfl

theorem laid_met (os : Os) (args : Array Value) : laidMet Tryz.prog Rows.fnNameReadRow.laid ((laidWorld os).forCall (fun _ _ => 0) ⟨#[], args, []⟩).memory := by
  rw [laid_list]
  exact ((piece0 os args).append ((piece_isGraphic os args).append ((piece_isNotPrint16 os args).append ((piece_isNotPrint32 os args).append ((piece_isPrint16 os args).append ((piece_isPrint32 os args).append (piece_first os args) (by kernel_rfl)) (by kernel_rfl)) (by kernel_rfl)) (by kernel_rfl)) (by kernel_rfl)) (by kernel_rfl)).met

end Go.Proofs.YtmggbhfdomlmcaaGreatFmt
