/-
  A map keyed by bytes that the call makes and fills with written keys: its entries as they stand.
-/
import Derived.Test.YtmggbhfdomlmcaaGreatFmtMemA
import Derived.Maps.Own
import Derived.Maps.OwnOps
namespace Go.Proofs.YtmggbhfdomlmcaaGreatFmt

variable {P : Program} {w : World} {b : Nat} {es : Array MapEntry} {clock : Nat}

theorem put_run {t k e : TypeId} (ht : P.underlying t = some (.map k e)) (hk : P.underlying k = some (.int .u8)) (h : w.heap[b]? = some (.map es clock)) (n : Int) (v : Value)
    (hf : Instr.findNow (.int .u8) (.int .u8 n) es.toList 0 = some none) :
    ∃ w', (Instr.mapUpdate t (.map (some b)) (.int .u8 n) v).run P w = .ok () w' ∧ w'.heap[b]? = some (.map (es.push { key := .int .u8 n, val := v, born := clock }) (clock + 1)) ∧ But b w w' := by
  refine ⟨{ w with heap := w.heap.setIfInBounds b (.map (es.push { key := .int .u8 n, val := v, born := clock }) (clock + 1)) }, ?_, (MapKept.heap_set h).1, ⟨rfl, rfl, rfl, by simp, fun j _ hj => (MapKept.heap_set h).2 j hj⟩⟩
  simp [Instr.mapUpdate, run_underlying ht, MapKept.run_getObj_map h, MapKept.run_checkKey hk (show MapKept.IsKey (.int .u8) (.int .u8 n) from rfl), MapKept.run_findKey hk hf, MapKept.run_setObj_map _ h, Result.andThen]

theorem look_run {t k e : TypeId} (ht : P.underlying t = some (.map k e)) (hk : P.underlying k = some (.int .u8)) (h : w.heap[b]? = some (.map es clock)) (n : Int) (i : Nat) (v : Value)
    (hf : Instr.findNow (.int .u8) (.int .u8 n) es.toList 0 = some (some (i, v))) :
    (Instr.lookup t (.map (some b)) (.int .u8 n) true).run P w = .ok (.tuple #[v, .bool true]) w := by
  simp [Instr.lookup, run_underlying ht, MapKept.run_getObj_map h, MapKept.run_checkKey hk (show MapKept.IsKey (.int .u8) (.int .u8 n) from rfl), MapKept.run_findKey hk hf, Result.andThen]

theorem look_none {t k e : TypeId} (ht : P.underlying t = some (.map k e)) (hk : P.underlying k = some (.int .u8)) (h : w.heap[b]? = some (.map es clock)) (n : Int) {z : Value} (hz : (zeroValue e).run P w = .ok z w)
    (hf : Instr.findNow (.int .u8) (.int .u8 n) es.toList 0 = some none) :
    (Instr.lookup t (.map (some b)) (.int .u8 n) true).run P w = .ok (.tuple #[z, .bool false]) w := by
  simp [Instr.lookup, run_underlying ht, MapKept.run_getObj_map h, MapKept.run_checkKey hk (show MapKept.IsKey (.int .u8) (.int .u8 n) from rfl), MapKept.run_findKey hk hf, hz, Result.andThen]

/-- An entry of a map literal, at the operation. -/
theorem wpList_put (w : World) {ops : Array Oper} {rest : List Oper} {o : Oper} {a : Act} {Q : Exit → Act → World → Prop}
    (hg : o.guard = none) (m x v : Operand) (t : TypeId) (hop : o.op = Op.insert t m x v)
    (k e : TypeId) (ht : P.underlying t = some (.map k e)) (hk : P.underlying k = some (.int .u8)) (b : Nat) {es : Array MapEntry} {clock : Nat} (h : w.heap[b]? = some (.map es clock))
    (hm : a.eval m = .map (some b)) (n : Int) (val : Value) (hx : a.eval x = .int .u8 n) (hv : a.eval v = val) (hf : Instr.findNow (.int .u8) (.int .u8 n) es.toList 0 = some none)
    (hK : ∀ w', w'.heap[b]? = some (.map (es.push { key := .int .u8 n, val := val, born := clock }) (clock + 1)) → But b w w' → wpList P ops Q rest (a.put o.dst undef) w') :
    wpList P ops Q (o :: rest) a w := by
  refine wpList_plain hg fun K' hK' => ?_
  obtain ⟨w', hrun, r1, r2⟩ := put_run (P := P) ht hk h n val hf
  unfold Oper.wp
  simp [execOp, hop, hm, hx, hv, hrun, Result.andThen]
  exact hK' _ _ (hK w' r1 r2)

end Go.Proofs.YtmggbhfdomlmcaaGreatFmt
