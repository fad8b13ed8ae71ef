/-
  PROVED: for every string and either kind of quotes, laws.FnEscapeRead returns true, changes nothing of its arguments, and leaves the three maps that the parser reads as they were.
  CONDITIONS: the given card's own: the twelve listed package-level variables hold what the program's text lays when the call begins; fmt's text is told by the card. No other premise.
-/
import Derived.Test.YtmggbhfdomlmcaaGreatFmtWalkLaw
import Derived.Test.YtmggbhfdomlmcaaGreatFmtLaid
import Derived.Test.YtmggbhfdomlmcaaGreatFmtTie
import Derived.Test.YtmggbhfdomlmcaaGreatFmtCards
import Derived.OpenVars
import Derived.Lib.LaidU8
import Derived.Lib.LaidTab
import Derived.Stop.JoinedAt
import Derived.Stop.JoinedTold
import Derived.Deep.DeepWitnessRef
import Derived.SizedLaws
import Derived.SliceStrings
import Derived.LaidMore
import Derived.Stop.LaidErr
namespace Go.Proofs.YtmggbhfdomlmcaaGreatFmt
open Go.ChangeShapes Go.WideShapes Go.ChangeAt Go.RowKit Go.Kit Go.Lib Go.Shelf
open Go.ChangeMaps (open_string shut_string)
open Go.Extern.Stop Go.Stop Go.Extern

theorem Tryz.own : ownKnob Tryz.prog.godebug = none := by kernel_rfl

theorem Tryz.laidOut : laidOutB Tryz.prog = true := by kernel_rfl

theorem vars_three {H : Type} {enc : TypeId × Value → H} {P : Program} {W : World} {sp : Nat → Bool} {a b c : String} {gs : List (DataW H)} {q : List MemPlace} (h : DataW.TrodVars enc P W sp [a, b, c] gs q) : ∃ g1 g2 g3, gs = [g1, g2, g3] := by
  match gs, h with
  | [], h => exact h.elim
  | [_], h => obtain ⟨_, _, _, _, _, _, _, _, _, _, h, _⟩ := h; exact h.elim
  | [_, _], h => obtain ⟨_, _, _, _, _, _, _, _, _, _, ⟨_, _, _, _, _, _, _, _, _, _, h, _⟩, _⟩ := h; exact h.elim
  | [g1, g2, g3], _ => exact ⟨g1, g2, g3, rfl⟩
  | _ :: _ :: _ :: _ :: _, h => obtain ⟨_, _, _, _, _, _, _, _, _, _, ⟨_, _, _, _, _, _, _, _, _, _, ⟨_, _, _, _, _, _, _, _, _, _, h, _⟩, _⟩, _⟩ := h; exact h.elim

theorem tabs_of_laid {W : World} (h : laidMetH Tryz.prog Rows.fnEscapeReadRow.laid W) : Lib.Utf8Tabs 0 1 W ∧ 2 ≤ W.heap.size := by
  rw [MakeChecks.laidMetH_plain _ _ _ (by kernel_rfl)] at h
  have h1 : Lib.firstData = Rows.laid_unicode_utf8_first := by kernel_rfl
  have h2 : Lib.acceptData = Rows.laid_unicode_utf8_acceptRanges := by kernel_rfl
  have hU : Lib.Utf8Tabs 0 1 W :=
    utf8Tabs_of_reads (ρ := Tryz.lays197_ren) { Tryz.lays197 with } ⟨by kernel_rfl, by kernel_rfl, by kernel_rfl, by kernel_rfl, by kernel_rfl, by kernel_rfl, by kernel_rfl⟩ (Lib.laidMet.reads h (by rw [h1]; simp [Rows.fnEscapeReadRow])) (Lib.laidMet.reads h (by rw [h2]; simp [Rows.fnEscapeReadRow]))
  exact ⟨hU, World.block_lt_of_cell? W ⟨1, 0, Option.none⟩ (hU.2 0 (by omega)).1⟩

theorem Tryz.star : "*" ++ "errors.errorString" = "*errors.errorString" := by decide
theorem Tryz.row374 (u : TypeId) (h : Tryz.prog.typeName? 3 u = some "*errors.errorString") : u = 374 :=
  typeName_ptr_named (nm := "errors.errorString") (by rw [Tryz.star]; kernel_rfl) (by kernel_rfl) (by decide) u (by rw [Tryz.star]; exact h)

theorem env_of_laid {W : World} (h : laidMetH Tryz.prog Rows.fnEscapeReadRow.laid W) : ∃ ev, Env ev W := by
  obtain ⟨hU, _⟩ := tabs_of_laid h
  rw [MakeChecks.laidMetH_plain _ _ _ (by kernel_rfl)] at h
  have hL : laidMet Tryz.prog [("unicode/utf8.acceptRanges", Rows.laid_unicode_utf8_acceptRanges), ("bytes.ErrTooLarge", Rows.laid_bytes_ErrTooLarge), ("loop.example/pub-sourcetrees/pub/jsonnet/ast.BopMap", Rows.laid_loop_example_pub_sourcetrees_pub_jsonnet_ast_BopMap), ("loop.example/pub-sourcetrees/pub/jsonnet/ast.UopMap", Rows.laid_loop_example_pub_sourcetrees_pub_jsonnet_ast_UopMap), ("loop.example/pub-sourcetrees/pub/jsonnet/inner/ast.bopPrecedence", Rows.laid_loop_example_pub_sourcetrees_pub_jsonnet_inner_ast_bopPrecedence), ("encoding/hex.ErrLength", Rows.laid_encoding_hex_ErrLength), ("strconv.isGraphic", Rows.laid_strconv_isGraphic), ("strconv.isNotPrint16", Rows.laid_strconv_isNotPrint16), ("strconv.isNotPrint32", Rows.laid_strconv_isNotPrint32), ("strconv.isPrint16", Rows.laid_strconv_isPrint16), ("strconv.isPrint32", Rows.laid_strconv_isPrint32), ("unicode/utf8.first", Rows.laid_unicode_utf8_first)] W := h
  obtain ⟨a, t, hv, _⟩ := laid_sentinel (g := 13) hL.tail.tail.tail.tail.tail (by kernel_rfl) (by kernel_rfl) Tryz.underlying46 Tryz.row374 Tryz.underlying374 Tryz.underlying399 rfl rfl Tryz.underlying9 (by kernel_rfl) (by kernel_rfl)
  have hc := World.var?_cell (P := Tryz.prog) (g := 13) (by kernel_rfl) hv 0
  have hc' : W.cell? ⟨13, 0, Option.none⟩ = some (.iface 374 (.pointer (some a))) := hc
  exact ⟨_, World.block_lt_of_cell? W ⟨13, 0, Option.none⟩ hc', hU, hc'⟩

theorem witness_escape (os : Os) {H : Type} (enc : TypeId × Value → H) :
    (OpenSpec.ofChange Rows.fnEscapeReadSpec).preRow enc Tryz.prog Tryz.f3 Rows.fnEscapeReadRow.domain false Rows.fnEscapeReadRow.laid ((laidWorld os).forCall (fun _ _ => 0) ⟨#[], #[.string ⟨#[]⟩, .bool false], []⟩).memory #[.string ⟨#[]⟩, .bool false] := by
  have hw : (DataW.whole enc Tryz.prog ((laidWorld os).forCall (fun _ _ => 0) ⟨#[], #[.string ⟨#[]⟩, .bool false], []⟩).memory Tryz.f3.params.toList (OpenSpec.ofChange Rows.fnEscapeReadSpec).vars false #[Value.string ⟨#[]⟩, Value.bool false].toList 8).map (fun x => (x.1, x.2.1)) =
      some ([.lit (.string []), .lit (.bool false)], [Rows.laid_loop_example_pub_sourcetrees_pub_jsonnet_ast_UopMap, Rows.laid_loop_example_pub_sourcetrees_pub_jsonnet_ast_BopMap, Rows.laid_loop_example_pub_sourcetrees_pub_jsonnet_inner_ast_bopPrecedence]) := by kernel_rfl
  obtain ⟨⟨x1, x2, x3⟩, hx, hx1⟩ := Option.map_eq_some_iff.1 hw
  simp only [Prod.mk.injEq] at hx1
  obtain ⟨rfl, rfl⟩ := hx1
  exact OpenSpec.preRow_of_cond 8 hx (by kernel_rfl) (fun k hk => by cases hk) (by kernel_rfl) (laid_met os _)

set_option maxRecDepth 100000 in
set_option maxHeartbeats 4000000 in
theorem escape_lifted (os : Os) (started : os.Started) (H : Type) (enc : TypeId × Value → H) :
    ReturnsInTold none {} Tryz.checked os 3 .any Input.okWide ((OpenSpec.ofChange Rows.fnEscapeReadSpec).preRow enc Tryz.prog Tryz.f3 Rows.fnEscapeReadRow.domain false Rows.fnEscapeReadRow.laid) (fun F => ((OpenSpec.ofChange Rows.fnEscapeReadSpec).at F).post enc Tryz.prog Tryz.f3 false true false false) (aloneAtReturn Tryz.prog) nothingAlways := by
  refine returnsInTold_of_row (C := Tryz.checked) (s := OpenSpec.ofChange Rows.fnEscapeReadSpec) (by kernel_rfl) Tryz.own started (by kernel_rfl) Tryz.func3
    (OpenSpec.witness_stopped_atRef (enc := enc) (C := Tryz.checked) false (laidWorld os) #[.string ⟨#[]⟩, .bool false] rfl (by kernel_rfl) (by kernel_rfl) (by kernel_rfl) (witness_escape os enc)) ?_
  intro F W base args ds gs before _ hF hval0 hW hcnd0 _ _ hL _
  have hval : ∀ (j : Nat) t v, Tryz.f3.params[j]? = some t → args[j]? = some v → Value.okWide Tryz.prog W .any base t v := hval0
  have hW' := hW
  obtain ⟨p, q, hA0, hV0, rfl, _, _⟩ := hW
  have hA : DataW.TrodAll enc Tryz.prog W 0 (fun _ => true) true Tryz.f3.params.toList args.toList ds p := hA0
  rw [Tryz.params3] at hA hval
  obtain ⟨v0, v1, d0, d1, p0, p1, rfl, rfl, rfl, h0, h1⟩ := trodAll_two hA
  obtain ⟨s, rfl, rfl, rfl, ws⟩ := open_string Tryz.underlying9 (hval 0 9 v0 rfl rfl) h0
  obtain ⟨b, rfl, rfl, rfl⟩ := open_bool Tryz.underlying4 (hval 1 4 v1 rfl rfl) h1
  obtain ⟨hU, h2⟩ := tabs_of_laid hL
  obtain ⟨ev, hE⟩ := env_of_laid hL
  refine (escape_law F s b ev W hE hF).mono ?_
  rintro e W' ⟨rfl, bel⟩
  obtain ⟨g1, g2, g3, rfl⟩ := vars_three (show DataW.TrodVars enc Tryz.prog W (fun _ => true) ["loop.example/pub-sourcetrees/pub/jsonnet/ast.UopMap", "loop.example/pub-sourcetrees/pub/jsonnet/ast.BopMap", "loop.example/pub-sourcetrees/pub/jsonnet/inner/ast.bopPrecedence"] gs q from hV0)
  exact ⟨_, rfl, _, _, _, [], [], q, hW', trodAll_mk1 (shut_bool Tryz.underlying4 _), trodAll_mk2 (shut_string Tryz.underlying9 ws) (shut_bool Tryz.underlying4 b), bel.trodVars Tryz.laidOut (by kernel_rfl) hV0, bel.frame _, fun h => by cases h⟩

theorem Tryz.stops : Tryz.pinned.checked.prog.stops = ["fmt.Sprintf, its operands' methods called"] := by kernel_rfl
theorem Tryz.stopKnobs : Tryz.pinned.checked.prog.stopKnobs = [] := by kernel_rfl
theorem Tryz.quiet (os : Os) : Stop.quiet Tryz.pinned.checked.prog os := by
  intro k hk
  rw [Tryz.stopKnobs] at hk
  cases hk

theorem escape_holds : Rows.FnEscapeReadToldSaid :=
  Claim7.holds_of_told_tied_any_at .later 3 Tryz.f3 "fmt.Sprintf, its operands' methods called" [] [] _ _ _ _ _ (by kernel_rfl) rfl rfl rfl Tryz.laidOut (by kernel_rfl) rfl ⟨rfl, rfl, rfl, rfl, rfl, rfl, rfl⟩ rfl rfl (by kernel_rfl) (by kernel_rfl) Tryz.func3 (by kernel_rfl)
    (of_decide_eq_true (by kernel_rfl)) (of_decide_eq_true (by kernel_rfl)) Tryz.stops.symm rfl Tryz.stopKnobs.symm (by kernel_rfl)
    (by kernel_rfl) (by kernel_rfl) (by kernel_rfl) (by kernel_rfl) (by kernel_rfl) (by kernel_rfl) (by kernel_rfl) (by kernel_rfl) (by kernel_rfl) rfl (by kernel_rfl) rfl rfl
    rfl rfl
    rfl (by kernel_rfl) (by kernel_rfl) (by kernel_rfl) (by decide) (by kernel_rfl) fnEscapeRead_row_tie
    (OpenClaim.moreEntering_of (by kernel_rfl) (by kernel_rfl) (by kernel_rfl) (by kernel_rfl) (by kernel_rfl) (by kernel_rfl) (by kernel_rfl) (by kernel_rfl) (by kernel_rfl) (by kernel_rfl))
    ⟨_, WideRow.started_initial, Tryz.quiet _⟩
    (fun os started _ H enc _ => escape_lifted os started H enc)

#print axioms escape_holds

end Go.Proofs.YtmggbhfdomlmcaaGreatFmt
