/-
  PROVED: for every string, laws.FnNameRead returns true, changes nothing of its argument, and leaves the three maps that the parser reads as they were.
  CONDITIONS: the given card's own: the twelve listed package-level variables hold what the program's text lays when the call begins; fmt's text is told by the card (this call never reaches it). No other premise.
-/
import Derived.Test.YtmggbhfdomlmcaaGreatFmtWalkW
import Derived.Test.YtmggbhfdomlmcaaGreatFmtRowNa
import Derived.Test.YtmggbhfdomlmcaaGreatFmtRowNb
import Derived.Test.YtmggbhfdomlmcaaGreatFmtLaid
import Derived.Test.YtmggbhfdomlmcaaGreatFmtTie
import Derived.Test.YtmggbhfdomlmcaaGreatFmtCards
import Derived.OpenVars
import Derived.Lib.LaidU8
import Derived.Lib.LaidTab
import Derived.Stop.JoinedAt
import Derived.Stop.JoinedTold
import Derived.Deep.DeepWitnessRef
import Derived.SizedLaws
import Derived.SliceStrings
import Derived.LaidMore
namespace Go.Proofs.YtmggbhfdomlmcaaGreatFmt
open Go.ChangeShapes Go.WideShapes Go.ChangeAt Go.RowKit Go.Kit Go.Lib Go.Shelf
open Go.ChangeMaps (open_string shut_string)
open Go.Extern.Stop Go.Stop Go.Extern

theorem Tryz.own : ownKnob Tryz.prog.godebug = none := by kernel_rfl

theorem Tryz.laidOut : laidOutB Tryz.prog = true := by kernel_rfl

theorem vars_three {H : Type} {enc : TypeId × Value → H} {P : Program} {W : World} {sp : Nat → Bool} {a b c : String} {gs : List (DataW H)} {q : List MemPlace} (h : DataW.TrodVars enc P W sp [a, b, c] gs q) : ∃ g1 g2 g3, gs = [g1, g2, g3] := by
  match gs, h with
  | [], h => exact h.elim
  | [_], h => obtain ⟨_, _, _, _, _, _, _, _, _, _, h, _⟩ := h; exact h.elim
  | [_, _], h => obtain ⟨_, _, _, _, _, _, _, _, _, _, ⟨_, _, _, _, _, _, _, _, _, _, h, _⟩, _⟩ := h; exact h.elim
  | [g1, g2, g3], _ => exact ⟨g1, g2, g3, rfl⟩
  | _ :: _ :: _ :: _ :: _, h => obtain ⟨_, _, _, _, _, _, _, _, _, _, ⟨_, _, _, _, _, _, _, _, _, _, ⟨_, _, _, _, _, _, _, _, _, _, h, _⟩, _⟩, _⟩ := h; exact h.elim

theorem tabs_of_laid {W : World} (h : laidMetH Tryz.prog Rows.fnNameReadRow.laid W) : Lib.Utf8Tabs 0 1 W ∧ 2 ≤ W.heap.size := by
  rw [MakeChecks.laidMetH_plain _ _ _ (by kernel_rfl)] at h
  have h1 : Lib.firstData = Rows.laid_unicode_utf8_first := by kernel_rfl
  have h2 : Lib.acceptData = Rows.laid_unicode_utf8_acceptRanges := by kernel_rfl
  have hU : Lib.Utf8Tabs 0 1 W :=
    utf8Tabs_of_reads (ρ := Tryz.lays197_ren) { Tryz.lays197 with } ⟨by kernel_rfl, by kernel_rfl, by kernel_rfl, by kernel_rfl, by kernel_rfl, by kernel_rfl, by kernel_rfl⟩ (Lib.laidMet.reads h (by rw [h1]; simp [Rows.fnNameReadRow])) (Lib.laidMet.reads h (by rw [h2]; simp [Rows.fnNameReadRow]))
  exact ⟨hU, World.block_lt_of_cell? W ⟨1, 0, Option.none⟩ (hU.2 0 (by omega)).1⟩

theorem witness_name (os : Os) {H : Type} (enc : TypeId × Value → H) :
    (OpenSpec.ofChange Rows.fnNameReadSpec).preRow enc Tryz.prog Tryz.f4 Rows.fnNameReadRow.domain false Rows.fnNameReadRow.laid ((laidWorld os).forCall (fun _ _ => 0) ⟨#[], #[.string ⟨#[]⟩], []⟩).memory #[.string ⟨#[]⟩] := by
  have hw : (DataW.whole enc Tryz.prog ((laidWorld os).forCall (fun _ _ => 0) ⟨#[], #[.string ⟨#[]⟩], []⟩).memory Tryz.f4.params.toList (OpenSpec.ofChange Rows.fnNameReadSpec).vars false #[Value.string ⟨#[]⟩].toList 8).map (fun x => (x.1, x.2.1)) =
      some ([.lit (.string [])], [Rows.laid_loop_example_pub_sourcetrees_pub_jsonnet_ast_UopMap, Rows.laid_loop_example_pub_sourcetrees_pub_jsonnet_ast_BopMap, Rows.laid_loop_example_pub_sourcetrees_pub_jsonnet_inner_ast_bopPrecedence]) := by kernel_rfl
  obtain ⟨⟨x1, x2, x3⟩, hx, hx1⟩ := Option.map_eq_some_iff.1 hw
  simp only [Prod.mk.injEq] at hx1
  obtain ⟨rfl, rfl⟩ := hx1
  exact OpenSpec.preRow_of_cond 8 hx (by kernel_rfl) (fun k hk => by cases hk) (by kernel_rfl) (laid_met os _)

set_option maxRecDepth 100000 in
set_option maxHeartbeats 4000000 in
theorem name_lifted (os : Os) (started : os.Started) (H : Type) (enc : TypeId × Value → H) :
    ReturnsInTold none {} Tryz.checked os 4 .any Input.okWide ((OpenSpec.ofChange Rows.fnNameReadSpec).preRow enc Tryz.prog Tryz.f4 Rows.fnNameReadRow.domain false Rows.fnNameReadRow.laid) (fun F => ((OpenSpec.ofChange Rows.fnNameReadSpec).at F).post enc Tryz.prog Tryz.f4 false true false false) (aloneAtReturn Tryz.prog) nothingAlways := by
  refine returnsInTold_of_row (C := Tryz.checked) (s := OpenSpec.ofChange Rows.fnNameReadSpec) (by kernel_rfl) Tryz.own started (by kernel_rfl) Tryz.func4
    (OpenSpec.witness_stopped_atRef (enc := enc) (C := Tryz.checked) false (laidWorld os) #[.string ⟨#[]⟩] rfl (by kernel_rfl) (by kernel_rfl) (by kernel_rfl) (witness_name os enc)) ?_
  intro F W base args ds gs before _ hF hval0 hW hcnd0 _ _ hL _
  have hval : ∀ (j : Nat) t v, Tryz.f4.params[j]? = some t → args[j]? = some v → Value.okWide Tryz.prog W .any base t v := hval0
  have hW' := hW
  obtain ⟨p, q, hA0, hV0, rfl, _, _⟩ := hW
  have hA : DataW.TrodAll enc Tryz.prog W 0 (fun _ => true) true Tryz.f4.params.toList args.toList ds p := hA0
  rw [Tryz.params4] at hA hval
  obtain ⟨v0, d0, rfl, rfl, h0⟩ := trodAll_one hA
  obtain ⟨s, rfl, rfl, rfl, ws⟩ := open_string Tryz.underlying9 (hval 0 9 v0 rfl rfl) h0
  obtain ⟨hU, h2⟩ := tabs_of_laid hL
  refine (name_law s W h2 hU).mono ?_
  rintro e W' ⟨rfl, bel⟩
  obtain ⟨g1, g2, g3, rfl⟩ := vars_three (show DataW.TrodVars enc Tryz.prog W (fun _ => true) ["loop.example/pub-sourcetrees/pub/jsonnet/ast.UopMap", "loop.example/pub-sourcetrees/pub/jsonnet/ast.BopMap", "loop.example/pub-sourcetrees/pub/jsonnet/inner/ast.bopPrecedence"] gs q from hV0)
  exact ⟨_, rfl, _, _, _, [], [], q, hW', trodAll_mk1 (shut_bool Tryz.underlying4 _), trodAll_mk1 (shut_string Tryz.underlying9 ws), bel.trodVars Tryz.laidOut (by kernel_rfl) hV0, bel.frame _, fun h => by cases h⟩

theorem Tryz.stops : Tryz.pinned.checked.prog.stops = ["fmt.Sprintf, its operands' methods called"] := by kernel_rfl
theorem Tryz.stopKnobs : Tryz.pinned.checked.prog.stopKnobs = [] := by kernel_rfl
theorem Tryz.quiet (os : Os) : Stop.quiet Tryz.pinned.checked.prog os := by
  intro k hk
  rw [Tryz.stopKnobs] at hk
  cases hk

theorem name_holds : Rows.FnNameReadToldSaid :=
  Claim7.holds_of_told_tied_any_at .later 4 Tryz.f4 "fmt.Sprintf, its operands' methods called" [] [] _ _ _ _ _ (by kernel_rfl) rfl rfl rfl Tryz.laidOut Tryz.n_maps rfl ⟨rfl, rfl, rfl, rfl, rfl, rfl, rfl⟩ rfl rfl (by kernel_rfl) (by kernel_rfl) Tryz.func4 (by kernel_rfl)
    (of_decide_eq_true (by kernel_rfl)) (of_decide_eq_true (by kernel_rfl)) Tryz.stops.symm rfl Tryz.stopKnobs.symm (by kernel_rfl)
    Tryz.n_inPlace Tryz.n_unfollowed Tryz.n_recurses Tryz.n_named (by kernel_rfl) (by kernel_rfl) (by kernel_rfl) (by kernel_rfl) (by kernel_rfl) rfl (by kernel_rfl) rfl rfl
    rfl rfl
    rfl (by kernel_rfl) (by kernel_rfl) (by kernel_rfl) (by decide) Tryz.n_goes fnNameRead_row_tie
    (OpenClaim.moreEntering_of Tryz.n_enter (by kernel_rfl) (by kernel_rfl) (by kernel_rfl) (by kernel_rfl) (by kernel_rfl) (by kernel_rfl) Tryz.n_keys (by kernel_rfl) (by kernel_rfl))
    ⟨_, WideRow.started_initial, Tryz.quiet _⟩
    (fun os started _ H enc _ => name_lifted os started H enc)

#print axioms name_holds

end Go.Proofs.YtmggbhfdomlmcaaGreatFmt
