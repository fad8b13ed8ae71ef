/-
  PROVED: for every string and either kind of quotes, laws.FnEscapeRead returns true, changes nothing of its arguments, and leaves the three maps that the parser reads as they were.
  CONDITIONS: the given card's own: the twelve listed package-level variables hold what the program's text lays when the call begins; fmt's text is told by the card. No other premise.
-/
import Derived.Test.YtmggbhfdomlmcaaGreatFmtWalkLaw
import Derived.Test.YtmggbhfdomlmcaaGreatFmtRowEa
import Derived.Test.YtmggbhfdomlmcaaGreatFmtRowEb
import Derived.Test.YtmggbhfdomlmcaaGreatFmtLaid
import Derived.Test.YtmggbhfdomlmcaaGreatFmtTie
import Derived.Test.YtmggbhfdomlmcaaGreatFmtCards
import Derived.OpenVars
import Derived.Lib.LaidU8
import Derived.Lib.LaidTab
import Derived.Stop.JoinedAt
import Derived.Stop.JoinedTold
import Derived.Deep.DeepWitnessRef
import Derived.SizedLaws
import Derived.SliceStrings
import Derived.LaidMore
namespace Go.Proofs.YtmggbhfdomlmcaaGreatFmt
open Go.ChangeShapes Go.WideShapes Go.ChangeAt Go.RowKit Go.Kit Go.Lib Go.Shelf
open Go.ChangeMaps (open_string shut_string)
open Go.Extern.Stop Go.Stop Go.Extern

theorem Tryz.own : ownKnob Tryz.prog.godebug = none := by kernel_rfl

theorem Tryz.laidOut : laidOutB Tryz.prog = true := by kernel_rfl

theorem vars_three {H : Type} {enc : TypeId × Value → H} {P : Program} {W : World} {sp : Nat → Bool} {a b c : String} {gs : List (DataW H)} {q : List MemPlace} (h : DataW.TrodVars enc P W sp [a, b, c] gs q) : ∃ g1 g2 g3, gs = [g1, g2, g3] := by
  match gs, h with
  | [], h => exact h.elim
  | [_], h => obtain ⟨_, _, _, _, _, _, _, _, _, _, h, _⟩ := h; exact h.elim
  | [_, _], h => obtain ⟨_, _, _, _, _, _, _, _, _, _, ⟨_, _, _, _, _, _, _, _, _, _, h, _⟩, _⟩ := h; exact h.elim
  | [g1, g2, g3], _ => exact ⟨g1, g2, g3, rfl⟩
  | _ :: _ :: _ :: _ :: _, h => obtain ⟨_, _, _, _, _, _, _, _, _, _, ⟨_, _, _, _, _, _, _, _, _, _, ⟨_, _, _, _, _, _, _, _, _, _, h, _⟩, _⟩, _⟩ := h; exact h.elim

theorem tabs_of_laid {W : World} (h : laidMetH Tryz.prog Rows.fnEscapeReadRow.laid W) : Lib.Utf8Tabs 0 1 W ∧ 2 ≤ W.heap.size := by
  rw [MakeChecks.laidMetH_plain _ _ _ (by kernel_rfl)] at h
  have h1 : Lib.firstData = Rows.laid_unicode_utf8_first := by kernel_rfl
  have h2 : Lib.acceptData = Rows.laid_unicode_utf8_acceptRanges := by kernel_rfl
  have hU : Lib.Utf8Tabs 0 1 W :=
    utf8Tabs_of_reads (ρ := Tryz.lays197_ren) { Tryz.lays197 with } ⟨by kernel_rfl, by kernel_rfl, by kernel_rfl, by kernel_rfl, by kernel_rfl, by kernel_rfl, by kernel_rfl⟩ (Lib.laidMet.reads h (by rw [h1]; simp [Rows.fnEscapeReadRow])) (Lib.laidMet.reads h (by rw [h2]; simp [Rows.fnEscapeReadRow]))
  exact ⟨hU, World.block_lt_of_cell? W ⟨1, 0, Option.none⟩ (hU.2 0 (by omega)).1⟩

/-- A listed variable of an interface's type holds some value. -/
theorem cell_of_reads {P : Program} {W : World} {n : String} {d : DataW Unit} {g : Nat} {t : TypeId} {ms : Array (String × TypeId)} (h : Lib.VarReads P W n d) (hg : P.globalNamed n = some g) (ht : (P.globals[g]?).map (·.type) = some t) (hu : P.underlying t = some (.interface ms)) : ∃ v, W.cell? ⟨g, 0, Option.none⟩ = some v := by
  obtain ⟨g0, t0, cs, fuel, p, h1, h2, h3, h4⟩ := h
  obtain rfl := Option.some.inj (hg.symm.trans h1)
  obtain rfl := Option.some.inj (ht.symm.trans h2)
  cases hc : cs.toList with
  | nil =>
    exfalso
    rw [hc] at h4
    cases fuel <;> simp [DataW.trod, hu] at h4
  | cons v r =>
    refine ⟨v, ?_⟩
    rw [World.var?_cell hg h3 0, ← Array.getElem?_toList, hc]
    rfl

theorem env_of_laid {W : World} (h : laidMetH Tryz.prog Rows.fnEscapeReadRow.laid W) : ∃ ev, Env ev W := by
  obtain ⟨hU, _⟩ := tabs_of_laid h
  rw [MakeChecks.laidMetH_plain _ _ _ (by kernel_rfl)] at h
  obtain ⟨ev, hc⟩ := cell_of_reads (g := 13) (Lib.laidMet.reads h (n := "encoding/hex.ErrLength") (d := Rows.laid_encoding_hex_ErrLength) (by simp [Rows.fnEscapeReadRow])) (by kernel_rfl) (by kernel_rfl) Tryz.underlying46
  exact ⟨ev, World.block_lt_of_cell? W ⟨13, 0, Option.none⟩ hc, hU, hc⟩

theorem witness_escape (os : Os) {H : Type} (enc : TypeId × Value → H) :
    (OpenSpec.ofChange Rows.fnEscapeReadSpec).preRow enc Tryz.prog Tryz.f3 Rows.fnEscapeReadRow.domain false Rows.fnEscapeReadRow.laid ((laidWorld os).forCall (fun _ _ => 0) ⟨#[], #[.string ⟨#[]⟩, .bool false], []⟩).memory #[.string ⟨#[]⟩, .bool false] := by
  have hw : (DataW.whole enc Tryz.prog ((laidWorld os).forCall (fun _ _ => 0) ⟨#[], #[.string ⟨#[]⟩, .bool false], []⟩).memory Tryz.f3.params.toList (OpenSpec.ofChange Rows.fnEscapeReadSpec).vars false #[Value.string ⟨#[]⟩, Value.bool false].toList 8).map (fun x => (x.1, x.2.1)) =
      some ([.lit (.string []), .lit (.bool false)], [Rows.laid_loop_example_pub_sourcetrees_pub_jsonnet_ast_UopMap, Rows.laid_loop_example_pub_sourcetrees_pub_jsonnet_ast_BopMap, Rows.laid_loop_example_pub_sourcetrees_pub_jsonnet_inner_ast_bopPrecedence]) := by kernel_rfl
  obtain ⟨⟨x1, x2, x3⟩, hx, hx1⟩ := Option.map_eq_some_iff.1 hw
  simp only [Prod.mk.injEq] at hx1
  obtain ⟨rfl, rfl⟩ := hx1
  exact OpenSpec.preRow_of_cond 8 hx (by kernel_rfl) (fun k hk => by cases hk) (by kernel_rfl) (laid_met os _)

set_option maxRecDepth 100000 in
set_option maxHeartbeats 4000000 in
theorem escape_lifted (os : Os) (started : os.Started) (H : Type) (enc : TypeId × Value → H) :
    ReturnsInTold none {} Tryz.checked os 3 .any Input.okWide ((OpenSpec.ofChange Rows.fnEscapeReadSpec).preRow enc Tryz.prog Tryz.f3 Rows.fnEscapeReadRow.domain false Rows.fnEscapeReadRow.laid) (fun F => ((OpenSpec.ofChange Rows.fnEscapeReadSpec).at F).post enc Tryz.prog Tryz.f3 false true false false) (aloneAtReturn Tryz.prog) nothingAlways := by
  refine returnsInTold_of_row (C := Tryz.checked) (s := OpenSpec.ofChange Rows.fnEscapeReadSpec) (by kernel_rfl) Tryz.own started (by kernel_rfl) Tryz.func3
    (OpenSpec.witness_stopped_atRef (enc := enc) (C := Tryz.checked) false (laidWorld os) #[.string ⟨#[]⟩, .bool false] rfl (by kernel_rfl) (by kernel_rfl) (by kernel_rfl) (witness_escape os enc)) ?_
  intro F W base args ds gs before _ hF hval0 hW hcnd0 _ _ hL _
  have hval : ∀ (j : Nat) t v, Tryz.f3.params[j]? = some t → args[j]? = some v → Value.okWide Tryz.prog W .any base t v := hval0
  have hW' := hW
  obtain ⟨p, q, hA0, hV0, rfl, _, _⟩ := hW
  have hA : DataW.TrodAll enc Tryz.prog W 0 (fun _ => true) true Tryz.f3.params.toList args.toList ds p := hA0
  rw [Tryz.params3] at hA hval
  obtain ⟨v0, v1, d0, d1, p0, p1, rfl, rfl, rfl, h0, h1⟩ := trodAll_two hA
  obtain ⟨s, rfl, rfl, rfl, ws⟩ := open_string Tryz.underlying9 (hval 0 9 v0 rfl rfl) h0
  obtain ⟨b, rfl, rfl, rfl⟩ := open_bool Tryz.underlying4 (hval 1 4 v1 rfl rfl) h1
  obtain ⟨hU, h2⟩ := tabs_of_laid hL
  obtain ⟨ev, hE⟩ := env_of_laid hL
  refine (escape_law F s b ev W hE hF).mono ?_
  rintro e W' ⟨rfl, bel⟩
  obtain ⟨g1, g2, g3, rfl⟩ := vars_three (show DataW.TrodVars enc Tryz.prog W (fun _ => true) ["loop.example/pub-sourcetrees/pub/jsonnet/ast.UopMap", "loop.example/pub-sourcetrees/pub/jsonnet/ast.BopMap", "loop.example/pub-sourcetrees/pub/jsonnet/inner/ast.bopPrecedence"] gs q from hV0)
  exact ⟨_, rfl, _, _, _, [], [], q, hW', trodAll_mk1 (shut_bool Tryz.underlying4 _), trodAll_mk2 (shut_string Tryz.underlying9 ws) (shut_bool Tryz.underlying4 b), bel.trodVars Tryz.laidOut (by kernel_rfl) hV0, bel.frame _, fun h => by cases h⟩

theorem Tryz.stops : Tryz.pinned.checked.prog.stops = ["fmt.Sprintf, its operands' methods called"] := by kernel_rfl
theorem Tryz.stopKnobs : Tryz.pinned.checked.prog.stopKnobs = [] := by kernel_rfl
theorem Tryz.quiet (os : Os) : Stop.quiet Tryz.pinned.checked.prog os := by
  intro k hk
  rw [Tryz.stopKnobs] at hk
  cases hk

theorem escape_holds : Rows.FnEscapeReadToldSaid :=
  Claim7.holds_of_told_tied_any_at .later 3 Tryz.f3 "fmt.Sprintf, its operands' methods called" [] [] _ _ _ _ _ (by kernel_rfl) rfl rfl rfl Tryz.laidOut Tryz.e_maps rfl ⟨rfl, rfl, rfl, rfl, rfl, rfl, rfl⟩ rfl rfl (by kernel_rfl) (by kernel_rfl) Tryz.func3 (by kernel_rfl)
    (of_decide_eq_true (by kernel_rfl)) (of_decide_eq_true (by kernel_rfl)) Tryz.stops.symm rfl Tryz.stopKnobs.symm (by kernel_rfl)
    Tryz.e_inPlace Tryz.e_unfollowed Tryz.e_recurses Tryz.e_named (by kernel_rfl) (by kernel_rfl) (by kernel_rfl) (by kernel_rfl) (by kernel_rfl) rfl (by kernel_rfl) rfl rfl
    rfl rfl
    rfl (by kernel_rfl) (by kernel_rfl) (by kernel_rfl) (by decide) Tryz.e_goes fnEscapeRead_row_tie
    (OpenClaim.moreEntering_of Tryz.e_enter (by kernel_rfl) (by kernel_rfl) (by kernel_rfl) (by kernel_rfl) (by kernel_rfl) (by kernel_rfl) Tryz.e_keys (by kernel_rfl) (by kernel_rfl))
    ⟨_, WideRow.started_initial, Tryz.quiet _⟩
    (fun os started _ H enc _ => escape_lifted os started H enc)

#print axioms escape_holds

end Go.Proofs.YtmggbhfdomlmcaaGreatFmt
