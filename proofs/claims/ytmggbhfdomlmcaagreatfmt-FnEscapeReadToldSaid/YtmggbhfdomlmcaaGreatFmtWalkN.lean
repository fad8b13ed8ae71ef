/-
  The parser's terminals: a name.
-/
import Derived.Test.YtmggbhfdomlmcaaGreatFmtWalkM
namespace Go.Proofs.YtmggbhfdomlmcaaGreatFmt
open Go.RowKit

/-- The first token's cells. -/
theorem tok_cells {g : Nat} {fa : Option Addr} {data : ByteArray} {S : Nat} {imf : ByteArray} {bl bc el ec kind : Int} {ys : List Value} {w : World} (h : TokRow g (tokCells fa data S imf bl bc el ec kind ++ ys) w) :
    w.cell? ⟨g, 0, none⟩ = some (.slice fa 0 0) ∧ w.cell? ⟨g, 1, none⟩ = some (.string data) ∧ w.cell? ⟨g, 4, none⟩ = some (.pointer (some ⟨S, 0, none⟩)) ∧ w.cell? ⟨g, 5, none⟩ = some (.string imf) ∧ w.cell? ⟨g, 6, none⟩ = some (.int .i64 bl) ∧ w.cell? ⟨g, 7, none⟩ = some (.int .i64 bc) ∧ w.cell? ⟨g, 8, none⟩ = some (.int .i64 el) ∧ w.cell? ⟨g, 9, none⟩ = some (.int .i64 ec) ∧ w.cell? ⟨g, 10, none⟩ = some (.int .i64 kind) :=
  ⟨h 0 _ rfl, h 1 _ rfl, h 4 _ rfl, h 5 _ rfl, h 6 _ rfl, h 7 _ rfl, h 8 _ rfl, h 9 _ rfl, h 10 _ rfl⟩

set_option maxRecDepth 100000 in
set_option maxHeartbeats 6400000 in
theorem terminal_name {P g cap : Nat} {fa : Option Addr} {data : ByteArray} {S : Nat} {imf : ByteArray} {bl bc el ec : Int} {ys : List Value} {w : World} (h : ParseAt P g cap (tokCells fa data S imf bl bc el ec 10 ++ ys) 0 w) :
    Calls Tryz.prog 100 #[.pointer (some ⟨P, 0, none⟩)] w fun e w' => (∃ N xa, e = .returned (.tuple #[.iface 181 (.pointer (some ⟨N, 0, none⟩)), .nilIface]) ∧ w'.heap[N]? = some (.cells (#[.string data] ++ (baseCells fa xa S imf bl bc el ec).toArray) 183 (0, 0)) ∧ P < N) ∧ ParseAt P g cap (tokCells fa data S imf bl bc el ec 10 ++ ys) 1 w' ∧ Below P w w' := by
  have H := Lib.hid h
  clear h
  go_enter Tryz.func100, Tryz.ntmps100
  go_wp2_with (go_at_call 94; refine (H.out.pop (Or.inl rfl)).mono ?_; rintro e w1 ⟨rfl, h1, b1⟩; obtain ⟨c0, c1, c4, c5, c6, c7, c8, c9, c10⟩ := tok_cells h1.2.1; have H1 := Lib.hid h1; clear h1)
  have hg1 : g < w1.heap.size := Nat.lt_trans H1.out.2.2 H1.out.lt
  refine wp_front (S := fun w' => w'.cell? ⟨g, 0, none⟩ = some (.slice fa 0 0) ∧ w'.cell? ⟨g, 1, none⟩ = some (.string data) ∧ w'.cell? ⟨g, 4, none⟩ = some (.pointer (some ⟨S, 0, none⟩)) ∧ w'.cell? ⟨g, 5, none⟩ = some (.string imf) ∧ w'.cell? ⟨g, 6, none⟩ = some (.int .i64 bl) ∧ w'.cell? ⟨g, 7, none⟩ = some (.int .i64 bc) ∧ w'.cell? ⟨g, 8, none⟩ = some (.int .i64 el) ∧ w'.cell? ⟨g, 9, none⟩ = some (.int .i64 ec)) 18 [(0, true), (1, true), (2, true), (3, true), (4, true), (5, true), (6, true), (7, true), (9, true), (10, true), (11, true), (12, true), (8, false), (13, true), (14, false), (15, true), (16, true), (17, true)] (by kernel_rfl) (by kernel_rfl) ⟨c0, c1, c4, c5, c6, c7, c8, c9⟩ ?_
  iterate 12 (refine Front.still' (v := ?_) rfl (Or.inl ⟨by rfl, ?_⟩) (fun _ _ _ h => h) ?_; rotate_left 1; (focus (intro w hSw; (try dsimp only at hSw); go_simp; all_goals (with_reducible rfl))); (try simp only [Act.put, List.setIfInBounds_toArray, List.set_cons_zero, List.set_cons_succ]))
  refine Front.act' rfl (fun K hK => ?_)
  go_simp
  go_at_call 96
  refine (baseloc_any fa S imf bl bc el ec _).mono ?_
  rintro e w2 ⟨⟨xa, rfl⟩, b2⟩
  have e2 : ∀ j v, w1.cell? ⟨g, j, none⟩ = some v → w2.cell? ⟨g, j, none⟩ = some v := fun j v h => (b2.cell (p := ⟨g, j, none⟩) hg1).trans h
  have hg2 : g < w2.heap.size := Nat.lt_of_lt_of_le hg1 b2.size
  refine hK.out _ _ (fun _ => ⟨e2 _ _ c0, e2 _ _ c1, e2 _ _ c4, e2 _ _ c5, e2 _ _ c6, e2 _ _ c7, e2 _ _ c8, e2 _ _ c9⟩) ?_
  clear hK K
  (try simp only [Act.put, List.setIfInBounds_toArray, List.set_cons_zero, List.set_cons_succ])
  iterate 1 (refine Front.still' (v := ?_) rfl (Or.inl ⟨by rfl, ?_⟩) (fun _ _ _ h => h) ?_; rotate_left 1; (focus (intro w hSw; (try dsimp only at hSw); go_simp; all_goals (with_reducible rfl))); (try simp only [Act.put, List.setIfInBounds_toArray, List.set_cons_zero, List.set_cons_succ]))
  refine Front.act' rfl (fun K hK => ?_)
  go_simp
  refine hK.out _ _ (fun _ => ?_) ?_
  · have e3 : ∀ o j v, w1.cell? ⟨g, j, none⟩ = some v → (w2.alloc o).cell? ⟨g, j, none⟩ = some v := fun o j v h => (World.cell?_alloc_lt w2 o ⟨g, j, none⟩ hg2).trans (e2 _ _ h)
    exact ⟨e3 _ _ _ c0, e3 _ _ _ c1, e3 _ _ _ c4, e3 _ _ _ c5, e3 _ _ _ c6, e3 _ _ _ c7, e3 _ _ _ c8, e3 _ _ _ c9⟩
  clear hK K
  (try simp only [Act.put, List.setIfInBounds_toArray, List.set_cons_zero, List.set_cons_succ])
  iterate 3 (refine Front.still' (v := ?_) rfl (Or.inl ⟨by rfl, ?_⟩) (fun _ _ _ h => h) ?_; rotate_left 1; (focus (intro w hSw; (try dsimp only at hSw); go_simp; all_goals (with_reducible rfl))); (try simp only [Act.put, List.setIfInBounds_toArray, List.set_cons_zero, List.set_cons_succ]))
  refine Front.done ?_
  go_wp2_with fail
  have b2' : Below w1.heap.size w1 w2 := ⟨b2.os, b2.tape, b2.output, b2.size, b2.block⟩
  have hb := (Below.refl w2.heap.size w2).alloc (Nat.le_refl _) (.cells (#[.string data] ++ (baseCells fa xa S imf bl bc el ec).toArray) 183 (0, 0))
  have h2 := H1.out.below b2'
  have hP := H1.out.lt
  have hP2 := h2.lt
  exact bodyPost_ret (v := .tuple #[.iface 181 (.pointer (some ⟨w2.heap.size, 0, none⟩)), .nilIface]) (by simp [results, Tryz.results100, go_sem]) rfl ⟨⟨w2.heap.size, xa, rfl, heap_new w2 _, hP2⟩, h2.below hb, b1.trans ((b2'.mono (Nat.le_of_lt hP)).trans (hb.mono (Nat.le_of_lt hP2)))⟩

end Go.Proofs.YtmggbhfdomlmcaaGreatFmt
