/-
  How the lexer puts a token.
-/
import Derived.Test.YtmggbhfdomlmcaaGreatFmtWalkE
import Derived.Test.YtmggbhfdomlmcaaGreatFmtFront
import Derived.Test.YtmggbhfdomlmcaaGreatFmtMemB
import Derived.Deep.AppendLies
import Derived.OwnWalk
import Derived.Deep.RegionLaw
import Derived.BigRegion
namespace Go.Proofs.YtmggbhfdomlmcaaGreatFmt
open Go.RowKit

/-- A token's cells. -/
abbrev tokCells (fa : Option Addr) (data : ByteArray) (S : Nat) (imf : ByteArray) (bl bc el ec kind : Int) : List Value :=
  [.slice fa 0 0, .string data, .string ⟨#[]⟩, .string ⟨#[]⟩, .pointer (some ⟨S, 0, none⟩), .string imf, .int .i64 bl, .int .i64 bc, .int .i64 el, .int .i64 ec, .int .i64 kind]

theorem Tryz.info249 : (Tryz.prog.info? 249).map (fun i => (i.zero, i.size, i.bytes)) = some (some (.agg #[.slice none 0 0, .string ⟨#[]⟩, .string ⟨#[]⟩, .string ⟨#[]⟩, .pointer none, .string ⟨#[]⟩, .int .i64 0, .int .i64 0, .int .i64 0, .int .i64 0, .int .i64 0]), 11, 136) := by kernel_rfl

set_option maxRecDepth 100000 in
set_option maxHeartbeats 1600000 in
theorem emit_full (L : Nat) (df imf t : ByteArray) (S : Nat) (ov : Value) (fa : Option Addr) (ts tl tc : Int) (fr : Bool) (p : Nat) (hp : p ≤ 1000010) (w : World)
    (h : w.heap[L]? = some (.cells (lexCells df imf t S ov (.slice fa 0 0) ts tl tc fr p 1 0) 239 (0, 0)))
    (kind : Int) (data : ByteArray) (n : Nat) (hn : n ≤ 10) (xs : List Value) (hown : w.ownsRow (L + 1) 249 11 ov n xs) :
    Calls Tryz.prog 69 #[.pointer (some ⟨L, 0, none⟩), .int .i64 kind, .string data, .string ⟨#[]⟩, .string ⟨#[]⟩] w fun e w' => e = .returned (.tuple #[]) ∧
      ∃ g cap fa', w'.heap[L]? = some (.cells (lexCells df imf t S (.slice (some ⟨g, 0, none⟩) (n + 1) cap) (.slice fa' 0 0) ts tl tc fr p 1 0) 239 (0, 0)) ∧
        w'.ownsRow (L + 1) 249 11 (.slice (some ⟨g, 0, none⟩) (n + 1) cap) (n + 1) (xs ++ tokCells fa data S imf tl tc 1 ((p : Int) + 1) kind) ∧ Below L w w' := by
  obtain ⟨i0, hi0, hz0, hz1, hz2⟩ := info_parts Tryz.info249
  have c1 := cell_of_heap h 1
  have c3 := cell_of_heap h 3
  have c4 := cell_of_heap h 4
  have c5 := cell_of_heap h 5
  have c7 := cell_of_heap h 7
  have c8 := cell_of_heap h 8
  simp at c1 c3 c4 c5 c7 c8
  have hL := lt_of_heap h
  have H := Lib.hid h
  clear h
  have hLo := own_ne hown (L := L) (by omega)
  have hzero : L + 1 ≤ w.heap.size := by omega
  go_enter Tryz.func69, Tryz.ntmps69
  go_wp2_with fail
  refine wp_front (S := fun w' => w'.cell? ⟨L, 1, none⟩ = some (.string imf) ∧ w'.cell? ⟨L, 3, none⟩ = some (.pointer (some ⟨S, 0, none⟩)) ∧ w'.cell? ⟨L, 4, none⟩ = some ov ∧ w'.cell? ⟨L, 5, none⟩ = some (.slice fa 0 0) ∧ w'.cell? ⟨L, 7, none⟩ = some (.int .i64 tl) ∧ w'.cell? ⟨L, 8, none⟩ = some (.int .i64 tc)) 33 (inText 26 8) (by kernel_rfl) (by kernel_rfl) ⟨c1, c3, c4, c5, c7, c8⟩ ?_
  simp only [inText, List.range, List.range.loop, List.map, List.cons_append, List.nil_append, Nat.reduceAdd]
  iterate 26 (refine Front.still' (v := ?_) rfl (Or.inl ⟨by rfl, ?_⟩) (fun _ _ _ h => h) ?_; rotate_left 1; (focus (intro w hSw; (try dsimp only at hSw); go_simp; all_goals (with_reducible rfl))); (try simp only [Act.put, List.setIfInBounds_toArray, List.set_cons_zero, List.set_cons_succ]))
  refine Front.act' rfl (fun K hK => ?_)
  go_simp
  go_at_call 67
  refine (loc_any L df imf t S ov (.slice fa 0 0) ts tl tc fr p hp _ (show w.drew.heap[L]? = _ from H.out)).mono ?_
  rintro e w1 ⟨rfl, hb0⟩
  have hb : Below w.heap.size w w1 := ⟨hb0.os, hb0.tape, hb0.output, hb0.size, hb0.block⟩
  have k1 := (hb.cell (p := ⟨L, 1, none⟩) hL).trans c1
  have k3 := (hb.cell (p := ⟨L, 3, none⟩) hL).trans c3
  have k4 := (hb.cell (p := ⟨L, 4, none⟩) hL).trans c4
  have k5 := (hb.cell (p := ⟨L, 5, none⟩) hL).trans c5
  have k7 := (hb.cell (p := ⟨L, 7, none⟩) hL).trans c7
  have k8 := (hb.cell (p := ⟨L, 8, none⟩) hL).trans c8
  have hL1 : L < w1.heap.size := Nat.lt_of_lt_of_le hL hb.size
  clear hb0
  refine hK.out _ _ (fun _ => ⟨k1, k3, k4, k5, k7, k8⟩) ?_
  clear hK K
  (try simp only [Act.put, List.setIfInBounds_toArray, List.set_cons_zero, List.set_cons_succ])
  refine Front.act' rfl (fun K hK => ?_)
  go_simp
  go_at_call 85
  refine (mlr_any imf S tl tc 1 ((p : Int) + 1) _).mono ?_
  rintro e w2 ⟨rfl, hb2⟩
  have m1 := (hb2.cell (p := ⟨L, 1, none⟩) hL1).trans k1
  have m3 := (hb2.cell (p := ⟨L, 3, none⟩) hL1).trans k3
  have m4 := (hb2.cell (p := ⟨L, 4, none⟩) hL1).trans k4
  have m5 := (hb2.cell (p := ⟨L, 5, none⟩) hL1).trans k5
  have m7 := (hb2.cell (p := ⟨L, 7, none⟩) hL1).trans k7
  have m8 := (hb2.cell (p := ⟨L, 8, none⟩) hL1).trans k8
  have hL2 : L < w2.heap.size := Nat.lt_of_lt_of_le hL1 hb2.size
  have HH2 := Lib.hid (below_keep hb2 (below_keep hb H.out hL) hL1)
  have own2 := Lib.hid (own_below (own_below hown hb) hb2)
  refine hK.out _ _ (fun _ => ⟨m1, m3, m4, m5, m7, m8⟩) ?_
  clear hK K
  (try simp only [Act.put, List.setIfInBounds_toArray, List.set_cons_zero, List.set_cons_succ])
  refine Front.act' rfl (fun K hK => ?_)
  go_simp
  refine hK.out _ _ (fun _ => ⟨m1, m3, m4, m5, m7, m8⟩) ?_
  clear hK K
  (try simp only [Act.put, List.setIfInBounds_toArray, List.set_cons_zero, List.set_cons_succ])
  refine Front.act' rfl (fun K hK => ?_)
  go_simp
  have g1 := (World.cell?_alloc_lt w2 (.cells (tokCells fa data S imf tl tc 1 ((p : Int) + 1) kind).toArray 249 (0, 0)) ⟨L, 1, none⟩ hL2).trans m1
  have g3 := (World.cell?_alloc_lt w2 (.cells (tokCells fa data S imf tl tc 1 ((p : Int) + 1) kind).toArray 249 (0, 0)) ⟨L, 3, none⟩ hL2).trans m3
  have g4 := (World.cell?_alloc_lt w2 (.cells (tokCells fa data S imf tl tc 1 ((p : Int) + 1) kind).toArray 249 (0, 0)) ⟨L, 4, none⟩ hL2).trans m4
  have g5 := (World.cell?_alloc_lt w2 (.cells (tokCells fa data S imf tl tc 1 ((p : Int) + 1) kind).toArray 249 (0, 0)) ⟨L, 5, none⟩ hL2).trans m5
  have g7 := (World.cell?_alloc_lt w2 (.cells (tokCells fa data S imf tl tc 1 ((p : Int) + 1) kind).toArray 249 (0, 0)) ⟨L, 7, none⟩ hL2).trans m7
  have g8 := (World.cell?_alloc_lt w2 (.cells (tokCells fa data S imf tl tc 1 ((p : Int) + 1) kind).toArray 249 (0, 0)) ⟨L, 8, none⟩ hL2).trans m8
  refine hK.out _ _ (fun _ => ⟨g1, g3, g4, g5, g7, g8⟩) ?_
  clear hK K
  (try simp only [Act.put, List.setIfInBounds_toArray, List.set_cons_zero, List.set_cons_succ])
  refine Front.act' rfl (fun K hK => ?_)
  refine step_append_lies _ (by rfl) _ _ _ (by rfl) (L + 1) 249 i0 _ 11 136 Tryz.underlying161 hi0 hz0 hz1 hz2 rfl (by omega) ov n xs (by rfl) (own2.out.alloc _) ⟨w2.heap.size, 0, none⟩ 1 1 (tokCells fa data S imf tl tc 1 ((p : Int) + 1) kind) (by rfl) (by rfl) (World.news_of_block (cs := (tokCells fa data S imf tl tc 1 ((p : Int) + 1) kind).toArray) (t := 249) (fr := (0, 0)) (heap_new w2 _)) (by simp [Value.oneCell'])
          (by omega) (by unfold maxLen; omega) (by omega) (by simp; omega) _ rfl ?_
  intro gg cap w3 hown3 hgrow hat hlt
  have HH3 := Lib.hid ((hgrow.block L (by simp; omega) (Ne.symm hLo)).trans ((heap_old w2 _ hL2).trans HH2.out))
  have f4 := free_of_heap HH3.out 4
  have c34 := cell_of_heap HH3.out 4
  have q1 := cell_of_heap HH3.out 1
  have q3 := cell_of_heap HH3.out 3
  have q5 := cell_of_heap HH3.out 5
  have q7 := cell_of_heap HH3.out 7
  have q8 := cell_of_heap HH3.out 8
  simp at c34 q1 q3 q5 q7 q8
  refine hK.out _ _ (fun _ => ⟨q1, q3, c34, q5, q7, q8⟩) ?_
  clear hK K
  (try simp only [Act.put, List.setIfInBounds_toArray, List.set_cons_zero, List.set_cons_succ])
  refine Front.act' rfl (fun K hK => ?_)
  go_simp
  refine hK.out _ _ (fun _ => ⟨q1, q3, c34, q5, q7, q8⟩) ?_
  clear hK K
  (try simp only [Act.put, List.setIfInBounds_toArray, List.set_cons_zero, List.set_cons_succ])
  refine Front.act' rfl (fun K hK => ?_)
  go_simp
  refine hK.out _ _ (fun _ => ⟨q1, q3, c34, q5, q7, q8⟩) ?_
  clear hK K
  (try simp only [Act.put, List.setIfInBounds_toArray, List.set_cons_zero, List.set_cons_succ])
  refine Front.act' rfl (fun K hK => ?_)
  go_simp
  refine hK.out _ _ (fun h => absurd rfl h) ?_
  clear hK K
  refine Front.done ?_
  have H4 := Lib.hid (heap_setCell HH3.out 4 (.slice (some ⟨gg, 0, none⟩) (n + 1) cap))
  have own4 := Lib.hid (own_set hown3 (Nat.lt_succ_self L) 4 (.slice (some ⟨gg, 0, none⟩) (n + 1) cap))
  have B4 : But L w3 (w3.setCell ⟨L, 4, none⟩ (.slice (some ⟨gg, 0, none⟩) (n + 1) cap)) := (But.refl L w3).set 4 _
  have B3 : Below L w w3 := (hb.mono (by omega)).trans ((hb2.mono (by omega)).trans (((Below.refl L w2).alloc (by omega) _).trans (below_grown hgrow (by simp; omega) (fun k hk => own_ne hown (by omega)))))
  generalize w3.setCell ⟨L, 4, none⟩ (.slice (some ⟨gg, 0, none⟩) (n + 1) cap) = w4 at *
  have hL4 := lt_of_heap H4.out
  have e5 : ∀ o, (w4.alloc o).cell? ⟨L, 5, none⟩ = some (.slice fa 0 0) := fun o => cell_of_heap ((heap_old w4 o hL4).trans H4.out) 5
  have e6 : ∀ o, (w4.alloc o).frozen? ⟨L, 5, none⟩ = false := fun o => free_of_heap ((heap_old w4 o hL4).trans H4.out) 5
  have hL3 := lt_of_heap HH3.out
  have B5 := Lib.hid (B3.trans ((B4.below (Nat.le_refl L) (by omega)).trans (((But.refl L w4).set 5 (.slice (some ⟨w4.heap.size, 0, none⟩) 0 0)).below (Nat.le_refl L) (by omega))))
  go_wp2_with fail
  go_end0
  have hs5 : (w4.setCell ⟨L, 5, none⟩ (.slice (some ⟨w4.heap.size, 0, none⟩) 0 0)).heap.size = w4.heap.size := by simp [World.setCell]
  exact ⟨rfl, gg, cap, _, (heap_old _ _ (by omega)).trans (heap_setCell H4.out 5 _), (own_set own4.out (Nat.lt_succ_self L) 5 _).alloc _, B5.out.alloc (by omega) _⟩

end Go.Proofs.YtmggbhfdomlmcaaGreatFmt
