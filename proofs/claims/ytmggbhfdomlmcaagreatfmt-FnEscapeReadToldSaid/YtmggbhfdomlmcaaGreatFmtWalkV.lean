/-
  The reference's comparison; laws.plain on a variable.
-/
import Derived.Test.YtmggbhfdomlmcaaGreatFmtWalkS
namespace Go.Proofs.YtmggbhfdomlmcaaGreatFmt
open Go.RowKit

set_option maxRecDepth 1000000 in
set_option maxHeartbeats 6400000 in
theorem same_self (k : Int) (t : ByteArray) (o : Int) (w : World) :
    Calls Tryz.prog 12 #[nodeV k t o, nodeV k t o] w fun e w' => e = .returned (.bool true) ∧ Below w.heap.size w w' := by
  have e1 : (k != k) = false := by simp
  have e2 : (o != o) = false := by simp
  have e3 : (t.toList != t.toList) = false := by simp
  have e4 : (t.toList == t.toList) = true := by simp
  go_enter Tryz.func12, Tryz.ntmps12
  go_wp2_with fail
  refine wp_loop_once ?_
  go_wp2_with fail
  go_ret
  exact ⟨rfl, ((Below.refl _ w).alloc (Nat.le_refl _) _).alloc (by simp) _⟩

set_option maxRecDepth 1000000 in
set_option maxHeartbeats 6400000 in
theorem plain_var (t : ByteArray) (w : World) :
    Calls Tryz.prog 13 #[nodeV 7 t 0] w fun e w' => e = .returned (nodeV 7 t 0) ∧ Below w.heap.size w w' := by
  go_enter Tryz.func13, Tryz.ntmps13
  go_wp2_with fail
  refine wp_loop_once ?_
  go_wp2_with fail
  exact bodyPost_ret (v := nodeV 7 t 0) (by simp [results, Tryz.results13, go_sem]) rfl ⟨rfl, (((Below.refl _ w).alloc (Nat.le_refl _) _).alloc (by simp) _).alloc (by simp; omega) _⟩

set_option maxRecDepth 1000000 in
set_option maxHeartbeats 6400000 in
theorem plain_str (t u : ByteArray) (k : Int) (hk : k = 0 ∨ k = 1) (w : World) (hU : ∀ w', Calls Tryz.prog 22 #[.string t] w' fun e w'' => e = .returned (.tuple #[.string u, .int .i64 1]) ∧ Below w'.heap.size w' w'') :
    Calls Tryz.prog 13 #[nodeV 4 t k] w fun e w' => e = .returned (nodeV 4 u k) ∧ Below w.heap.size w w' := by
  have hk1 : decide (k ≤ 1) = true := by simp; omega
  have HU := Lib.hid hU
  clear hU
  go_enter Tryz.func13, Tryz.ntmps13
  go_upto_region 4 with (go_at_call 22; refine (HU.out _).mono ?_; rintro e w1 ⟨rfl, b1⟩)
  have hn1 := (b1.block w.heap.size (by simp <;> omega)).trans ((heap_old _ _ (by simp <;> omega)).trans ((heap_old _ _ (by simp <;> omega)).trans (heap_new w _)))
  have hn2 := (b1.block (w.heap.size + 1) (by simp <;> omega)).trans ((heap_old _ _ (by simp <;> omega)).trans (heap_new' _ (by simp)))
  have hn3 := (b1.block (w.heap.size + 1 + 1) (by simp <;> omega)).trans (heap_new' _ (by simp))
  have k0 := cell_of_heap hn1 0
  have m0 := cell_of_heap hn2 0
  have g0 := free_of_heap hn2 0
  have n0 := cell_of_heap hn3 0
  have f0 := free_of_heap hn3 0
  have k1 := cell_of_heap hn1 1
  have m1 := cell_of_heap hn2 1
  have g1 := free_of_heap hn2 1
  have n1 := cell_of_heap hn3 1
  have f1 := free_of_heap hn3 1
  have k2 := cell_of_heap hn1 2
  have m2 := cell_of_heap hn2 2
  have g2 := free_of_heap hn2 2
  have n2 := cell_of_heap hn3 2
  have f2 := free_of_heap hn3 2
  have k3 := cell_of_heap hn1 3
  have m3 := cell_of_heap hn2 3
  have g3 := free_of_heap hn2 3
  have n3 := cell_of_heap hn3 3
  have f3 := free_of_heap hn3 3
  have k4 := cell_of_heap hn1 4
  have m4 := cell_of_heap hn2 4
  have g4 := free_of_heap hn2 4
  have n4 := cell_of_heap hn3 4
  have f4 := free_of_heap hn3 4
  simp at k0 k1 k2 k3 k4 m0 m1 m2 m3 m4 n0 n1 n2 n3 n4
  have hb : Below w.heap.size w w1 := ((((Below.refl _ w).alloc (Nat.le_refl _) _).alloc (by simp) _).alloc (by simp <;> omega) _).trans (b1.mono (by simp <;> omega))
  have HB := Lib.hid hb
  clear hn1 hn2 hn3 b1 hb
  go_wp2_with fail
  refine wp_loop_once ?_
  go_wp2_with fail
  have h1 : w.heap.size ≤ w.heap.size + 1 := Nat.le_succ _
  have h2 : w.heap.size ≤ w.heap.size + 1 + 1 := by omega
  exact bodyPost_ret (v := nodeV 4 u k) (by simp [results, Tryz.results13, go_sem, m0, m1, m2, m3, m4]) rfl ⟨rfl, (((((HB.out.setCell h2 _).setCell h1 _).setCell h1 _).setCell h1 _).setCell h1 _).setCell h1 _⟩

set_option maxRecDepth 1000000 in
set_option maxHeartbeats 6400000 in
/-- laws.parsed: what impl.Parse has made, plain, is the same. -/
theorem parsed_of (s : ByteArray) (k : Int) (t u : ByteArray) (o : Int) (w : World)
    (hP : ∀ w', Below w.heap.size w w' → Calls Tryz.prog 11 #[.string s] w' fun e w'' => e = .returned (.tuple #[nodeV k t o, .bool true]) ∧ Below w'.heap.size w' w'')
    (hpl : ∀ w', Calls Tryz.prog 13 #[nodeV k t o] w' fun e w'' => e = .returned (nodeV k u o) ∧ Below w'.heap.size w' w'') :
    Calls Tryz.prog 6 #[.string s, nodeV k u o] w fun e w' => e = .returned (.bool true) ∧ Below w.heap.size w w' := by
  have HP := Lib.hid hP
  have HL := Lib.hid hpl
  clear hP hpl
  go_enter Tryz.func6, Tryz.ntmps6
  go_wp2_with (go_at_call 11; refine (HP.out _ ((Below.refl _ w).alloc (Nat.le_refl _) _)).mono ?_; rintro e w1 ⟨rfl, b1⟩)
  have hn := (b1.block w.heap.size (by simp)).trans (heap_new w _)
  have hb1 : Below w.heap.size w w1 := below_alloc b1 (by simp)
  have hb2 := hb1.alloc hb1.size (.cells #[.int .i64 k, .string t, .int .i64 o, .bool false, .slice none 0 0] 31 (0, 0))
  have hm := heap_new w1 (.cells #[.int .i64 k, .string t, .int .i64 o, .bool false, .slice none 0 0] 31 (0, 0))
  have hn2 := (heap_old w1 (.cells #[.int .i64 k, .string t, .int .i64 o, .bool false, .slice none 0 0] 31 (0, 0)) (lt_of_heap hn)).trans hn
  generalize w1.alloc (.cells #[.int .i64 k, .string t, .int .i64 o, .bool false, .slice none 0 0] 31 (0, 0)) = w2 at *
  have k0 := cell_of_heap hn2 0
  have m0 := cell_of_heap hm 0
  have k1 := cell_of_heap hn2 1
  have m1 := cell_of_heap hm 1
  have k2 := cell_of_heap hn2 2
  have m2 := cell_of_heap hm 2
  have k3 := cell_of_heap hn2 3
  have m3 := cell_of_heap hm 3
  have k4 := cell_of_heap hn2 4
  have m4 := cell_of_heap hm 4
  simp at k0 k1 k2 k3 k4 m0 m1 m2 m3 m4
  have hlt := lt_of_heap hm
  have hlt2 := lt_of_heap hn2
  have HB := Lib.hid hb2
  clear hn hm hn2 hb1 hb2 b1
  refine wp_front (S := fun w' => w'.cell? ⟨w.heap.size, 0, none⟩ = some (.int .i64 k) ∧ w'.cell? ⟨w.heap.size, 1, none⟩ = some (.string u) ∧ w'.cell? ⟨w.heap.size, 2, none⟩ = some (.int .i64 o) ∧ w'.cell? ⟨w.heap.size, 3, none⟩ = some (.bool false) ∧ w'.cell? ⟨w.heap.size, 4, none⟩ = some (.slice none 0 0) ∧ w'.cell? ⟨w1.heap.size, 0, none⟩ = some (.int .i64 k) ∧ w'.cell? ⟨w1.heap.size, 1, none⟩ = some (.string t) ∧ w'.cell? ⟨w1.heap.size, 2, none⟩ = some (.int .i64 o) ∧ w'.cell? ⟨w1.heap.size, 3, none⟩ = some (.bool false) ∧ w'.cell? ⟨w1.heap.size, 4, none⟩ = some (.slice none 0 0)) 8 [(0, true), (1, true), (2, true), (4, true), (3, false), (5, false), (6, true), (7, true)] (by kernel_rfl) (by kernel_rfl) ⟨k0, k1, k2, k3, k4, m0, m1, m2, m3, m4⟩ ?_
  iterate 4 (refine Front.still' (v := ?_) rfl (Or.inl ⟨by rfl, ?_⟩) (fun _ _ _ h => h) ?_; rotate_left 1; (focus (intro w hSw; (try dsimp only at hSw); go_simp; all_goals (with_reducible rfl))); (try simp only [Act.put, List.setIfInBounds_toArray, List.set_cons_zero, List.set_cons_succ]))
  refine Front.act' rfl (fun K hK => ?_)
  go_simp
  go_at_call 13
  refine (HL.out _).mono ?_
  rintro e w3 ⟨rfl, b3⟩
  have e3 : ∀ j v, w2.cell? ⟨w.heap.size, j, none⟩ = some v → w3.cell? ⟨w.heap.size, j, none⟩ = some v := fun j v h => (b3.cell (p := ⟨w.heap.size, j, none⟩) hlt2).trans h
  have d3 : ∀ j v, w2.cell? ⟨w1.heap.size, j, none⟩ = some v → w3.cell? ⟨w1.heap.size, j, none⟩ = some v := fun j v h => (b3.cell (p := ⟨w1.heap.size, j, none⟩) hlt).trans h
  have S3 : _ ∧ _ ∧ _ ∧ _ ∧ _ ∧ _ ∧ _ ∧ _ ∧ _ ∧ _ := ⟨e3 _ _ k0, e3 _ _ k1, e3 _ _ k2, e3 _ _ k3, e3 _ _ k4, d3 _ _ m0, d3 _ _ m1, d3 _ _ m2, d3 _ _ m3, d3 _ _ m4⟩
  refine hK.out _ _ (fun _ => S3) ?_
  clear hK K
  (try simp only [Act.put, List.setIfInBounds_toArray, List.set_cons_zero, List.set_cons_succ])
  refine Front.act' rfl (fun K hK => ?_)
  go_simp
  go_at_call 12
  refine (same_self k u o _).mono ?_
  rintro e w4 ⟨rfl, b4⟩
  have hlt3 : w.heap.size < w3.heap.size := Nat.lt_of_lt_of_le hlt2 b3.size
  have hlt4 : w1.heap.size < w3.heap.size := Nat.lt_of_lt_of_le hlt b3.size
  have e4 : ∀ j v, w3.cell? ⟨w.heap.size, j, none⟩ = some v → w4.cell? ⟨w.heap.size, j, none⟩ = some v := fun j v h => (b4.cell (p := ⟨w.heap.size, j, none⟩) hlt3).trans h
  have d4 : ∀ j v, w3.cell? ⟨w1.heap.size, j, none⟩ = some v → w4.cell? ⟨w1.heap.size, j, none⟩ = some v := fun j v h => (b4.cell (p := ⟨w1.heap.size, j, none⟩) hlt4).trans h
  refine hK.out _ _ (fun _ => ?_) ?_
  · obtain ⟨a0, a1, a2, a3, a4, c0, c1, c2, c3, c4⟩ := S3
    exact ⟨e4 _ _ a0, e4 _ _ a1, e4 _ _ a2, e4 _ _ a3, e4 _ _ a4, d4 _ _ c0, d4 _ _ c1, d4 _ _ c2, d4 _ _ c3, d4 _ _ c4⟩
  clear hK K
  (try simp only [Act.put, List.setIfInBounds_toArray, List.set_cons_zero, List.set_cons_succ])
  iterate 2 (refine Front.still' (v := ?_) rfl (Or.inl ⟨by rfl, ?_⟩) (fun _ _ _ h => h) ?_; rotate_left 1; (focus (intro w hSw; (try dsimp only at hSw); go_simp; all_goals (with_reducible rfl))); (try simp only [Act.put, List.setIfInBounds_toArray, List.set_cons_zero, List.set_cons_succ]))
  refine Front.done ?_
  go_wp2_with fail
  have b3' : Below w2.heap.size w2 w3 := ⟨b3.os, b3.tape, b3.output, b3.size, b3.block⟩
  have h2 := HB.out.size
  have h3 := b3'.size
  go_ret
  exact ⟨rfl, HB.out.trans ((b3'.mono h2).trans (b4.mono (by omega)))⟩

end Go.Proofs.YtmggbhfdomlmcaaGreatFmt
