/-
  SnippetToRawAST and impl.node: NAME.
-/
import Derived.Test.YtmggbhfdomlmcaaGreatFmtWalkR
import Derived.Test.YtmggbhfdomlmcaaGreatFmtWalkI
import Derived.Test.YtmggbhfdomlmcaaGreatFmtFront
import Derived.Deep.Cut
namespace Go.Proofs.YtmggbhfdomlmcaaGreatFmt
open Go.RowKit

set_option maxRecDepth 1000000 in
set_option maxHeartbeats 6400000 in
theorem snip32_name (df imf t : ByteArray) (hs : t.size ≤ 1000000) (r : Nat) (rs : List Nat) (hT : Tail t 0 (r :: rs)) (hr : firstB r = true) (hrs : ∀ x ∈ rs, identB x = true)
    (hk : ∀ w, Calls Tryz.prog 31 #[.string t] w fun e w' => e = .returned (.int .i64 10) ∧ w = w') (w : World) (h2 : 2 ≤ w.heap.size) (hU : Lib.Utf8Tabs 0 1 w) :
    Calls Tryz.prog 32 #[.string df, .string imf, .string t] w fun e w' => (∃ N fo, e = .returned (.tuple #[.iface 181 (.pointer (some ⟨N, 0, none⟩)), fo, .nilIface]) ∧ w.heap.size ≤ N ∧ w'.cell? ⟨N, 0, none⟩ = some (.string t)) ∧ Below w.heap.size w w' := by
  have HT := Lib.hid hT
  have HR := Lib.hid hrs
  have HK := Lib.hid hk
  clear hT hrs hk
  go_enter Tryz.func32, Tryz.ntmps32
  go_wp2_with (first
    | (go_at_call 50; refine (lex_name df imf t hs r rs HT.out hr HR.out 10 HK.out w h2 hU).mono ?_; rintro e w1 ⟨⟨B, S, g, cap, fa, fb, hB, rfl, hown⟩, b1⟩; obtain ⟨ht, hg1, hg2⟩ := TokRow.of_own hown; have HT1 := Lib.hid ht; clear hown ht)
    | (go_at_call 51; refine (parse_name w1 HT1.out hg2).mono ?_; rintro e w2 ⟨⟨N, fo, rfl, hN, hc⟩, b2⟩))
  have hz := b1.size
  exact bodyPost_ret (v := .tuple #[.iface 181 (.pointer (some ⟨N, 0, none⟩)), fo, .nilIface]) (by simp [results, Tryz.results32, go_sem]) rfl ⟨⟨N, fo, rfl, by omega, hc⟩, b1.trans (b2.mono hz)⟩

set_option maxRecDepth 1000000 in
theorem snip20_name (t : ByteArray) (hs : t.size ≤ 1000000) (r : Nat) (rs : List Nat) (hT : Tail t 0 (r :: rs)) (hr : firstB r = true) (hrs : ∀ x ∈ rs, identB x = true)
    (hk : ∀ w, Calls Tryz.prog 31 #[.string t] w fun e w' => e = .returned (.int .i64 10) ∧ w = w') (w : World) (h2 : 2 ≤ w.heap.size) (hU : Lib.Utf8Tabs 0 1 w) :
    Calls Tryz.prog 20 #[.string ⟨#[]⟩, .string t] w fun e w' => (∃ N fo, e = .returned (.tuple #[.iface 181 (.pointer (some ⟨N, 0, none⟩)), fo, .nilIface]) ∧ w.heap.size ≤ N ∧ w'.cell? ⟨N, 0, none⟩ = some (.string t)) ∧ Below w.heap.size w w' := by
  have HT := Lib.hid hT
  have HR := Lib.hid hrs
  have HK := Lib.hid hk
  clear hT hrs hk
  go_enter Tryz.func20, Tryz.ntmps20
  go_wp2_with (first
    | (go_at_call 32; refine (snip32_name _ _ t hs r rs HT.out hr HR.out HK.out w h2 hU).mono ?_; rintro e w1 ⟨⟨N, fo, rfl, hN, hc⟩, b1⟩))
  exact bodyPost_ret (v := .tuple #[.iface 181 (.pointer (some ⟨N, 0, none⟩)), fo, .nilIface]) (by simp [results, Tryz.results20, go_sem]) rfl ⟨⟨N, fo, rfl, by omega, hc⟩, b1⟩

/-- impl's node of a variable. -/
abbrev nodeV (k : Int) (t : ByteArray) (o : Int) : Value := .agg #[.int .i64 k, .string t, .int .i64 o, .bool false, .slice none 0 0]

set_option maxRecDepth 1000000 in
set_option maxHeartbeats 6400000 in
theorem simple_name (N : Nat) (t : ByteArray) (w : World) (hN : N < w.heap.size) (h : w.cell? ⟨N, 0, none⟩ = some (.string t)) :
    Calls Tryz.prog 33 #[.iface 181 (.pointer (some ⟨N, 0, none⟩))] w fun e w' => e = .returned (.tuple #[nodeV 7 t 0, .bool true]) ∧ Below w.heap.size w w' := by
  have h1 : ∀ o, (w.alloc o).cell? ⟨N, 0, none⟩ = some (.string t) := fun o => (World.cell?_alloc_lt w o ⟨N, 0, none⟩ hN).trans h
  go_enter Tryz.func33, Tryz.ntmps33
  go_wp2_with fail
  exact bodyPost_ret (v := .tuple #[nodeV 7 t 0, .bool true]) (by simp [results, Tryz.results33, go_sem]) rfl ⟨rfl, (Below.refl _ w).alloc (Nat.le_refl _) _⟩

set_option maxRecDepth 1000000 in
set_option maxHeartbeats 6400000 in
theorem simple_str (N : Nat) (t : ByteArray) (k : Int) (w : World) (hN : N < w.heap.size) (h : w.cell? ⟨N, 0, none⟩ = some (.string t)) (h12 : w.cell? ⟨N, 12, none⟩ = some (.int .i64 k)) :
    Calls Tryz.prog 33 #[.iface 175 (.pointer (some ⟨N, 0, none⟩))] w fun e w' => e = .returned (.tuple #[nodeV 4 t k, .bool true]) ∧ Below w.heap.size w w' := by
  have h1 : ∀ o, (w.alloc o).cell? ⟨N, 0, none⟩ = some (.string t) := fun o => (World.cell?_alloc_lt w o ⟨N, 0, none⟩ hN).trans h
  have h2 : ∀ o, (w.alloc o).cell? ⟨N, 12, none⟩ = some (.int .i64 k) := fun o => (World.cell?_alloc_lt w o ⟨N, 12, none⟩ hN).trans h12
  go_enter Tryz.func33, Tryz.ntmps33
  go_wp2_with fail
  refine wp_front (S := fun w' => w'.cell? ⟨N, 0, none⟩ = some (.string t) ∧ w'.cell? ⟨N, 12, none⟩ = some (.int .i64 k)) 11 [(0, true), (1, true), (2, true), (3, true), (4, true), (5, true), (6, true), (7, true), (8, true), (9, false), (10, true)] (by kernel_rfl) (by kernel_rfl) ⟨h1 _, h2 _⟩ ?_
  iterate 9 (refine Front.still' (v := ?_) rfl (Or.inl ⟨by rfl, ?_⟩) (fun _ _ _ h => h) ?_; rotate_left 1; (focus (intro w hSw; (try dsimp only at hSw); go_simp; all_goals (with_reducible rfl))); (try simp only [Act.put, List.setIfInBounds_toArray, List.set_cons_zero, List.set_cons_succ]))
  refine Front.act' rfl (fun K hK => ?_)
  go_simp
  have hd : ∀ o : Obj, (w.alloc o).drew.heap[w.heap.size]? = some o := fun o => heap_new w o
  refine hK.out _ _ (fun _ => ⟨h1 _, h2 _⟩) ?_
  clear hK K
  (try simp only [Act.put, List.setIfInBounds_toArray, List.set_cons_zero, List.set_cons_succ])
  iterate 1 (refine Front.still' (v := ?_) rfl (Or.inl ⟨by rfl, ?_⟩) (fun _ _ _ h => h) ?_; rotate_left 1; (focus (intro w hSw; (try dsimp only at hSw); go_simp; all_goals (with_reducible rfl))); (try simp only [Act.put, List.setIfInBounds_toArray, List.set_cons_zero, List.set_cons_succ]))
  refine Front.done ?_
  go_wp2_with fail
  exact bodyPost_ret (v := .tuple #[nodeV 4 t k, .bool true]) (by simp [results, Tryz.results33, go_sem]) rfl ⟨rfl, below_drewN ((Below.refl _ w).alloc (Nat.le_refl _) _) 1⟩

set_option maxRecDepth 1000000 in
set_option maxHeartbeats 6400000 in
/-- node hands on what simple has made. -/
theorem node_of (v : Value) (k : Int) (t : ByteArray) (o : Int) (w : World) (hs : ∀ w', Below w.heap.size w w' → Calls Tryz.prog 33 #[v] w' fun e w'' => e = .returned (.tuple #[nodeV k t o, .bool true]) ∧ Below w'.heap.size w' w'') :
    Calls Tryz.prog 21 #[v] w fun e w' => e = .returned (nodeV k t o) ∧ Below w.heap.size w w' := by
  have HS := Lib.hid hs
  clear hs
  go_enter Tryz.func21, Tryz.ntmps21
  go_upto_region 3 with (go_at_call 33; refine (HS.out _ ((Below.refl _ w).alloc (Nat.le_refl _) _)).mono ?_; rintro e w1 ⟨rfl, b1⟩)
  have hn := (b1.block w.heap.size (by simp)).trans (heap_new w _)
  have hb1 : Below w.heap.size w w1 := below_alloc b1 (by simp)
  have hb2 := hb1.alloc hb1.size (.cells #[.int .i64 k, .string t, .int .i64 o, .bool false, .slice none 0 0] 31 (0, 0))
  have hm := heap_new w1 (.cells #[.int .i64 k, .string t, .int .i64 o, .bool false, .slice none 0 0] 31 (0, 0))
  have hn2 := (heap_old w1 (.cells #[.int .i64 k, .string t, .int .i64 o, .bool false, .slice none 0 0] 31 (0, 0)) (lt_of_heap hn)).trans hn
  generalize w1.alloc (.cells #[.int .i64 k, .string t, .int .i64 o, .bool false, .slice none 0 0] 31 (0, 0)) = w2 at *
  have k0 := cell_of_heap hn2 0
  have f0 := free_of_heap hn2 0
  have m0 := cell_of_heap hm 0
  have k1 := cell_of_heap hn2 1
  have f1 := free_of_heap hn2 1
  have m1 := cell_of_heap hm 1
  have k2 := cell_of_heap hn2 2
  have f2 := free_of_heap hn2 2
  have m2 := cell_of_heap hm 2
  have k3 := cell_of_heap hn2 3
  have f3 := free_of_heap hn2 3
  have m3 := cell_of_heap hm 3
  have k4 := cell_of_heap hn2 4
  have f4 := free_of_heap hn2 4
  have m4 := cell_of_heap hm 4
  simp at k0 k1 k2 k3 k4 m0 m1 m2 m3 m4
  have HN := Lib.hid hn2
  have HB := Lib.hid hb2
  clear hn hb1 hm hn2 hb2 b1
  go_wp2_with fail
  exact bodyPost_ret (v := nodeV k t o) (by simp [results, Tryz.results21, go_sem, k0, k1, k2, k3, k4]) rfl ⟨rfl, ((((HB.out.setCell (Nat.le_refl _) _).setCell (Nat.le_refl _) _).setCell (Nat.le_refl _) _).setCell (Nat.le_refl _) _).setCell (Nat.le_refl _) _⟩

end Go.Proofs.YtmggbhfdomlmcaaGreatFmt
