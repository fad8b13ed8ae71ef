/-
  impl.Parse.
-/
import Derived.Test.YtmggbhfdomlmcaaGreatFmtWalkS
namespace Go.Proofs.YtmggbhfdomlmcaaGreatFmt
open Go.RowKit

set_option maxRecDepth 1000000 in
set_option maxHeartbeats 6400000 in
/-- impl.Parse hands on what the parser and node have made. -/
theorem parse_of (s : ByteArray) (k : Int) (t : ByteArray) (o : Int) (w : World)
    (h20 : ∀ w', Below w.heap.size w w' → Calls Tryz.prog 20 #[.string ⟨#[]⟩, .string s] w' fun e w'' => (∃ v fo, e = .returned (.tuple #[v, fo, .nilIface]) ∧
      ∀ w3, Below w''.heap.size w'' w3 → Calls Tryz.prog 33 #[v] w3 fun e w4 => e = .returned (.tuple #[nodeV k t o, .bool true]) ∧ Below w3.heap.size w3 w4) ∧ Below w'.heap.size w' w'') :
    Calls Tryz.prog 11 #[.string s] w fun e w' => e = .returned (.tuple #[nodeV k t o, .bool true]) ∧ Below w.heap.size w w' := by
  have HS := Lib.hid h20
  clear h20
  go_enter Tryz.func11, Tryz.ntmps11
  go_wp2_with (first
    | (go_at_call 20; refine (HS.out _ ((Below.refl _ w).alloc (Nat.le_refl _) _)).mono ?_; rintro e w1 ⟨⟨v, fo, rfl, hv⟩, b1⟩; have HV := Lib.hid hv; clear hv)
    | (go_at_call 21; refine (node_of v k t o w1 HV.out).mono ?_; rintro e w2 ⟨rfl, b2⟩; have hn := (b2.block w.heap.size (Nat.lt_of_lt_of_le (by simp) b1.size)).trans ((b1.block w.heap.size (by simp)).trans (heap_new w _)); have k0 := cell_of_heap hn 0; have f0 := free_of_heap hn 0; have k1 := cell_of_heap hn 1; have f1 := free_of_heap hn 1; have k2 := cell_of_heap hn 2; have f2 := free_of_heap hn 2; have k3 := cell_of_heap hn 3; have f3 := free_of_heap hn 3; have k4 := cell_of_heap hn 4; have f4 := free_of_heap hn 4; simp at k0 k1 k2 k3 k4; have HN := Lib.hid hn; clear hn))
  have hb1 : Below w.heap.size w w1 := below_alloc b1 (by simp)
  have hb := hb1.trans (b2.mono hb1.size)
  exact bodyPost_ret (v := .tuple #[nodeV k t o, .bool true]) (by simp [results, Tryz.results11, go_sem, k0, k1, k2, k3, k4]) rfl ⟨rfl, ((((hb.setCell (Nat.le_refl _) _).setCell (Nat.le_refl _) _).setCell (Nat.le_refl _) _).setCell (Nat.le_refl _) _).setCell (Nat.le_refl _) _⟩

theorem implparse_name (t : ByteArray) (hs : t.size ≤ 1000000) (r : Nat) (rs : List Nat) (hT : Tail t 0 (r :: rs)) (hr : firstB r = true) (hrs : ∀ x ∈ rs, identB x = true)
    (hk : ∀ w, Calls Tryz.prog 31 #[.string t] w fun e w' => e = .returned (.int .i64 10) ∧ w = w') (w : World) (h2 : 2 ≤ w.heap.size) (hU : Lib.Utf8Tabs 0 1 w) :
    Calls Tryz.prog 11 #[.string t] w fun e w' => e = .returned (.tuple #[nodeV 7 t 0, .bool true]) ∧ Below w.heap.size w w' := by
  refine parse_of t 7 t 0 w fun w' hb => ?_
  refine (snip20_name t hs r rs hT hr hrs hk w' (Nat.le_trans h2 hb.size) (tabs_below hU hb h2)).mono ?_
  rintro e w'' ⟨⟨N, fo, rfl, hN, hc⟩, hb'⟩
  refine ⟨⟨_, fo, rfl, fun w3 hb3 => ?_⟩, hb'⟩
  have hlt : N < w''.heap.size := by
    have := World.block_lt_of_cell? w'' ⟨N, 0, none⟩ hc
    exact this
  exact simple_name N t w3 (Nat.lt_of_lt_of_le hlt hb3.size) ((hb3.cell (p := ⟨N, 0, none⟩) hlt).trans hc)

end Go.Proofs.YtmggbhfdomlmcaaGreatFmt
