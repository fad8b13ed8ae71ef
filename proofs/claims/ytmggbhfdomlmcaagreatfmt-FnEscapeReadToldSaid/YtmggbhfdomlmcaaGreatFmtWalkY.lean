/-
  The parser's terminals: a text between quotes.
-/
import Derived.Test.YtmggbhfdomlmcaaGreatFmtWalkX
import Derived.Test.YtmggbhfdomlmcaaGreatFmtEnv
import Derived.Test.YtmggbhfdomlmcaaGreatFmtFront
import Derived.Deep.Cut
namespace Go.Proofs.YtmggbhfdomlmcaaGreatFmt
open Go.RowKit

set_option maxRecDepth 100000 in
theorem loc_of (N : Nat) (w : World) : Calls Tryz.prog 139 #[.pointer (some ⟨N, 3, none⟩)] w fun e w' => e = .returned (.pointer (some ⟨N, 6, none⟩)) ∧ w = w' := by
  go_enter Tryz.func139, Tryz.ntmps139
  go_wp2_with fail
  go_ret
  exact ⟨rfl, rfl⟩

set_option maxRecDepth 100000 in
set_option maxHeartbeats 6400000 in
theorem tok_str15 {g : Nat} {fa : Option Addr} {data : ByteArray} {S : Nat} {imf : ByteArray} {bl bc el ec : Int} {ys : List Value} (single : Bool) (rs : List Nat) (hT : Tail data 0 (escR single rs)) (hrs : ∀ r ∈ rs, RuneOk r) (hsz : data.size ≤ 1000000) (ev : Value) {w : World} (hE : Env ev w)
    (h : TokRow g (tokCells fa data S imf bl bc el ec 15 ++ ys) w) (hg : g < w.heap.size) :
    Calls Tryz.prog 126 #[.pointer (some ⟨g, 0, none⟩)] w fun e w' => (∃ N xa, e = .returned (.tuple #[.pointer (some ⟨N, 0, none⟩), .nilIface]) ∧ w'.heap[N]? = some (.cells (strCells data fa xa S imf bl bc el ec 0).toArray 178 (0, 0)) ∧ w.heap.size ≤ N) ∧ Below w.heap.size w w' := by
  obtain ⟨c0, c1, c4, c5, c6, c7, c8, c9, c10⟩ := tok_cells h
  have HX := Lib.hid (fun (lo : Value) (w : World) (hE : Env ev w) => unesc_any single lo data hsz rs hT hrs w hE.1 hE.2.1 ev hE.2.2)
  have HE := Lib.hid hE
  have h14 := hE.1
  clear h hT hrs hE
  go_enter Tryz.func126, Tryz.ntmps126
  go_wp2_with fail
  refine wp_front (S := fun w' => w'.cell? ⟨g, 0, none⟩ = some (.slice fa 0 0) ∧ w'.cell? ⟨g, 1, none⟩ = some (.string data) ∧ w'.cell? ⟨g, 4, none⟩ = some (.pointer (some ⟨S, 0, none⟩)) ∧ w'.cell? ⟨g, 5, none⟩ = some (.string imf) ∧ w'.cell? ⟨g, 6, none⟩ = some (.int .i64 bl) ∧ w'.cell? ⟨g, 7, none⟩ = some (.int .i64 bc) ∧ w'.cell? ⟨g, 8, none⟩ = some (.int .i64 el) ∧ w'.cell? ⟨g, 9, none⟩ = some (.int .i64 ec)) 16 [(0, true), (1, true), (2, true), (3, true), (4, true), (5, true), (6, true), (7, true), (9, true), (10, true), (11, true), (12, true), (8, false), (13, true), (14, false), (15, true)] (by kernel_rfl) (by kernel_rfl) ⟨c0, c1, c4, c5, c6, c7, c8, c9⟩ ?_
  iterate 12 (refine Front.still' (v := ?_) rfl (Or.inl ⟨by rfl, ?_⟩) (fun _ _ _ h => h) ?_; rotate_left 1; (focus (intro w hSw; (try dsimp only at hSw); go_simp; all_goals (with_reducible rfl))); (try simp only [Act.put, List.setIfInBounds_toArray, List.set_cons_zero, List.set_cons_succ]))
  refine Front.act' rfl (fun K hK => ?_)
  go_simp
  go_at_call 96
  refine (baseloc_any fa S imf bl bc el ec _).mono ?_
  rintro e w2 ⟨⟨xa, rfl⟩, b2⟩
  have e2 : ∀ j v, w.cell? ⟨g, j, none⟩ = some v → w2.cell? ⟨g, j, none⟩ = some v := fun j v h => (b2.cell (p := ⟨g, j, none⟩) hg).trans h
  have hg2 : g < w2.heap.size := Nat.lt_of_lt_of_le hg b2.size
  refine hK.out _ _ (fun _ => ⟨e2 _ _ c0, e2 _ _ c1, e2 _ _ c4, e2 _ _ c5, e2 _ _ c6, e2 _ _ c7, e2 _ _ c8, e2 _ _ c9⟩) ?_
  clear hK K
  (try simp only [Act.put, List.setIfInBounds_toArray, List.set_cons_zero, List.set_cons_succ])
  iterate 1 (refine Front.still' (v := ?_) rfl (Or.inl ⟨by rfl, ?_⟩) (fun _ _ _ h => h) ?_; rotate_left 1; (focus (intro w hSw; (try dsimp only at hSw); go_simp; all_goals (with_reducible rfl))); (try simp only [Act.put, List.setIfInBounds_toArray, List.set_cons_zero, List.set_cons_succ]))
  refine Front.act' rfl (fun K hK => ?_)
  go_simp
  refine hK.out _ _ (fun _ => ?_) ?_
  · have e3 : ∀ o j v, w.cell? ⟨g, j, none⟩ = some v → (w2.alloc o).cell? ⟨g, j, none⟩ = some v := fun o j v h => (World.cell?_alloc_lt w2 o ⟨g, j, none⟩ hg2).trans (e2 _ _ h)
    exact ⟨e3 _ _ _ c0, e3 _ _ _ c1, e3 _ _ _ c4, e3 _ _ _ c5, e3 _ _ _ c6, e3 _ _ _ c7, e3 _ _ _ c8, e3 _ _ _ c9⟩
  clear hK K
  (try simp only [Act.put, List.setIfInBounds_toArray, List.set_cons_zero, List.set_cons_succ])
  iterate 1 (refine Front.still' (v := ?_) rfl (Or.inl ⟨by rfl, ?_⟩) (fun _ _ _ h => h) ?_; rotate_left 1; (focus (intro w hSw; (try dsimp only at hSw); go_simp; all_goals (with_reducible rfl))); (try simp only [Act.put, List.setIfInBounds_toArray, List.set_cons_zero, List.set_cons_succ]))
  refine Front.done ?_
  go_wp2_with fail
  have hN := heap_new w2 (.cells #[.string data, .string ⟨#[]⟩, .string ⟨#[]⟩, .slice fa 0 0, .pointer none, .slice xa 0 0, .pointer (some ⟨S, 0, none⟩), .string imf, .int .i64 bl, .int .i64 bc, .int .i64 el, .int .i64 ec, .int .i64 0] 178 (0, 0))
  have b2' : Below w.heap.size w w2 := ⟨b2.os, b2.tape, b2.output, b2.size, b2.block⟩
  have b3 := b2'.alloc b2'.size (.cells #[.string data, .string ⟨#[]⟩, .string ⟨#[]⟩, .slice fa 0 0, .pointer none, .slice xa 0 0, .pointer (some ⟨S, 0, none⟩), .string imf, .int .i64 bl, .int .i64 bc, .int .i64 el, .int .i64 ec, .int .i64 0] 178 (0, 0))
  have hz2 := b2'.size
  generalize w2.alloc (.cells #[.string data, .string ⟨#[]⟩, .string ⟨#[]⟩, .slice fa 0 0, .pointer none, .slice xa 0 0, .pointer (some ⟨S, 0, none⟩), .string imf, .int .i64 bl, .int .i64 bc, .int .i64 el, .int .i64 ec, .int .i64 0] 178 (0, 0)) = w3 at *
  obtain ⟨N, hNe⟩ : ∃ N, N = w2.heap.size := ⟨_, rfl⟩
  rw [← hNe] at hN hz2 ⊢
  clear b2 b2' e2 hg2 hNe w2
  have k0 := (cell_of_heap hN 0).trans rfl
  have hlt := lt_of_heap hN
  have HN := Lib.hid hN
  have E3 := Lib.hid (HE.out.below b3 h14)
  clear hN
  refine wp_front (S := fun w' => w'.cell? ⟨N, 0, none⟩ = some (.string data)) 14 [(0, true), (1, true), (2, true), (4, true), (5, true), (6, true), (7, true), (3, false), (8, false), (9, true), (10, true), (11, true), (12, true), (13, true)] (by kernel_rfl) (by kernel_rfl) k0 ?_
  iterate 7 (refine Front.still' (v := ?_) rfl (Or.inl ⟨by rfl, ?_⟩) (fun _ _ _ h => h) ?_; rotate_left 1; (focus (intro w hSw; (try dsimp only at hSw); go_simp; all_goals (with_reducible rfl))); (try simp only [Act.put, List.setIfInBounds_toArray, List.set_cons_zero, List.set_cons_succ]))
  refine Front.act' rfl (fun K hK => ?_)
  go_simp
  go_at_call 139
  refine (loc_of N _).mono ?_
  rintro e w4 ⟨rfl, rfl⟩
  refine hK.out _ _ (fun _ => k0) ?_
  clear hK K
  (try simp only [Act.put, List.setIfInBounds_toArray, List.set_cons_zero, List.set_cons_succ])
  refine Front.act' rfl (fun K hK => ?_)
  go_simp
  go_at_call 138
  refine (HX.out _ _ (E3.out.below ((Below.refl _ w3).drew) E3.out.1)).mono ?_
  rintro e w5 ⟨⟨tx, rfl⟩, b5⟩
  refine hK.out _ _ (fun _ => (b5.cell (p := ⟨N, 0, none⟩) hlt).trans k0) ?_
  clear hK K
  (try simp only [Act.put, List.setIfInBounds_toArray, List.set_cons_zero, List.set_cons_succ])
  iterate 5 (refine Front.still' (v := ?_) rfl (Or.inl ⟨by rfl, ?_⟩) (fun _ _ _ h => h) ?_; rotate_left 1; (focus (intro w hSw; (try dsimp only at hSw); go_simp; all_goals (with_reducible rfl))); (try simp only [Act.put, List.setIfInBounds_toArray, List.set_cons_zero, List.set_cons_succ]))
  refine Front.done ?_
  go_wp2_with fail
  have b5' : Below w3.heap.size w3 w5 := ⟨b5.os, b5.tape, b5.output, b5.size, b5.block⟩
  exact bodyPost_ret (v := .tuple #[.pointer (some ⟨N, 0, none⟩), .nilIface]) (by simp [results, Tryz.results126, go_sem]) rfl ⟨⟨N, xa, rfl, below_keep b5' HN.out hlt, hz2⟩, b3.trans (b5'.mono b3.size)⟩

set_option maxRecDepth 100000 in
set_option maxHeartbeats 6400000 in
theorem tok_str14 {g : Nat} {fa : Option Addr} {data : ByteArray} {S : Nat} {imf : ByteArray} {bl bc el ec : Int} {ys : List Value} (single : Bool) (rs : List Nat) (hT : Tail data 0 (escR single rs)) (hrs : ∀ r ∈ rs, RuneOk r) (hsz : data.size ≤ 1000000) (ev : Value) {w : World} (hE : Env ev w)
    (h : TokRow g (tokCells fa data S imf bl bc el ec 14 ++ ys) w) (hg : g < w.heap.size) :
    Calls Tryz.prog 126 #[.pointer (some ⟨g, 0, none⟩)] w fun e w' => (∃ N xa, e = .returned (.tuple #[.pointer (some ⟨N, 0, none⟩), .nilIface]) ∧ w'.heap[N]? = some (.cells (strCells data fa xa S imf bl bc el ec 1).toArray 178 (0, 0)) ∧ w.heap.size ≤ N) ∧ Below w.heap.size w w' := by
  obtain ⟨c0, c1, c4, c5, c6, c7, c8, c9, c10⟩ := tok_cells h
  have HX := Lib.hid (fun (lo : Value) (w : World) (hE : Env ev w) => unesc_any single lo data hsz rs hT hrs w hE.1 hE.2.1 ev hE.2.2)
  have HE := Lib.hid hE
  have h14 := hE.1
  clear h hT hrs hE
  go_enter Tryz.func126, Tryz.ntmps126
  go_wp2_with fail
  refine wp_front (S := fun w' => w'.cell? ⟨g, 0, none⟩ = some (.slice fa 0 0) ∧ w'.cell? ⟨g, 1, none⟩ = some (.string data) ∧ w'.cell? ⟨g, 4, none⟩ = some (.pointer (some ⟨S, 0, none⟩)) ∧ w'.cell? ⟨g, 5, none⟩ = some (.string imf) ∧ w'.cell? ⟨g, 6, none⟩ = some (.int .i64 bl) ∧ w'.cell? ⟨g, 7, none⟩ = some (.int .i64 bc) ∧ w'.cell? ⟨g, 8, none⟩ = some (.int .i64 el) ∧ w'.cell? ⟨g, 9, none⟩ = some (.int .i64 ec)) 16 [(0, true), (1, true), (2, true), (3, true), (4, true), (5, true), (6, true), (7, true), (9, true), (10, true), (11, true), (12, true), (8, false), (13, true), (14, false), (15, true)] (by kernel_rfl) (by kernel_rfl) ⟨c0, c1, c4, c5, c6, c7, c8, c9⟩ ?_
  iterate 12 (refine Front.still' (v := ?_) rfl (Or.inl ⟨by rfl, ?_⟩) (fun _ _ _ h => h) ?_; rotate_left 1; (focus (intro w hSw; (try dsimp only at hSw); go_simp; all_goals (with_reducible rfl))); (try simp only [Act.put, List.setIfInBounds_toArray, List.set_cons_zero, List.set_cons_succ]))
  refine Front.act' rfl (fun K hK => ?_)
  go_simp
  go_at_call 96
  refine (baseloc_any fa S imf bl bc el ec _).mono ?_
  rintro e w2 ⟨⟨xa, rfl⟩, b2⟩
  have e2 : ∀ j v, w.cell? ⟨g, j, none⟩ = some v → w2.cell? ⟨g, j, none⟩ = some v := fun j v h => (b2.cell (p := ⟨g, j, none⟩) hg).trans h
  have hg2 : g < w2.heap.size := Nat.lt_of_lt_of_le hg b2.size
  refine hK.out _ _ (fun _ => ⟨e2 _ _ c0, e2 _ _ c1, e2 _ _ c4, e2 _ _ c5, e2 _ _ c6, e2 _ _ c7, e2 _ _ c8, e2 _ _ c9⟩) ?_
  clear hK K
  (try simp only [Act.put, List.setIfInBounds_toArray, List.set_cons_zero, List.set_cons_succ])
  iterate 1 (refine Front.still' (v := ?_) rfl (Or.inl ⟨by rfl, ?_⟩) (fun _ _ _ h => h) ?_; rotate_left 1; (focus (intro w hSw; (try dsimp only at hSw); go_simp; all_goals (with_reducible rfl))); (try simp only [Act.put, List.setIfInBounds_toArray, List.set_cons_zero, List.set_cons_succ]))
  refine Front.act' rfl (fun K hK => ?_)
  go_simp
  refine hK.out _ _ (fun _ => ?_) ?_
  · have e3 : ∀ o j v, w.cell? ⟨g, j, none⟩ = some v → (w2.alloc o).cell? ⟨g, j, none⟩ = some v := fun o j v h => (World.cell?_alloc_lt w2 o ⟨g, j, none⟩ hg2).trans (e2 _ _ h)
    exact ⟨e3 _ _ _ c0, e3 _ _ _ c1, e3 _ _ _ c4, e3 _ _ _ c5, e3 _ _ _ c6, e3 _ _ _ c7, e3 _ _ _ c8, e3 _ _ _ c9⟩
  clear hK K
  (try simp only [Act.put, List.setIfInBounds_toArray, List.set_cons_zero, List.set_cons_succ])
  iterate 1 (refine Front.still' (v := ?_) rfl (Or.inl ⟨by rfl, ?_⟩) (fun _ _ _ h => h) ?_; rotate_left 1; (focus (intro w hSw; (try dsimp only at hSw); go_simp; all_goals (with_reducible rfl))); (try simp only [Act.put, List.setIfInBounds_toArray, List.set_cons_zero, List.set_cons_succ]))
  refine Front.done ?_
  go_wp2_with fail
  have hN := heap_new w2 (.cells #[.string data, .string ⟨#[]⟩, .string ⟨#[]⟩, .slice fa 0 0, .pointer none, .slice xa 0 0, .pointer (some ⟨S, 0, none⟩), .string imf, .int .i64 bl, .int .i64 bc, .int .i64 el, .int .i64 ec, .int .i64 1] 178 (0, 0))
  have b2' : Below w.heap.size w w2 := ⟨b2.os, b2.tape, b2.output, b2.size, b2.block⟩
  have b3 := b2'.alloc b2'.size (.cells #[.string data, .string ⟨#[]⟩, .string ⟨#[]⟩, .slice fa 0 0, .pointer none, .slice xa 0 0, .pointer (some ⟨S, 0, none⟩), .string imf, .int .i64 bl, .int .i64 bc, .int .i64 el, .int .i64 ec, .int .i64 1] 178 (0, 0))
  have hz2 := b2'.size
  generalize w2.alloc (.cells #[.string data, .string ⟨#[]⟩, .string ⟨#[]⟩, .slice fa 0 0, .pointer none, .slice xa 0 0, .pointer (some ⟨S, 0, none⟩), .string imf, .int .i64 bl, .int .i64 bc, .int .i64 el, .int .i64 ec, .int .i64 1] 178 (0, 0)) = w3 at *
  obtain ⟨N, hNe⟩ : ∃ N, N = w2.heap.size := ⟨_, rfl⟩
  rw [← hNe] at hN hz2 ⊢
  clear b2 b2' e2 hg2 hNe w2
  have k0 := (cell_of_heap hN 0).trans rfl
  have hlt := lt_of_heap hN
  have HN := Lib.hid hN
  have E3 := Lib.hid (HE.out.below b3 h14)
  clear hN
  refine wp_front (S := fun w' => w'.cell? ⟨N, 0, none⟩ = some (.string data)) 14 [(0, true), (1, true), (2, true), (4, true), (5, true), (6, true), (7, true), (3, false), (8, false), (9, true), (10, true), (11, true), (12, true), (13, true)] (by kernel_rfl) (by kernel_rfl) k0 ?_
  iterate 7 (refine Front.still' (v := ?_) rfl (Or.inl ⟨by rfl, ?_⟩) (fun _ _ _ h => h) ?_; rotate_left 1; (focus (intro w hSw; (try dsimp only at hSw); go_simp; all_goals (with_reducible rfl))); (try simp only [Act.put, List.setIfInBounds_toArray, List.set_cons_zero, List.set_cons_succ]))
  refine Front.act' rfl (fun K hK => ?_)
  go_simp
  go_at_call 139
  refine (loc_of N _).mono ?_
  rintro e w4 ⟨rfl, rfl⟩
  refine hK.out _ _ (fun _ => k0) ?_
  clear hK K
  (try simp only [Act.put, List.setIfInBounds_toArray, List.set_cons_zero, List.set_cons_succ])
  refine Front.act' rfl (fun K hK => ?_)
  go_simp
  go_at_call 138
  refine (HX.out _ _ (E3.out.below ((Below.refl _ w3).drew) E3.out.1)).mono ?_
  rintro e w5 ⟨⟨tx, rfl⟩, b5⟩
  refine hK.out _ _ (fun _ => (b5.cell (p := ⟨N, 0, none⟩) hlt).trans k0) ?_
  clear hK K
  (try simp only [Act.put, List.setIfInBounds_toArray, List.set_cons_zero, List.set_cons_succ])
  iterate 5 (refine Front.still' (v := ?_) rfl (Or.inl ⟨by rfl, ?_⟩) (fun _ _ _ h => h) ?_; rotate_left 1; (focus (intro w hSw; (try dsimp only at hSw); go_simp; all_goals (with_reducible rfl))); (try simp only [Act.put, List.setIfInBounds_toArray, List.set_cons_zero, List.set_cons_succ]))
  refine Front.done ?_
  go_wp2_with fail
  have b5' : Below w3.heap.size w3 w5 := ⟨b5.os, b5.tape, b5.output, b5.size, b5.block⟩
  exact bodyPost_ret (v := .tuple #[.pointer (some ⟨N, 0, none⟩), .nilIface]) (by simp [results, Tryz.results126, go_sem]) rfl ⟨⟨N, xa, rfl, below_keep b5' HN.out hlt, hz2⟩, b3.trans (b5'.mono b3.size)⟩

set_option maxRecDepth 100000 in
set_option maxHeartbeats 6400000 in
theorem terminal_str15 {P g cap : Nat} {fa : Option Addr} {data : ByteArray} {S : Nat} {imf : ByteArray} {bl bc el ec : Int} {ys : List Value} (single : Bool) (rs : List Nat) (hT : Tail data 0 (escR single rs)) (hrs : ∀ r ∈ rs, RuneOk r) (hsz : data.size ≤ 1000000) (ev : Value) (w : World) (hE : Env ev w) (hP : 14 ≤ P)
    (h : ParseAt P g cap (tokCells fa data S imf bl bc el ec 15 ++ ys) 0 w) :
    Calls Tryz.prog 100 #[.pointer (some ⟨P, 0, none⟩)] w fun e w' => (∃ N xa, e = .returned (.tuple #[.iface 175 (.pointer (some ⟨N, 0, none⟩)), .nilIface]) ∧ w'.heap[N]? = some (.cells (strCells data fa xa S imf bl bc el ec 0).toArray 178 (0, 0)) ∧ P < N) ∧ ParseAt P g cap (tokCells fa data S imf bl bc el ec 15 ++ ys) 1 w' ∧ Below P w w' := by
  have H := Lib.hid h
  have HX := Lib.hid (fun (w : World) (hE : Env ev w) h hg => tok_str15 (g := g) (fa := fa) (data := data) (S := S) (imf := imf) (bl := bl) (bc := bc) (el := el) (ec := ec) (ys := ys) single rs hT hrs hsz ev hE h hg)
  have HE := Lib.hid hE
  clear h hT hrs hE
  go_enter Tryz.func100, Tryz.ntmps100
  go_wp2_with (first
    | (go_at_call 94; refine (H.out.pop (Or.inl rfl)).mono ?_; rintro e w1 ⟨rfl, h1, b1⟩; obtain ⟨c0, c1, c4, c5, c6, c7, c8, c9, c10⟩ := tok_cells h1.2.1; have H1 := Lib.hid h1; clear h1)
    | (go_at_call 126; refine (HX.out _ (HE.out.below b1 hP) H1.out.2.1 (Nat.lt_trans H1.out.2.2 H1.out.lt)).mono ?_; rintro e w2 ⟨⟨N, xa, rfl, hN, hNz⟩, b2⟩))
  have hP1 := H1.out.lt
  exact bodyPost_ret (v := .tuple #[.iface 175 (.pointer (some ⟨N, 0, none⟩)), .nilIface]) (by simp [results, Tryz.results100, go_sem]) rfl ⟨⟨N, xa, rfl, hN, by omega⟩, H1.out.below b2, b1.trans (b2.mono (Nat.le_of_lt hP1))⟩

set_option maxRecDepth 100000 in
set_option maxHeartbeats 6400000 in
theorem terminal_str14 {P g cap : Nat} {fa : Option Addr} {data : ByteArray} {S : Nat} {imf : ByteArray} {bl bc el ec : Int} {ys : List Value} (single : Bool) (rs : List Nat) (hT : Tail data 0 (escR single rs)) (hrs : ∀ r ∈ rs, RuneOk r) (hsz : data.size ≤ 1000000) (ev : Value) (w : World) (hE : Env ev w) (hP : 14 ≤ P)
    (h : ParseAt P g cap (tokCells fa data S imf bl bc el ec 14 ++ ys) 0 w) :
    Calls Tryz.prog 100 #[.pointer (some ⟨P, 0, none⟩)] w fun e w' => (∃ N xa, e = .returned (.tuple #[.iface 175 (.pointer (some ⟨N, 0, none⟩)), .nilIface]) ∧ w'.heap[N]? = some (.cells (strCells data fa xa S imf bl bc el ec 1).toArray 178 (0, 0)) ∧ P < N) ∧ ParseAt P g cap (tokCells fa data S imf bl bc el ec 14 ++ ys) 1 w' ∧ Below P w w' := by
  have H := Lib.hid h
  have HX := Lib.hid (fun (w : World) (hE : Env ev w) h hg => tok_str14 (g := g) (fa := fa) (data := data) (S := S) (imf := imf) (bl := bl) (bc := bc) (el := el) (ec := ec) (ys := ys) single rs hT hrs hsz ev hE h hg)
  have HE := Lib.hid hE
  clear h hT hrs hE
  go_enter Tryz.func100, Tryz.ntmps100
  go_wp2_with (first
    | (go_at_call 94; refine (H.out.pop (Or.inl rfl)).mono ?_; rintro e w1 ⟨rfl, h1, b1⟩; obtain ⟨c0, c1, c4, c5, c6, c7, c8, c9, c10⟩ := tok_cells h1.2.1; have H1 := Lib.hid h1; clear h1)
    | (go_at_call 126; refine (HX.out _ (HE.out.below b1 hP) H1.out.2.1 (Nat.lt_trans H1.out.2.2 H1.out.lt)).mono ?_; rintro e w2 ⟨⟨N, xa, rfl, hN, hNz⟩, b2⟩))
  have hP1 := H1.out.lt
  exact bodyPost_ret (v := .tuple #[.iface 175 (.pointer (some ⟨N, 0, none⟩)), .nilIface]) (by simp [results, Tryz.results100, go_sem]) rfl ⟨⟨N, xa, rfl, hN, by omega⟩, H1.out.below b2, b1.trans (b2.mono (Nat.le_of_lt hP1))⟩

theorem terminal_str {P g cap : Nat} {fa : Option Addr} {data : ByteArray} {S : Nat} {imf : ByteArray} {bl bc el ec : Int} {ys : List Value} (kd ko : Int) (hk : (kd = 14 ∧ ko = 1) ∨ (kd = 15 ∧ ko = 0)) (single : Bool) (rs : List Nat) (hT : Tail data 0 (escR single rs)) (hrs : ∀ r ∈ rs, RuneOk r) (hsz : data.size ≤ 1000000) (ev : Value) (w : World) (hE : Env ev w) (hP : 14 ≤ P)
    (h : ParseAt P g cap (tokCells fa data S imf bl bc el ec kd ++ ys) 0 w) :
    Calls Tryz.prog 100 #[.pointer (some ⟨P, 0, none⟩)] w fun e w' => (∃ N xa, e = .returned (.tuple #[.iface 175 (.pointer (some ⟨N, 0, none⟩)), .nilIface]) ∧ w'.heap[N]? = some (.cells (strCells data fa xa S imf bl bc el ec ko).toArray 178 (0, 0)) ∧ P < N) ∧ ParseAt P g cap (tokCells fa data S imf bl bc el ec kd ++ ys) 1 w' ∧ Below P w w' := by
  rcases hk with ⟨rfl, rfl⟩ | ⟨rfl, rfl⟩
  · exact terminal_str14 single rs hT hrs hsz ev w hE hP h
  · exact terminal_str15 single rs hT hrs hsz ev w hE hP h

end Go.Proofs.YtmggbhfdomlmcaaGreatFmt
