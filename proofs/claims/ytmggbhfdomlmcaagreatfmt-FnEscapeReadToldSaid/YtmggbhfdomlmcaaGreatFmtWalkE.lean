/-
  The lexer's places, and how it puts a token.
-/
import Derived.Test.YtmggbhfdomlmcaaGreatFmtWalkD
import Derived.Laws.ResultCell
namespace Go.Proofs.YtmggbhfdomlmcaaGreatFmt
open Go.RowKit

theorem locpos_any (p : Nat) (hp : p ≤ 1000010) (w : World) :
    Calls Tryz.prog 84 #[.agg #[.int .i64 p, .int .i64 1, .int .i64 0]] w fun e w' => e = .returned (.agg #[.int .i64 1, .int .i64 ((p : Int) + 1)]) ∧ Below w.heap.size w w' := by
  go_enter Tryz.func84, Tryz.ntmps84
  go_wp2
  exact bodyPost_ret (v := .agg #[.int .i64 1, .int .i64 ((p : Int) + 1)]) (by simp [results, Tryz.results84, go_sem]) rfl ⟨rfl, ((Below.refl _ _).alloc (Nat.le_refl _) _).alloc (by simp) _⟩

theorem loc_any (L : Nat) (df imf t : ByteArray) (S : Nat) (toks fod : Value) (ts tl tc : Int) (fr : Bool) (p : Nat) (hp : p ≤ 1000010) (w : World)
    (h : w.heap[L]? = some (.cells (lexCells df imf t S toks fod ts tl tc fr p 1 0) 239 (0, 0))) :
    Calls Tryz.prog 67 #[.pointer (some ⟨L, 0, none⟩)] w fun e w' => e = .returned (.agg #[.int .i64 1, .int .i64 ((p : Int) + 1)]) ∧ Below w.heap.size w w' := by
  have c10 := cell_of_heap h 10
  have c11 := cell_of_heap h 11
  have c12 := cell_of_heap h 12
  simp at c10 c11 c12
  have hL := lt_of_heap h
  clear h
  go_enter Tryz.func67, Tryz.ntmps67
  go_wp2_with (go_at_call 84; refine (locpos_any p hp _).mono ?_; rintro e w1 ⟨rfl, hb⟩; have hn := new_keep hb (by simp); have k0 := cell_of_heap hn 0; have k1 := cell_of_heap hn 1; have f0 := free_of_heap hn 0; have f1 := free_of_heap hn 1; simp at k0 k1; have HN := Lib.hid hn; clear hn)
  exact bodyPost_ret (v := .agg #[.int .i64 1, .int .i64 ((p : Int) + 1)]) (by simp [results, Tryz.results67, go_sem, k0, k1]) rfl ⟨rfl, ((below_alloc hb (by simp)).setCell (Nat.le_refl _) _).setCell (Nat.le_refl _) _⟩

theorem mlr_any (fn : ByteArray) (S : Nat) (a b c d : Int) (w : World) :
    Calls Tryz.prog 85 #[.string fn, .pointer (some ⟨S, 0, none⟩), .agg #[.int .i64 a, .int .i64 b], .agg #[.int .i64 c, .int .i64 d]] w fun e w' => e = .returned (.agg #[.pointer (some ⟨S, 0, none⟩), .string fn, .int .i64 a, .int .i64 b, .int .i64 c, .int .i64 d]) ∧ Below w.heap.size w w' := by
  go_enter Tryz.func85, Tryz.ntmps85
  go_wp2
  exact bodyPost_ret (v := .agg #[.pointer (some ⟨S, 0, none⟩), .string fn, .int .i64 a, .int .i64 b, .int .i64 c, .int .i64 d]) (by simp [results, Tryz.results85, go_sem]) rfl ⟨rfl, (((Below.refl _ _).alloc (Nat.le_refl _) _).alloc (by simp) _).alloc (by simp; omega) _⟩

theorem reset_any (L : Nat) (df imf t : ByteArray) (S : Nat) (toks fod : Value) (ts tl tc : Int) (fr : Bool) (p : Nat) (hp : p ≤ 1000010) (w : World)
    (h : w.heap[L]? = some (.cells (lexCells df imf t S toks fod ts tl tc fr p 1 0) 239 (0, 0))) :
    Calls Tryz.prog 63 #[.pointer (some ⟨L, 0, none⟩)] w fun e w' => e = .returned (.tuple #[]) ∧ w'.heap[L]? = some (.cells (lexCells df imf t S toks fod p 1 ((p : Int) + 1) fr p 1 0) 239 (0, 0)) ∧ But L w w' := by
  have c6 := cell_of_heap h 6
  have c10 := cell_of_heap h 10
  have f6 := free_of_heap h 6
  simp at c6 c10
  have hL := lt_of_heap h
  have H := Lib.hid h
  clear h
  go_enter Tryz.func63, Tryz.ntmps63
  go_wp2_with (go_at_call 67; refine (loc_any L df imf t S toks fod (p : Int) tl tc fr p hp _ (heap_setCell H.out 6 _)).mono ?_; rintro e w1 ⟨rfl, hb⟩; have hn := below_keep hb (heap_setCell H.out 6 (.int .i64 p)) (by simpa using hL); have k7 := cell_of_heap hn 7; have k8 := cell_of_heap hn 8; have f7 := free_of_heap hn 7; have f8 := free_of_heap hn 8; simp at k7 k8; have HN := Lib.hid hn; clear hn)
  go_end0
  exact ⟨rfl, heap_setCell (heap_setCell HN.out 7 _) 8 _, ((((But.refl L w).set 6 _).trans (But.of_below hb)).set 7 _).set 8 _⟩

end Go.Proofs.YtmggbhfdomlmcaaGreatFmt
