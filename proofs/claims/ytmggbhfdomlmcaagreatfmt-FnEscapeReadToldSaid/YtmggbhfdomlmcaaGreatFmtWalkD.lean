/-
  The lexer's reading of runes: peek and next, at a place within the text.
-/
import Derived.Test.YtmggbhfdomlmcaaGreatFmtWalkC
import Derived.Test.YtmggbhfdomlmcaaGreatFmtShelf
import Derived.Test.YtmggbhfdomlmcaaGreatFmtPlainB
import Derived.Deep.RegionHeld3
import Derived.Outline
namespace Go.Proofs.YtmggbhfdomlmcaaGreatFmt
open Go.RowKit

/-- The lexer's struct, cell by cell. -/
abbrev lexCells (df imf t : ByteArray) (S : Nat) (toks fod : Value) (ts tl tc : Int) (fr : Bool) (p : Nat) (ln ls : Int) : Array Value :=
  #[.string df, .string imf, .string t, .pointer (some ⟨S, 0, none⟩), toks, fod, .int .i64 ts, .int .i64 tl, .int .i64 tc, .bool fr, .int .i64 p, .int .i64 ln, .int .i64 ls]

theorem decodeGo_tail (t : ByteArray) (p : Nat) (hp : p < t.size) : Lib.decodeGo (t.extract p t.size) = Utf8.decode t p := by
  unfold Lib.decodeGo
  rw [if_neg (by rw [Lib.tail_size]; omega), Lib.tail_decode]
  rfl

theorem dec_any (t : ByteArray) (p : Nat) (hp : p < t.size) (w : World) (hT : Lib.Utf8Tabs 0 1 w) :
    Calls Tryz.prog 23 #[.string (t.extract p t.size)] w fun e w' => e = .returned (.tuple #[.int .i32 (Utf8.decode t p).1, .int .i64 (Utf8.decode t p).2]) ∧ Below w.heap.size w w' := by
  have h := Tryz.utf8_DecodeRuneInString (t.extract p t.size) w hT
  rw [decodeGo_tail t p hp] at h
  exact h

theorem peek_mid (L : Nat) (df imf t : ByteArray) (S : Nat) (toks fod : Value) (ts tl tc : Int) (fr : Bool) (p : Nat) (ln ls : Int) (w : World)
    (h : w.heap[L]? = some (.cells (lexCells df imf t S toks fod ts tl tc fr p ln ls) 239 (0, 0))) (hp : p < t.size) (hT : Lib.Utf8Tabs 0 1 w) :
    Calls Tryz.prog 61 #[.pointer (some ⟨L, 0, none⟩)] w fun e w' => e = .returned (.int .i32 (Utf8.decode t p).1) ∧ Below w.heap.size w w' := by
  have c2 := cell_of_heap h 2
  have c10 := cell_of_heap h 10
  simp at c2 c10
  have hL := lt_of_heap h
  clear h
  have hge : decide ((t.size : Int) ≤ (p : Int)) = false := by simp; omega
  have hp0 : (0 : Int) ≤ (p : Int) := by omega
  have hp1 : (p : Int) ≤ (t.size : Int) := by omega
  have hTn : ∀ n, Lib.Utf8Tabs 0 1 (w.drewN n) := fun _ => hT
  go_enter Tryz.func61, Tryz.ntmps61
  go_wp2
  go_quiet (fail)
  go_wp2
  go_region_held3 (fun w' => w'.cell? ⟨L, 2, none⟩ = some (.string t) ∧ w'.cell? ⟨L, 10, none⟩ = some (.int .i64 p)) (go_keep)
    (first | (go_at_call 23; refine (dec_any t p hp _ (hTn _)).mono ?_; rintro e w1 ⟨rfl, hb0⟩; have hb := below_undrew hb0; have k2 := (hb.cell (p := ⟨L, 2, none⟩) hL).trans c2; have k10 := (hb.cell (p := ⟨L, 10, none⟩) hL).trans c10))
  go_wp2
  go_ret
  exact ⟨rfl, hb⟩

theorem peek_end (L : Nat) (df imf t : ByteArray) (S : Nat) (toks fod : Value) (ts tl tc : Int) (fr : Bool) (p : Nat) (ln ls : Int) (w : World)
    (h : w.heap[L]? = some (.cells (lexCells df imf t S toks fod ts tl tc fr p ln ls) 239 (0, 0))) (hp : t.size ≤ p) :
    Calls Tryz.prog 61 #[.pointer (some ⟨L, 0, none⟩)] w fun e w' => e = .returned (.int .i32 (-1)) ∧ Below w.heap.size w w' := by
  have c2 := cell_of_heap h 2
  have c10 := cell_of_heap h 10
  simp at c2 c10
  clear h
  have hge : decide ((t.size : Int) ≤ (p : Int)) = true := by simp; omega
  go_enter Tryz.func61, Tryz.ntmps61
  go_wp2
  go_quiet (fail)
  go_wp2
  go_ret
  exact ⟨rfl, below_drewN (Below.refl _ _) _⟩

theorem next_end (L : Nat) (df imf t : ByteArray) (S : Nat) (toks fod : Value) (ts tl tc : Int) (fr : Bool) (p : Nat) (ln ls : Int) (w : World)
    (h : w.heap[L]? = some (.cells (lexCells df imf t S toks fod ts tl tc fr p ln ls) 239 (0, 0))) (hp : t.size ≤ p) :
    Calls Tryz.prog 62 #[.pointer (some ⟨L, 0, none⟩)] w fun e w' => e = .returned (.int .i32 (-1)) ∧ Below w.heap.size w w' := by
  have c2 := cell_of_heap h 2
  have c10 := cell_of_heap h 10
  simp at c2 c10
  clear h
  have hge : decide ((t.size : Int) ≤ (p : Int)) = true := by simp; omega
  go_enter Tryz.func62, Tryz.ntmps62
  go_wp2
  go_quiet (fail)
  go_wp2
  go_ret
  exact ⟨rfl, below_drewN (Below.refl _ _) _⟩

theorem next_mid (L : Nat) (df imf t : ByteArray) (S : Nat) (toks fod : Value) (ts tl tc : Int) (fr : Bool) (p : Nat) (ln ls : Int) (w : World)
    (h : w.heap[L]? = some (.cells (lexCells df imf t S toks fod ts tl tc fr p ln ls) 239 (0, 0))) (hp : p < t.size) (hsz : t.size ≤ 1000000) (hT : Lib.Utf8Tabs 0 1 w)
    (R K : Nat) (hd : Utf8.decode t p = (R, K)) (hK : K ≤ 4) (h10 : R ≠ 10) (hfr : fr = false ∨ wsB R = false) :
    Calls Tryz.prog 62 #[.pointer (some ⟨L, 0, none⟩)] w fun e w' => e = .returned (.int .i32 R) ∧ w'.heap[L]? = some (.cells (lexCells df imf t S toks fod ts tl tc false (p + K) ln ls) 239 (0, 0)) ∧ But L w w' := by
  have c2 := cell_of_heap h 2
  have c9 := cell_of_heap h 9
  have c10 := cell_of_heap h 10
  simp at c2 c9 c10
  have hL := lt_of_heap h
  have H := Lib.hid h
  clear h
  have hge : decide ((t.size : Int) ≤ (p : Int)) = false := by simp; omega
  have hp0 : (0 : Int) ≤ (p : Int) := by omega
  have hp1 : (p : Int) ≤ (t.size : Int) := by omega
  have hTn : ∀ n, Lib.Utf8Tabs 0 1 (w.drewN n) := fun _ => hT
  have hcall : ∀ n, Calls Tryz.prog 23 #[.string (t.extract p t.size)] (w.drewN n) fun e w' => e = .returned (.tuple #[.int .i32 R, .int .i64 K]) ∧ Below (w.drewN n).heap.size (w.drewN n) w' := by
    intro n
    have := dec_any t p hp _ (hTn n)
    rw [hd] at this
    exact this
  have hne : ((R : Int) == 10) = false := by simp; omega
  clear hd
  have HC := Lib.hid hcall
  clear hcall hTn hT
  cases fr
  · go_enter Tryz.func62, Tryz.ntmps62
    go_wp2
    go_quiet (fail)
    go_wp2
    go_region_held3 (fun w' => w'.cell? ⟨L, 2, none⟩ = some (.string t) ∧ w'.cell? ⟨L, 10, none⟩ = some (.int .i64 p)) (go_keep)
      (first | (go_at_call 23; refine (HC.out _).mono ?_; rintro e w1 ⟨rfl, hb0⟩; have hb := below_undrew hb0; have k2 := (hb.cell (p := ⟨L, 2, none⟩) hL).trans c2; have k10 := (hb.cell (p := ⟨L, 10, none⟩) hL).trans c10))
    have hh := below_keep hb H.out hL
    have k9 := (hb.cell (p := ⟨L, 9, none⟩) hL).trans c9
    have f10 := free_of_heap hh 10
    have f9 := free_of_heap hh 9
    have HH := Lib.hid hh
    clear hh hb0
    go_wp2
    go_ret
    refine ⟨rfl, heap_setCell HH.out 10 _, (But.of_below hb).set _ _⟩
  · have hws : wsB (R : Int) = false := by simpa using hfr
    go_enter Tryz.func62, Tryz.ntmps62
    go_wp2
    go_quiet (fail)
    go_wp2
    go_region_held3 (fun w' => w'.cell? ⟨L, 2, none⟩ = some (.string t) ∧ w'.cell? ⟨L, 10, none⟩ = some (.int .i64 p)) (go_keep)
      (first | (go_at_call 23; refine (HC.out _).mono ?_; rintro e w1 ⟨rfl, hb0⟩; have hb := below_undrew hb0; have k2 := (hb.cell (p := ⟨L, 2, none⟩) hL).trans c2; have k10 := (hb.cell (p := ⟨L, 10, none⟩) hL).trans c10))
    have hh := below_keep hb H.out hL
    have k9 := (hb.cell (p := ⟨L, 9, none⟩) hL).trans c9
    have f10 := free_of_heap hh 10
    have f9 := free_of_heap hh 9
    have HH := Lib.hid hh
    clear hh hb0
    go_wp2_with (go_at_call 82; refine (ws_any _ _).mono ?_; rintro e w' ⟨rfl, rfl⟩)
    go_ret
    refine ⟨rfl, heap_setCell (heap_setCell HH.out 10 _) 9 _, ((But.of_below hb).set _ _).set _ _⟩

end Go.Proofs.YtmggbhfdomlmcaaGreatFmt
