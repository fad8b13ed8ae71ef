/-
  What the lexer's writes keep; how a lexer stands.
-/
import Derived.Test.YtmggbhfdomlmcaaGreatFmtWalkF
import Derived.Test.YtmggbhfdomlmcaaGreatFmtPlainC
namespace Go.Proofs.YtmggbhfdomlmcaaGreatFmt
open Go.RowKit

theorem own_but {w w' : World} {L : Nat} {e : TypeId} {k : Nat} {v : Value} {n : Nat} {xs : List Value} (h : w.ownsRow (L + 1) e k v n xs) (b : But L w w') : w'.ownsRow (L + 1) e k v n xs :=
  h.kept (row := some L) ⟨b.os, b.tape, b.output, b.size, fun j hj hb => b.block j hj (fun e => hb (by rw [e]))⟩ (Or.inr (own_ne h (Nat.lt_succ_self L)))

theorem tabs_below {w w' : World} {B : Nat} (h : Lib.Utf8Tabs 0 1 w) (b : Below B w w') (hB : 2 ≤ B) : Lib.Utf8Tabs 0 1 w' :=
  ⟨fun c hc => (b.cell (p := ⟨0, c, none⟩) (by simp; omega)).trans (h.1 c hc), fun i hi => ⟨(b.cell (p := ⟨1, 2 * i, none⟩) (by simp; omega)).trans (h.2 i hi).1, (b.cell (p := ⟨1, 2 * i + 1, none⟩) (by simp; omega)).trans (h.2 i hi).2⟩⟩

/-- A lexer at L, whose source is S, that has n tokens in hand, whose row lies above L. -/
def LexAt (L S : Nat) (df imf t : ByteArray) (toks : Value) (n : Nat) (xs : List Value) (fa : Option Addr) (ts : Nat) (tl tc : Int) (fr : Bool) (p : Nat) (w : World) : Prop :=
  w.heap[L]? = some (.cells (lexCells df imf t S toks (.slice fa 0 0) ts tl tc fr p 1 0) 239 (0, 0)) ∧ w.ownsRow (L + 1) 249 11 toks n xs ∧ Lib.Utf8Tabs 0 1 w ∧ 2 ≤ L

theorem LexAt.lt {L S : Nat} {df imf t : ByteArray} {toks : Value} {n : Nat} {xs : List Value} {fa : Option Addr} {ts : Nat} {tl tc : Int} {fr : Bool} {p : Nat} {w : World} (h : LexAt L S df imf t toks n xs fa ts tl tc fr p w) : L < w.heap.size := lt_of_heap h.1

theorem LexAt.below {L S : Nat} {df imf t : ByteArray} {toks : Value} {n : Nat} {xs : List Value} {fa : Option Addr} {ts : Nat} {tl tc : Int} {fr : Bool} {p : Nat} {w w' : World} (h : LexAt L S df imf t toks n xs fa ts tl tc fr p w) (b : Below w.heap.size w w') : LexAt L S df imf t toks n xs fa ts tl tc fr p w' :=
  ⟨below_keep b h.1 h.lt, own_below h.2.1 b, tabs_below h.2.2.1 (b.mono (Nat.le_of_lt h.lt)) h.2.2.2, h.2.2.2⟩

theorem LexAt.but {L S : Nat} {df imf t : ByteArray} {toks : Value} {n : Nat} {xs : List Value} {fa : Option Addr} {ts ts' : Nat} {tl tc tl' tc' : Int} {fr fr' : Bool} {p p' : Nat} {w w' : World} (h : LexAt L S df imf t toks n xs fa ts tl tc fr p w) (b : But L w w')
    (hh : w'.heap[L]? = some (.cells (lexCells df imf t S toks (.slice fa 0 0) ts' tl' tc' fr' p' 1 0) 239 (0, 0))) : LexAt L S df imf t toks n xs fa ts' tl' tc' fr' p' w' :=
  ⟨hh, own_but h.2.1 b, tabs_below h.2.2.1 (b.below (Nat.le_refl L) (Nat.le_of_lt h.lt)) h.2.2.2, h.2.2.2⟩

/-- Its calls: peek, next, resetTokenStart, emitFullToken. -/
theorem LexAt.peek {L S : Nat} {df imf t : ByteArray} {toks : Value} {n : Nat} {xs : List Value} {fa : Option Addr} {ts : Nat} {tl tc : Int} {fr : Bool} {p : Nat} {w : World} (h : LexAt L S df imf t toks n xs fa ts tl tc fr p w) {r : Nat} {rs : List Nat} (hT : Tail t p (r :: rs)) :
    Calls Tryz.prog 61 #[.pointer (some ⟨L, 0, none⟩)] w fun e w' => e = .returned (.int .i32 r) ∧ LexAt L S df imf t toks n xs fa ts tl tc fr p w' ∧ Below w.heap.size w w' := by
  refine (peek_mid L df imf t S toks (.slice fa 0 0) ts tl tc fr p 1 0 w h.1 hT.next.2.2.1 h.2.2.1).mono ?_
  rintro e w' ⟨rfl, hb⟩
  rw [hT.next.1]
  exact ⟨rfl, h.below hb, hb⟩

theorem LexAt.peek_eof {L S : Nat} {df imf t : ByteArray} {toks : Value} {n : Nat} {xs : List Value} {fa : Option Addr} {ts : Nat} {tl tc : Int} {fr : Bool} {p : Nat} {w : World} (h : LexAt L S df imf t toks n xs fa ts tl tc fr p w) (hT : Tail t p []) :
    Calls Tryz.prog 61 #[.pointer (some ⟨L, 0, none⟩)] w fun e w' => e = .returned (.int .i32 (-1)) ∧ LexAt L S df imf t toks n xs fa ts tl tc fr p w' ∧ Below w.heap.size w w' := by
  refine (peek_end L df imf t S toks (.slice fa 0 0) ts tl tc fr p 1 0 w h.1 hT.at_end).mono ?_
  rintro e w' ⟨rfl, hb⟩
  exact ⟨rfl, h.below hb, hb⟩

theorem LexAt.next_eof {L S : Nat} {df imf t : ByteArray} {toks : Value} {n : Nat} {xs : List Value} {fa : Option Addr} {ts : Nat} {tl tc : Int} {fr : Bool} {p : Nat} {w : World} (h : LexAt L S df imf t toks n xs fa ts tl tc fr p w) (hT : Tail t p []) :
    Calls Tryz.prog 62 #[.pointer (some ⟨L, 0, none⟩)] w fun e w' => e = .returned (.int .i32 (-1)) ∧ LexAt L S df imf t toks n xs fa ts tl tc fr p w' ∧ Below w.heap.size w w' := by
  refine (next_end L df imf t S toks (.slice fa 0 0) ts tl tc fr p 1 0 w h.1 hT.at_end).mono ?_
  rintro e w' ⟨rfl, hb⟩
  exact ⟨rfl, h.below hb, hb⟩

theorem LexAt.next {L S : Nat} {df imf t : ByteArray} {toks : Value} {n : Nat} {xs : List Value} {fa : Option Addr} {ts : Nat} {tl tc : Int} {fr : Bool} {p : Nat} {w : World} (h : LexAt L S df imf t toks n xs fa ts tl tc fr p w) {r : Nat} {rs : List Nat} (hT : Tail t p (r :: rs)) (hsz : t.size ≤ 1000000) (h10 : r ≠ 10) (hfr : fr = false ∨ wsB r = false) :
    Calls Tryz.prog 62 #[.pointer (some ⟨L, 0, none⟩)] w fun e w' => e = .returned (.int .i32 r) ∧ LexAt L S df imf t toks n xs fa ts tl tc false (p + (Lib.encodeRune (r : Int)).length) w' ∧ Below L w w' := by
  obtain ⟨hd, _, hp, _, hK⟩ := hT.next
  refine (next_mid L df imf t S toks (.slice fa 0 0) ts tl tc fr p 1 0 w h.1 hp hsz h.2.2.1 r _ hd hK h10 hfr).mono ?_
  rintro e w' ⟨rfl, hh, hb⟩
  exact ⟨rfl, h.but hb hh, hb.below (Nat.le_refl L) (Nat.le_of_lt h.lt)⟩

theorem LexAt.reset {L S : Nat} {df imf t : ByteArray} {toks : Value} {n : Nat} {xs : List Value} {fa : Option Addr} {ts : Nat} {tl tc : Int} {fr : Bool} {p : Nat} {w : World} (h : LexAt L S df imf t toks n xs fa ts tl tc fr p w) (hp : p ≤ 1000010) :
    Calls Tryz.prog 63 #[.pointer (some ⟨L, 0, none⟩)] w fun e w' => e = .returned (.tuple #[]) ∧ LexAt L S df imf t toks n xs fa p 1 ((p : Int) + 1) fr p w' ∧ Below L w w' := by
  refine (reset_any L df imf t S toks (.slice fa 0 0) ts tl tc fr p hp w h.1).mono ?_
  rintro e w' ⟨rfl, hh, hb⟩
  exact ⟨rfl, h.but hb hh, hb.below (Nat.le_refl L) (Nat.le_of_lt h.lt)⟩

theorem LexAt.emit_full {L S : Nat} {df imf t : ByteArray} {toks : Value} {n : Nat} {xs : List Value} {fa : Option Addr} {ts : Nat} {tl tc : Int} {fr : Bool} {p : Nat} {w : World} (h : LexAt L S df imf t toks n xs fa ts tl tc fr p w) (hp : p ≤ 1000010) (hn : n ≤ 10) (kind : Int) (data : ByteArray) :
    Calls Tryz.prog 69 #[.pointer (some ⟨L, 0, none⟩), .int .i64 kind, .string data, .string ⟨#[]⟩, .string ⟨#[]⟩] w fun e w' => e = .returned (.tuple #[]) ∧
      (∃ g cap fa', LexAt L S df imf t (.slice (some ⟨g, 0, none⟩) (n + 1) cap) (n + 1) (xs ++ tokCells fa data S imf tl tc 1 ((p : Int) + 1) kind) fa' ts tl tc fr p w') ∧ Below L w w' := by
  refine (Go.Proofs.YtmggbhfdomlmcaaGreatFmt.emit_full L df imf t S toks fa ts tl tc fr p hp w h.1 kind data n hn xs h.2.1).mono ?_
  rintro e w' ⟨rfl, g, cap, fa', hh, ho, hb⟩
  exact ⟨rfl, ⟨g, cap, fa', hh, ho, tabs_below h.2.2.1 hb h.2.2.2, h.2.2.2⟩, hb⟩

end Go.Proofs.YtmggbhfdomlmcaaGreatFmt
