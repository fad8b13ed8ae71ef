/-
  How the lexer puts a token of the text, and how it reads a name.
-/
import Derived.Test.YtmggbhfdomlmcaaGreatFmtMemC
import Derived.Deep.LoopGhost
namespace Go.Proofs.YtmggbhfdomlmcaaGreatFmt
open Go.RowKit

set_option maxRecDepth 100000 in
set_option maxHeartbeats 1600000 in
theorem LexAt.emit {L S : Nat} {df imf t : ByteArray} {toks : Value} {n : Nat} {xs : List Value} {fa : Option Addr} {ts : Nat} {tl tc : Int} {fr : Bool} {p : Nat} {w : World} (h : LexAt L S df imf t toks n xs fa ts tl tc fr p w) (hp : p ≤ 1000010) (hn : n ≤ 10) (hts : ts ≤ p) (hpt : p ≤ t.size) (kind : Int) :
    Calls Tryz.prog 65 #[.pointer (some ⟨L, 0, none⟩), .int .i64 kind] w fun e w' => e = .returned (.tuple #[]) ∧
      (∃ g cap fa', LexAt L S df imf t (.slice (some ⟨g, 0, none⟩) (n + 1) cap) (n + 1) (xs ++ tokCells fa (t.extract ts p) S imf tl tc 1 ((p : Int) + 1) kind) fa' p 1 ((p : Int) + 1) fr p w') ∧ Below L w w' := by
  have c2 := cell_of_heap h.1 2
  have c6 := cell_of_heap h.1 6
  have c10 := cell_of_heap h.1 10
  simp at c2 c6 c10
  have b0 : (0 : Int) ≤ (ts : Int) := by omega
  have b1 : (ts : Int) ≤ (p : Int) := by omega
  have b2 : (p : Int) ≤ (t.size : Int) := by omega
  have H := Lib.hid h
  have hL := h.lt
  clear h
  go_enter Tryz.func65, Tryz.ntmps65
  go_wp2_with fail
  refine wp_front (S := fun w' => w'.cell? ⟨L, 2, none⟩ = some (.string t) ∧ w'.cell? ⟨L, 6, none⟩ = some (.int .i64 ts) ∧ w'.cell? ⟨L, 10, none⟩ = some (.int .i64 p)) 16 (inText 16 1) (by kernel_rfl) (by kernel_rfl) ⟨c2, c6, c10⟩ ?_
  simp only [inText, List.range, List.range.loop, List.map, List.cons_append, List.nil_append, Nat.reduceAdd]
  iterate 16 (refine Front.still' (v := ?_) rfl (Or.inl ⟨by rfl, ?_⟩) (fun _ _ _ h => h) ?_; rotate_left 1; (focus (intro w hSw; (try dsimp only at hSw); go_simp; all_goals (with_reducible rfl))); (try simp only [Act.put, List.setIfInBounds_toArray, List.set_cons_zero, List.set_cons_succ]))
  refine Front.act' rfl (fun K hK => ?_)
  go_simp
  go_at_call 69
  refine (LexAt.emit_full (w := w.drew) (h := H.out) hp hn kind (t.extract ts p)).mono ?_
  rintro e w1 ⟨rfl, ⟨g, cap, fa', h1⟩, b1⟩
  refine hK.out _ _ (fun h => absurd rfl h) ?_
  clear hK K
  refine Front.done ?_
  clear H c2 c6 c10
  have H1 := Lib.hid h1
  clear h1
  go_wp2_with (go_at_call 63; refine (H1.out.reset hp).mono ?_; rintro e w2 ⟨rfl, h2, b2⟩; have H2 := Lib.hid h2; clear h2)
  go_end0
  exact ⟨rfl, ⟨g, cap, fa', H2.out⟩, Below.trans (⟨b1.os, b1.tape, b1.output, b1.size, b1.block⟩ : Below L w w1) b2⟩

theorem LexAt.white {L S : Nat} {df imf t : ByteArray} {toks : Value} {n : Nat} {xs : List Value} {fa : Option Addr} {ts : Nat} {tl tc : Int} {fr : Bool} {p : Nat} {w : World} (h : LexAt L S df imf t toks n xs fa ts tl tc fr p w) {rs : List Nat} (hT : Tail t p rs) (hw : ∀ r t, rs = r :: t → wsB r = false) :
    Calls Tryz.prog 60 #[.pointer (some ⟨L, 0, none⟩)] w fun e w' => e = .returned (.tuple #[.int .i64 0, .int .i64 0]) ∧ LexAt L S df imf t toks n xs fa ts tl tc fr p w' ∧ Below w.heap.size w w' := by
  have H := Lib.hid h
  clear h
  cases rs with
  | nil =>
    have hT' := Lib.hid hT
    have hw1 : wsB (-1) = false := by decide
    go_enter Tryz.func60, Tryz.ntmps60
    go_wp2_with (first | (go_at_call 61; refine (H.out.peek_eof hT'.out).mono ?_; rintro e w1 ⟨rfl, h1, b1⟩; have H1 := Lib.hid h1; clear h1))
    refine wp_loop_once ?_
    go_wp2_with (first | (go_at_call 82; refine (ws_any _ _).mono ?_; rintro e w' ⟨rfl, rfl⟩))
    exact bodyPost_ret (v := .tuple #[.int .i64 0, .int .i64 0]) (by simp [results, Tryz.results60, go_sem]) rfl ⟨rfl, H1.out, b1⟩
  | cons r rs =>
    have hT' := Lib.hid hT
    have hw1 : wsB (r : Int) = false := hw r rs rfl
    clear hT hw
    go_enter Tryz.func60, Tryz.ntmps60
    go_wp2_with (first | (go_at_call 61; refine (H.out.peek hT'.out).mono ?_; rintro e w1 ⟨rfl, h1, b1⟩; have H1 := Lib.hid h1; clear h1))
    refine wp_loop_once ?_
    go_wp2_with (first | (go_at_call 82; refine (ws_any _ _).mono ?_; rintro e w' ⟨rfl, rfl⟩))
    exact bodyPost_ret (v := .tuple #[.int .i64 0, .int .i64 0]) (by simp [results, Tryz.results60, go_sem]) rfl ⟨rfl, H1.out, b1⟩

theorem white_of_first {r : Int} (h : firstB r = true) : wsB r = false := by
  cases hw : wsB r
  · rfl
  · exfalso
    simp [wsB, hwsB, firstB, upB, lowB] at h hw
    omega

theorem extract_all (t : ByteArray) : t.extract 0 t.size = t := by
  simp

set_option maxRecDepth 100000 in
set_option maxHeartbeats 1600000 in
/-- A name is read to its end, and put under the kind of the word. -/
theorem LexAt.name {L S : Nat} {df imf t : ByteArray} {toks : Value} {n : Nat} {xs : List Value} {fa : Option Addr} {tl tc : Int} {fr : Bool} {w : World} (h : LexAt L S df imf t toks n xs fa 0 tl tc fr 0 w) (hn : n ≤ 10) (hsz : t.size ≤ 1000000) {r : Nat} {rs : List Nat} (hT : Tail t 0 (r :: rs)) (hr : firstB r = true) (hrs : ∀ x ∈ rs, identB x = true)
    (kd : Int) (hk : ∀ w, Calls Tryz.prog 31 #[.string t] w fun e w' => e = .returned (.int .i64 kd) ∧ w = w') :
    Calls Tryz.prog 70 #[.pointer (some ⟨L, 0, none⟩)] w fun e w' => e = .returned (.tuple #[]) ∧
      (∃ g cap fa' fr', LexAt L S df imf t (.slice (some ⟨g, 0, none⟩) (n + 1) cap) (n + 1) (xs ++ tokCells fa t S imf tl tc 1 ((t.size : Int) + 1) kd) fa' t.size 1 ((t.size : Int) + 1) fr' t.size w') ∧ Below L w w' := by
  have H := Lib.hid h
  have HT := Lib.hid hT
  have HK := Lib.hid hk
  clear h hT hk
  have hf : firstB (r : Int) = true := hr
  go_enter Tryz.func70, Tryz.ntmps70
  go_wp2_with (first | (go_at_call 61; refine (H.out.peek HT.out).mono ?_; rintro e w1 ⟨rfl, h1, b1⟩; have H1 := Lib.hid h1; clear h1) | (go_at_call 29; refine (first_any _ _).mono ?_; rintro e w' ⟨rfl, rfl⟩))
  go_loopg [2] (rs.length + 1) (fun k v wr => ∃ (p : Nat) (l : List Nat) (fr' : Bool), k = l.length ∧ Tail t p l ∧ (∀ x ∈ l, identB x = true) ∧ (fr' = false ∨ l = r :: rs) ∧ v = .int .i32 (l.head?.elim (-1) (fun x => (x : Int))) ∧ Hid (LexAt L S df imf t toks n xs fa 0 tl tc fr' p wr) ∧ Below L w wr)
  case atStart => exact ⟨0, r :: rs, fr, by simp, HT.out, by simpa using ⟨by simp [identB, hf], hrs⟩, Or.inr rfl, rfl, H1, b1.mono (Nat.le_of_lt H.out.lt)⟩
  case round =>
    obtain ⟨p, l, fr', rfl, hT, hid, hfr, rfl, H1, hbb⟩ := hrel
    cases l with
    | nil =>
      simp only [List.head?_nil, Option.elim_none]
      have he := hT.at_end
      have hpe : p = t.size := by have := hT.1; omega
      subst hpe
      clear hT hid hfr
      have c2 := cell_of_heap H1.out.1 2
      have c6 := cell_of_heap H1.out.1 6
      have c10 := cell_of_heap H1.out.1 10
      simp at c2 c6 c10
      have b1 : (0 : Int) ≤ (t.size : Int) := by omega
      go_wp2_with fail
      refine wp_front (S := fun w' => w'.cell? ⟨L, 2, none⟩ = some (.string t) ∧ w'.cell? ⟨L, 6, none⟩ = some (.int .i64 0) ∧ w'.cell? ⟨L, 10, none⟩ = some (.int .i64 t.size)) 16 (inText 15 2) (by kernel_rfl) (by kernel_rfl) ⟨c2, c6, c10⟩ ?_
      simp only [inText, List.range, List.range.loop, List.map, List.cons_append, List.nil_append, Nat.reduceAdd]
      iterate 15 (refine Front.still' (v := ?_) rfl (Or.inl ⟨by rfl, ?_⟩) (fun _ _ _ h => h) ?_; rotate_left 1; (focus (intro w hSw; (try dsimp only at hSw); go_simp; all_goals (with_reducible rfl))); (try simp only [Act.put, List.setIfInBounds_toArray, List.set_cons_zero, List.set_cons_succ]))
      refine Front.act' rfl (fun K hK => ?_)
      go_simp
      go_at_call 31
      refine (HK.out _).mono ?_
      rintro e w' ⟨rfl, rfl⟩
      refine hK.out _ _ (fun _ => ⟨c2, c6, c10⟩) ?_
      clear hK K
      (try simp only [Act.put, List.setIfInBounds_toArray, List.set_cons_zero, List.set_cons_succ])
      refine Front.act' rfl (fun K hK => ?_)
      go_simp
      go_at_call 65
      refine (LexAt.emit (w := wr.drew) (h := H1.out) (by omega) hn (by omega) (Nat.le_refl _) kd).mono ?_
      rintro e w2 ⟨rfl, ⟨g, cap, fa', h2⟩, b2⟩
      refine hK.out _ _ (fun h => absurd rfl h) ?_
      clear hK K
      refine Front.done ?_
      have H2 := Lib.hid h2
      clear h2
      go_wp2_with fail
      go_end0
      rw [extract_all] at H2
      exact ⟨rfl, ⟨g, cap, fa', fr', H2.out⟩, hbb.trans (⟨b2.os, b2.tape, b2.output, b2.size, b2.block⟩ : Below L wr w2)⟩
    | cons x l =>
      have hi := hid x List.mem_cons_self
      have hTT := Lib.hid hT
      have hs := hT.next
      have hx1 : ((x : Int) != -1) = true := by simp
      have hx10 : x ≠ 10 := by rintro rfl; exact absurd hi (by decide)
      have hws : fr' = false ∨ wsB (x : Int) = false := by
        rcases hfr with h | h
        · exact Or.inl h
        · right
          obtain ⟨rfl, rfl⟩ := List.cons.inj h
          exact white_of_first hf
      simp only [List.head?_cons, Option.elim_some]
      have hrest := Lib.hid hid
      clear hid hfr hT
      have hnext := Lib.hid hs.2.1
      have hws' := Lib.hid hws
      clear hs hws
      cases l with
      | nil =>
        go_wp2_with (first | (go_at_call 30; refine (ident_any _ _).mono ?_; rintro e w' ⟨rfl, rfl⟩) | (go_at_call 62; refine (H1.out.next hTT.out hsz hx10 hws'.out).mono ?_; rintro e w2 ⟨rfl, h2, b2⟩; have H2 := Lib.hid h2; clear h2) | (go_at_call 61; refine (H2.out.peek_eof hnext.out).mono ?_; rintro e w3 ⟨rfl, h3, b3⟩; have H3 := Lib.hid h3; clear h3))
        go_roundg 0
        case measure => simp
        case rel => exact ⟨_, [], false, rfl, hnext.out, (fun y hy => by cases hy), Or.inl rfl, rfl, H3, hbb.trans (b2.trans (b3.mono (Nat.le_of_lt H2.out.lt)))⟩
      | cons y l =>
        go_wp2_with (first | (go_at_call 30; refine (ident_any _ _).mono ?_; rintro e w' ⟨rfl, rfl⟩) | (go_at_call 62; refine (H1.out.next hTT.out hsz hx10 hws'.out).mono ?_; rintro e w2 ⟨rfl, h2, b2⟩; have H2 := Lib.hid h2; clear h2) | (go_at_call 61; refine (H2.out.peek hnext.out).mono ?_; rintro e w3 ⟨rfl, h3, b3⟩; have H3 := Lib.hid h3; clear h3))
        go_roundg (l.length + 1)
        case measure => simp
        case rel => exact ⟨_, y :: l, false, rfl, hnext.out, fun z hz => hrest.out z (List.mem_cons_of_mem _ hz), Or.inl rfl, rfl, H3, hbb.trans (b2.trans (b3.mono (Nat.le_of_lt H2.out.lt)))⟩

end Go.Proofs.YtmggbhfdomlmcaaGreatFmt
