/-
  How a lexer is made.
-/
import Derived.Test.YtmggbhfdomlmcaaGreatFmtWalkG
import Derived.Test.YtmggbhfdomlmcaaGreatFmtShelf
import Derived.Lib.RuneLoops
import Derived.Laws.RangeAny
import Derived.Deep.AppendLies
import Derived.OwnWalk
namespace Go.Proofs.YtmggbhfdomlmcaaGreatFmt
open Go.RowKit Go.Shelf

theorem Tryz.info9 : (Tryz.prog.info? 9).map (fun i => (i.zero, i.size, i.bytes)) = some (some (.string ⟨#[]⟩), 1, 16) := by kernel_rfl

theorem byteCells_runes (r : Nat) : Lib.runeCells (r : Int) = Lib.byteCells (Lib.encodeRune (r : Int)) := (Lib.byteCells_encodeRune (r : Int)).symm

set_option maxRecDepth 100000 in
set_option maxHeartbeats 6400000 in
theorem source_any (df s : ByteArray) (hs : s.size ≤ 1000000) (rs : List Nat) (hT : Tail s 0 rs) (h10 : ∀ r ∈ rs, r ≠ 10) (w : World) :
    Calls Tryz.prog 81 #[.string df, .string s] w fun e w' => (∃ S, w.heap.size ≤ S ∧ e = .returned (.pointer (some ⟨S, 0, none⟩))) ∧ Below w.heap.size w w' := by
  obtain ⟨i0, hi0, hz0, hz1, hz2⟩ := info_parts Tryz.info9
  go_enter Tryz.func81, Tryz.ntmps81
  go_wp2_with fail
  go_loopg [5] rs.length (fun k v wr => ∃ (pos : Nat) (l : List Nat) (acc : List UInt8), k = l.length ∧ v = .slice none 0 0 ∧ Tail s pos l ∧ (∀ r ∈ l, r ≠ 10) ∧ Lib.IsBuffer 56 5 w.heap.size w.heap.size (Lib.byteCells acc) wr ∧ wr.heap[w.heap.size + 1]? = some (.stringIter s pos) ∧ Below w.heap.size w wr ∧ acc.length ≤ pos)
  case atStart =>
    refine ⟨0, rs, [], rfl, rfl, hT, h10, (Lib.fresh_isBuffer 56 5 w).alloc _, ?_, ((Below.refl _ w).alloc (Nat.le_refl _) _).alloc (by simp) _, by simp⟩
    have := World.iter_heap (w.alloc (.cells #[.slice none 0 0, .int .i64 0, .int .i8 0] 56)) s 0
    simpa using this
  case round =>
    obtain ⟨pos, l, acc, rfl, rfl, hT, h10, hI, hit, hbw, hal⟩ := hrel
    have hsz : w.heap.size + 1 < wr.heap.size := (Array.getElem?_eq_some_iff.1 hit).1
    have hps := hT.size
    cases l with
    | cons r l =>
      obtain ⟨hd, hT', hp, hK1, hK4⟩ := hT.next
      have hnx : ∀ ty, (Instr.next (.pointer (some ⟨w.heap.size + 1, 0, none⟩)) true ty).run Tryz.prog wr = _ := fun ty => Lib.run_next_any_at wr (w.heap.size + 1) s pos ty hit hp
      rw [hd] at hnx
      have hI2 := hI.iterAt hit (pos + (Lib.encodeRune (r : Int)).length)
      have hit2 := Lib.iterAt_heap wr (w.heap.size + 1) s pos (pos + (Lib.encodeRune (r : Int)).length) hit
      have hbw2 := Lib.below_iterAt hbw (k := w.heap.size + 1) (by omega) s (pos + (Lib.encodeRune (r : Int)).length)
      have hsz2 : w.heap.size ≤ (wr.iterAt (w.heap.size + 1) s (pos + (Lib.encodeRune (r : Int)).length)).heap.size := by rw [Lib.iterAt_size]; omega
      have hr10 : ((r : Int) == 10) = false := by have := h10 r List.mem_cons_self; simp; omega
      have hr0 : (-2147483648 : Int) ≤ (r : Int) := by omega
      have hr1 : (r : Int) ≤ 2147483647 := by have := hT.2.2 r List.mem_cons_self; unfold RuneOk at this; omega
      go_wp2_with (go_at_call 24; refine (Tryz.Buffer_WriteRune_k w.heap.size w.heap.size _ _ hr0 hr1 _ hI2 hsz2 (Lib.byteCells_one _) (by rw [Lib.byteCells_length]; omega)).mono ?_; rintro e W1 ⟨rfl, h1, b1, k1⟩)
      go_roundg l.length
      case measure => simp
      case rel =>
        refine ⟨pos + (Lib.encodeRune (r : Int)).length, l, acc ++ Lib.encodeRune r, rfl, rfl, hT', fun x hx => h10 x (List.mem_cons_of_mem _ hx), ?_, k1.iter hit2 (by omega), hbw2.trans b1, by simp; omega⟩
        rw [Lib.byteCells_append, Lib.byteCells_encodeRune]; exact h1
    | nil =>
      have hp := hT.at_end
      have hnx : ∀ ty, (Instr.next (.pointer (some ⟨w.heap.size + 1, 0, none⟩)) true ty).run Tryz.prog wr = _ := fun ty => Lib.run_next_end_at wr (w.heap.size + 1) s pos ty hit (by omega)
      go_wp2_with (first
        | (go_at_call 28; refine (Tryz.Buffer_String w.heap.size w.heap.size acc wr hI).mono ?_; rintro e W1 ⟨rfl, n, rfl⟩)
        | (at_builtin; refine wpList_append_lies _ rfl (.tmp 25) (.tmp 28) 38 rfl w.heap.size 9 i0 _ 1 16 Tryz.underlying38 hi0 hz0 hz1 hz2 rfl (by decide) (.slice none 0 0) 0 [] rfl (World.ownsRow_nil _ _ _ _) ⟨wr.heap.size, 0, none⟩ 1 1 [.string (⟨acc.toArray⟩ ++ ⟨#[10]⟩)] rfl rfl (World.news_of_block (cs := #[.string (⟨acc.toArray⟩ ++ ⟨#[10]⟩)]) (t := 9) (fr := (0, 0)) (heap_new (wr.drewN n) _)) (by simp [Value.oneCell']) (by decide) (by decide) (by decide) (by simp; omega) _ rfl ?_; intro gg cap w3 hown3 hgrow hat hlt))
      have hb3 : Below w.heap.size w w3 := (below_drewN hbw n).trans (((Below.refl _ (wr.drewN n)).alloc (by simp; omega) _).trans (below_grown hgrow (by simp; omega) (fun k hk => by simp [Value.ownBlock])))
      have hw3 := hb3.size
      clear hown3 hgrow hat
      have HB := Lib.hid hb3
      clear hb3
      go_wp2_with fail
      go_ret
      exact ⟨⟨w3.heap.size, hw3, rfl⟩, HB.out.alloc hw3 _⟩

theorem maker_any (df imf t : ByteArray) (hs : t.size ≤ 1000000) (rs : List Nat) (hT : Tail t 0 rs) (h10 : ∀ r ∈ rs, r ≠ 10) (w : World) (h2 : 2 ≤ w.heap.size) (hU : Lib.Utf8Tabs 0 1 w) :
    Calls Tryz.prog 59 #[.string df, .string imf, .string t] w fun e w' => (∃ L S, w.heap.size ≤ L ∧ e = .returned (.pointer (some ⟨L, 0, none⟩)) ∧ LexAt L S df imf t (.slice none 0 0) 0 [] none 0 1 1 true 0 w') ∧ Below w.heap.size w w' := by
  go_enter Tryz.func59, Tryz.ntmps59
  go_wp2_with (go_at_call 81; refine (source_any df t hs rs hT h10 w).mono ?_; rintro e w1 ⟨⟨S, hS, rfl⟩, hb⟩)
  have hw := hb.size
  have hh := heap_new w1 (.cells (lexCells df imf t S (.slice none 0 0) (.slice none 0 0) 0 1 1 true 0 1 0) 239 (0, 0))
  go_ret
  exact ⟨⟨w1.heap.size, S, hw, rfl, hh, World.ownsRow_nil _ _ _ _, tabs_below hU (hb.alloc hw _) h2, by omega⟩, hb.alloc hw _⟩

end Go.Proofs.YtmggbhfdomlmcaaGreatFmt
