/-
  The lexer on a text between quotes (34).
-/
import Derived.Test.YtmggbhfdomlmcaaGreatFmtWalkI
import Derived.Test.YtmggbhfdomlmcaaGreatFmtPlainD
namespace Go.Proofs.YtmggbhfdomlmcaaGreatFmt
open Go.RowKit

set_option maxRecDepth 100000 in
set_option maxHeartbeats 6400000 in
theorem lex_str34 (df imf t : ByteArray) (hs : t.size ≤ 1000000) (body : List Nat) (hT : Tail t 0 (34 :: (body ++ [34]))) (h10 : ∀ x ∈ body, x ≠ 10) (hsc : scanOk 34 (body ++ [34]) = true) (w : World) (h2 : 2 ≤ w.heap.size) (hU : Lib.Utf8Tabs 0 1 w) :
    Calls Tryz.prog 50 #[.string df, .string imf, .string t] w fun e w' => (∃ B S g cap fa fb, w.heap.size ≤ B ∧ e = .returned (.tuple #[.slice (some ⟨g, 0, none⟩) 2 cap, .nilIface]) ∧
      w'.ownsRow B 249 11 (.slice (some ⟨g, 0, none⟩) 2 cap) 2 (tokCells fa (t.extract 1 (t.size - 1)) S imf 1 1 1 ((t.size : Int) + 1) 14 ++ tokCells fb ⟨#[]⟩ S imf 1 ((t.size : Int) + 1) 1 ((t.size : Int) + 1) 36)) ∧ Below w.heap.size w w' := by
  have ha10 : ∀ x ∈ 34 :: (body ++ [34]), x ≠ 10 := by
    intro x hx e
    subst e
    rcases List.mem_cons.1 hx with h | h
    · exact absurd h (by decide)
    · rcases List.mem_append.1 h with h | h
      · exact h10 _ h rfl
      · exact absurd (List.mem_singleton.1 h) (by decide)
  obtain ⟨x0, l0, hl0⟩ : ∃ x0 l0, body ++ [34] = x0 :: l0 := by cases body with | nil => exact ⟨_, _, rfl⟩ | cons a b => exact ⟨_, _, rfl⟩
  rw [hl0] at hT hsc ha10
  clear hl0 h10
  have hsize : 2 ≤ t.size := by have := hT.size; have h1 := (enc_len (34 :: x0 :: l0)).1; simp only [List.length_cons] at h1; omega
  have z0 : (0 : Int) ≤ 1 := by omega
  have z1 : (1 : Int) ≤ (t.size : Int) - 1 := by omega
  have z2 : (t.size : Int) - 1 ≤ (t.size : Int) := by omega
  have z3 : IntKind.i64.wrap ((t.size : Int) - 1) = (t.size : Int) - 1 := wrap_small _ (by omega) (by omega)
  have z4 : ((t.size : Int) - 1).toNat = t.size - 1 := by omega
  have z5 : IntKind.i64.wrap 1 = 1 := by decide
  have q10 : 34 ≠ 10 := by decide
  have x10 : x0 ≠ 10 := ha10 x0 (by simp)
  have l10 : ∀ y ∈ l0, y ≠ 10 := fun y hy => ha10 y (by simp [hy])
  have HT := Lib.hid hT
  have HT1 := Lib.hid hT.next.2.1
  have HT2 := Lib.hid hT.next.2.1.next.2.1
  have h10' := Lib.hid ha10
  have L10 := Lib.hid l10
  have hend := Lib.hid hT.skip_all
  have HS := Lib.hid hsc
  clear hT ha10 l10 hsc
  have hw0 : ∀ x l, 34 :: x0 :: l0 = x :: l → wsB x = false := fun x l e => by obtain ⟨rfl, rfl⟩ := List.cons.inj e; decide
  have HW := Lib.hid hw0
  clear hw0
  have hwe : ∀ (x : Nat) (l : List Nat), ([] : List Nat) = x :: l → wsB x = false := fun x l e => by cases e
  have HE := Lib.hid hwe
  clear hwe
  go_enter Tryz.func50, Tryz.ntmps50
  go_wp2_with (go_at_call 59; refine (maker_any df imf t hs _ HT.out h10'.out w h2 hU).mono ?_; rintro e w1 ⟨⟨L, S, hL, rfl, h1⟩, bb⟩; have Hc := Lib.hid h1; clear h1)
  refine wp_loop_rounds 2 ?_
  rw [rounds_succ]
  go_wp2_with (first
    | (go_at_call 60; refine (Hc.out.white HT.out HW.out).mono ?_; rintro e w2 ⟨rfl, h2, b2⟩; replace bb := bb.trans (b2.mono bb.size); clear Hc b2; have Hc := Lib.hid h2; clear h2)
    | (go_at_call 61; refine (Hc.out.peek HT.out).mono ?_; rintro e w2 ⟨rfl, h2, b2⟩; replace bb := bb.trans (b2.mono bb.size); clear Hc b2; have Hc := Lib.hid h2; clear h2)
    | (go_at_call 63; refine (Hc.out.reset (by decide)).mono ?_; rintro e w2 ⟨rfl, h2, b2⟩; replace bb := bb.trans (b2.mono hL); clear Hc b2; have Hc := Lib.hid h2; clear h2)
    | (go_at_call 67; refine (loc_any L df imf t S _ _ _ _ _ _ _ (by decide) _ Hc.out.1).mono ?_; rintro e w2 ⟨rfl, b2⟩; replace bb := bb.trans (b2.mono bb.size); have h2 := Hc.out.below b2; clear Hc b2; have Hc := Lib.hid h2; clear h2)
    | (go_at_call 62; have h3 := Hc.out.below ((Below.refl w2.heap.size w2).alloc (Nat.le_refl _) (.cells #[.int .i64 1, .int .i64 1] 79 (0, 0))); refine (h3.next HT.out hs q10 (Or.inr (by decide))).mono ?_; rintro e w3 ⟨rfl, h4, b3⟩; replace bb := (bb.alloc bb.size _).trans (b3.mono hL); clear Hc b3 h3; have Hc := Lib.hid h4; clear h4)
    | (go_at_call 62; refine (Hc.out.next HT1.out hs x10 (Or.inl rfl)).mono ?_; rintro e w2 ⟨rfl, h2, b2⟩; replace bb := bb.trans (b2.mono hL); clear Hc b2; have Hc := Lib.hid h2; clear h2))
  go_loopg [13] (l0.length + 1) (fun k v wr => ∃ (p x : Nat) (l : List Nat), k = l.length + 1 ∧ v = .int .i32 x ∧ Tail t p l ∧ scanOk 34 (x :: l) = true ∧ (∀ y ∈ l, y ≠ 10) ∧ Hid (LexAt L S df imf t (.slice none 0 0) 0 [] none 0 1 1 false p wr) ∧ Below w.heap.size w wr)
  case atStart => exact ⟨_, x0, l0, rfl, rfl, HT2.out, HS.out, L10.out, Hc, bb⟩
  case round =>
    clear Hc bb
    obtain ⟨p, x, l, rfl, rfl, hT, hsc, l10, Hc, bb⟩ := hrel
    have hneg : ((x : Int) == -1) = false := by simp
    by_cases hq : x = 34
    · subst hq
      have hl : l = [] := by cases l with | nil => rfl | cons y l => simp [scanOk] at hsc
      subst hl
      have hpe : p = t.size := by have := hT.at_end; have := hT.1; omega
      subst hpe
      have c2 := cell_of_heap Hc.out.1 2
      have c6 := cell_of_heap Hc.out.1 6
      have c10 := cell_of_heap Hc.out.1 10
      simp at c2 c6 c10
      clear hT hsc l10
      go_wp2_with fail
      refine wp_front (S := fun w' => w'.cell? ⟨L, 2, none⟩ = some (.string t) ∧ w'.cell? ⟨L, 6, none⟩ = some (.int .i64 0) ∧ w'.cell? ⟨L, 10, none⟩ = some (.int .i64 t.size)) 17 (inText 17 1) (by kernel_rfl) (by kernel_rfl) ⟨c2, c6, c10⟩ ?_
      simp only [inText, List.range, List.range.loop, List.map, List.cons_append, List.nil_append, Nat.reduceAdd]
      iterate 17 (refine Front.still' (v := ?_) rfl (Or.inl ⟨by rfl, ?_⟩) (fun _ _ _ h => h) ?_; rotate_left 1; (focus (intro w hSw; (try dsimp only at hSw); go_simp; all_goals (with_reducible rfl))); (try simp only [Act.put, List.setIfInBounds_toArray, List.set_cons_zero, List.set_cons_succ]))
      refine Front.act' rfl (fun K hK => ?_)
      go_simp
      go_at_call 69
      refine (Hc.out.emit_full (w := wr.drew) (by omega) (by decide) 14 (t.extract 1 (t.size - 1))).mono ?_
      rintro e w2 ⟨rfl, ⟨g, cap, fa', h2⟩, b2⟩
      refine hK.out _ _ (fun h => absurd rfl h) ?_
      clear hK K
      refine Front.done ?_
      replace bb := bb.trans ((⟨b2.os, b2.tape, b2.output, b2.size, b2.block⟩ : Below L wr w2).mono hL)
      clear Hc c2 c6 c10 b2
      have Hc := Lib.hid h2
      clear h2
      have hp : t.size ≤ 1000010 := by omega
      go_wp2_with (first | (go_at_call 63; refine (Hc.out.reset hp).mono ?_; rintro e w2 ⟨rfl, h2, b2⟩; replace bb := bb.trans (b2.mono hL); clear Hc b2; have Hc := Lib.hid h2; clear h2))
      rw [rounds_succ]
      go_wp2_with (first
        | (go_at_call 60; refine (Hc.out.white hend.out HE.out).mono ?_; rintro e w2 ⟨rfl, h2, b2⟩; replace bb := bb.trans (b2.mono bb.size); clear Hc b2; have Hc := Lib.hid h2; clear h2)
        | (go_at_call 61; refine (Hc.out.peek_eof hend.out).mono ?_; rintro e w2 ⟨rfl, h2, b2⟩; replace bb := bb.trans (b2.mono bb.size); clear Hc b2; have Hc := Lib.hid h2; clear h2)
        | (go_at_call 62; refine (Hc.out.next_eof hend.out).mono ?_; rintro e w2 ⟨rfl, h2, b2⟩; replace bb := bb.trans (b2.mono bb.size); clear Hc b2; have Hc := Lib.hid h2; clear h2)
        | (go_at_call 63; refine (Hc.out.reset hp).mono ?_; rintro e w2 ⟨rfl, h2, b2⟩; replace bb := bb.trans (b2.mono hL); clear Hc b2; have Hc := Lib.hid h2; clear h2)
        | (go_at_call 65; refine (Hc.out.emit hp (by decide) (Nat.le_refl _) (Nat.le_refl _) 36).mono ?_; rintro e w2 ⟨rfl, ⟨g2, cap2, fb', h2⟩, b2⟩; replace bb := bb.trans (b2.mono hL); clear Hc b2; have c4 := cell_of_heap h2.1 4; simp at c4; have Hc := Lib.hid h2; clear h2))
      have hx := Hc.out.2.1
      rw [show t.extract t.size t.size = ⟨#[]⟩ by simp; rfl] at hx
      exact bodyPost_ret (v := .tuple #[.slice (some ⟨g2, 0, none⟩) 2 cap2, .nilIface]) (by simp [results, Tryz.results50, go_sem]) rfl ⟨⟨L + 1, S, g2, cap2, _, _, by omega, rfl, by simpa using hx⟩, bb⟩
    · have hqn : ((x : Int) == 34) = false := by simp; omega
      obtain ⟨y, l, rfl⟩ : ∃ y l', l = y :: l' := by
        cases l with
        | nil => exact absurd (by simpa [scanOk] using hsc) hq
        | cons y l => exact ⟨y, l, rfl⟩
      have y10 : y ≠ 10 := l10 y (by simp)
      have L10' := Lib.hid (fun z hz => l10 z (List.mem_cons_of_mem _ hz) : ∀ z ∈ l, z ≠ 10)
      have hT' := Lib.hid hT.next.2.1
      have HT' := Lib.hid hT
      clear hT l10
      by_cases hb : x = 92
      · subst hb
        have hsc' : scanOk 34 l = true := by simpa [scanOk] using hsc
        obtain ⟨z, l, rfl⟩ : ∃ z l', l = z :: l' := by
          cases l with
          | nil => simp [scanOk] at hsc'
          | cons z l => exact ⟨z, l, rfl⟩
        have hy1 : ((y : Int) != -1) = true := by simp
        have z10 : z ≠ 10 := L10'.out z (by simp)
        have HSC := Lib.hid hsc'
        clear hsc hsc'
        go_wp2_with (first
          | (go_at_call 61; refine (Hc.out.peek HT'.out).mono ?_; rintro e w2 ⟨rfl, h2, b2⟩; replace bb := bb.trans (b2.mono bb.size); clear Hc b2; have Hc := Lib.hid h2; clear h2)
          | (go_at_call 62; refine (Hc.out.next HT'.out hs y10 (Or.inl rfl)).mono ?_; rintro e w2 ⟨rfl, h2, b2⟩; replace bb := bb.trans (b2.mono hL); clear Hc b2; have Hc := Lib.hid h2; clear h2)
          | (go_at_call 62; refine (Hc.out.next hT'.out hs z10 (Or.inl rfl)).mono ?_; rintro e w2 ⟨rfl, h2, b2⟩; replace bb := bb.trans (b2.mono hL); clear Hc b2; have Hc := Lib.hid h2; clear h2))
        go_roundg (l.length + 1)
        case measure => simp
        case rel => exact ⟨_, z, l, rfl, rfl, hT'.out.next.2.1, HSC.out, fun a ha => L10'.out a (List.mem_cons_of_mem _ ha), Hc, bb⟩
      · have hbn : ((x : Int) == 92) = false := by simp; omega
        have hsc' : scanOk 34 (y :: l) = true := by simpa [scanOk, if_neg hq, if_neg hb] using hsc
        have HSC := Lib.hid hsc'
        clear hsc hsc'
        go_wp2_with (first
          | (go_at_call 62; refine (Hc.out.next HT'.out hs y10 (Or.inl rfl)).mono ?_; rintro e w2 ⟨rfl, h2, b2⟩; replace bb := bb.trans (b2.mono hL); clear Hc b2; have Hc := Lib.hid h2; clear h2))
        go_roundg (l.length + 1)
        case measure => simp
        case rel => exact ⟨_, y, l, rfl, rfl, hT'.out, HSC.out, L10'.out, Hc, bb⟩

end Go.Proofs.YtmggbhfdomlmcaaGreatFmt
