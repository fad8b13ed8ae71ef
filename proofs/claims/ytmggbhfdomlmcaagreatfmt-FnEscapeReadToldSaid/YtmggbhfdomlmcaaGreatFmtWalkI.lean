/-
  The lexer on a name.
-/
import Derived.Test.YtmggbhfdomlmcaaGreatFmtWalkH
import Derived.LoopN
import Derived.Handy
namespace Go.Proofs.YtmggbhfdomlmcaaGreatFmt
open Go.RowKit

/-- The runes that a name does not begin with, and of which the lexer asks. -/
theorem first_ne {r : Int} (h : firstB r = true) : (r == 123) = false ∧ (r == 125) = false ∧ (r == 91) = false ∧ (r == 93) = false ∧ (r == 44) = false ∧ (r == 46) = false ∧ (r == 40) = false ∧ (r == 41) = false ∧ (r == 59) = false ∧ (r == 48) = false ∧ (r == 49) = false ∧ (r == 50) = false ∧ (r == 51) = false ∧ (r == 52) = false ∧ (r == 53) = false ∧ (r == 54) = false ∧ (r == 55) = false ∧ (r == 56) = false ∧ (r == 57) = false ∧ (r == 34) = false ∧ (r == 39) = false ∧ (r == 64) = false ∧ (r == -1) = false := by
  simp [firstB, upB, lowB] at h
  simp
  omega

set_option maxRecDepth 100000 in
set_option maxHeartbeats 6400000 in
theorem lex_name (df imf t : ByteArray) (hs : t.size ≤ 1000000) (r : Nat) (rs : List Nat) (hT : Tail t 0 (r :: rs)) (hr : firstB r = true) (hrs : ∀ x ∈ rs, identB x = true)
    (kd : Int) (hk : ∀ w, Calls Tryz.prog 31 #[.string t] w fun e w' => e = .returned (.int .i64 kd) ∧ w = w') (w : World) (h2 : 2 ≤ w.heap.size) (hU : Lib.Utf8Tabs 0 1 w) :
    Calls Tryz.prog 50 #[.string df, .string imf, .string t] w fun e w' => (∃ B S g cap fa fb, w.heap.size ≤ B ∧ e = .returned (.tuple #[.slice (some ⟨g, 0, none⟩) 2 cap, .nilIface]) ∧
      w'.ownsRow B 249 11 (.slice (some ⟨g, 0, none⟩) 2 cap) 2 (tokCells fa t S imf 1 1 1 ((t.size : Int) + 1) kd ++ tokCells fb ⟨#[]⟩ S imf 1 ((t.size : Int) + 1) 1 ((t.size : Int) + 1) 36)) ∧ Below w.heap.size w w' := by
  have h10 : ∀ x ∈ r :: rs, x ≠ 10 := by
    intro x hx e
    subst e
    rcases List.mem_cons.1 hx with h | h
    · subst h; exact absurd hr (by decide)
    · exact absurd (hrs _ h) (by decide)
  have hne := first_ne hr
  obtain ⟨n1, n2, n3, n4, n5, n6, n7, n8, n9, n10, n11, n12, n13, n14, n15, n16, n17, n18, n19, n20, n21, n22, n23⟩ := hne
  have HT := Lib.hid hT
  have HR := Lib.hid hrs
  have HK := Lib.hid hk
  have h10' := Lib.hid h10
  have hend := Lib.hid hT.skip_all
  clear hT hrs hk h10
  have hw0 : ∀ x l, r :: rs = x :: l → wsB x = false := fun x l e => by obtain ⟨rfl, rfl⟩ := List.cons.inj e; exact white_of_first hr
  have HW := Lib.hid hw0
  clear hw0
  have hwe : ∀ (x : Nat) (l : List Nat), ([] : List Nat) = x :: l → wsB x = false := fun x l e => by cases e
  have HE := Lib.hid hwe
  clear hwe
  go_enter Tryz.func50, Tryz.ntmps50
  go_wp2_with (go_at_call 59; refine (maker_any df imf t hs _ HT.out h10'.out w h2 hU).mono ?_; rintro e w1 ⟨⟨L, S, hL, rfl, h1⟩, bb⟩; have Hc := Lib.hid h1; clear h1)
  refine wp_loop_rounds 2 ?_
  rw [rounds_succ]
  go_wp2_with (first
    | (go_at_call 60; refine (Hc.out.white HT.out HW.out).mono ?_; rintro e w2 ⟨rfl, h2, b2⟩; replace bb := bb.trans (b2.mono bb.size); clear Hc b2; have Hc := Lib.hid h2; clear h2)
    | (go_at_call 61; refine (Hc.out.peek HT.out).mono ?_; rintro e w2 ⟨rfl, h2, b2⟩; replace bb := bb.trans (b2.mono bb.size); clear Hc b2; have Hc := Lib.hid h2; clear h2)
    | (go_at_call 63; refine (Hc.out.reset (by decide)).mono ?_; rintro e w2 ⟨rfl, h2, b2⟩; replace bb := bb.trans (b2.mono hL); clear Hc b2; have Hc := Lib.hid h2; clear h2)
    | (go_at_call 29; refine (first_any _ _).mono ?_; rintro e w' ⟨rfl, rfl⟩)
    | (go_at_call 70; refine (Hc.out.name (by decide) hs HT.out hr HR.out kd HK.out).mono ?_; rintro e w2 ⟨rfl, ⟨g, cap, fa', fr', h2⟩, b2⟩; replace bb := bb.trans (b2.mono hL); clear Hc b2; have Hc := Lib.hid h2; clear h2))
  rw [rounds_succ]
  have hp : t.size ≤ 1000010 := by omega
  go_wp2_with (first
    | (go_at_call 60; refine (Hc.out.white hend.out HE.out).mono ?_; rintro e w2 ⟨rfl, h2, b2⟩; replace bb := bb.trans (b2.mono bb.size); clear Hc b2; have Hc := Lib.hid h2; clear h2)
    | (go_at_call 61; refine (Hc.out.peek_eof hend.out).mono ?_; rintro e w2 ⟨rfl, h2, b2⟩; replace bb := bb.trans (b2.mono bb.size); clear Hc b2; have Hc := Lib.hid h2; clear h2)
    | (go_at_call 62; refine (Hc.out.next_eof hend.out).mono ?_; rintro e w2 ⟨rfl, h2, b2⟩; replace bb := bb.trans (b2.mono bb.size); clear Hc b2; have Hc := Lib.hid h2; clear h2)
    | (go_at_call 63; refine (Hc.out.reset hp).mono ?_; rintro e w2 ⟨rfl, h2, b2⟩; replace bb := bb.trans (b2.mono hL); clear Hc b2; have Hc := Lib.hid h2; clear h2)
    | (go_at_call 65; refine (Hc.out.emit hp (by decide) (Nat.le_refl _) (Nat.le_refl _) 36).mono ?_; rintro e w2 ⟨rfl, ⟨g2, cap2, fb', h2⟩, b2⟩; replace bb := bb.trans (b2.mono hL); clear Hc b2; have c4 := cell_of_heap h2.1 4; simp at c4; have Hc := Lib.hid h2; clear h2))
  have hx := Hc.out.2.1
  rw [show t.extract t.size t.size = ⟨#[]⟩ by simp; rfl] at hx
  exact bodyPost_ret (v := .tuple #[.slice (some ⟨g2, 0, none⟩) 2 cap2, .nilIface]) (by simp [results, Tryz.results50, go_sem]) rfl ⟨⟨L + 1, S, g2, cap2, _, _, by omega, rfl, by simpa using hx⟩, bb⟩

end Go.Proofs.YtmggbhfdomlmcaaGreatFmt
