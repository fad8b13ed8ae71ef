/-
  The parser on one token and the end, where the terminal leans on what the world bears.
-/
import Derived.Test.YtmggbhfdomlmcaaGreatFmtWalkL
namespace Go.Proofs.YtmggbhfdomlmcaaGreatFmt
open Go.RowKit

set_option maxRecDepth 1000000 in
set_option maxHeartbeats 12800000 in
theorem parse_one_in {P g cap : Nat} {xs : List Value} (kd : Int) (hkd : kd = 10 ∨ kd = 14 ∨ kd = 15) (hx : xs[10]? = some (.int .i64 kd)) (he : xs[21]? = some (.int .i64 36)) (R : Value → World → Prop) (hR : ∀ v w w', R v w → Below w.heap.size w w' → R v w')
    (I : World → Prop) (hI : ∀ w w', I w → Below w.heap.size w w' → I w') (hterm : ∀ w, I w → ParseAt P g cap xs 0 w → Calls Tryz.prog 100 #[.pointer (some ⟨P, 0, none⟩)] w fun e w' => ∃ v, e = .returned (.tuple #[v, .nilIface]) ∧ R v w' ∧ ParseAt P g cap xs 1 w' ∧ Below P w w') :
    ∀ n : Nat, n ≤ 16 → ∀ w, I w → ParseAt P g cap xs 0 w → Calls Tryz.prog 75 #[.pointer (some ⟨P, 0, none⟩), .int .i64 n] w fun e w' => ∃ v, e = .returned (.tuple #[v, .nilIface]) ∧ R v w' ∧ ParseAt P g cap xs 1 w' ∧ Below P w w' := by
  have n1 : (kd == 18) = false := by rcases hkd with rfl | rfl | rfl <;> rfl
  have n2 : (kd == 20) = false := by rcases hkd with rfl | rfl | rfl <;> rfl
  have n3 : (kd == 24) = false := by rcases hkd with rfl | rfl | rfl <;> rfl
  have n4 : (kd == 23) = false := by rcases hkd with rfl | rfl | rfl <;> rfl
  have n5 : (kd == 25) = false := by rcases hkd with rfl | rfl | rfl <;> rfl
  have n6 : (kd == 26) = false := by rcases hkd with rfl | rfl | rfl <;> rfl
  have n7 : (kd == 27) = false := by rcases hkd with rfl | rfl | rfl <;> rfl
  have n8 : (kd == 29) = false := by rcases hkd with rfl | rfl | rfl <;> rfl
  have n9 : (kd == 12) = false := by rcases hkd with rfl | rfl | rfl <;> rfl
  clear hkd
  have HR := Lib.hid hR
  have HT := Lib.hid hterm
  have HI := Lib.hid hI
  have HX := Lib.hid hx
  have HE := Lib.hid he
  clear hR hterm hx he hI
  intro n
  induction n with
  | zero =>
    intro _ w hi h
    have II := Lib.hid hi
    clear hi
    have H := Lib.hid h
    clear h
    go_enter Tryz.func75, Tryz.ntmps75
    go_wp2_with (first
      | (go_at_call 76; refine (H.out.peek (Or.inl rfl)).mono ?_; rintro e w1 ⟨rfl, h1, b1⟩; have c10 := h1.2.1 10 _ HX.out; have H1 := Lib.hid h1; clear h1; have I1 := Lib.hid (HI.out _ _ II.out b1))
      | (go_at_call 100; refine (HT.out _ I1.out H1.out).mono ?_; rintro e w2 ⟨v, rfl, r2, h2, b2⟩; have H2 := Lib.hid h2; have R2 := Lib.hid r2; clear h2 r2))
    exact bodyPost_ret (v := .tuple #[v, .nilIface]) (by simp [results, Tryz.results75, go_sem]) rfl ⟨v, rfl, R2.out, H2.out, (b1.mono (Nat.le_of_lt H.out.lt)).trans b2⟩
  | succ n ih =>
    intro hn w hi h
    have II := Lib.hid hi
    clear hi
    have H := Lib.hid h
    have IH := Lib.hid (ih (by omega))
    clear h ih
    have hw : IntKind.i64.wrap ((n : Int) + 1 - 1) = (n : Int) := by rw [Int.add_sub_cancel]; exact wrap_small _ (by omega) (by omega)
    have hw' : IntKind.i64.wrap (((n + 1 : Nat) : Int) - 1) = (n : Int) := by rw [Int.natCast_add]; exact hw
    have hz : (((n + 1 : Nat) : Int) == 0) = false := by simp; omega
    have hz' : ((n : Int) + 1 == 0) = false := by simp; omega
    go_enter Tryz.func75, Tryz.ntmps75
    go_wp2_with (first
      | (go_at_call 76; refine (H.out.peek (Or.inl rfl)).mono ?_; rintro e w1 ⟨rfl, h1, b1⟩; have c10 := h1.2.1 10 _ HX.out; have H1 := Lib.hid h1; clear h1; have I1 := Lib.hid (HI.out _ _ II.out b1))
      | (go_at_call 75; refine (IH.out _ I1.out H1.out).mono ?_; rintro e w2 ⟨v, rfl, r2, h2, b2⟩; have H2 := Lib.hid h2; have R2 := Lib.hid r2; clear h2 r2))
    refine wp_loop_once ?_
    go_wp2_with (first
      | (go_at_call 76; refine (H2.out.peek (Or.inr rfl)).mono ?_; rintro e w3 ⟨rfl, h3, b3⟩; have c21 := h3.2.1 21 _ HE.out; have H3 := Lib.hid h3; have R3 := Lib.hid (HR.out _ _ _ R2.out b3); clear h3))
    exact bodyPost_ret (v := .tuple #[v, .nilIface]) (by simp [results, Tryz.results75, go_sem]) rfl ⟨v, rfl, R3.out, H3.out, (b1.mono (Nat.le_of_lt H.out.lt)).trans (b2.trans (b3.mono (Nat.le_of_lt H2.out.lt)))⟩

end Go.Proofs.YtmggbhfdomlmcaaGreatFmt
