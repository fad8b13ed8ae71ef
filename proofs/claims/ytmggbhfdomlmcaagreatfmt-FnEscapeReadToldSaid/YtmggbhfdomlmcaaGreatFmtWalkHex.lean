/-
  The reference's figures of base 16.
-/
import Derived.Test.YtmggbhfdomlmcaaGreatFmtPlainG
import Derived.Test.YtmggbhfdomlmcaaGreatFmtWalkB
import Derived.Deep.LoopGhost
import Derived.Lib.Hide
namespace Go.Proofs.YtmggbhfdomlmcaaGreatFmt
open Go.RowKit

theorem wrap_u8 (d : Nat) (h : d < 256) : IntKind.u8.wrap (d : Int) = (d : Int) := by
  unfold IntKind.wrap; simp [IntKind.bits, IntKind.signed]; omega

set_option maxRecDepth 100000 in
set_option maxHeartbeats 1600000 in
theorem hex_low (k : Nat) (h : k < 10) (w : World) : Calls Tryz.prog 54 #[.int .u8 (48 + (k : Int))] w fun e w' => e = .returned (.int .i64 k) ∧ w = w' := by
  have hN : numB (48 + (k : Int)) = true := by simp [numB]; omega
  have h5 : 48 + (k : Int) - 48 = (k : Int) := by omega
  have hw := wrap_u8 k (by omega)
  go_enter Tryz.func54, Tryz.ntmps54
  go_wp2_with (go_at_call 17; refine (digit_any _ _).mono ?_; rintro e w' ⟨rfl, rfl⟩)
  go_ret
  exact ⟨rfl, rfl⟩

set_option maxRecDepth 100000 in
set_option maxHeartbeats 1600000 in
theorem hex_high (k : Nat) (h : k < 6) (w : World) : Calls Tryz.prog 54 #[.int .u8 (97 + (k : Int))] w fun e w' => e = .returned (.int .i64 ((k : Int) + 10)) ∧ w = w' := by
  have hN : numB (97 + (k : Int)) = false := by simp [numB]; omega
  have h5 : 97 + (k : Int) - 97 = (k : Int) := by omega
  have hw := wrap_u8 k (by omega)
  have a1 : decide (97 ≤ 97 + (k : Int)) = true := by simp; omega
  have a2 : decide (97 + (k : Int) ≤ 102) = true := by simp; omega
  go_enter Tryz.func54, Tryz.ntmps54
  go_wp2_with (go_at_call 17; refine (digit_any _ _).mono ?_; rintro e w' ⟨rfl, rfl⟩)
  go_ret
  exact ⟨rfl, rfl⟩

theorem hex_any (k : Nat) (hk : k < 16) (w : World) : Calls Tryz.prog 54 #[.int .u8 (hexRune k)] w fun e w' => e = .returned (.int .i64 k) ∧ w = w' := by
  unfold hexRune
  split
  · rename_i h
    exact hex_low k h w
  · rename_i h
    have h1 := hex_high (k - 10) (by omega) w
    have e1 : 97 + ((k - 10 : Nat) : Int) = ((87 + k : Nat) : Int) := by omega
    have e2 : ((k - 10 : Nat) : Int) + 10 = (k : Int) := by omega
    rw [e1, e2] at h1
    exact h1

/-- What four reads at a byte of a text. -/
theorem hex_at (s : ByteArray) (i k : Nat) (hk : k < 16) (h : ∃ hi : i < s.size, s[i]'hi = UInt8.ofNat (hexRune k)) : ∃ hi : i < s.size, ((s[i]'hi).toNat : Int) = ((hexRune k : Nat) : Int) := by
  obtain ⟨hi, h⟩ := h
  refine ⟨hi, ?_⟩
  have := hexRune_lt k hk
  rw [h]
  simp
  omega

set_option maxRecDepth 100000 in
set_option maxHeartbeats 6400000 in
theorem four_any (s : ByteArray) (hs : s.size ≤ 1000000) (i r : Nat) (hr : r < 256) (h0 : ∃ hi : i < s.size, s[i]'hi = 48) (h1 : ∃ hi : i + 1 < s.size, s[i + 1]'hi = 48)
    (h2 : ∃ hi : i + 2 < s.size, s[i + 2]'hi = UInt8.ofNat (hexRune (r / 16))) (h3 : ∃ hi : i + 3 < s.size, s[i + 3]'hi = UInt8.ofNat (hexRune (r % 16))) (w : World) :
    Calls Tryz.prog 41 #[.string s, .int .i64 i] w fun e w' => e = .returned (.int .i64 r) ∧ w = w' := by
  obtain ⟨l0, g0⟩ := hex_at s i 0 (by omega) h0
  obtain ⟨l1, g1⟩ := hex_at s (i + 1) 0 (by omega) h1
  obtain ⟨l2, g2⟩ := hex_at s (i + 2) (r / 16) (by omega) h2
  obtain ⟨l3, g3⟩ := hex_at s (i + 3) (r % 16) (by omega) h3
  clear h0 h1 h2 h3
  have H0 := fun w => hex_any 0 (by omega) w
  have H2 := fun w => hex_any (r / 16) (by omega) w
  have H3 := fun w => hex_any (r % 16) (by omega) w
  rw [← g0] at H0
  have H1 := H0
  rw [g0, ← g1] at H1
  rw [← g2] at H2
  rw [← g3] at H3
  have K0 := Lib.hid H0
  have K1 := Lib.hid H1
  have K2 := Lib.hid H2
  have K3 := Lib.hid H3
  clear H0 H1 H2 H3 g0 g1 g2 g3
  have t1 : ((i : Int) + 1).toNat = i + 1 := by omega
  have t2 : ((i : Int) + 2).toNat = i + 2 := by omega
  have t3 : ((i : Int) + 3).toNat = i + 3 := by omega
  have p1 : (0 : Int) ≤ (i : Int) + 1 := by omega
  have p2 : (0 : Int) ≤ (i : Int) + 2 := by omega
  have p3 : (0 : Int) ≤ (i : Int) + 3 := by omega
  have q1 : (i : Int) + 1 < (s.size : Int) := by omega
  have q2 : (i : Int) + 2 < (s.size : Int) := by omega
  have q3 : (i : Int) + 3 < (s.size : Int) := by omega
  have q4 : decide ((s.size : Int) < (i : Int) + 4) = false := by simp; omega
  have q5 : decide (s.size < i + 4) = false := by simp; omega
  have h0 : (0 : Int) ≤ ((r / 16 : Nat) : Int) := Int.natCast_nonneg _
  have h1 : (0 : Int) ≤ ((r % 16 : Nat) : Int) := Int.natCast_nonneg _
  have h2 : decide (((r / 16 : Nat) : Int) < 0) = false := by simp; omega
  have h3 : decide (((r % 16 : Nat) : Int) < 0) = false := by simp; omega
  go_enter Tryz.func41, Tryz.ntmps41
  go_wp2_with fail
  refine wp_loop_rounds 5 ?_
  rw [rounds_succ]
  go_wp2_with (go_at_call 54; refine (K0.out _).mono ?_; rintro e w' ⟨rfl, rfl⟩)
  rw [rounds_succ]
  go_wp2_with (go_at_call 54; refine (K1.out _).mono ?_; rintro e w' ⟨rfl, rfl⟩)
  rw [rounds_succ]
  go_wp2_with (go_at_call 54; refine (K2.out _).mono ?_; rintro e w' ⟨rfl, rfl⟩)
  rw [rounds_succ]
  go_wp2_with (go_at_call 54; refine (K3.out _).mono ?_; rintro e w' ⟨rfl, rfl⟩)
  rw [rounds_succ]
  go_wp2_with fail
  exact bodyPost_ret (v := .int .i64 r) (by simp [results, Tryz.results41, go_sem]; omega) rfl ⟨rfl, rfl⟩

end Go.Proofs.YtmggbhfdomlmcaaGreatFmt
