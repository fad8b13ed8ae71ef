/-
  What the parser says of a name.
-/
import Derived.Test.YtmggbhfdomlmcaaGreatFmtWalkC
import Derived.Lib.RuneLoops
import Derived.Laws.RangeAny
import Derived.Lib.OthersKept
import Derived.Deep.LoopGhost
namespace Go.Proofs.YtmggbhfdomlmcaaGreatFmt
open Go.RowKit

theorem first_high (c : Int) (h : 128 ≤ c) : firstB c = false := by simp [firstB, upB, lowB]; omega
theorem ident_high (c : Int) (h : 128 ≤ c) : identB c = false := by simp [identB, first_high c h, numB]; omega

set_option maxRecDepth 100000 in
set_option maxHeartbeats 6400000 in
theorem valid_any (s : ByteArray) (hs : s.size ≤ 2000) (r : Bool) (hr : r = true ↔ NameOk s) (w : World) :
    Calls Tryz.prog 15 #[.string s] w fun e w' => e = .returned (.bool r) ∧ Below w.heap.size w w' := by
  have HR := Lib.hid hr
  clear hr
  by_cases hz : s.size = 0
  · have hF : r = false := by
      cases h : r
      · rfl
      · have := (HR.out.1 h).1
        omega
    subst hF
    have hz' : (s.size : Int) = 0 := by omega
    go_enter Tryz.func15, Tryz.ntmps15
    go_wp2_with fail
    go_ret
    exact ⟨rfl, Below.refl _ _⟩
  · have hz' : ((s.size : Int) == 0) = false := by
      have : (s.size : Int) ≠ 0 := by omega
      simpa using this
    go_enter Tryz.func15, Tryz.ntmps15
    go_wp2_with fail
    go_loopg [3] s.size (fun n _ wr => ∃ k, n = s.size - k ∧ k ≤ s.size ∧ wr.heap[w.heap.size]? = some (.stringIter s k) ∧ Below w.heap.size w wr ∧ ∀ j (h : j < s.size), j < k → okAt j (s[j]'h) = true)
    case atStart =>
      refine ⟨0, rfl, Nat.zero_le _, ?_, (Below.refl _ w).alloc (Nat.le_refl _) _, fun j _ hj => by omega⟩
      have := World.iter_heap w s 0
      simpa using this
    case round =>
      obtain ⟨k, rfl, hk, hit, hbw, hok⟩ := hrel
      have HO := Lib.hid hok
      clear hok
      by_cases hp : k < s.size
      · have hnx : ∀ ty, (Instr.next (.pointer (some ⟨w.heap.size, 0, none⟩)) true ty).run Tryz.prog wr = _ := fun ty => Lib.run_next_any_at wr w.heap.size s k ty hit hp
        have hit2 := Lib.iterAt_heap wr w.heap.size s k (k + (Utf8.decode s k).2) hit
        have hbw2 := Lib.below_iterAt hbw (k := w.heap.size) (by omega) s (k + (Utf8.decode s k).2)
        by_cases ha : (s[k]'hp).toNat < 128
        · rw [Go.decode_ascii s k hp ha] at hnx hit2 hbw2
          cases hF : firstB ((s[k]'hp).toNat : Int)
          · by_cases h0 : k = 0
            · subst h0
              go_wp2_with (first | (go_at_call 29; refine (first_any _ _).mono ?_; rintro e w' ⟨rfl, rfl⟩) | (go_at_call 30; refine (ident_any _ _).mono ?_; rintro e w' ⟨rfl, rfl⟩))
              go_ret
              have : r = false := by
                cases h : r
                · rfl
                · have := (HR.out.1 h).2.1 0 hp
                  simp [okAt, hF] at this
              rw [this]
              exact ⟨rfl, hbw2⟩
            · have e0 : ((k : Int) == 0) = false := by simpa using h0
              cases hN : identB ((s[k]'hp).toNat : Int)
              · go_wp2_with (first | (go_at_call 29; refine (first_any _ _).mono ?_; rintro e w' ⟨rfl, rfl⟩) | (go_at_call 30; refine (ident_any _ _).mono ?_; rintro e w' ⟨rfl, rfl⟩))
                go_ret
                have : r = false := by
                  cases h : r
                  · rfl
                  · have := (HR.out.1 h).2.1 k hp
                    simp [identB, hF] at hN
                    simp [okAt, hF, hN] at this
                rw [this]
                exact ⟨rfl, hbw2⟩
              · go_wp2_with (first | (go_at_call 29; refine (first_any _ _).mono ?_; rintro e w' ⟨rfl, rfl⟩) | (go_at_call 30; refine (ident_any _ _).mono ?_; rintro e w' ⟨rfl, rfl⟩))
                go_roundg (s.size - (k + 1))
                case measure => omega
                case rel =>
                  refine ⟨k + 1, rfl, by omega, hit2, hbw2, fun j h hj => ?_⟩
                  by_cases e : j = k
                  · subst e; simp [identB, hF] at hN; simp [okAt, hN, h0]
                  · exact HO.out j h (by omega)
          · have hI : identB ((s[k]'hp).toNat : Int) = true := by simp [identB, hF]
            by_cases h0 : k = 0
            · subst h0
              go_wp2_with (first | (go_at_call 29; refine (first_any _ _).mono ?_; rintro e w' ⟨rfl, rfl⟩) | (go_at_call 30; refine (ident_any _ _).mono ?_; rintro e w' ⟨rfl, rfl⟩))
              go_roundg (s.size - (0 + 1))
              case measure => omega
              case rel =>
                refine ⟨0 + 1, rfl, by omega, hit2, hbw2, fun j h hj => ?_⟩
                obtain rfl : j = 0 := by omega
                simp [okAt, hF]
            · have e0 : ((k : Int) == 0) = false := by simpa using h0
              go_wp2_with (first | (go_at_call 29; refine (first_any _ _).mono ?_; rintro e w' ⟨rfl, rfl⟩) | (go_at_call 30; refine (ident_any _ _).mono ?_; rintro e w' ⟨rfl, rfl⟩))
              go_roundg (s.size - (k + 1))
              case measure => omega
              case rel =>
                refine ⟨k + 1, rfl, by omega, hit2, hbw2, fun j h hj => ?_⟩
                by_cases e : j = k
                · subst e; simp [okAt, hF]
                · exact HO.out j h (by omega)
        · have hh := Go.decode_high s k hp (by omega)
          have hF1 := first_high ((Utf8.decode s k).1 : Int) (by omega)
          have hI1 := ident_high ((Utf8.decode s k).1 : Int) (by omega)
          have hrf : r = false := by
            cases h : r
            · rfl
            · have := (HR.out.1 h).2.1 k hp
              have h1 := first_high ((s[k]'hp).toNat : Int) (by omega)
              simp [okAt, h1, numB] at this
              omega
          subst hrf
          by_cases h0 : k = 0
          · subst h0
            go_wp2_with (first | (go_at_call 29; refine (first_any _ _).mono ?_; rintro e w' ⟨rfl, rfl⟩) | (go_at_call 30; refine (ident_any _ _).mono ?_; rintro e w' ⟨rfl, rfl⟩))
            go_ret
            exact ⟨rfl, by simpa using hbw2⟩
          · have e0 : ((k : Int) == 0) = false := by simpa using h0
            go_wp2_with (first | (go_at_call 29; refine (first_any _ _).mono ?_; rintro e w' ⟨rfl, rfl⟩) | (go_at_call 30; refine (ident_any _ _).mono ?_; rintro e w' ⟨rfl, rfl⟩))
            go_ret
            exact ⟨rfl, hbw2⟩
      · have hnx : ∀ ty, (Instr.next (.pointer (some ⟨w.heap.size, 0, none⟩)) true ty).run Tryz.prog wr = _ := fun ty => Lib.run_next_end_at wr w.heap.size s k ty hit hp
        have hk2 : k = s.size := by omega
        subst hk2
        by_cases hm : s.data.toList ∈ keys
        · have hrf : r = false := by
            cases h : r
            · rfl
            · exact absurd hm (HR.out.1 h).2.2
          subst hrf
          have HK := Lib.hid (fun w => kind_key s w hm)
          clear hm
          go_wp2_with (go_at_call 31; refine (HK.out _).mono ?_; rintro e w' ⟨_, ⟨n, hn, rfl⟩, rfl⟩; have hn' : (n == 10) = false := by simpa using hn)
          go_ret
          exact ⟨rfl, hbw⟩
        · have hrt : r = true := HR.out.2 ⟨by omega, fun j hj => HO.out j hj hj, hm⟩
          subst hrt
          have HK := Lib.hid (fun w => kind_name s w hm)
          clear hm
          go_wp2_with (go_at_call 31; refine (HK.out _).mono ?_; rintro e w' ⟨rfl, rfl⟩)
          go_ret
          exact ⟨rfl, hbw⟩

theorem implname_any (s : ByteArray) (hs : s.size ≤ 2000) (r : Bool) (hr : r = true ↔ NameOk s) (w : World) :
    Calls Tryz.prog 8 #[.string s] w fun e w' => e = .returned (.bool r) ∧ Below w.heap.size w w' := by
  have HR := Lib.hid hr
  clear hr
  go_enter Tryz.func8, Tryz.ntmps8
  go_wp2_with (go_at_call 15; refine (valid_any s hs r HR.out w).mono ?_; rintro e w1 ⟨rfl, b1⟩)
  go_ret
  exact ⟨rfl, b1⟩

end Go.Proofs.YtmggbhfdomlmcaaGreatFmt
