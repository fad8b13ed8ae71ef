/-
  A name: what the parser's IsValidIdentifier and the reference's IsName answer: one and the same.
-/
import Derived.Test.YtmggbhfdomlmcaaGreatFmtWalkB
import Derived.LoopTactic
import Derived.Outline
import Derived.Test.YtmggbhfdomlmcaaGreatFmtMemA
namespace Go.Proofs.YtmggbhfdomlmcaaGreatFmt
open Go.RowKit

theorem has_any (b n : Nat) (ks : List ByteArray) (hn2 : n ≤ 1000) (s : ByteArray) (w : World)
    (hc : ∀ j, j < n → w.cell? ⟨b, j, none⟩ = some (.string (ks.getD j ByteArray.empty))) (r : Bool)
    (hr : r = true ↔ ∃ j, j < n ∧ (ks.getD j ByteArray.empty).toList = s.toList) :
    Calls Tryz.prog 18 #[.slice (some ⟨b, 0, none⟩) n n, .string s] w fun e w' => e = .returned (.bool r) ∧ w = w' := by
  have HR := Lib.hid hr
  clear hr
  go_enter Tryz.func18, Tryz.ntmps18
  go_wp2
  go_loop [9] (fun i => ∃ k : Nat, k ≤ n ∧ i = .int .i64 k ∧ ∀ j, j < k → (ks.getD j ByteArray.empty).toList ≠ s.toList) (fun i => n - (intOf i).toNat)
  case atStart => exact ⟨0, Nat.zero_le _, rfl, fun j hj => by omega⟩
  case round =>
    obtain ⟨k, hk, rfl, hno⟩ := hrel
    have HN := Lib.hid hno
    clear hno
    by_cases hlt : k < n
    · have hck := hc k hlt
      obtain ⟨x, hx⟩ : ∃ x, ks.getD k ByteArray.empty = x := ⟨_, rfl⟩
      rw [hx] at hck
      have HX := Lib.hid hx
      clear hx hc
      cases hq : (x.toList == s.toList)
      · go_wp2
        go_round
        case rel =>
          refine ⟨k + 1, by omega, by go_num, fun j hj => ?_⟩
          by_cases e : j = k
          · subst e; rw [HX.out]; intro e2; rw [e2] at hq; simp at hq
          · exact HN.out j (by omega)
        case measure => simp [intOf]; omega
      · go_wp2
        go_ret
        refine ⟨?_, rfl⟩
        rw [HR.out.2 ⟨k, hlt, by rw [HX.out]; simpa using hq⟩]
        rfl
    · clear hc
      go_wp2
      go_ret
      refine ⟨?_, rfl⟩
      have : r = false := by
        cases h : r
        · rfl
        · obtain ⟨j, hj, e⟩ := HR.out.1 h
          exact absurd e (HN.out j (by omega))
      rw [this]
      rfl

/-- The cells of the list of words. -/
def keyCells : Array Value := (keys.map fun l => Value.string ⟨l.toArray⟩).toArray

theorem keys_any (w : World) : Calls Tryz.prog 19 #[] w fun e w' => e = .returned (.slice (some ⟨w.heap.size, 0, none⟩) 18 18) ∧ w.alloc (.cells keyCells 9) = w' := by
  go_enter Tryz.func19, Tryz.ntmps19
  go_wp2
  go_ret
  exact ⟨rfl, rfl⟩

/-- May this byte stand at this place of a name? -/
def okAt (i : Nat) (c : UInt8) : Bool := firstB (c.toNat : Int) || (decide (i ≠ 0) && numB (c.toNat : Int))

/-- What a name is. -/
def NameOk (s : ByteArray) : Prop := 0 < s.size ∧ (∀ i (h : i < s.size), okAt i (s[i]'h) = true) ∧ s.data.toList ∉ keys

theorem keyCells_at (w : World) (j : Nat) (hj : j < 18) : (w.alloc (.cells keyCells 9)).cell? ⟨w.heap.size, j, none⟩ = some (.string ((keys.map fun l => (⟨l.toArray⟩ : ByteArray)).getD j ByteArray.empty)) := by
  have hk : keys.length = 18 := rfl
  have : (w.alloc (.cells keyCells 9)).cell? ⟨w.heap.size, j, none⟩ = keyCells[j]? := cell_of_heap (heap_new _ _) j
  rw [this]
  unfold keyCells
  rw [List.getElem?_toArray, List.getElem?_map, List.getElem?_eq_getElem (by omega)]
  simp [List.getD, List.getElem?_eq_getElem (show j < keys.length by omega)]

theorem isname_any (s : ByteArray) (hs : s.size ≤ 2000) (r : Bool) (hr : r = true ↔ NameOk s) (w : World) :
    Calls Tryz.prog 9 #[.string s] w fun e w' => e = .returned (.bool r) ∧ Below w.heap.size w w' := by
  have HR := Lib.hid hr
  clear hr
  go_enter Tryz.func9, Tryz.ntmps9
  go_wp2
  go_loop [6] (fun i => ∃ k : Nat, k ≤ s.size ∧ i = .int .i64 k ∧ ∀ j (h : j < s.size), j < k → okAt j (s[j]'h) = true) (fun i => s.size - (intOf i).toNat)
  case atStart => exact ⟨0, Nat.zero_le _, rfl, fun j _ hj => by omega⟩
  case round =>
    obtain ⟨k, hk, rfl, hok⟩ := hrel
    have HO := Lib.hid hok
    clear hok
    by_cases hlt : k < s.size
    · cases hF : firstB ((s[k]'hlt).toNat : Int)
      · by_cases h0 : k = 0
        · subst h0
          go_wp2_with (first | (go_at_call 16; refine (letter_any _ _).mono ?_; rintro e w' ⟨rfl, rfl⟩) | (go_at_call 17; refine (digit_any _ _).mono ?_; rintro e w' ⟨rfl, rfl⟩))
          go_ret
          have : r = false := by
            cases h : r
            · rfl
            · have := (HR.out.1 h).2.1 0 hlt
              simp [okAt, hF] at this
          rw [this]
          exact ⟨rfl, Below.refl _ _⟩
        · have e0 : ((k : Int) == 0) = false := by simpa using h0
          cases hN : numB ((s[k]'hlt).toNat : Int)
          · go_wp2_with (first | (go_at_call 16; refine (letter_any _ _).mono ?_; rintro e w' ⟨rfl, rfl⟩) | (go_at_call 17; refine (digit_any _ _).mono ?_; rintro e w' ⟨rfl, rfl⟩))
            go_ret
            have : r = false := by
              cases h : r
              · rfl
              · have := (HR.out.1 h).2.1 k hlt
                simp [okAt, hF, hN] at this
            rw [this]
            exact ⟨rfl, Below.refl _ _⟩
          · go_wp2_with (first | (go_at_call 16; refine (letter_any _ _).mono ?_; rintro e w' ⟨rfl, rfl⟩) | (go_at_call 17; refine (digit_any _ _).mono ?_; rintro e w' ⟨rfl, rfl⟩))
            go_round
            case rel =>
              refine ⟨k + 1, by omega, by go_num, fun j h hj => ?_⟩
              by_cases e : j = k
              · subst e; simp [okAt, hN, h0]
              · exact HO.out j h (by omega)
            case measure => simp [intOf]; omega
      · go_wp2_with (first | (go_at_call 16; refine (letter_any _ _).mono ?_; rintro e w' ⟨rfl, rfl⟩) | (go_at_call 17; refine (digit_any _ _).mono ?_; rintro e w' ⟨rfl, rfl⟩))
        go_round
        case rel =>
          refine ⟨k + 1, by omega, by go_num, fun j h hj => ?_⟩
          by_cases e : j = k
          · subst e; simp [okAt, hF]
          · exact HO.out j h (by omega)
        case measure => simp [intOf]; omega
    · by_cases hz : s.size = 0
      · go_wp2
        go_ret
        have : r = false := by
          cases h : r
          · rfl
          · have := (HR.out.1 h).1
            omega
        rw [this]
        exact ⟨rfl, Below.refl _ _⟩
      · obtain ⟨q, hq⟩ : ∃ q : Bool, q = true ↔ s.data.toList ∈ keys := ⟨decide (s.data.toList ∈ keys), by simp⟩
        have hq2 : q = true ↔ ∃ j, j < 18 ∧ ((keys.map fun l => (⟨l.toArray⟩ : ByteArray)).getD j ByteArray.empty).toList = s.toList := by
          rw [hq, Lib.toList_data]
          constructor
          · intro h
            obtain ⟨j, hj, e⟩ := List.getElem_of_mem h
            have hk : keys.length = 18 := rfl
            exact ⟨j, by omega, by rw [Lib.toList_data]; simp [List.getD, List.getElem?_eq_getElem hj, e]⟩
          · rintro ⟨j, hj, e⟩
            have hk : keys.length = 18 := rfl
            rw [Lib.toList_data] at e
            simp [List.getD, List.getElem?_eq_getElem (show j < keys.length by omega)] at e
            rw [← e]
            exact List.getElem_mem _
        have HQ := Lib.hid hq2
        have HQ1 := Lib.hid hq
        clear hq hq2
        go_wp2_with (first | (go_at_call 19; refine (keys_any _).mono ?_; rintro e w' ⟨rfl, rfl⟩) | (go_at_call 18; refine (has_any w.heap.size 18 (keys.map fun l => (⟨l.toArray⟩ : ByteArray)) (by omega) s _ (keyCells_at w) q HQ.out).mono ?_; rintro e w' ⟨rfl, rfl⟩))
        go_ret
        have : r = !q := by
          rw [Bool.eq_iff_iff, HR.out]
          unfold NameOk
          have hk2 : k = s.size := by omega
          subst hk2
          cases h : q
          · simp only [Bool.not_false, iff_true]
            exact ⟨by omega, fun j hj => HO.out j hj hj, fun hm => by rw [← HQ1.out, h] at hm; cases hm⟩
          · simp only [Bool.not_true, Bool.false_eq_true, iff_false]
            intro hm
            exact hm.2.2 (HQ1.out.1 h)
        rw [this]
        exact ⟨rfl, (Below.refl _ _).alloc (Nat.le_refl _) _⟩

end Go.Proofs.YtmggbhfdomlmcaaGreatFmt
