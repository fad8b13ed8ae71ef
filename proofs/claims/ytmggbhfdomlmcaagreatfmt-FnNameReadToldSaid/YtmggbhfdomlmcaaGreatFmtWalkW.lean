/-
  The law of names.
-/
import Derived.Test.YtmggbhfdomlmcaaGreatFmtWalkT
import Derived.Test.YtmggbhfdomlmcaaGreatFmtWalkU
import Derived.Test.YtmggbhfdomlmcaaGreatFmtWalkV
namespace Go.Proofs.YtmggbhfdomlmcaaGreatFmt
open Go.RowKit

theorem enc_bytes : ∀ l : List UInt8, (∀ b ∈ l, b.toNat < 128) → enc (l.map (·.toNat)) = l
  | [], _ => rfl
  | b :: l, h => by
    have h1 := enc_ascii b.toNat (h b List.mem_cons_self)
    simp only [List.map_cons, enc, h1, enc_bytes l (fun x hx => h x (List.mem_cons_of_mem _ hx))]
    simp

theorem ok_low {i : Nat} {c : UInt8} (h : okAt i c = true) : c.toNat < 128 := by
  have := c.toNat_lt
  simp [okAt, firstB, upB, lowB, numB] at h
  omega

theorem name_runes (s : ByteArray) (h : NameOk s) : ∃ r rs, Tail s 0 (r :: rs) ∧ firstB (r : Int) = true ∧ ∀ x ∈ rs, identB (x : Int) = true := by
  obtain ⟨h0, h1, _⟩ := h
  have hl : ∀ i (hi : i < s.data.toList.length), okAt i (s.data.toList[i]'hi) = true := fun i hi => by
    have := h1 i (by rw [data_size] at hi; exact hi)
    exact this
  have hn : s.data.toList.length ≠ 0 := by rw [data_size]; omega
  obtain ⟨l, hl2⟩ : ∃ l, l = s.data.toList := ⟨_, rfl⟩
  have hlow : ∀ b ∈ l, b.toNat < 128 := fun b hb => by
    rw [hl2] at hb
    obtain ⟨i, hi, e⟩ := List.getElem_of_mem hb
    have := ok_low (hl i hi)
    rwa [e] at this
  have henc := enc_bytes l hlow
  rw [← hl2] at hn
  have hl' : ∀ i (hi : i < l.length), okAt i (l[i]'hi) = true := by subst hl2; exact hl
  cases hc : l with
  | nil => rw [hc] at hn; exact absurd rfl hn
  | cons b t =>
    subst hc
    refine ⟨b.toNat, t.map (·.toNat), ⟨Nat.zero_le _, ?_, ?_⟩, ?_, ?_⟩
    · rw [List.drop_zero, ← hl2]
      exact henc.symm
    · intro x hx
      have hx' : x ∈ (b :: t).map (·.toNat) := hx
      obtain ⟨c, hc, rfl⟩ := List.mem_map.1 hx'
      have := hlow c hc
      unfold RuneOk
      omega
    · have := hl' 0 (by simp)
      simpa [okAt] using this
    · intro x hx
      obtain ⟨c, hc, rfl⟩ := List.mem_map.1 hx
      obtain ⟨i, hi, e⟩ := List.getElem_of_mem hc
      have := hl' (i + 1) (by simp; omega)
      simp only [List.getElem_cons_succ, e] at this
      simpa [okAt, identB] using this

set_option maxRecDepth 1000000 in
set_option maxHeartbeats 6400000 in
theorem name_law (s : ByteArray) (w : World) (h2 : 2 ≤ w.heap.size) (hU : Lib.Utf8Tabs 0 1 w) :
    Calls Tryz.prog 4 #[.string s] w fun e w' => e = .returned (.bool true) ∧ Below w.heap.size w w' := by
  by_cases hbig : 2147483647 < s.size
  · have hb : decide ((2147483647 : Int) < (s.size : Int)) = true := by simp; omega
    go_enter Tryz.func4, Tryz.ntmps4
    go_wp2_with fail
    go_ret
    exact ⟨rfl, Below.refl _ _⟩
  have hb : decide ((2147483647 : Int) < (s.size : Int)) = false := by simp; omega
  by_cases hlong : 2000 < s.size
  · have hl : decide ((2000 : Int) < (s.size : Int)) = true := by simp; omega
    go_enter Tryz.func4, Tryz.ntmps4
    go_wp2_with fail
    go_ret
    exact ⟨rfl, Below.refl _ _⟩
  have hl : decide ((2000 : Int) < (s.size : Int)) = false := by simp; omega
  have hs : s.size ≤ 2000 := by omega
  have hs' : s.size ≤ 1000000 := by omega
  clear hbig hlong
  obtain ⟨r, hr⟩ : ∃ r : Bool, r = true ↔ NameOk s := by
    by_cases h : NameOk s
    · exact ⟨true, by simp [h]⟩
    · exact ⟨false, by simp [h]⟩
  have HR := Lib.hid hr
  cases r
  · clear hr
    go_enter Tryz.func4, Tryz.ntmps4
    go_wp2_with (first
      | (go_at_call 8; refine (implname_any s hs false HR.out w).mono ?_; rintro e w1 ⟨rfl, b1⟩)
      | (go_at_call 9; refine (isname_any s hs false HR.out w1).mono ?_; rintro e w2 ⟨rfl, b2⟩))
    go_ret
    exact ⟨rfl, b1.trans (b2.mono b1.size)⟩
  · have hok := hr.1 rfl
    obtain ⟨c, cs, hT, hc, hcs⟩ := name_runes s hok
    have hk := fun w => kind_name s w hok.2.2
    have HP := Lib.hid (fun (w0 : World) (hw : Below w.heap.size w w0) => parsed_of s 7 s s 0 w0 (fun w' hb => implparse_name s hs' c cs hT hc hcs hk w' (Nat.le_trans h2 (Nat.le_trans hw.size hb.size)) (tabs_below hU (hw.trans (hb.mono hw.size)) h2)) (fun w' => plain_var s w'))
    have H8 := Lib.hid (implname_any s hs true hr)
    have H9 := Lib.hid (isname_any s hs true hr)
    clear HR hr hok hT hc hcs hk
    go_enter Tryz.func4, Tryz.ntmps4
    go_wp2_with (first
      | (go_at_call 8; refine (H8.out w).mono ?_; rintro e w1 ⟨rfl, b1⟩)
      | (go_at_call 9; refine (H9.out w1).mono ?_; rintro e w2 ⟨rfl, b2⟩; have bb := b1.trans (b2.mono b1.size))
      | (go_at_call 6; refine (HP.out w2 bb).mono ?_; rintro e w3 ⟨rfl, b3⟩))
    go_ret
    exact ⟨rfl, bb.trans (b3.mono bb.size)⟩

end Go.Proofs.YtmggbhfdomlmcaaGreatFmt
