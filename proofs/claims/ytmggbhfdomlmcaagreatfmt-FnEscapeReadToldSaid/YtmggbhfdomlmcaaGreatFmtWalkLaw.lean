/-
  The law of escapes.
-/
import Derived.Test.YtmggbhfdomlmcaaGreatFmtWalkZ
import Derived.Test.YtmggbhfdomlmcaaGreatFmtWalkEsc
import Derived.Test.YtmggbhfdomlmcaaGreatFmtWalkUn
import Derived.Test.YtmggbhfdomlmcaaGreatFmtWalkV
namespace Go.Proofs.YtmggbhfdomlmcaaGreatFmt
open Go.RowKit Go.Extern.Stop Go.Stop Go.Extern

theorem utf5_any (s : ByteArray) (hs : s.size ≤ 1000000) (r : Bool) (hr : r = true ↔ UtfOk s) (w : World) :
    Calls Tryz.prog 5 #[.string s] w fun e w' => e = .returned (.bool r) ∧ Below w.heap.size w w' := by
  have HR := Lib.hid (utf_any s hs r hr)
  clear hr
  go_enter Tryz.func5, Tryz.ntmps5
  go_wp2_with (go_at_call 10; refine (HR.out w).mono ?_; rintro e w1 ⟨rfl, b1⟩)
  go_ret
  exact ⟨rfl, b1⟩

theorem implescape_any (F : Interp) (single : Bool) (s : ByteArray) (hs : s.size ≤ 2000) (rs : List Nat) (hT : Tail s 0 rs) (w : World) (h2 : 2 ≤ w.heap.size) (hU : Lib.Utf8Tabs 0 1 w) (hF : F.told.answers w.tape) :
    Calls Tryz.prog 7 #[.string s, .bool single] w fun e w' => e = .returned (.string ⟨(enc (escR single rs)).toArray⟩) ∧ Below w.heap.size w w' := by
  have HR := Lib.hid (escape_any F single s hs rs hT w h2 hU hF)
  clear hT
  go_enter Tryz.func7, Tryz.ntmps7
  go_wp2_with (go_at_call 14; refine HR.out.mono ?_; rintro e w1 ⟨rfl, b1⟩)
  go_ret
  exact ⟨rfl, b1⟩

theorem escR_len6 (single : Bool) : ∀ rs : List Nat, (escR single rs).length ≤ 6 * rs.length
  | [] => Nat.le_refl _
  | r :: rs => by
    have h1 := (esc1_len single r).2
    have h2 := escR_len6 single rs
    simp only [escR, List.length_append, List.length_cons]
    omega

theorem esc_size (s : ByteArray) (hs : s.size ≤ 2000) (single : Bool) (rs : List Nat) (hrl : rs.length ≤ s.size) : (⟨(enc (escR single rs)).toArray⟩ : ByteArray).size ≤ 48000 := by
  have h1 := (enc_len (escR single rs)).2
  have h2 := escR_len6 single rs
  rw [Lib.size_eq]
  show (enc (escR single rs)).length ≤ _
  omega

theorem quoted (q : Nat) (hq : q < 128) (body : List Nat) : (⟨#[UInt8.ofNat q]⟩ ++ ⟨(enc body).toArray⟩ ++ ⟨#[UInt8.ofNat q]⟩ : ByteArray) = ⟨(enc (q :: (body ++ [q]))).toArray⟩ := by
  apply ByteArray.ext
  apply Array.ext'
  simp [enc, enc_append, enc_ascii q hq]

/-- What is escaped and quoted is read as it was. -/
theorem law_parsed (s : ByteArray) (hs : s.size ≤ 2000) (single : Bool) (rs : List Nat) (hT : Tail s 0 rs) (hok : ∀ r ∈ rs, RuneOk r) (q : Nat) (kd ko : Int) (hq : q = quoteOf single) (hk : (single = false ∧ kd = 14 ∧ ko = 1) ∨ (single = true ∧ kd = 15 ∧ ko = 0)) (ev : Value) (w : World) (hE : Env ev w) :
    Calls Tryz.prog 6 #[.string (⟨#[UInt8.ofNat q]⟩ ++ ⟨(enc (escR single rs)).toArray⟩ ++ ⟨#[UInt8.ofNat q]⟩), nodeV 4 s ko] w fun e w' => e = .returned (.bool true) ∧ Below w.heap.size w w' := by
  have hq8 : q < 128 := by rw [hq]; cases single <;> decide
  have hrl : rs.length ≤ s.size := by
    have h1 := hT.size
    have h2 := (enc_len rs).1
    omega
  have hz := esc_size s hs single rs hrl
  have hqok : RuneOk q := by unfold RuneOk; omega
  have hesc := esc_ok single rs hok
  have hall : ∀ x ∈ q :: (escR single rs ++ [q]), RuneOk x := by
    intro x hx
    rcases List.mem_cons.1 hx with rfl | hx
    · exact hqok
    rcases List.mem_append.1 hx with hx | hx
    · exact (hesc x hx).1
    · rw [List.mem_singleton.1 hx]; exact hqok
  have htz : (⟨#[UInt8.ofNat q]⟩ ++ ⟨(enc (escR single rs)).toArray⟩ ++ ⟨#[UInt8.ofNat q]⟩ : ByteArray).size ≤ 1000000 := by
    rw [ByteArray.size_append, ByteArray.size_append]
    have h1 : (⟨#[UInt8.ofNat q]⟩ : ByteArray).size = 1 := rfl
    omega
  have htt := Tail.start _ hall
  rw [← quoted q hq8] at htt
  have hse : (⟨(enc rs).toArray⟩ : ByteArray) = s := by
    have := hT.2.1
    rw [List.drop_zero] at this
    rw [← this]
  have hko : ko = 0 ∨ ko = 1 := by rcases hk with ⟨_, _, h⟩ | ⟨_, _, h⟩ <;> omega
  subst hq
  refine parsed_of _ 4 ⟨(enc (escR single rs)).toArray⟩ s ko w (fun w' hb => implparse_str _ htz single kd ko hk rs htt hok ev w' (hE.below hb hE.1)) (fun w' => plain_str _ s ko hko w' (fun w'' => ?_))
  have hu := unescape_any single ⟨(enc (escR single rs)).toArray⟩ (by omega) rs (Tail.start _ (fun x hx => (hesc x hx).1)) hok w''
  rw [hse] at hu
  exact hu

set_option maxRecDepth 1000000 in
set_option maxHeartbeats 6400000 in
theorem escape_law (F : Interp) (s : ByteArray) (single : Bool) (ev : Value) (w : World) (hE : Env ev w) (hF : F.told.answers w.tape) :
    Calls Tryz.prog 3 #[.string s, .bool single] w fun e w' => e = .returned (.bool true) ∧ Below w.heap.size w w' := by
  by_cases hbig : 2147483647 < s.size
  · have hb : decide ((2147483647 : Int) < (s.size : Int)) = true := by simp; omega
    go_enter Tryz.func3, Tryz.ntmps3
    go_wp2_with fail
    go_ret
    exact ⟨rfl, Below.refl _ _⟩
  have hb : decide ((2147483647 : Int) < (s.size : Int)) = false := by simp; omega
  by_cases hlong : 2000 < s.size
  · have hl : decide ((2000 : Int) < (s.size : Int)) = true := by simp; omega
    go_enter Tryz.func3, Tryz.ntmps3
    go_wp2_with fail
    go_ret
    exact ⟨rfl, Below.refl _ _⟩
  have hl : decide ((2000 : Int) < (s.size : Int)) = false := by simp; omega
  have hs : s.size ≤ 2000 := by omega
  have hs' : s.size ≤ 1000000 := by omega
  have h2 : 2 ≤ w.heap.size := by have := hE.1; omega
  clear hbig hlong
  by_cases hu : ¬ UtfOk s
  · have U5 := Lib.hid (utf5_any s hs' false (by simp [hu]))
    clear hu
    go_enter Tryz.func3, Tryz.ntmps3
    go_wp2_with (go_at_call 5; refine (U5.out w).mono ?_; rintro e w1 ⟨rfl, b1⟩)
    go_ret
    exact ⟨rfl, b1⟩
  have hu := Classical.not_not.1 hu
  have U5 := Lib.hid (utf5_any s hs' true (by simp [hu]))
  have hT := utf_tail s hu
  have hok := runesN_ok s s.size 0
  have hrl := runesN_len s s.size 0
  generalize runesN s s.size 0 = rs at *
  clear hu
  cases single
  · have HP := Lib.hid (law_parsed s hs false rs hT hok 34 14 1 (by simp [quoteOf]) (by simp) ev)
    have HX := Lib.hid (implescape_any F false s hs rs hT)
    clear hT hok
    have hz := esc_size s hs false rs hrl
    obtain ⟨X, hX⟩ : ∃ X : ByteArray, X = ⟨(enc (escR false rs)).toArray⟩ := ⟨_, rfl⟩
    rw [← hX] at HP HX hz
    clear hX
    go_enter Tryz.func3, Tryz.ntmps3
    go_wp2_with (first
      | (go_at_call 5; refine (U5.out w).mono ?_; rintro e w1 ⟨rfl, b1⟩)
      | (go_at_call 7; refine (HX.out w1 (Nat.le_trans h2 b1.size) (tabs_below hE.2.1 b1 h2) (by rw [b1.tape]; exact hF)).mono ?_; rintro e w2 ⟨rfl, b2⟩; have bb := b1.trans (b2.mono b1.size))
      | (go_at_call 6; refine (HP.out w2 (hE.below bb hE.1)).mono ?_; rintro e w3 ⟨rfl, b3⟩))
    go_ret
    exact ⟨rfl, bb.trans (b3.mono bb.size)⟩
  · have HP := Lib.hid (law_parsed s hs true rs hT hok 39 15 0 (by simp [quoteOf]) (by simp) ev)
    have HX := Lib.hid (implescape_any F true s hs rs hT)
    clear hT hok
    have hz := esc_size s hs true rs hrl
    obtain ⟨X, hX⟩ : ∃ X : ByteArray, X = ⟨(enc (escR true rs)).toArray⟩ := ⟨_, rfl⟩
    rw [← hX] at HP HX hz
    clear hX
    go_enter Tryz.func3, Tryz.ntmps3
    go_wp2_with (first
      | (go_at_call 5; refine (U5.out w).mono ?_; rintro e w1 ⟨rfl, b1⟩)
      | (go_at_call 7; refine (HX.out w1 (Nat.le_trans h2 b1.size) (tabs_below hE.2.1 b1 h2) (by rw [b1.tape]; exact hF)).mono ?_; rintro e w2 ⟨rfl, b2⟩; have bb := b1.trans (b2.mono b1.size))
      | (go_at_call 6; refine (HP.out w2 (hE.below bb hE.1)).mono ?_; rintro e w3 ⟨rfl, b3⟩))
    go_ret
    exact ⟨rfl, bb.trans (b3.mono bb.size)⟩

end Go.Proofs.YtmggbhfdomlmcaaGreatFmt
