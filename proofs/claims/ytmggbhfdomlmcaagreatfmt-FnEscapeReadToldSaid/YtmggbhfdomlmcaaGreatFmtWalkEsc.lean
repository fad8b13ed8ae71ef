/-
  StringEscape: every rune stands escaped.
-/
import Derived.Test.YtmggbhfdomlmcaaGreatFmtWalkX
import Derived.Test.YtmggbhfdomlmcaaGreatFmtBuf
import Derived.Test.YtmggbhfdomlmcaaGreatFmtHexText
import Derived.Test.YtmggbhfdomlmcaaGreatFmtPlainF
namespace Go.Proofs.YtmggbhfdomlmcaaGreatFmt
open Go.RowKit Go.Extern.Stop Go.Stop Go.Extern

/-- None of the runes that have letters of their own. -/
def Unlettered (r : Nat) : Prop := r ≠ 34 ∧ r ≠ 39 ∧ r ≠ 92 ∧ r ≠ 8 ∧ r ≠ 12 ∧ r ≠ 10 ∧ r ≠ 13 ∧ r ≠ 9 ∧ r ≠ 0

/-- Which way StringEscape takes. -/
theorem esc_ways (r : Nat) : r = 34 ∨ r = 39 ∨ r = 92 ∨ r = 8 ∨ r = 12 ∨ r = 10 ∨ r = 13 ∨ r = 9 ∨ r = 0 ∨
    (Unlettered r ∧ r < 32) ∨ (Unlettered r ∧ 127 ≤ r ∧ r ≤ 159) ∨ (Unlettered r ∧ 32 ≤ r ∧ r < 127) ∨ (Unlettered r ∧ 159 < r) := by unfold Unlettered; omega

theorem esc_hex (single : Bool) (r : Nat) (h : Unlettered r) (h9 : r < 32 ∨ (127 ≤ r ∧ r ≤ 159)) : esc1 single r = [92, 117, 48, 48, hexRune (r / 16), hexRune (r % 16)] := by
  obtain ⟨h1, h2, h3, h4, h5, h6, h7, h8, _⟩ := h
  unfold esc1
  rw [if_neg h1, if_neg h2, if_neg h3, if_neg h4, if_neg h5, if_neg h6, if_neg h7, if_neg h8, if_pos h9]

theorem esc_same (single : Bool) (r : Nat) (h : Unlettered r) (h9 : ¬ (r < 32 ∨ (127 ≤ r ∧ r ≤ 159))) : esc1 single r = [r] := by
  obtain ⟨h1, h2, h3, h4, h5, h6, h7, h8, _⟩ := h
  unfold esc1
  rw [if_neg h1, if_neg h2, if_neg h3, if_neg h4, if_neg h5, if_neg h6, if_neg h7, if_neg h8, if_neg h9]

theorem len_step {acc : List UInt8} {n : Nat} {r : Int} (h : acc.length ≤ n) : (acc ++ Lib.encodeRune r).length ≤ n + 4 := by
  have := (encodeRune_len r).2
  rw [List.length_append]
  omega

theorem len1 {acc : List UInt8} {p : Nat} {a : Int} (h : acc.length ≤ 24 * p) : (acc ++ Lib.encodeRune a).length ≤ 24 * (p + 1) := by
  have := len_step (r := a) h
  omega

theorem len2 {acc : List UInt8} {p : Nat} {a b : Int} (h : acc.length ≤ 24 * p) : (acc ++ Lib.encodeRune a ++ Lib.encodeRune b).length ≤ 24 * (p + 1) := by
  have := len_step (r := b) (len_step (r := a) h)
  omega

theorem len_hex {acc x : List UInt8} {p : Nat} (h : acc.length ≤ 24 * p) (hx : x.length = 6) : (acc ++ x).length ≤ 24 * (p + 1) := by
  rw [List.length_append]
  omega

theorem enc_zero (l : List UInt8) : [92, 117, 48, 48, 48, 48] ++ l = enc [92, 117, 48, 48, hexRune 0, hexRune 0] ++ l := congrArg (· ++ l) (by kernel_rfl)

theorem bytes_src (w : World) (X : ByteArray) (cap : Nat) (fz : Nat × Nat) (l : List UInt8) (hl : X.data.toList = l) : ∀ j v, (Lib.byteCells l)[j]? = some v → (w.alloc (.cells (bytesRow X cap) 5 fz)).cell? ⟨w.heap.size, j, none⟩ = some v := by
  intro j v h
  rw [cell_of_heap (heap_new w _)]
  unfold bytesRow
  subst hl
  have hj : j < X.data.size := by
    have := (List.getElem?_eq_some_iff.1 h).1
    simpa [Lib.byteCells] using this
  rw [Array.getElem?_append_left (by simpa using hj)]
  simpa [Lib.byteCells] using h

theorem hex_eq (acc l : List UInt8) (r : Nat) (h : r < 256) : acc ++ Lib.encodeRune 92 ++ Lib.encodeRune 117 ++ hexBytes r ++ l = acc ++ (enc [92, 117, 48, 48, hexRune (r / 16), hexRune (r % 16)] ++ l) := by
  have := enc_four r h
  unfold hexBytes
  rw [← this]
  simp [enc]

theorem len_four {acc : List UInt8} {p q r : Nat} {a b : Int} (h : acc.length ≤ 24 * p) (hq : p + 1 ≤ q) : (acc ++ Lib.encodeRune a ++ Lib.encodeRune b ++ hexBytes r).length ≤ 24 * q := by
  have h1 := len_step (r := b) (len_step (r := a) h)
  have h2 : (hexBytes r).length = 4 := rfl
  rw [List.length_append]
  omega

/-- The four figures, in a block of their own, are written behind. -/
theorem write_new (B : Nat) (acc bs : List UInt8) (w : World) (A : Obj) (X : ByteArray) (cap : Nat) (fz : Nat × Nat) (cap' : Nat) (h : Lib.IsBuffer 56 5 B B (Lib.byteCells acc) w) (hB : B < w.heap.size) (hl : acc.length ≤ 100000000) (hX : X.data.toList = bs) (hbs : bs.length = 4) :
    Calls Tryz.prog 26 #[.pointer (some ⟨B, 0, none⟩), .slice (some ⟨w.heap.size + 1, 0, none⟩) 4 cap'] ((w.alloc A).alloc (.cells (bytesRow X cap) 5 fz)).drew.drew fun e w' => e = .returned (.tuple #[.int .i64 4, .nilIface]) ∧ Lib.IsBuffer 56 5 B B (Lib.byteCells (acc ++ bs)) w' ∧ Below B w w' := by
  have hs : (w.alloc A).heap.size = w.heap.size + 1 := by simp
  have b1 : Below w.heap.size w ((w.alloc A).alloc (.cells (bytesRow X cap) 5 fz)).drew.drew := ((((Below.refl w.heap.size w).alloc (Nat.le_refl _) _).alloc (by omega) _).drew).drew
  have h1 := Lib.IsBuffer.old h b1
  have hsrc := bytes_src (w.alloc A) X cap fz bs hX
  have hsz := b1.size
  rw [hs] at hsrc
  have h2 := wbytes B acc bs (w.heap.size + 1) cap' ((w.alloc A).alloc (.cells (bytesRow X cap) 5 fz)).drew.drew h1 (by omega) hl (by omega) (by omega) hsrc
  rw [hbs] at h2
  refine h2.mono ?_
  rintro e w' ⟨rfl, h3, b3⟩
  exact ⟨rfl, h3, (b1.mono (Nat.le_of_lt hB)).trans b3⟩

set_option maxRecDepth 1000000 in
set_option maxHeartbeats 12800000 in
theorem escape_any (F : Interp) (single : Bool) (s : ByteArray) (hs : s.size ≤ 2000) (rs : List Nat) (hT : Tail s 0 rs) (w : World) (h2 : 2 ≤ w.heap.size) (hU : Lib.Utf8Tabs 0 1 w) (hF : F.told.answers w.tape) :
    Calls Tryz.prog 14 #[.string s, .bool single] w fun e w' => e = .returned (.string ⟨(enc (escR single rs)).toArray⟩) ∧ Below w.heap.size w w' := by
  go_enter Tryz.func14, Tryz.ntmps14
  go_wp2_with fail
  go_loopg [6] rs.length (fun k v wr => ∃ (pos : Nat) (l : List Nat) (acc : List UInt8), k = l.length ∧ v = .int .i64 pos ∧ Tail s pos l ∧ acc ++ enc (escR single l) = enc (escR single rs) ∧ Lib.IsBuffer 56 5 w.heap.size w.heap.size (Lib.byteCells acc) wr ∧ Below w.heap.size w wr ∧ acc.length ≤ 24 * pos)
  case atStart => exact ⟨0, rs, [], rfl, rfl, hT, rfl, Lib.fresh_isBuffer 56 5 w, (Below.refl _ w).alloc (Nat.le_refl _) _, Nat.le_refl _⟩
  case round =>
    clear hT
    obtain ⟨pos, l, acc, rfl, rfl, hT, hacc, hI, bb, hal⟩ := hrel
    have hps := hT.1
    have p0 : (0 : Int) ≤ (pos : Int) := by omega
    have p1 : (pos : Int) ≤ (s.size : Int) := by omega
    have HI := Lib.hid hI
    have HA := Lib.hid hacc
    clear hI hacc
    cases l with
    | nil =>
      have hlt : decide (pos < s.size) = false := by have := hT.at_end; simp; omega
      clear hT
      have hfin : acc = enc (escR single rs) := by have := HA.out; simpa [escR, enc] using this
      subst hfin
      go_wp2_with (go_at_call 28; refine (Tryz.Buffer_String w.heap.size w.heap.size _ wr HI.out).mono ?_; rintro e W1 ⟨rfl, n, rfl⟩)
      exact bodyPost_ret (v := .string ⟨(enc (escR single rs)).toArray⟩) (by simp [results, Tryz.results14, go_sem]) rfl ⟨rfl, below_drewN bb n⟩
    | cons r l =>
      have hr := hT.2.2 r List.mem_cons_self
      have hr2 : (0 : Int) ≤ (r : Int) ∧ (r : Int) ≤ 1114111 := by unfold RuneOk at hr; omega
      have hz := hT.next.2.2
      have hlt : decide (pos < s.size) = true := by have := hz.1; simp; omega
      clear hr
      rcases esc_ways r with rfl | rfl | rfl | rfl | rfl | rfl | rfl | rfl | rfl | ⟨hne, h9⟩ | ⟨hne, h9⟩ | ⟨hne, h9⟩ | ⟨hne, h9⟩
      · cases single
        · obtain ⟨hd, hT2, hz1⟩ := hT.next1 (by omega)
          have HT := Lib.hid hT
          have HT2 := Lib.hid hT2
          clear hT hT2 hd
          go_wp2_with (first
            | (go_at_call 23; refine (dec_tail1 HT.out (by omega) _ (tabs_below hU bb h2)).mono ?_; rintro e w2 ⟨rfl, b2⟩; replace bb := bb.trans (b2.mono bb.size); have h3 := HI.out.old b2; clear HI b2; have HI := Lib.hid h3; clear h3)
            | (go_at_call 24; refine (wrune w.heap.size _ _ (by omega) (by omega) _ HI.out bb.size (by first | exact Nat.le_trans hal (by omega) | exact Nat.le_trans (len_step hal) (by omega) | exact Nat.le_trans (len_step (len_step hal)) (by omega))).mono ?_; rintro e w2 ⟨rfl, h2, b2⟩; replace bb := bb.trans b2; clear HI b2; have HI := Lib.hid h2; clear h2)
            | (go_at_call 25; refine (wstr w.heap.size _ _ _ HI.out bb.size (by first | exact Nat.le_trans hal (by omega) | exact Nat.le_trans (len_step hal) (by omega) | exact Nat.le_trans (len_step (len_step hal)) (by omega)) (by decide)).mono ?_; rintro e w2 ⟨rfl, h2, b2⟩; replace bb := bb.trans b2; clear HI b2; have HI := Lib.hid h2; clear h2))
          go_roundg l.length
          case measure => simp
          case rel => exact ⟨pos + 1, l, _, rfl, by congr 1, HT2.out, (by rw [← HA.out]; simp [escR, esc1, enc]), HI.out, bb, len2 hal⟩
        · obtain ⟨hd, hT2, hz1⟩ := hT.next1 (by omega)
          have HT := Lib.hid hT
          have HT2 := Lib.hid hT2
          clear hT hT2 hd
          go_wp2_with (first
            | (go_at_call 23; refine (dec_tail1 HT.out (by omega) _ (tabs_below hU bb h2)).mono ?_; rintro e w2 ⟨rfl, b2⟩; replace bb := bb.trans (b2.mono bb.size); have h3 := HI.out.old b2; clear HI b2; have HI := Lib.hid h3; clear h3)
            | (go_at_call 24; refine (wrune w.heap.size _ _ (by omega) (by omega) _ HI.out bb.size (by first | exact Nat.le_trans hal (by omega) | exact Nat.le_trans (len_step hal) (by omega) | exact Nat.le_trans (len_step (len_step hal)) (by omega))).mono ?_; rintro e w2 ⟨rfl, h2, b2⟩; replace bb := bb.trans b2; clear HI b2; have HI := Lib.hid h2; clear h2)
            | (go_at_call 25; refine (wstr w.heap.size _ _ _ HI.out bb.size (by first | exact Nat.le_trans hal (by omega) | exact Nat.le_trans (len_step hal) (by omega) | exact Nat.le_trans (len_step (len_step hal)) (by omega)) (by decide)).mono ?_; rintro e w2 ⟨rfl, h2, b2⟩; replace bb := bb.trans b2; clear HI b2; have HI := Lib.hid h2; clear h2))
          go_roundg l.length
          case measure => simp
          case rel => exact ⟨pos + 1, l, _, rfl, by congr 1, HT2.out, (by rw [← HA.out]; simp [escR, esc1, enc]), HI.out, bb, len1 hal⟩
      · cases single
        · obtain ⟨hd, hT2, hz1⟩ := hT.next1 (by omega)
          have HT := Lib.hid hT
          have HT2 := Lib.hid hT2
          clear hT hT2 hd
          go_wp2_with (first
            | (go_at_call 23; refine (dec_tail1 HT.out (by omega) _ (tabs_below hU bb h2)).mono ?_; rintro e w2 ⟨rfl, b2⟩; replace bb := bb.trans (b2.mono bb.size); have h3 := HI.out.old b2; clear HI b2; have HI := Lib.hid h3; clear h3)
            | (go_at_call 24; refine (wrune w.heap.size _ _ (by omega) (by omega) _ HI.out bb.size (by first | exact Nat.le_trans hal (by omega) | exact Nat.le_trans (len_step hal) (by omega) | exact Nat.le_trans (len_step (len_step hal)) (by omega))).mono ?_; rintro e w2 ⟨rfl, h2, b2⟩; replace bb := bb.trans b2; clear HI b2; have HI := Lib.hid h2; clear h2)
            | (go_at_call 25; refine (wstr w.heap.size _ _ _ HI.out bb.size (by first | exact Nat.le_trans hal (by omega) | exact Nat.le_trans (len_step hal) (by omega) | exact Nat.le_trans (len_step (len_step hal)) (by omega)) (by decide)).mono ?_; rintro e w2 ⟨rfl, h2, b2⟩; replace bb := bb.trans b2; clear HI b2; have HI := Lib.hid h2; clear h2))
          go_roundg l.length
          case measure => simp
          case rel => exact ⟨pos + 1, l, _, rfl, by congr 1, HT2.out, (by rw [← HA.out]; simp [escR, esc1, enc]), HI.out, bb, len1 hal⟩
        · obtain ⟨hd, hT2, hz1⟩ := hT.next1 (by omega)
          have HT := Lib.hid hT
          have HT2 := Lib.hid hT2
          clear hT hT2 hd
          go_wp2_with (first
            | (go_at_call 23; refine (dec_tail1 HT.out (by omega) _ (tabs_below hU bb h2)).mono ?_; rintro e w2 ⟨rfl, b2⟩; replace bb := bb.trans (b2.mono bb.size); have h3 := HI.out.old b2; clear HI b2; have HI := Lib.hid h3; clear h3)
            | (go_at_call 24; refine (wrune w.heap.size _ _ (by omega) (by omega) _ HI.out bb.size (by first | exact Nat.le_trans hal (by omega) | exact Nat.le_trans (len_step hal) (by omega) | exact Nat.le_trans (len_step (len_step hal)) (by omega))).mono ?_; rintro e w2 ⟨rfl, h2, b2⟩; replace bb := bb.trans b2; clear HI b2; have HI := Lib.hid h2; clear h2)
            | (go_at_call 25; refine (wstr w.heap.size _ _ _ HI.out bb.size (by first | exact Nat.le_trans hal (by omega) | exact Nat.le_trans (len_step hal) (by omega) | exact Nat.le_trans (len_step (len_step hal)) (by omega)) (by decide)).mono ?_; rintro e w2 ⟨rfl, h2, b2⟩; replace bb := bb.trans b2; clear HI b2; have HI := Lib.hid h2; clear h2))
          go_roundg l.length
          case measure => simp
          case rel => exact ⟨pos + 1, l, _, rfl, by congr 1, HT2.out, (by rw [← HA.out]; simp [escR, esc1, enc]), HI.out, bb, len2 hal⟩
      · obtain ⟨hd, hT2, hz1⟩ := hT.next1 (by omega)
        have HT := Lib.hid hT
        have HT2 := Lib.hid hT2
        clear hT hT2 hd
        go_wp2_with (first
          | (go_at_call 23; refine (dec_tail1 HT.out (by omega) _ (tabs_below hU bb h2)).mono ?_; rintro e w2 ⟨rfl, b2⟩; replace bb := bb.trans (b2.mono bb.size); have h3 := HI.out.old b2; clear HI b2; have HI := Lib.hid h3; clear h3)
          | (go_at_call 24; refine (wrune w.heap.size _ _ (by omega) (by omega) _ HI.out bb.size (by first | exact Nat.le_trans hal (by omega) | exact Nat.le_trans (len_step hal) (by omega) | exact Nat.le_trans (len_step (len_step hal)) (by omega))).mono ?_; rintro e w2 ⟨rfl, h2, b2⟩; replace bb := bb.trans b2; clear HI b2; have HI := Lib.hid h2; clear h2)
          | (go_at_call 25; refine (wstr w.heap.size _ _ _ HI.out bb.size (by first | exact Nat.le_trans hal (by omega) | exact Nat.le_trans (len_step hal) (by omega) | exact Nat.le_trans (len_step (len_step hal)) (by omega)) (by decide)).mono ?_; rintro e w2 ⟨rfl, h2, b2⟩; replace bb := bb.trans b2; clear HI b2; have HI := Lib.hid h2; clear h2))
        go_roundg l.length
        case measure => simp
        case rel => exact ⟨pos + 1, l, _, rfl, by congr 1, HT2.out, (by rw [← HA.out]; simp [escR, esc1, enc]), HI.out, bb, len2 hal⟩
      · obtain ⟨hd, hT2, hz1⟩ := hT.next1 (by omega)
        have HT := Lib.hid hT
        have HT2 := Lib.hid hT2
        clear hT hT2 hd
        go_wp2_with (first
          | (go_at_call 23; refine (dec_tail1 HT.out (by omega) _ (tabs_below hU bb h2)).mono ?_; rintro e w2 ⟨rfl, b2⟩; replace bb := bb.trans (b2.mono bb.size); have h3 := HI.out.old b2; clear HI b2; have HI := Lib.hid h3; clear h3)
          | (go_at_call 24; refine (wrune w.heap.size _ _ (by omega) (by omega) _ HI.out bb.size (by first | exact Nat.le_trans hal (by omega) | exact Nat.le_trans (len_step hal) (by omega) | exact Nat.le_trans (len_step (len_step hal)) (by omega))).mono ?_; rintro e w2 ⟨rfl, h2, b2⟩; replace bb := bb.trans b2; clear HI b2; have HI := Lib.hid h2; clear h2)
          | (go_at_call 25; refine (wstr w.heap.size _ _ _ HI.out bb.size (by first | exact Nat.le_trans hal (by omega) | exact Nat.le_trans (len_step hal) (by omega) | exact Nat.le_trans (len_step (len_step hal)) (by omega)) (by decide)).mono ?_; rintro e w2 ⟨rfl, h2, b2⟩; replace bb := bb.trans b2; clear HI b2; have HI := Lib.hid h2; clear h2))
        go_roundg l.length
        case measure => simp
        case rel => exact ⟨pos + 1, l, _, rfl, by congr 1, HT2.out, (by rw [← HA.out]; simp [escR, esc1, enc]), HI.out, bb, len2 hal⟩
      · obtain ⟨hd, hT2, hz1⟩ := hT.next1 (by omega)
        have HT := Lib.hid hT
        have HT2 := Lib.hid hT2
        clear hT hT2 hd
        go_wp2_with (first
          | (go_at_call 23; refine (dec_tail1 HT.out (by omega) _ (tabs_below hU bb h2)).mono ?_; rintro e w2 ⟨rfl, b2⟩; replace bb := bb.trans (b2.mono bb.size); have h3 := HI.out.old b2; clear HI b2; have HI := Lib.hid h3; clear h3)
          | (go_at_call 24; refine (wrune w.heap.size _ _ (by omega) (by omega) _ HI.out bb.size (by first | exact Nat.le_trans hal (by omega) | exact Nat.le_trans (len_step hal) (by omega) | exact Nat.le_trans (len_step (len_step hal)) (by omega))).mono ?_; rintro e w2 ⟨rfl, h2, b2⟩; replace bb := bb.trans b2; clear HI b2; have HI := Lib.hid h2; clear h2)
          | (go_at_call 25; refine (wstr w.heap.size _ _ _ HI.out bb.size (by first | exact Nat.le_trans hal (by omega) | exact Nat.le_trans (len_step hal) (by omega) | exact Nat.le_trans (len_step (len_step hal)) (by omega)) (by decide)).mono ?_; rintro e w2 ⟨rfl, h2, b2⟩; replace bb := bb.trans b2; clear HI b2; have HI := Lib.hid h2; clear h2))
        go_roundg l.length
        case measure => simp
        case rel => exact ⟨pos + 1, l, _, rfl, by congr 1, HT2.out, (by rw [← HA.out]; simp [escR, esc1, enc]), HI.out, bb, len2 hal⟩
      · obtain ⟨hd, hT2, hz1⟩ := hT.next1 (by omega)
        have HT := Lib.hid hT
        have HT2 := Lib.hid hT2
        clear hT hT2 hd
        go_wp2_with (first
          | (go_at_call 23; refine (dec_tail1 HT.out (by omega) _ (tabs_below hU bb h2)).mono ?_; rintro e w2 ⟨rfl, b2⟩; replace bb := bb.trans (b2.mono bb.size); have h3 := HI.out.old b2; clear HI b2; have HI := Lib.hid h3; clear h3)
          | (go_at_call 24; refine (wrune w.heap.size _ _ (by omega) (by omega) _ HI.out bb.size (by first | exact Nat.le_trans hal (by omega) | exact Nat.le_trans (len_step hal) (by omega) | exact Nat.le_trans (len_step (len_step hal)) (by omega))).mono ?_; rintro e w2 ⟨rfl, h2, b2⟩; replace bb := bb.trans b2; clear HI b2; have HI := Lib.hid h2; clear h2)
          | (go_at_call 25; refine (wstr w.heap.size _ _ _ HI.out bb.size (by first | exact Nat.le_trans hal (by omega) | exact Nat.le_trans (len_step hal) (by omega) | exact Nat.le_trans (len_step (len_step hal)) (by omega)) (by decide)).mono ?_; rintro e w2 ⟨rfl, h2, b2⟩; replace bb := bb.trans b2; clear HI b2; have HI := Lib.hid h2; clear h2))
        go_roundg l.length
        case measure => simp
        case rel => exact ⟨pos + 1, l, _, rfl, by congr 1, HT2.out, (by rw [← HA.out]; simp [escR, esc1, enc]), HI.out, bb, len2 hal⟩
      · obtain ⟨hd, hT2, hz1⟩ := hT.next1 (by omega)
        have HT := Lib.hid hT
        have HT2 := Lib.hid hT2
        clear hT hT2 hd
        go_wp2_with (first
          | (go_at_call 23; refine (dec_tail1 HT.out (by omega) _ (tabs_below hU bb h2)).mono ?_; rintro e w2 ⟨rfl, b2⟩; replace bb := bb.trans (b2.mono bb.size); have h3 := HI.out.old b2; clear HI b2; have HI := Lib.hid h3; clear h3)
          | (go_at_call 24; refine (wrune w.heap.size _ _ (by omega) (by omega) _ HI.out bb.size (by first | exact Nat.le_trans hal (by omega) | exact Nat.le_trans (len_step hal) (by omega) | exact Nat.le_trans (len_step (len_step hal)) (by omega))).mono ?_; rintro e w2 ⟨rfl, h2, b2⟩; replace bb := bb.trans b2; clear HI b2; have HI := Lib.hid h2; clear h2)
          | (go_at_call 25; refine (wstr w.heap.size _ _ _ HI.out bb.size (by first | exact Nat.le_trans hal (by omega) | exact Nat.le_trans (len_step hal) (by omega) | exact Nat.le_trans (len_step (len_step hal)) (by omega)) (by decide)).mono ?_; rintro e w2 ⟨rfl, h2, b2⟩; replace bb := bb.trans b2; clear HI b2; have HI := Lib.hid h2; clear h2))
        go_roundg l.length
        case measure => simp
        case rel => exact ⟨pos + 1, l, _, rfl, by congr 1, HT2.out, (by rw [← HA.out]; simp [escR, esc1, enc]), HI.out, bb, len2 hal⟩
      · obtain ⟨hd, hT2, hz1⟩ := hT.next1 (by omega)
        have HT := Lib.hid hT
        have HT2 := Lib.hid hT2
        clear hT hT2 hd
        go_wp2_with (first
          | (go_at_call 23; refine (dec_tail1 HT.out (by omega) _ (tabs_below hU bb h2)).mono ?_; rintro e w2 ⟨rfl, b2⟩; replace bb := bb.trans (b2.mono bb.size); have h3 := HI.out.old b2; clear HI b2; have HI := Lib.hid h3; clear h3)
          | (go_at_call 24; refine (wrune w.heap.size _ _ (by omega) (by omega) _ HI.out bb.size (by first | exact Nat.le_trans hal (by omega) | exact Nat.le_trans (len_step hal) (by omega) | exact Nat.le_trans (len_step (len_step hal)) (by omega))).mono ?_; rintro e w2 ⟨rfl, h2, b2⟩; replace bb := bb.trans b2; clear HI b2; have HI := Lib.hid h2; clear h2)
          | (go_at_call 25; refine (wstr w.heap.size _ _ _ HI.out bb.size (by first | exact Nat.le_trans hal (by omega) | exact Nat.le_trans (len_step hal) (by omega) | exact Nat.le_trans (len_step (len_step hal)) (by omega)) (by decide)).mono ?_; rintro e w2 ⟨rfl, h2, b2⟩; replace bb := bb.trans b2; clear HI b2; have HI := Lib.hid h2; clear h2))
        go_roundg l.length
        case measure => simp
        case rel => exact ⟨pos + 1, l, _, rfl, by congr 1, HT2.out, (by rw [← HA.out]; simp [escR, esc1, enc]), HI.out, bb, len2 hal⟩
      · obtain ⟨hd, hT2, hz1⟩ := hT.next1 (by omega)
        have HT := Lib.hid hT
        have HT2 := Lib.hid hT2
        clear hT hT2 hd
        go_wp2_with (first
          | (go_at_call 23; refine (dec_tail1 HT.out (by omega) _ (tabs_below hU bb h2)).mono ?_; rintro e w2 ⟨rfl, b2⟩; replace bb := bb.trans (b2.mono bb.size); have h3 := HI.out.old b2; clear HI b2; have HI := Lib.hid h3; clear h3)
          | (go_at_call 24; refine (wrune w.heap.size _ _ (by omega) (by omega) _ HI.out bb.size (by first | exact Nat.le_trans hal (by omega) | exact Nat.le_trans (len_step hal) (by omega) | exact Nat.le_trans (len_step (len_step hal)) (by omega))).mono ?_; rintro e w2 ⟨rfl, h2, b2⟩; replace bb := bb.trans b2; clear HI b2; have HI := Lib.hid h2; clear h2)
          | (go_at_call 25; refine (wstr w.heap.size _ _ _ HI.out bb.size (by first | exact Nat.le_trans hal (by omega) | exact Nat.le_trans (len_step hal) (by omega) | exact Nat.le_trans (len_step (len_step hal)) (by omega)) (by decide)).mono ?_; rintro e w2 ⟨rfl, h2, b2⟩; replace bb := bb.trans b2; clear HI b2; have HI := Lib.hid h2; clear h2))
        go_roundg l.length
        case measure => simp
        case rel => exact ⟨pos + 1, l, _, rfl, by congr 1, HT2.out, (by rw [← HA.out]; simpa [escR, esc1, enc, -List.cons_append] using enc_zero (enc (escR single l))), HI.out, bb, len_hex hal rfl⟩
      · obtain ⟨n34, n39, n92, n8, n12, n10, n13, n9, n0⟩ := hne
        have he := esc_hex single r ⟨n34, n39, n92, n8, n12, n10, n13, n9, n0⟩ (by omega)
        have f34 : ((r : Int) == 34) = false := by simp; omega
        have f39 : ((r : Int) == 39) = false := by simp; omega
        have f92 : ((r : Int) == 92) = false := by simp; omega
        have f8 : ((r : Int) == 8) = false := by simp; omega
        have f12 : ((r : Int) == 12) = false := by simp; omega
        have f10 : ((r : Int) == 10) = false := by simp; omega
        have f13 : ((r : Int) == 13) = false := by simp; omega
        have f9 : ((r : Int) == 9) = false := by simp; omega
        have f0 : ((r : Int) == 0) = false := by simp; omega
        have ta : decide ((r : Int) < 32) = true := by simp; omega
        have ua : decide (r < 32) = true := by simp; omega
        obtain ⟨q, hq1⟩ : ∃ q, q = pos + (Lib.encodeRune (r : Int)).length := ⟨_, rfl⟩
        have hw : IntKind.i64.wrap ((pos : Int) + ((Lib.encodeRune (r : Int)).length : Int)) = (q : Int) := by rw [wrap_small _ (by omega) (by omega)]; omega
        have HN := Lib.hid hT.next.2.1
        rw [← hq1] at HN
        have HT := Lib.hid hT
        clear hT
        have hr256 : r < 256 := by omega
        go_wp2_with (first
          | (go_at_call 23; refine (dec_tail HT.out _ (tabs_below hU bb h2)).mono ?_; rintro e w2 ⟨rfl, b2⟩; replace bb := bb.trans (b2.mono bb.size); have h3 := HI.out.old b2; clear HI b2; have HI := Lib.hid h3; clear h3)
          | (go_at_call 24; refine (wrune w.heap.size _ _ (by omega) (by omega) _ HI.out bb.size (by first | exact Nat.le_trans hal (by omega) | exact Nat.le_trans (len_step hal) (by omega) | exact Nat.le_trans (len_step (len_step hal)) (by omega))).mono ?_; rintro e w2 ⟨rfl, h2, b2⟩; replace bb := bb.trans b2; clear HI b2; have HI := Lib.hid h2; clear h2))
        obtain ⟨X, hX⟩ : ∃ X : ByteArray, X = ⟨(hexBytes r).toArray⟩ := ⟨_, rfl⟩
        have ht := hex_told F r hr256
        rw [← hX] at ht
        have hXl : X.data.toList = hexBytes r := by rw [hX]
        have hXs : X.size = 4 := by rw [← data_size, hXl]; rfl
        have HXL := Lib.hid hXl
        clear hX hXl
        have hcv := fun w => run_bytes_of_string (P := Tryz.prog) w 9 52 5 X Tryz.underlying9 Tryz.underlying52 Tryz.underlying5
        rw [hXs] at hcv
        have hF2 : ∀ i name reading k range, w2.tape i (.extern (word name reading k) range) = F.told name reading k := by rw [bb.tape]; exact answers_open hF
        refine rows_value (v := .string X) (w' := (w2.alloc (.cells #[.iface 3 (.int .i64 (r : Int))] 20)).drew) Tryz.nextTurns ?_ ?_
        · go_simp
          exact ht
        clear ht
        go_wp2_with (first
          | (go_at_call 26; refine (write_new w.heap.size _ (hexBytes r) w2 _ X _ _ _ HI.out HI.out.lt (Nat.le_trans (len_step (len_step hal)) (by omega)) HXL.out rfl).mono ?_; rintro e w3 ⟨rfl, h3, b3⟩; replace bb := bb.trans b3; clear HI; have HI := Lib.hid h3; clear h3))
        go_roundg l.length
        case measure => simp
        case rel => exact ⟨q, l, _, rfl, by congr 1; omega, HN.out, (by rw [← HA.out]; simp only [escR, he, enc_append]; exact hex_eq acc _ r hr256), HI.out, bb, len_four hal (by omega)⟩
      · obtain ⟨n34, n39, n92, n8, n12, n10, n13, n9, n0⟩ := hne
        have he := esc_hex single r ⟨n34, n39, n92, n8, n12, n10, n13, n9, n0⟩ (by omega)
        have f34 : ((r : Int) == 34) = false := by simp; omega
        have f39 : ((r : Int) == 39) = false := by simp; omega
        have f92 : ((r : Int) == 92) = false := by simp; omega
        have f8 : ((r : Int) == 8) = false := by simp; omega
        have f12 : ((r : Int) == 12) = false := by simp; omega
        have f10 : ((r : Int) == 10) = false := by simp; omega
        have f13 : ((r : Int) == 13) = false := by simp; omega
        have f9 : ((r : Int) == 9) = false := by simp; omega
        have f0 : ((r : Int) == 0) = false := by simp; omega
        have ta : decide ((r : Int) < 32) = false := by simp; omega
        have ua : decide (r < 32) = false := by simp; omega
        have tb : decide (127 ≤ (r : Int)) = true := by simp; omega
        have ub : decide (127 ≤ r) = true := by simp; omega
        have tc : decide ((r : Int) ≤ 159) = true := by simp; omega
        have uc : decide (r ≤ 159) = true := by simp; omega
        obtain ⟨q, hq1⟩ : ∃ q, q = pos + (Lib.encodeRune (r : Int)).length := ⟨_, rfl⟩
        have hw : IntKind.i64.wrap ((pos : Int) + ((Lib.encodeRune (r : Int)).length : Int)) = (q : Int) := by rw [wrap_small _ (by omega) (by omega)]; omega
        have HN := Lib.hid hT.next.2.1
        rw [← hq1] at HN
        have HT := Lib.hid hT
        clear hT
        have hr256 : r < 256 := by omega
        go_wp2_with (first
          | (go_at_call 23; refine (dec_tail HT.out _ (tabs_below hU bb h2)).mono ?_; rintro e w2 ⟨rfl, b2⟩; replace bb := bb.trans (b2.mono bb.size); have h3 := HI.out.old b2; clear HI b2; have HI := Lib.hid h3; clear h3)
          | (go_at_call 24; refine (wrune w.heap.size _ _ (by omega) (by omega) _ HI.out bb.size (by first | exact Nat.le_trans hal (by omega) | exact Nat.le_trans (len_step hal) (by omega) | exact Nat.le_trans (len_step (len_step hal)) (by omega))).mono ?_; rintro e w2 ⟨rfl, h2, b2⟩; replace bb := bb.trans b2; clear HI b2; have HI := Lib.hid h2; clear h2))
        obtain ⟨X, hX⟩ : ∃ X : ByteArray, X = ⟨(hexBytes r).toArray⟩ := ⟨_, rfl⟩
        have ht := hex_told F r hr256
        rw [← hX] at ht
        have hXl : X.data.toList = hexBytes r := by rw [hX]
        have hXs : X.size = 4 := by rw [← data_size, hXl]; rfl
        have HXL := Lib.hid hXl
        clear hX hXl
        have hcv := fun w => run_bytes_of_string (P := Tryz.prog) w 9 52 5 X Tryz.underlying9 Tryz.underlying52 Tryz.underlying5
        rw [hXs] at hcv
        have hF2 : ∀ i name reading k range, w2.tape i (.extern (word name reading k) range) = F.told name reading k := by rw [bb.tape]; exact answers_open hF
        refine rows_value (v := .string X) (w' := (w2.alloc (.cells #[.iface 3 (.int .i64 (r : Int))] 20)).drew) Tryz.nextTurns ?_ ?_
        · go_simp
          exact ht
        clear ht
        go_wp2_with (first
          | (go_at_call 26; refine (write_new w.heap.size _ (hexBytes r) w2 _ X _ _ _ HI.out HI.out.lt (Nat.le_trans (len_step (len_step hal)) (by omega)) HXL.out rfl).mono ?_; rintro e w3 ⟨rfl, h3, b3⟩; replace bb := bb.trans b3; clear HI; have HI := Lib.hid h3; clear h3))
        go_roundg l.length
        case measure => simp
        case rel => exact ⟨q, l, _, rfl, by congr 1; omega, HN.out, (by rw [← HA.out]; simp only [escR, he, enc_append]; exact hex_eq acc _ r hr256), HI.out, bb, len_four hal (by omega)⟩
      · obtain ⟨n34, n39, n92, n8, n12, n10, n13, n9, n0⟩ := hne
        have he := esc_same single r ⟨n34, n39, n92, n8, n12, n10, n13, n9, n0⟩ (by omega)
        have f34 : ((r : Int) == 34) = false := by simp; omega
        have f39 : ((r : Int) == 39) = false := by simp; omega
        have f92 : ((r : Int) == 92) = false := by simp; omega
        have f8 : ((r : Int) == 8) = false := by simp; omega
        have f12 : ((r : Int) == 12) = false := by simp; omega
        have f10 : ((r : Int) == 10) = false := by simp; omega
        have f13 : ((r : Int) == 13) = false := by simp; omega
        have f9 : ((r : Int) == 9) = false := by simp; omega
        have f0 : ((r : Int) == 0) = false := by simp; omega
        have ta : decide ((r : Int) < 32) = false := by simp; omega
        have ua : decide (r < 32) = false := by simp; omega
        have tb : decide (127 ≤ (r : Int)) = false := by simp; omega
        have ub : decide (127 ≤ r) = false := by simp; omega
        obtain ⟨q, hq1⟩ : ∃ q, q = pos + (Lib.encodeRune (r : Int)).length := ⟨_, rfl⟩
        have hw : IntKind.i64.wrap ((pos : Int) + ((Lib.encodeRune (r : Int)).length : Int)) = (q : Int) := by rw [wrap_small _ (by omega) (by omega)]; omega
        have HN := Lib.hid hT.next.2.1
        rw [← hq1] at HN
        have HT := Lib.hid hT
        clear hT
        go_wp2_with (first
          | (go_at_call 23; refine (dec_tail HT.out _ (tabs_below hU bb h2)).mono ?_; rintro e w2 ⟨rfl, b2⟩; replace bb := bb.trans (b2.mono bb.size); have h3 := HI.out.old b2; clear HI b2; have HI := Lib.hid h3; clear h3)
          | (go_at_call 24; refine (wrune w.heap.size _ _ (by omega) (by omega) _ HI.out bb.size (by first | exact Nat.le_trans hal (by omega) | exact Nat.le_trans (len_step hal) (by omega) | exact Nat.le_trans (len_step (len_step hal)) (by omega))).mono ?_; rintro e w2 ⟨rfl, h2, b2⟩; replace bb := bb.trans b2; clear HI b2; have HI := Lib.hid h2; clear h2))
        go_roundg l.length
        case measure => simp
        case rel => exact ⟨q, l, _, rfl, by congr 1; omega, HN.out, (by rw [← HA.out]; simp [escR, he, enc]), HI.out, bb, by have := len_step (r := (r : Int)) hal; omega⟩
      · obtain ⟨n34, n39, n92, n8, n12, n10, n13, n9, n0⟩ := hne
        have he := esc_same single r ⟨n34, n39, n92, n8, n12, n10, n13, n9, n0⟩ (by omega)
        have f34 : ((r : Int) == 34) = false := by simp; omega
        have f39 : ((r : Int) == 39) = false := by simp; omega
        have f92 : ((r : Int) == 92) = false := by simp; omega
        have f8 : ((r : Int) == 8) = false := by simp; omega
        have f12 : ((r : Int) == 12) = false := by simp; omega
        have f10 : ((r : Int) == 10) = false := by simp; omega
        have f13 : ((r : Int) == 13) = false := by simp; omega
        have f9 : ((r : Int) == 9) = false := by simp; omega
        have f0 : ((r : Int) == 0) = false := by simp; omega
        have ta : decide ((r : Int) < 32) = false := by simp; omega
        have ua : decide (r < 32) = false := by simp; omega
        have tb : decide (127 ≤ (r : Int)) = true := by simp; omega
        have ub : decide (127 ≤ r) = true := by simp; omega
        have tc : decide ((r : Int) ≤ 159) = false := by simp; omega
        have uc : decide (r ≤ 159) = false := by simp; omega
        obtain ⟨q, hq1⟩ : ∃ q, q = pos + (Lib.encodeRune (r : Int)).length := ⟨_, rfl⟩
        have hw : IntKind.i64.wrap ((pos : Int) + ((Lib.encodeRune (r : Int)).length : Int)) = (q : Int) := by rw [wrap_small _ (by omega) (by omega)]; omega
        have HN := Lib.hid hT.next.2.1
        rw [← hq1] at HN
        have HT := Lib.hid hT
        clear hT
        go_wp2_with (first
          | (go_at_call 23; refine (dec_tail HT.out _ (tabs_below hU bb h2)).mono ?_; rintro e w2 ⟨rfl, b2⟩; replace bb := bb.trans (b2.mono bb.size); have h3 := HI.out.old b2; clear HI b2; have HI := Lib.hid h3; clear h3)
          | (go_at_call 24; refine (wrune w.heap.size _ _ (by omega) (by omega) _ HI.out bb.size (by first | exact Nat.le_trans hal (by omega) | exact Nat.le_trans (len_step hal) (by omega) | exact Nat.le_trans (len_step (len_step hal)) (by omega))).mono ?_; rintro e w2 ⟨rfl, h2, b2⟩; replace bb := bb.trans b2; clear HI b2; have HI := Lib.hid h2; clear h2))
        go_roundg l.length
        case measure => simp
        case rel => exact ⟨q, l, _, rfl, by congr 1; omega, HN.out, (by rw [← HA.out]; simp [escR, he, enc]), HI.out, bb, by have := len_step (r := (r : Int)) hal; omega⟩

end Go.Proofs.YtmggbhfdomlmcaaGreatFmt
