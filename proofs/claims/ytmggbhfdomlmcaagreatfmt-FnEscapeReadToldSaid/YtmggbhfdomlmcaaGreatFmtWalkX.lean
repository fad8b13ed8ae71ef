/-
  StringUnescape on a text that StringEscape may have made.
-/
import Derived.Test.YtmggbhfdomlmcaaGreatFmtWalkH
import Derived.Test.YtmggbhfdomlmcaaGreatFmtPlainE
import Derived.Lib.BufferOld
import Derived.Deep.Cut
namespace Go.Proofs.YtmggbhfdomlmcaaGreatFmt
open Go.RowKit

theorem dec_tail {t : ByteArray} {pos r : Nat} {rs : List Nat} (hT : Tail t pos (r :: rs)) (w : World) (hU : Lib.Utf8Tabs 0 1 w) :
    Calls Tryz.prog 23 #[.string (t.extract pos t.size)] w fun e w' => e = .returned (.tuple #[.int .i32 r, .int .i64 (Lib.encodeRune (r : Int)).length]) ∧ Below w.heap.size w w' := by
  have h := dec_any t pos hT.next.2.2.1 w hU
  rw [hT.next.1] at h
  exact h

theorem dec_tail1 {t : ByteArray} {pos r : Nat} {rs : List Nat} (hT : Tail t pos (r :: rs)) (hr : r < 128) (w : World) (hU : Lib.Utf8Tabs 0 1 w) :
    Calls Tryz.prog 23 #[.string (t.extract pos t.size)] w fun e w' => e = .returned (.tuple #[.int .i32 r, .int .i64 1]) ∧ Below w.heap.size w w' := by
  have h := dec_any t pos hT.next.2.2.1 w hU
  rw [(hT.next1 hr).1] at h
  exact h

theorem buf_rune {B b : Nat} {acc : List UInt8} {r : Int} {w : World} (h : Lib.IsBuffer 56 5 B b (Lib.byteCells acc ++ Lib.runeCells r) w) : Lib.IsBuffer 56 5 B b (Lib.byteCells (acc ++ Lib.encodeRune r)) w := by
  rw [Lib.byteCells_append, Lib.byteCells_encodeRune]
  exact h

theorem acc_rune {acc : List UInt8} {r : Int} {p q : Nat} (h : acc.length ≤ 4 * p) (hq : p + 1 ≤ q) : (acc ++ Lib.encodeRune r).length ≤ 4 * q := by
  have := (encodeRune_len r).2
  rw [List.length_append]
  omega

/-- Four figures of base 16 are read as two bytes. -/
theorem hex_four (c : Nat) (h : c < 256) (w : World) (ev : Value) (hE : w.cell? ⟨13, 0, none⟩ = some ev) :
    Calls Tryz.prog 148 #[.string ⟨[48, 48, UInt8.ofNat (hexRune (c / 16)), UInt8.ofNat (hexRune (c % 16))].toArray⟩] w fun e w' => (∃ H, e = .returned (.tuple #[.slice (some ⟨H, 0, none⟩) 2 2, .nilIface]) ∧
      w'.cell? ⟨H, 0, none⟩ = some (.int .u8 0) ∧ w'.cell? ⟨H, 1, none⟩ = some (.int .u8 c)) ∧ Below w.heap.size w w' := by
  have hz : ByteArray.size ⟨[48, 48, UInt8.ofNat (hexRune (c / 16)), UInt8.ofNat (hexRune (c % 16))].toArray⟩ = 4 := by rw [Lib.size_eq]; rfl
  refine (Tryz.hex_DecodeString ⟨[48, 48, UInt8.ofNat (hexRune (c / 16)), UInt8.ofNat (hexRune (c % 16))].toArray⟩ w ev hE (by rw [hz]; omega)).mono ?_
  rintro e w' ⟨rfl, ⟨C, hC, hn, hf⟩, b⟩
  simp only [hex_decode c h, hz] at hf ⊢
  refine ⟨⟨w.heap.size, rfl, ?_, ?_⟩, b⟩
  · rw [cell_of_heap hC, hf 0 (by decide)]
    rfl
  · rw [cell_of_heap hC, hf 1 (by decide)]
    simp [Lib.Hx.rowP]
    omega

theorem surr_any (r : Int) (h0 : 0 ≤ r) (h1 : r < 256) (w : World) : Calls Tryz.prog 149 #[.int .i32 r] w fun e w' => e = .returned (.bool false) ∧ w = w' := by
  have a1 : decide (55296 ≤ r) = false := by simp; omega
  have a2 : decide (r < 57344) = true := by simp; omega
  go_enter Tryz.func149, Tryz.ntmps149
  go_wp2
  go_ret
  exact ⟨rfl, rfl⟩

set_option maxRecDepth 1000000 in
set_option maxHeartbeats 12800000 in
theorem unesc_any (single : Bool) (lo : Value) (s : ByteArray) (hs : s.size ≤ 1000000) (rs : List Nat) (hT : Tail s 0 (escR single rs)) (hok : ∀ r ∈ rs, RuneOk r) (w : World) (h14 : 14 ≤ w.heap.size) (hU : Lib.Utf8Tabs 0 1 w) (ev : Value) (hE : w.cell? ⟨13, 0, none⟩ = some ev) :
    Calls Tryz.prog 138 #[lo, .string s] w fun e w' => (∃ t, e = .returned (.tuple #[.string t, .nilIface])) ∧ Below w.heap.size w w' := by
  have h2 : 2 ≤ w.heap.size := by omega
  go_enter Tryz.func138, Tryz.ntmps138
  go_wp2_with fail
  go_loopg [7] rs.length (fun k v wr => ∃ (pos : Nat) (l : List Nat) (acc : List UInt8), k = l.length ∧ v = .int .i64 pos ∧ Tail s pos (escR single l) ∧ (∀ r ∈ l, RuneOk r) ∧ Lib.IsBuffer 56 5 w.heap.size w.heap.size (Lib.byteCells acc) wr ∧ Below w.heap.size w wr ∧ acc.length ≤ 4 * pos)
  case atStart => exact ⟨0, rs, [], rfl, rfl, hT, hok, Lib.fresh_isBuffer 56 5 w, (Below.refl _ w).alloc (Nat.le_refl _) _, Nat.le_refl _⟩
  case round =>
    clear hT hok
    obtain ⟨pos, l, acc, rfl, rfl, hT, hok, hI, bb, hal⟩ := hrel
    have hps := hT.1
    have p0 : (0 : Int) ≤ (pos : Int) := by omega
    have p1 : (pos : Int) ≤ (s.size : Int) := by omega
    have HI := Lib.hid hI
    clear hI
    cases l with
    | nil =>
      have hlt : decide (pos < s.size) = false := by have := hT.at_end; simp; omega
      clear hT hok
      go_wp2_with (go_at_call 28; refine (Tryz.Buffer_String w.heap.size w.heap.size acc wr HI.out).mono ?_; rintro e W1 ⟨rfl, n, rfl⟩)
      exact bodyPost_ret (v := .tuple #[.string ⟨acc.toArray⟩, .nilIface]) (by simp [results, Tryz.results138, go_sem]) rfl ⟨⟨_, rfl⟩, below_drewN bb n⟩
    | cons r l =>
      have hok' : ∀ x ∈ l, RuneOk x := fun x hx => hok x (List.mem_cons_of_mem _ hx)
      have hr := hok r List.mem_cons_self
      have HO := Lib.hid hok'
      clear hok hok'
      have hr2 : (0 : Int) ≤ (r : Int) ∧ (r : Int) ≤ 1114111 := by unfold RuneOk at hr; omega
      clear hr
      simp only [escR] at hT
      have hlt : decide (pos < s.size) = true := by
        have hz := hT.size
        have hz1 := (enc_len (esc1 single r ++ escR single l)).1
        have hz2 := (esc1_len single r).1
        simp only [List.length_append] at hz1
        simp; omega
      rcases esc1_cases single r with ⟨he, hq, h92, _, _⟩ | ⟨x, he, hsays⟩ | ⟨he, h160⟩
      · rw [he, List.singleton_append] at hT
        have n92 : ((r : Int) == 92) = false := by simp; omega
        have HT := Lib.hid hT
        have HN := Lib.hid hT.next.2.1
        have hz := hT.next.2.2
        have hn := hT.next.2.1.1
        obtain ⟨q, hq1⟩ : ∃ q, q = pos + (Lib.encodeRune (r : Int)).length := ⟨_, rfl⟩
        have hw : IntKind.i64.wrap ((pos : Int) + ((Lib.encodeRune (r : Int)).length : Int)) = (q : Int) := by rw [wrap_small _ (by omega) (by omega)]; omega
        rw [← hq1] at HN
        clear hT hq he
        go_wp2_with (first
          | (go_at_call 23; refine (dec_tail HT.out _ (tabs_below hU bb h2)).mono ?_; rintro e w2 ⟨rfl, b2⟩; replace bb := bb.trans (b2.mono bb.size); have h2 := HI.out.old b2; clear HI b2; have HI := Lib.hid h2; clear h2)
          | (go_at_call 24; refine (Tryz.Buffer_WriteRune_k w.heap.size w.heap.size _ _ (by omega) (by omega) _ HI.out (bb.size) (Lib.byteCells_one _) (by rw [Lib.byteCells_length]; omega)).mono ?_; rintro e w2 ⟨rfl, h2, b2, _⟩; replace bb := bb.trans b2; clear HI b2; have HI := Lib.hid h2; clear h2))
        have hl4 := Lib.runeCells_le (r : Int)
        rw [Lib.runeCells_length] at hl4
        go_roundg l.length
        case measure => simp
        case rel =>
          refine ⟨q, l, acc ++ Lib.encodeRune r, rfl, by congr 1; omega, HN.out, HO.out, ?_, bb, by simp; omega⟩
          rw [Lib.byteCells_append, Lib.byteCells_encodeRune]; exact HI.out
      · rw [he] at hT
        simp only [List.cons_append, List.nil_append] at hT
        have hx : x < 128 := by unfold Says at hsays; omega
        obtain ⟨hd1, hT1, hz1⟩ := hT.next1 (by omega)
        obtain ⟨hd2, hT2, hz2⟩ := hT1.next1 hx
        have HT := Lib.hid hT
        have HT1 := Lib.hid hT1
        have HT2 := Lib.hid hT2
        clear hT hT1 hT2 he hd1 hd2
        have l1 : ((Lib.encodeRune ((92 : Nat) : Int)).length : Int) = 1 := by rw [enc_ascii 92 (by omega)]; rfl
        have l2 : ((Lib.encodeRune (x : Int)).length : Int) = 1 := by rw [enc_ascii x hx]; rfl
        have g1 : decide ((s.size : Int) ≤ (pos : Int) + 1) = false := by simp; omega
        have g0 : decide (s.size ≤ pos + 1) = false := by simp; omega
        have g2 : (0 : Int) ≤ (pos : Int) + 1 := by omega
        have g3 : (pos : Int) + 1 ≤ (s.size : Int) := by omega
        have g4 : ((pos : Int) + 1).toNat = pos + 1 := by omega
        rcases hsays with ⟨rfl, rfl⟩ | ⟨rfl, rfl⟩ | ⟨rfl, rfl⟩ | ⟨rfl, rfl⟩ | ⟨rfl, rfl⟩ | ⟨rfl, rfl⟩ | ⟨rfl, rfl⟩ | ⟨rfl, rfl⟩
        all_goals
          go_upto_region 11 with (go_at_call 23; refine (dec_tail1 HT.out (by omega) _ (tabs_below hU bb h2)).mono ?_; rintro e w2 ⟨rfl, b2⟩; replace bb := bb.trans (b2.mono bb.size); have h2 := HI.out.old b2; clear HI b2; have HI := Lib.hid h2; clear h2)
          go_wp2_with (first
            | (go_at_call 23; refine (dec_tail1 HT1.out (by omega) _ (tabs_below hU bb h2)).mono ?_; rintro e w2 ⟨rfl, b2⟩; replace bb := bb.trans (b2.mono bb.size); have h2 := HI.out.old b2; clear HI b2; have HI := Lib.hid h2; clear h2)
            | (go_at_call 24; refine (Tryz.Buffer_WriteRune_k w.heap.size w.heap.size _ _ (by omega) (by omega) _ HI.out (bb.size) (Lib.byteCells_one _) (by rw [Lib.byteCells_length]; omega)).mono ?_; rintro e w2 ⟨rfl, h2, b2, _⟩; replace bb := bb.trans b2; clear HI b2; have HI := Lib.hid h2; clear h2))
          go_roundg l.length
          case measure => simp
          case rel => exact ⟨pos + 1 + 1, l, _, rfl, by congr 1, HT2.out, HO.out, buf_rune HI.out, bb, acc_rune hal (by omega)⟩
      · have hr256 : r < 256 := by omega
        rw [he] at hT
        simp only [List.cons_append, List.nil_append] at hT
        obtain ⟨hd1, hT1, hz1⟩ := hT.next1 (by omega)
        obtain ⟨hd2, hT2, hz2⟩ := hT1.next1 (by omega)
        have hcut := Tail.cut (a := [48, 48, hexRune (r / 16), hexRune (r % 16)]) (b := escR single l) hT2
        have hT6 := Tail.skip (a := [48, 48, hexRune (r / 16), hexRune (r % 16)]) (b := escR single l) hT2
        rw [enc_four r hr256] at hcut hT6
        simp only [List.length_cons, List.length_nil, Nat.zero_add, Nat.reduceAdd] at hcut hT6
        have hz6 := hT6.1
        have HT := Lib.hid hT
        have HT1 := Lib.hid hT1
        have HT6 := Lib.hid hT6
        have hdec := hex_decode r hr256
        clear hT hT1 hT2 hT6 he hd1 hd2
        have g1 : decide ((s.size : Int) ≤ (pos : Int) + 1) = false := by simp; omega
        have g0 : decide (s.size ≤ pos + 1) = false := by simp; omega
        have g2 : (0 : Int) ≤ (pos : Int) + 1 := by omega
        have g3 : (pos : Int) + 1 ≤ (s.size : Int) := by omega
        have g4 : ((pos : Int) + 1).toNat = pos + 1 := by omega
        have g5 : decide ((s.size : Int) < (pos : Int) + 1 + 1 + 4) = false := by simp; omega
        have g6 : (pos : Int) + 1 + 1 ≤ (pos : Int) + 1 + 1 + 4 := by omega
        have g7 : (pos : Int) + 1 + 1 + 4 ≤ (s.size : Int) := by omega
        have g10 : (0 : Int) ≤ (pos : Int) + 1 + 1 := by omega
        have g8 : ((pos : Int) + 1 + 1).toNat = pos + 1 + 1 := by omega
        have g9 : ((pos : Int) + 1 + 1 + 4).toNat = pos + 1 + 1 + 4 := by omega
        go_upto_region 11 with (go_at_call 23; refine (dec_tail1 HT.out (by omega) _ (tabs_below hU bb h2)).mono ?_; rintro e w2 ⟨rfl, b2⟩; replace bb := bb.trans (b2.mono bb.size); have h2 := HI.out.old b2; clear HI b2; have HI := Lib.hid h2; clear h2)
        go_upto_region 36 with (go_at_call 23; refine (dec_tail1 HT1.out (by omega) _ (tabs_below hU bb h2)).mono ?_; rintro e w2 ⟨rfl, b2⟩; replace bb := bb.trans (b2.mono bb.size); have h2 := HI.out.old b2; clear HI b2; have HI := Lib.hid h2; clear h2)
        have hex := hex_four r hr256
        rw [← hcut] at hex
        have HX := Lib.hid hex
        clear hex hcut hdec
        have hE2 := (bb.cell (p := ⟨13, 0, none⟩) h14).trans hE
        go_upto_region 40 with (go_at_call 148; refine (HX.out _ ev hE2).mono ?_; rintro e w2 ⟨⟨H, rfl, m0, m1⟩, b2⟩; replace bb := bb.trans (b2.mono bb.size); have h2 := HI.out.old b2; clear HI b2; have HI := Lib.hid h2; clear h2)
        have q0 : (0 : Int) ≤ (r : Int) := by omega
        have q1 : (r : Int) < 256 := by omega
        refine wp_front (S := fun w' => w'.cell? ⟨H, 0, none⟩ = some (.int .u8 0) ∧ w'.cell? ⟨H, 1, none⟩ = some (.int .u8 r)) 12 [(0, true), (1, true), (2, true), (3, true), (4, true), (5, true), (6, true), (7, true), (8, true), (9, true), (10, true), (11, true)] (by kernel_rfl) (by kernel_rfl) ⟨m0, m1⟩ ?_
        iterate 12 (refine Front.still' (v := ?_) rfl (Or.inl ⟨by rfl, ?_⟩) (fun _ _ _ h => h) ?_; rotate_left 1; (focus (intro w hSw; (try dsimp only at hSw); go_simp; all_goals (with_reducible rfl))); (try simp only [Act.put, List.setIfInBounds_toArray, List.set_cons_zero, List.set_cons_succ]))
        refine Front.done ?_
        go_wp2_with (first
          | (go_at_call 149; refine (surr_any _ (by omega) (by omega) _).mono ?_; rintro e w' ⟨rfl, rfl⟩)
          | (go_at_call 24; refine (Tryz.Buffer_WriteRune_k w.heap.size w.heap.size _ _ (by omega) (by omega) w2.drew HI.out bb.size (Lib.byteCells_one _) (by rw [Lib.byteCells_length]; omega)).mono ?_; rintro e w3 ⟨rfl, h2, b2, _⟩; replace bb := bb.drew.trans b2; clear HI b2; have HI := Lib.hid h2; clear h2))
        go_roundg l.length
        case measure => simp
        case rel => exact ⟨pos + 1 + 1 + 4, l, _, rfl, by congr 1, HT6.out, HO.out, buf_rune HI.out, bb, acc_rune hal (by omega)⟩

end Go.Proofs.YtmggbhfdomlmcaaGreatFmt
