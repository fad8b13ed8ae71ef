/-
  The reference's Unescape on a text that StringEscape has made: it says what was escaped.
-/
import Derived.Test.YtmggbhfdomlmcaaGreatFmtWalkUtf
import Derived.Test.YtmggbhfdomlmcaaGreatFmtWalkHex
import Derived.Test.YtmggbhfdomlmcaaGreatFmtMapLit
namespace Go.Proofs.YtmggbhfdomlmcaaGreatFmt
open Go.RowKit

/-- What stands behind a backslash. -/
def escEs : Array MapEntry := #[⟨.int .u8 34, .string ⟨#[34]⟩, 0⟩, ⟨.int .u8 39, .string ⟨#[39]⟩, 1⟩, ⟨.int .u8 92, .string ⟨#[92]⟩, 2⟩, ⟨.int .u8 47, .string ⟨#[47]⟩, 3⟩, ⟨.int .u8 98, .string ⟨#[8]⟩, 4⟩, ⟨.int .u8 102, .string ⟨#[12]⟩, 5⟩, ⟨.int .u8 110, .string ⟨#[10]⟩, 6⟩, ⟨.int .u8 114, .string ⟨#[13]⟩, 7⟩, ⟨.int .u8 116, .string ⟨#[9]⟩, 8⟩]

theorem escR_len (single : Bool) : ∀ rs : List Nat, rs.length ≤ (escR single rs).length
  | [] => Nat.le_refl _
  | r :: rs => by
    have h1 := (esc1_len single r).1
    have h2 := escR_len single rs
    simp only [escR, List.length_append, List.length_cons]
    omega

theorem extract_one (s : ByteArray) (i : Nat) (h : i < s.size) : (s.extract i (i + 1)).data.toList = [s[i]'h] := by
  rw [Lib.extract_data, List.drop_eq_getElem_cons (by rw [data_size]; exact h), Nat.add_sub_cancel_left]
  rfl

theorem un_eq {a b : ByteArray} {p q r : List UInt8} (h : b.data.toList = p) (ha : a.data.toList ++ (p ++ q) = r) : (a ++ b).data.toList ++ q = r := by
  rw [← ha, ← h]
  simp

theorem look_at {W : World} {b : Nat} (h : W.heap[b]? = some (.map escEs 9)) (x r : Nat) (hs : Says x r) : (Instr.lookup 149 (.map (some b)) (.int .u8 (x : Int)) true).run Tryz.prog W = .ok (.tuple #[.string ⟨#[UInt8.ofNat r]⟩, .bool true]) W := by
  rcases hs with ⟨rfl, rfl⟩ | ⟨rfl, rfl⟩ | ⟨rfl, rfl⟩ | ⟨rfl, rfl⟩ | ⟨rfl, rfl⟩ | ⟨rfl, rfl⟩ | ⟨rfl, rfl⟩ | ⟨rfl, rfl⟩
  · exact look_run Tryz.underlying149 Tryz.underlying5 h 34 0 _ rfl
  · exact look_run Tryz.underlying149 Tryz.underlying5 h 39 1 _ rfl
  · exact look_run Tryz.underlying149 Tryz.underlying5 h 92 2 _ rfl
  · exact look_run Tryz.underlying149 Tryz.underlying5 h 98 4 _ rfl
  · exact look_run Tryz.underlying149 Tryz.underlying5 h 102 5 _ rfl
  · exact look_run Tryz.underlying149 Tryz.underlying5 h 110 6 _ rfl
  · exact look_run Tryz.underlying149 Tryz.underlying5 h 114 7 _ rfl
  · exact look_run Tryz.underlying149 Tryz.underlying5 h 116 8 _ rfl

theorem look_u {W : World} {b : Nat} (h : W.heap[b]? = some (.map escEs 9)) : (Instr.lookup 149 (.map (some b)) (.int .u8 117) true).run Tryz.prog W = .ok (.tuple #[.string ⟨#[]⟩, .bool false]) W :=
  look_none Tryz.underlying149 Tryz.underlying5 h 117 (z := .string ⟨#[]⟩) (by kernel_rfl) rfl

set_option maxRecDepth 1000000 in
set_option maxHeartbeats 12800000 in
theorem unescape_any (single : Bool) (s : ByteArray) (hs : s.size ≤ 1000000) (rs : List Nat) (hT : Tail s 0 (escR single rs)) (hrs : ∀ r ∈ rs, RuneOk r) (w : World) :
    Calls Tryz.prog 22 #[.string s] w fun e w' => e = .returned (.tuple #[.string ⟨(enc rs).toArray⟩, .int .i64 1]) ∧ Below w.heap.size w w' := by
  have hM := Mid.start hT
  have hmm := @run_makeMap Tryz.prog
  have HU := Lib.hid (utf_any s hs true (by simp [utf_of_tail s _ hT]))
  have hZ := hT.size
  clear hT
  have m0 := heap_new w (.map #[] 0)
  obtain ⟨w1, r1, m1, b1⟩ := put_run (P := Tryz.prog) Tryz.underlying149 Tryz.underlying5 m0 34 (.string ⟨#[34]⟩) rfl
  obtain ⟨w2, r2, m2, b2⟩ := put_run (P := Tryz.prog) Tryz.underlying149 Tryz.underlying5 m1 39 (.string ⟨#[39]⟩) rfl
  obtain ⟨w3, r3, m3, b3⟩ := put_run (P := Tryz.prog) Tryz.underlying149 Tryz.underlying5 m2 92 (.string ⟨#[92]⟩) rfl
  obtain ⟨w4, r4, m4, b4⟩ := put_run (P := Tryz.prog) Tryz.underlying149 Tryz.underlying5 m3 47 (.string ⟨#[47]⟩) rfl
  obtain ⟨w5, r5, m5, b5⟩ := put_run (P := Tryz.prog) Tryz.underlying149 Tryz.underlying5 m4 98 (.string ⟨#[8]⟩) rfl
  obtain ⟨w6, r6, m6, b6⟩ := put_run (P := Tryz.prog) Tryz.underlying149 Tryz.underlying5 m5 102 (.string ⟨#[12]⟩) rfl
  obtain ⟨w7, r7, m7, b7⟩ := put_run (P := Tryz.prog) Tryz.underlying149 Tryz.underlying5 m6 110 (.string ⟨#[10]⟩) rfl
  obtain ⟨w8, r8, m8, b8⟩ := put_run (P := Tryz.prog) Tryz.underlying149 Tryz.underlying5 m7 114 (.string ⟨#[13]⟩) rfl
  obtain ⟨w9, r9, m9, b9⟩ := put_run (P := Tryz.prog) Tryz.underlying149 Tryz.underlying5 m8 116 (.string ⟨#[9]⟩) rfl
  have hmap : w9.heap[w.heap.size]? = some (.map escEs 9) := m9
  have hb9 : Below w.heap.size w w9 := (((But.refl w.heap.size w).alloc _).trans ((((((((b1.trans b2).trans b3).trans b4).trans b5).trans b6).trans b7).trans b8).trans b9)).below (Nat.le_refl _) (Nat.le_refl _)
  have hlt9 : w.heap.size < w9.heap.size := lt_of_heap hmap
  clear m0 m1 m2 m3 m4 m5 m6 m7 m8 m9 b1 b2 b3 b4 b5 b6 b7 b8 b9
  have hrz : (enc rs).length ≤ 4000000 := by
    have z1 := (enc_len rs).2
    have z2 := escR_len single rs
    have z3 := (enc_len (escR single rs)).1
    have z4 := hZ
    omega
  clear hZ
  have HM := Lib.hid hM
  have HR := Lib.hid hrs
  clear hM hrs
  go_enter Tryz.func22, Tryz.ntmps22
  go_wp2_with (go_at_call 10; refine (HU.out _).mono ?_; rintro e W0 ⟨rfl, b0⟩)
  have hmp := (b0.block w.heap.size hlt9).trans hmap
  have hb0 := hb9.trans (b0.mono hb9.size)
  clear b0 hb9 hmap hlt9 r1 r2 r3 r4 r5 r6 r7 r8 r9
  clear w1 w2 w3 w4 w5 w6 w7 w8 w9
  go_loopg [5, 6] s.size (fun n o c wr => ∃ (i : Nat) (cs : List UInt8) (l : List Nat) (a : ByteArray), n = s.size - i ∧ i ≤ s.size ∧ c = .int .i64 i ∧ o = .string a ∧ Mid single s i cs l ∧ a.data.toList ++ (cs ++ enc l) = enc rs ∧ (∀ r ∈ l, RuneOk r) ∧ wr.heap[w.heap.size]? = some (.map escEs 9) ∧ Below w.heap.size w wr)
  case atStart => exact ⟨0, [], rs, _, rfl, Nat.zero_le _, rfl, rfl, HM.out, rfl, HR.out, hmp, hb0⟩
  case round =>
    clear hmp hb0
    obtain ⟨i, cs, l, a, rfl, hi, rfl, rfl, hm, ha, hok, hmp, bb⟩ := hrel
    have haz : a.size ≤ 4000000 := by
      have := congrArg List.length ha
      rw [List.length_append, data_size] at this
      omega
    have HA := Lib.hid ha
    rcases hm.cases hok with ⟨hend, rfl, rfl⟩ | ⟨c, cs', l', ⟨ci, hc⟩, hne, hm', he, hok'⟩ | ⟨x, r, l', rfl, rfl, hsays, ⟨i0, c0⟩, ⟨i1, c1⟩, hm'⟩ | ⟨r, l', rfl, rfl, hr, ⟨i0, c0⟩, ⟨i1, c1⟩, h2, h3, h4, h5, hm'⟩
    · have hlt : decide (i < s.size) = false := by simp; omega
      clear hm
      go_wp2_with fail
      have hfin : a = ⟨(enc rs).toArray⟩ := by
        have := HA.out
        simp only [enc, List.append_nil] at this
        rw [← this]
      exact bodyPost_ret (v := .tuple #[.string ⟨(enc rs).toArray⟩, .int .i64 1]) (by simp [results, Tryz.results22, go_sem, hfin]) rfl ⟨rfl, bb⟩
    · have hlt : decide (i < s.size) = true := by simp; omega
      clear hm hok
      have h92 : c.toNat ≠ 92 := fun e => hne (UInt8.toNat_inj.1 e)
      have hcb : ((c.toNat : Int) != 92) = true := bne_iff_ne.2 (fun e => h92 (by omega))
      have g0 : (0 : Int) ≤ (i : Int) := by omega
      have g1 : (i : Int) ≤ (i : Int) + 1 := by omega
      have g2 : (i : Int) + 1 ≤ (s.size : Int) := by omega
      have g3 : ((i : Int) + 1).toNat = i + 1 := by omega
      have h1b := extract_one s i ci
      rw [hc] at h1b
      have HM' := Lib.hid hm'
      have HO := Lib.hid hok'
      have H1 := Lib.hid h1b
      have HE := Lib.hid he
      clear hm' hok' ha h1b he
      go_wp2_with fail
      go_roundg (s.size - (i + 1))
      case measure => omega
      case rel => exact ⟨i + 1, cs', l', _, rfl, by omega, by congr 1, rfl, HM'.out, un_eq H1.out (by have h := HA.out; rw [HE.out] at h; exact h), HO.out, hmp, bb⟩
    · have hlt : decide (i < s.size) = true := by simp; omega
      have HM' := Lib.hid hm'
      have HO := Lib.hid (fun y hy => hok y (List.mem_cons_of_mem r hy))
      clear hm hm' hok ha
      have g2 : (0 : Int) ≤ (i : Int) + 1 := by omega
      have g3 : (i : Int) + 1 < (s.size : Int) := by omega
      have g4 : ((i : Int) + 1).toNat = i + 1 := by omega
      have g5 : decide ((s.size : Int) ≤ (i : Int) + 1) = false := by simp; omega
      have g6 : decide (s.size ≤ i + 1) = false := by simp; omega
      rcases hsays with ⟨rfl, rfl⟩ | ⟨rfl, rfl⟩ | ⟨rfl, rfl⟩ | ⟨rfl, rfl⟩ | ⟨rfl, rfl⟩ | ⟨rfl, rfl⟩ | ⟨rfl, rfl⟩ | ⟨rfl, rfl⟩
      · have hl : (Instr.lookup 149 (.map (some w.heap.size)) (.int .u8 34) true).run Tryz.prog wr = .ok (.tuple #[.string ⟨#[34]⟩, .bool true]) wr := look_run Tryz.underlying149 Tryz.underlying5 hmp 34 0 _ rfl
        go_wp2_with fail
        go_roundg (s.size - (i + 2))
        case measure => omega
        case rel => exact ⟨i + 2, [], l', _, rfl, by omega, by congr 1, rfl, HM'.out, un_eq (b := ⟨#[_]⟩) rfl HA.out, HO.out, hmp, bb⟩
      · have hl : (Instr.lookup 149 (.map (some w.heap.size)) (.int .u8 39) true).run Tryz.prog wr = .ok (.tuple #[.string ⟨#[39]⟩, .bool true]) wr := look_run Tryz.underlying149 Tryz.underlying5 hmp 39 1 _ rfl
        go_wp2_with fail
        go_roundg (s.size - (i + 2))
        case measure => omega
        case rel => exact ⟨i + 2, [], l', _, rfl, by omega, by congr 1, rfl, HM'.out, un_eq (b := ⟨#[_]⟩) rfl HA.out, HO.out, hmp, bb⟩
      · have hl : (Instr.lookup 149 (.map (some w.heap.size)) (.int .u8 92) true).run Tryz.prog wr = .ok (.tuple #[.string ⟨#[92]⟩, .bool true]) wr := look_run Tryz.underlying149 Tryz.underlying5 hmp 92 2 _ rfl
        go_wp2_with fail
        go_roundg (s.size - (i + 2))
        case measure => omega
        case rel => exact ⟨i + 2, [], l', _, rfl, by omega, by congr 1, rfl, HM'.out, un_eq (b := ⟨#[_]⟩) rfl HA.out, HO.out, hmp, bb⟩
      · have hl : (Instr.lookup 149 (.map (some w.heap.size)) (.int .u8 98) true).run Tryz.prog wr = .ok (.tuple #[.string ⟨#[8]⟩, .bool true]) wr := look_run Tryz.underlying149 Tryz.underlying5 hmp 98 4 _ rfl
        go_wp2_with fail
        go_roundg (s.size - (i + 2))
        case measure => omega
        case rel => exact ⟨i + 2, [], l', _, rfl, by omega, by congr 1, rfl, HM'.out, un_eq (b := ⟨#[_]⟩) rfl HA.out, HO.out, hmp, bb⟩
      · have hl : (Instr.lookup 149 (.map (some w.heap.size)) (.int .u8 102) true).run Tryz.prog wr = .ok (.tuple #[.string ⟨#[12]⟩, .bool true]) wr := look_run Tryz.underlying149 Tryz.underlying5 hmp 102 5 _ rfl
        go_wp2_with fail
        go_roundg (s.size - (i + 2))
        case measure => omega
        case rel => exact ⟨i + 2, [], l', _, rfl, by omega, by congr 1, rfl, HM'.out, un_eq (b := ⟨#[_]⟩) rfl HA.out, HO.out, hmp, bb⟩
      · have hl : (Instr.lookup 149 (.map (some w.heap.size)) (.int .u8 110) true).run Tryz.prog wr = .ok (.tuple #[.string ⟨#[10]⟩, .bool true]) wr := look_run Tryz.underlying149 Tryz.underlying5 hmp 110 6 _ rfl
        go_wp2_with fail
        go_roundg (s.size - (i + 2))
        case measure => omega
        case rel => exact ⟨i + 2, [], l', _, rfl, by omega, by congr 1, rfl, HM'.out, un_eq (b := ⟨#[_]⟩) rfl HA.out, HO.out, hmp, bb⟩
      · have hl : (Instr.lookup 149 (.map (some w.heap.size)) (.int .u8 114) true).run Tryz.prog wr = .ok (.tuple #[.string ⟨#[13]⟩, .bool true]) wr := look_run Tryz.underlying149 Tryz.underlying5 hmp 114 7 _ rfl
        go_wp2_with fail
        go_roundg (s.size - (i + 2))
        case measure => omega
        case rel => exact ⟨i + 2, [], l', _, rfl, by omega, by congr 1, rfl, HM'.out, un_eq (b := ⟨#[_]⟩) rfl HA.out, HO.out, hmp, bb⟩
      · have hl : (Instr.lookup 149 (.map (some w.heap.size)) (.int .u8 116) true).run Tryz.prog wr = .ok (.tuple #[.string ⟨#[9]⟩, .bool true]) wr := look_run Tryz.underlying149 Tryz.underlying5 hmp 116 8 _ rfl
        go_wp2_with fail
        go_roundg (s.size - (i + 2))
        case measure => omega
        case rel => exact ⟨i + 2, [], l', _, rfl, by omega, by congr 1, rfl, HM'.out, un_eq (b := ⟨#[_]⟩) rfl HA.out, HO.out, hmp, bb⟩
    · have hlt : decide (i < s.size) = true := by simp; omega
      have hl4 := (encodeRune_len (r : Int)).2
      have hr0 := encode_ok r (hok r List.mem_cons_self)
      have HM' := Lib.hid hm'
      have HO := Lib.hid (fun y hy => hok y (List.mem_cons_of_mem r hy))
      clear hm hm' hok ha
      have g2 : (0 : Int) ≤ (i : Int) + 1 := by omega
      have g3 : (i : Int) + 1 < (s.size : Int) := by omega
      have g4 : ((i : Int) + 1).toNat = i + 1 := by omega
      have g5 : decide ((s.size : Int) ≤ (i : Int) + 1) = false := by simp; omega
      have g6 : decide (s.size ≤ i + 1) = false := by simp; omega
      have hl := look_u hmp
      have HF := Lib.hid (fun w => four_any s hs (i + 2) r (by omega) h2 h3 h4 h5 w)
      rw [show ((i + 2 : Nat) : Int) = (i : Int) + 1 + 1 by omega] at HF
      obtain ⟨h5z, _⟩ := h5
      clear h2 h3 h4
      have g7 : decide ((55296 : Int) ≤ (r : Int)) = false := by simp; omega
      have g8 : decide (55296 ≤ r) = false := by simp; omega
      go_wp2_with (go_at_call 41; refine (HF.out _).mono ?_; rintro e w' ⟨rfl, rfl⟩)
      go_roundg (s.size - (i + 6))
      case measure => omega
      case rel => exact ⟨i + 1 + 4 + 1, [], l', _, rfl, by omega, by congr 1, rfl, HM'.out, un_eq (b := ⟨(Lib.encodeRune (r : Int)).toArray⟩) rfl HA.out, HO.out, hmp, bb⟩

end Go.Proofs.YtmggbhfdomlmcaaGreatFmt
