/-
  Parse, SnippetToRawAST and impl.Parse on a text between quotes.
-/
import Derived.Test.YtmggbhfdomlmcaaGreatFmtWalkY
import Derived.Test.YtmggbhfdomlmcaaGreatFmtWalkOb
import Derived.Test.YtmggbhfdomlmcaaGreatFmtWalkQ
import Derived.Test.YtmggbhfdomlmcaaGreatFmtWalkT
import Derived.Test.YtmggbhfdomlmcaaGreatFmtWalkJ
import Derived.Test.YtmggbhfdomlmcaaGreatFmtWalkK
namespace Go.Proofs.YtmggbhfdomlmcaaGreatFmt
open Go.RowKit

set_option maxRecDepth 1000000 in
set_option maxHeartbeats 6400000 in
theorem parse_str {g cap : Nat} {fa fb : Option Addr} {data da2 : ByteArray} {S : Nat} {imf : ByteArray} {bl bc el ec bl2 bc2 el2 ec2 : Int} (kd ko : Int) (hk : (kd = 14 ∧ ko = 1) ∨ (kd = 15 ∧ ko = 0))
    (single : Bool) (rs : List Nat) (hT : Tail data 0 (escR single rs)) (hrs : ∀ r ∈ rs, RuneOk r) (hsz : data.size ≤ 1000000) (ev : Value) (w : World) (hE : Env ev w)
    (h : TokRow g (tokCells fa data S imf bl bc el ec kd ++ tokCells fb da2 S imf bl2 bc2 el2 ec2 36) w) (hg : g < w.heap.size) :
    Calls Tryz.prog 51 #[.slice (some ⟨g, 0, none⟩) 2 cap] w fun e w' => (∃ N fo, e = .returned (.tuple #[.iface 175 (.pointer (some ⟨N, 0, none⟩)), fo, .nilIface]) ∧ w.heap.size ≤ N ∧ w'.cell? ⟨N, 0, none⟩ = some (.string data) ∧ w'.cell? ⟨N, 12, none⟩ = some (.int .i64 ko)) ∧ Below w.heap.size w w' := by
  have H := Lib.hid h
  have h14 := hE.1
  have HK := Lib.hid (show kd = 10 ∨ kd = 14 ∨ kd = 15 by omega)
  have HTM := Lib.hid (fun (P : Nat) (w : World) (hE : Env ev w) (hP : 14 ≤ P) h => terminal_str (P := P) (g := g) (cap := cap) (fa := fa) (data := data) (S := S) (imf := imf) (bl := bl) (bc := bc) (el := el) (ec := ec) (ys := tokCells fb da2 S imf bl2 bc2 el2 ec2 36) kd ko hk single rs hT hrs hsz ev w hE hP h)
  have HEV := Lib.hid hE
  clear h hk hT hrs hE
  go_enter Tryz.func51, Tryz.ntmps51
  go_wp2_with (first
    | (go_at_call 74; refine (mkparser_any (cap := cap) w H.out hg).mono ?_; rintro e w1 ⟨⟨P, rfl, hP, h1⟩, b1⟩; have H1 := Lib.hid h1; clear h1)
    | (go_at_call 75; refine (parse_one_in (P := P) kd HK.out rfl rfl (NodeAt 175 178 P (fun xa => strCells data fa xa S imf bl bc el ec ko)) (fun v w w' h b => h.below b) (Env ev) (fun w w' h b => h.below b h.1) (fun w hE h => (HTM.out P w hE (Nat.le_trans h14 hP) h).mono (fun e w' h => by obtain ⟨⟨N, xa, h1, h2, h3⟩, h4, h5⟩ := h; exact ⟨_, h1, ⟨N, xa, rfl, h2, h3⟩, h4, h5⟩)) 16 (Nat.le_refl _) w1 (HEV.out.below b1 h14) H1.out).mono ?_; rintro e w2 ⟨v, rfl, ⟨N, xa, rfl, hN, hPN⟩, h2, b2⟩; have H2 := Lib.hid h2; have HN := Lib.hid hN; clear h2 hN)
    | (go_at_call 76; refine (H2.out.peek (Or.inr rfl)).mono ?_; rintro e w3 ⟨rfl, h3, b3⟩; have c21 := h3.2.1 21 _ rfl; have c11 := h3.2.1 11 _ rfl; have H3 := Lib.hid h3; have HN3 := Lib.hid (below_keep b3 HN.out (lt_of_heap HN.out)); clear h3)
    | (go_at_call 79; refine (addctx_str N w3.heap.size _ (strCells data fa xa S imf bl bc el ec ko).toArray _ (w3.alloc (.cells #[.string ⟨#[36]⟩] 9 (0, 0))) ((heap_old w3 _ (lt_of_heap HN3.out)).trans HN3.out) rfl ((cell_of_heap (heap_new w3 _) 0).trans rfl) (Nat.ne_of_gt (lt_of_heap HN3.out))).mono ?_; rintro e w4 ⟨rfl, h4, b4⟩; have HN4 := Lib.hid h4; clear h4))
  have hNs := lt_of_heap HN3.out
  have hPs := H3.out.lt
  have hgP := H3.out.2.2
  have d11 : w4.cell? ⟨g, 11, none⟩ = some (.slice fb 0 0) := ((World.cell?_of_block (b4.block g (by simp; omega) (by omega))).trans (World.cell?_alloc_lt w3 _ ⟨g, 11, none⟩ (by simp; omega))).trans c11
  have k0 := cell_of_heap HN4.out 0
  have k12 := cell_of_heap HN4.out 12
  simp at k0 k12
  have KK := Lib.hid (And.intro k0 k12)
  clear k0 k12 c11 c21
  go_quiet (fail)
  go_wp2_with fail
  have bb : Below w.heap.size w w4 := b1.trans ((b2.mono hP).trans ((b3.mono (by have := b1.size; have := b2.size; omega)).trans ((((But.refl N w3).alloc _).trans b4).below (by omega) (by omega))))
  exact bodyPost_ret (v := .tuple #[.iface 175 (.pointer (some ⟨N, 0, none⟩)), .slice fb 0 0, .nilIface]) (by simp [results, Tryz.results51, go_sem]) rfl ⟨⟨N, _, rfl, by omega, KK.out.1, KK.out.2⟩, below_drewN bb _⟩

/-- The text between the quotes. -/
theorem between (t : ByteArray) (q : Nat) (hq : q < 128) (body : List Nat) (hT : Tail t 0 (q :: (body ++ [q]))) : t.extract 1 (t.size - 1) = ⟨(enc body).toArray⟩ := by
  obtain ⟨_, h1, _⟩ := hT.next1 hq
  have h2 := Tail.cut (a := body) (b := [q]) h1
  have h3 := h1.size
  rw [enc_append, List.length_append] at h3
  have h4 : (enc [q]).length = 1 := by simp [enc, enc_ascii q hq]
  have h5 : t.size - 1 = 0 + 1 + (enc body).length := by omega
  rw [h5]
  exact h2

set_option maxRecDepth 1000000 in
set_option maxHeartbeats 6400000 in
theorem snip32_str (df imf t : ByteArray) (hs : t.size ≤ 1000000) (single : Bool) (kd ko : Int) (hk : (single = false ∧ kd = 14 ∧ ko = 1) ∨ (single = true ∧ kd = 15 ∧ ko = 0)) (rs : List Nat) (hT : Tail t 0 (quoteOf single :: (escR single rs ++ [quoteOf single]))) (hrs : ∀ r ∈ rs, RuneOk r) (ev : Value) (w : World) (hE : Env ev w) :
    Calls Tryz.prog 32 #[.string df, .string imf, .string t] w fun e w' => (∃ N fo, e = .returned (.tuple #[.iface 175 (.pointer (some ⟨N, 0, none⟩)), fo, .nilIface]) ∧ w.heap.size ≤ N ∧ w'.cell? ⟨N, 0, none⟩ = some (.string ⟨(enc (escR single rs)).toArray⟩) ∧ w'.cell? ⟨N, 12, none⟩ = some (.int .i64 ko)) ∧ Below w.heap.size w w' := by
  have hesc := esc_ok single rs hrs
  have hx := between t (quoteOf single) (by cases single <;> decide) _ hT
  have hd : (⟨(enc (escR single rs)).toArray⟩ : ByteArray).size ≤ 1000000 := by rw [← hx]; simp; omega
  have hTd := Tail.start (escR single rs) (fun r hr => (hesc r hr).1)
  have h2 : 2 ≤ w.heap.size := by have := hE.1; omega
  have HLX : ∀ w : World, 2 ≤ w.heap.size → Lib.Utf8Tabs 0 1 w → Calls Tryz.prog 50 #[.string df, .string imf, .string t] w fun e w' => (∃ B S g cap fa fb, w.heap.size ≤ B ∧ e = .returned (.tuple #[.slice (some ⟨g, 0, none⟩) 2 cap, .nilIface]) ∧
      w'.ownsRow B 249 11 (.slice (some ⟨g, 0, none⟩) 2 cap) 2 (tokCells fa ⟨(enc (escR single rs)).toArray⟩ S imf 1 1 1 ((t.size : Int) + 1) kd ++ tokCells fb ⟨#[]⟩ S imf 1 ((t.size : Int) + 1) 1 ((t.size : Int) + 1) 36)) ∧ Below w.heap.size w w' := by
    intro w h2 hU
    rw [← hx]
    rcases hk with ⟨rfl, rfl, rfl⟩ | ⟨rfl, rfl, rfl⟩
    · exact lex_str34 df imf t hs _ hT (fun x hx => (hesc x hx).2) (scan_esc false rs) w h2 hU
    · exact lex_str39 df imf t hs _ hT (fun x hx => (hesc x hx).2) (scan_esc true rs) w h2 hU
  have HL := Lib.hid (HLX w h2 hE.2.1)
  have HP := Lib.hid (fun (g cap : Nat) (fa fb : Option Addr) (S : Nat) (w1 : World) (b1 : Below w.heap.size w w1) h hg => parse_str (g := g) (cap := cap) (fa := fa) (fb := fb) (data := ⟨(enc (escR single rs)).toArray⟩) (da2 := ⟨#[]⟩) (S := S) (imf := imf) (bl := 1) (bc := 1) (el := 1) (ec := (t.size : Int) + 1) (bl2 := 1) (bc2 := (t.size : Int) + 1) (el2 := 1) (ec2 := (t.size : Int) + 1)
    kd ko (by rcases hk with ⟨_, h1, h2⟩ | ⟨_, h1, h2⟩ <;> omega) single rs hTd hrs hd ev w1 (hE.below b1 hE.1) h hg)
  clear HLX hT hesc hx hTd hd hk
  go_enter Tryz.func32, Tryz.ntmps32
  go_wp2_with (first
    | (go_at_call 50; refine HL.out.mono ?_; rintro e w1 ⟨⟨B, S, g, cap, fa, fb, hB, rfl, hown⟩, b1⟩; obtain ⟨ht, hg1, hg2⟩ := TokRow.of_own hown; have HT1 := Lib.hid ht; clear hown ht)
    | (go_at_call 51; refine (HP.out g cap fa fb S w1 b1 HT1.out hg2).mono ?_; rintro e w2 ⟨⟨N, fo, rfl, hN, hc⟩, b2⟩))
  have hz := b1.size
  exact bodyPost_ret (v := .tuple #[.iface 175 (.pointer (some ⟨N, 0, none⟩)), fo, .nilIface]) (by simp [results, Tryz.results32, go_sem]) rfl ⟨⟨N, fo, rfl, by omega, hc⟩, b1.trans (b2.mono hz)⟩

set_option maxRecDepth 1000000 in
theorem snip20_str (t : ByteArray) (hs : t.size ≤ 1000000) (single : Bool) (kd ko : Int) (hk : (single = false ∧ kd = 14 ∧ ko = 1) ∨ (single = true ∧ kd = 15 ∧ ko = 0)) (rs : List Nat) (hT : Tail t 0 (quoteOf single :: (escR single rs ++ [quoteOf single]))) (hrs : ∀ r ∈ rs, RuneOk r) (ev : Value) (w : World) (hE : Env ev w) :
    Calls Tryz.prog 20 #[.string ⟨#[]⟩, .string t] w fun e w' => (∃ N fo, e = .returned (.tuple #[.iface 175 (.pointer (some ⟨N, 0, none⟩)), fo, .nilIface]) ∧ w.heap.size ≤ N ∧ w'.cell? ⟨N, 0, none⟩ = some (.string ⟨(enc (escR single rs)).toArray⟩) ∧ w'.cell? ⟨N, 12, none⟩ = some (.int .i64 ko)) ∧ Below w.heap.size w w' := by
  have HS := Lib.hid (fun df imf => snip32_str df imf t hs single kd ko hk rs hT hrs ev w hE)
  clear hT hrs hE hk
  go_enter Tryz.func20, Tryz.ntmps20
  go_wp2_with (first
    | (go_at_call 32; refine (HS.out _ _).mono ?_; rintro e w1 ⟨⟨N, fo, rfl, hN, hc⟩, b1⟩))
  exact bodyPost_ret (v := .tuple #[.iface 175 (.pointer (some ⟨N, 0, none⟩)), fo, .nilIface]) (by simp [results, Tryz.results20, go_sem]) rfl ⟨⟨N, fo, rfl, by omega, hc⟩, b1⟩

theorem implparse_str (t : ByteArray) (hs : t.size ≤ 1000000) (single : Bool) (kd ko : Int) (hk : (single = false ∧ kd = 14 ∧ ko = 1) ∨ (single = true ∧ kd = 15 ∧ ko = 0)) (rs : List Nat) (hT : Tail t 0 (quoteOf single :: (escR single rs ++ [quoteOf single]))) (hrs : ∀ r ∈ rs, RuneOk r) (ev : Value) (w : World) (hE : Env ev w) :
    Calls Tryz.prog 11 #[.string t] w fun e w' => e = .returned (.tuple #[nodeV 4 ⟨(enc (escR single rs)).toArray⟩ ko, .bool true]) ∧ Below w.heap.size w w' := by
  refine parse_of t 4 _ _ w fun w' hb => ?_
  refine (snip20_str t hs single kd ko hk rs hT hrs ev w' (hE.below hb hE.1)).mono ?_
  rintro e w'' ⟨⟨N, fo, rfl, hN, hc, hc2⟩, hb'⟩
  refine ⟨⟨_, fo, rfl, fun w3 hb3 => ?_⟩, hb'⟩
  have hlt : N < w''.heap.size := by
    have := World.block_lt_of_cell? w'' ⟨N, 0, none⟩ hc
    exact this
  exact simple_str N _ _ w3 (Nat.lt_of_lt_of_le hlt hb3.size) ((hb3.cell (p := ⟨N, 0, none⟩) hlt).trans hc) ((hb3.cell (p := ⟨N, 12, none⟩) hlt).trans hc2)

end Go.Proofs.YtmggbhfdomlmcaaGreatFmt
