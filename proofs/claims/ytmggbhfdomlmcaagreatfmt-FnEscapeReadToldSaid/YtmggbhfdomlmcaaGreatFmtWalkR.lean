/-
  Parse on a name and on a text between quotes.
-/
import Derived.Test.YtmggbhfdomlmcaaGreatFmtWalkQ
import Derived.Test.YtmggbhfdomlmcaaGreatFmtWalkO
import Derived.Test.YtmggbhfdomlmcaaGreatFmtWalkN
namespace Go.Proofs.YtmggbhfdomlmcaaGreatFmt
open Go.RowKit

/-- What the parser makes of a token whose terminal is known. -/
def NodeAt (d t : Nat) (P : Nat) (cs : Option Addr → List Value) (v : Value) (w : World) : Prop :=
  ∃ N xa, v = .iface d (.pointer (some ⟨N, 0, none⟩)) ∧ w.heap[N]? = some (.cells (cs xa).toArray t (0, 0)) ∧ P < N

theorem NodeAt.below {d t P : Nat} {cs : Option Addr → List Value} {v : Value} {w w' : World} (h : NodeAt d t P cs v w) (b : Below w.heap.size w w') : NodeAt d t P cs v w' := by
  obtain ⟨N, xa, rfl, h1, h2⟩ := h
  exact ⟨N, xa, rfl, below_keep b h1 (lt_of_heap h1), h2⟩

set_option maxRecDepth 1000000 in
set_option maxHeartbeats 6400000 in
theorem parse_name {g cap : Nat} {fa fb : Option Addr} {data da2 : ByteArray} {S : Nat} {imf : ByteArray} {bl bc el ec bl2 bc2 el2 ec2 : Int} (w : World) (h : TokRow g (tokCells fa data S imf bl bc el ec 10 ++ tokCells fb da2 S imf bl2 bc2 el2 ec2 36) w) (hg : g < w.heap.size) :
    Calls Tryz.prog 51 #[.slice (some ⟨g, 0, none⟩) 2 cap] w fun e w' => (∃ N fo, e = .returned (.tuple #[.iface 181 (.pointer (some ⟨N, 0, none⟩)), fo, .nilIface]) ∧ w.heap.size ≤ N ∧ w'.cell? ⟨N, 0, none⟩ = some (.string data)) ∧ Below w.heap.size w w' := by
  have H := Lib.hid h
  clear h
  go_enter Tryz.func51, Tryz.ntmps51
  go_wp2_with (first
    | (go_at_call 74; refine (mkparser_any (cap := cap) w H.out hg).mono ?_; rintro e w1 ⟨⟨P, rfl, hP, h1⟩, b1⟩; have H1 := Lib.hid h1; clear h1)
    | (go_at_call 75; refine (parse_one (P := P) 10 (Or.inl rfl) rfl rfl (NodeAt 181 183 P (fun xa => .string data :: baseCells fa xa S imf bl bc el ec)) (fun v w w' h b => h.below b) (fun w h => (terminal_name h).mono (fun e w' h => by obtain ⟨⟨N, xa, h1, h2, h3⟩, h4, h5⟩ := h; exact ⟨_, h1, ⟨N, xa, rfl, by simpa using h2, h3⟩, h4, h5⟩)) 16 (Nat.le_refl _) w1 H1.out).mono ?_; rintro e w2 ⟨v, rfl, ⟨N, xa, rfl, hN, hPN⟩, h2, b2⟩; have H2 := Lib.hid h2; have HN := Lib.hid hN; clear h2 hN)
    | (go_at_call 76; refine (H2.out.peek (Or.inr rfl)).mono ?_; rintro e w3 ⟨rfl, h3, b3⟩; have c21 := h3.2.1 21 _ rfl; have c11 := h3.2.1 11 _ rfl; have H3 := Lib.hid h3; have HN3 := Lib.hid (below_keep b3 HN.out (lt_of_heap HN.out)); clear h3)
    | (go_at_call 79; refine (addctx_var N w3.heap.size _ (Value.string data :: baseCells fa xa S imf bl bc el ec).toArray _ (w3.alloc (.cells #[.string ⟨#[36]⟩] 9 (0, 0))) ((heap_old w3 _ (lt_of_heap HN3.out)).trans HN3.out) rfl ((cell_of_heap (heap_new w3 _) 0).trans rfl) (Nat.ne_of_gt (lt_of_heap HN3.out))).mono ?_; rintro e w4 ⟨rfl, h4, b4⟩; have HN4 := Lib.hid h4; clear h4))
  have hNs := lt_of_heap HN3.out
  have hPs := H3.out.lt
  have hgP := H3.out.2.2
  have d11 : w4.cell? ⟨g, 11, none⟩ = some (.slice fb 0 0) := ((World.cell?_of_block (b4.block g (by simp; omega) (by omega))).trans (World.cell?_alloc_lt w3 _ ⟨g, 11, none⟩ (by simp; omega))).trans c11
  have k0 := cell_of_heap HN4.out 0
  simp at k0
  have KK := Lib.hid k0
  clear k0 c11 c21
  go_quiet (fail)
  go_wp2_with fail
  have bb : Below w.heap.size w w4 := b1.trans ((b2.mono hP).trans ((b3.mono (by have := b1.size; have := b2.size; omega)).trans ((((But.refl N w3).alloc _).trans b4).below (by omega) (by omega))))
  exact bodyPost_ret (v := .tuple #[.iface 181 (.pointer (some ⟨N, 0, none⟩)), .slice fb 0 0, .nilIface]) (by simp [results, Tryz.results51, go_sem]) rfl ⟨⟨N, _, rfl, by omega, KK.out⟩, below_drewN bb _⟩

end Go.Proofs.YtmggbhfdomlmcaaGreatFmt
