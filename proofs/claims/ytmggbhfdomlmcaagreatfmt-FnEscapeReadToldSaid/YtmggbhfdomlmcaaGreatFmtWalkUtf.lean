/-
  The reference's word on UTF-8: a text is made of its runes anew.
-/
import Derived.Test.YtmggbhfdomlmcaaGreatFmtPlainG
import Derived.Test.YtmggbhfdomlmcaaGreatFmtWalkB
import Derived.Lib.Hide
import Derived.Test.YtmggbhfdomlmcaaGreatFmtMemA
namespace Go.Proofs.YtmggbhfdomlmcaaGreatFmt
open Go.RowKit

theorem addr_add' (b j : Nat) : (⟨b, 0, none⟩ : Addr).add j = ⟨b, j, none⟩ := by
  cases j <;> simp [Addr.add]

set_option maxRecDepth 100000 in
set_option maxHeartbeats 6400000 in
theorem utf_any (s : ByteArray) (hs : s.size ≤ 1000000) (r : Bool) (hr : r = true ↔ UtfOk s) (w : World) :
    Calls Tryz.prog 10 #[.string s] w fun e w' => e = .returned (.bool r) ∧ Below w.heap.size w w' := by
  have hl := runesN_len s s.size 0
  have hok := runesN_ok s s.size 0
  obtain ⟨rs, hrs⟩ : ∃ rs, rs = runesN s s.size 0 := ⟨_, rfl⟩
  unfold UtfOk at hr
  rw [← hrs] at hl hok hr
  have hR : Conv.runesFrom s s.size 0 #[] = (rs.map (fun r : Nat => Value.int .i32 (r : Int))).toArray := by rw [runesFrom_N, ← hrs]; simp
  have hz : (Conv.runesFrom s s.size 0 #[]).size = rs.length := by rw [hR]; simp
  have hc1 : ∀ w, (convert 9 40 (.string s)).run Tryz.prog w = _ := fun w => run_runes_of_string w 9 40 21 s Tryz.underlying9 Tryz.underlying40 Tryz.underlying21 (by rw [hz]; omega)
  rw [hz] at hc1
  have hback : ∀ (cap : Nat) (w' : World), (∀ j, j < rs.length → w'.cell? ⟨w.heap.size, j, none⟩ = some (.int .i32 ((rs.map Int.ofNat).getD j 0))) → (convert 40 9 (.slice (some ⟨w.heap.size, 0, none⟩) rs.length cap)).run Tryz.prog w' = .ok (.string (runesBytes (rs.map Int.ofNat))) w' := by
    intro cap w' hc
    have h1 := run_convert_runes (P := Tryz.prog) w' 40 9 21 ⟨w.heap.size, 0, none⟩ rs.length cap (rs.map Int.ofNat) (by simp) Tryz.underlying40 Tryz.underlying21 Tryz.underlying9 (fun j hj => by rw [addr_add']; exact hc j (by simpa using hj))
    rw [h1]
    congr 2
    rw [List.take_of_length_le (by simp)]
  have hbk := runes_back rs hok
  have hbin : ((runesBytes (rs.map Int.ofNat)).toList == s.toList) = r := by
    rw [ByteArray.toList_eq, ByteArray.toList_eq, hbk]
    cases r
    · have h1 : ¬ s.data.toList = enc rs := fun h => by have := hr.2 h; cases this
      simpa using fun h => h1 h.symm
    · simpa using (hr.1 rfl).symm
  have hB : ∀ (C : Array Value) (cap : Nat), (convert 40 9 (.slice (some ⟨w.heap.size, 0, none⟩) rs.length cap)).run Tryz.prog (w.alloc (.cells ((rs.map (fun r : Nat => Value.int .i32 (r : Int))).toArray ++ C) 21)).drew = .ok (.string (runesBytes (rs.map Int.ofNat))) (w.alloc (.cells ((rs.map (fun r : Nat => Value.int .i32 (r : Int))).toArray ++ C) 21)).drew := by
    intro C cap
    refine hback cap _ (fun j hj => ?_)
    refine (cell_of_heap (heap_new w _) j).trans ?_
    rw [Array.getElem?_append_left (by simpa using hj)]
    simp [hj]
  clear hrs hback
  go_enter Tryz.func10, Tryz.ntmps10
  go_wp2_with (first | simp only [hc1] | simp only [hB])
  exact bodyPost_ret (v := .bool r) (by simp [results, Tryz.results10, go_sem]) rfl ⟨rfl, below_drewN ((Below.refl _ w).alloc (Nat.le_refl _) _) 1⟩

end Go.Proofs.YtmggbhfdomlmcaaGreatFmt
