/-
  A region that draws, walked in ONE order: what yields in every world that meets S goes when it can; what acts goes when nothing else may; behind the region's last operation nothing is asked of S.
-/
import Derived.Deep.RegionHeld
import Derived.StillTail
namespace Go.Proofs.YtmggbhfdomlmcaaGreatFmt

section
variable {P : Program} {ops : Array Oper} {Q : Exit → Act → World → Prop} {md : Region.Mode} {S : World → Prop} {m : Nat}

/-- Whatever order is picked, and S behind every operation but number m. -/
def AnyBut (P : Program) (md : Region.Mode) (ops : Array Oper) (Q : Exit → Act → World → Prop) (S : World → Prop) (m : Nat) : Nat → Array Bool → Act → World → Prop
  | 0, listed, a, w => Region.ready md ops listed = [] ∧ Q .normal a w
  | fuel + 1, listed, a, w =>
    (Region.ready md ops listed = [] → Q .normal a w) ∧
    ∀ i ∈ Region.ready md ops listed, wpOp P ops Q i (fun a' w' => (i ≠ m → S w') ∧ AnyBut P md ops Q S m fuel (listed.setIfInBounds i true) a' w') a w

theorem any_of_but : ∀ (fuel : Nat) (listed : Array Bool) (a : Act) (w : World), AnyBut P md ops Q S m fuel listed a w → wpAny P md ops Q fuel listed a w
  | 0, _, _, _, h => h
  | fuel + 1, _, _, _, h => ⟨h.1, fun i hi => wpOp_mono (fun a' w' h' => any_of_but fuel _ a' w' h'.2) (h.2 i hi)⟩

/-- While i is not listed, m may not come up. -/
def Sunk (md : Region.Mode) (ops : Array Oper) (m : Nat) : Prop :=
  ∀ listed, HeadInv md ops m listed → ∀ i, i < m → listed.getD i true = false → m ∉ Region.ready md ops listed

theorem ready_lt {listed : Array Bool} {i : Nat} (h : i ∈ Region.ready md ops listed) : i < ops.size := by
  obtain ⟨_, o, ho, _⟩ := mem_ready.1 h
  exact (Array.getElem?_eq_some_iff.1 ho).1

theorem but_first {i : Nat} {oi : Oper} {v : Value} (hi : ops[i]? = some oi) (hsel : ∀ (j : Nat) (o : Oper) cs b, ops[j]? = some o → o.op ≠ .select cs b)
    (hQ : ∀ c a w, Q (.panic c) (a.put oi.dst v) w → Q (.panic c) a w) (hsunk : Sunk md ops m) (hm : ops.size ≤ m + 1) (him : i < m) :
    ∀ (fuel : Nat) (listed : Array Bool) (a : Act) (w : World), HeadInv md ops m listed →
      (∀ j oj, ops[j]? = some oj → j ≠ i → listed.getD j true = false → (∀ e ∈ oj.after, Region.binds md e = true → e.on ≠ i) → oi.apart ops oj = true) →
      i ∈ Region.ready md ops listed → YieldsIf P ops S oi v a → S w →
      AnyBut P md ops Q S m fuel (listed.setIfInBounds i true) (a.put oi.dst v) w → AnyBut P md ops Q S m (fuel + 1) listed a w := by
  intro fuel
  induction fuel with
  | zero =>
    intro listed a w inv _ hr hy hS H
    refine ⟨fun h => (by rw [h] at hr; cases hr), fun j hj => ?_⟩
    by_cases hji : j = i
    · subst hji; exact hy.wpOp hi hS ⟨fun _ => hS, H⟩
    · have := ready_mono hj hji
      rw [H.1] at this
      cases this
  | succ fuel ih =>
    intro listed a w inv hfree hr hy hS H
    have hun := (mem_ready.1 hr).1
    refine ⟨fun h => (by rw [h] at hr; cases hr), fun j hj => ?_⟩
    have hjm : j ≠ m := fun e => hsunk listed inv i him hun (e ▸ hj)
    have hjlt : j < m := by have := ready_lt hj; omega
    by_cases hji : j = i
    · subst hji; exact hy.wpOp hi hS ⟨fun _ => hS, H⟩
    · have h1 := H.2 j (ready_mono hj hji)
      obtain ⟨hjun, oj, hoj, hall⟩ := mem_ready.1 hj
      have hnot : ∀ e ∈ oj.after, Region.binds md e = true → e.on ≠ i := fun e he hb heq => by
        have h1 := hall e he hb
        rw [heq, getD_both hun] at h1
        cases h1
      have h2 := wpOp_putIf hoj (hfree j oj hoj hji hjun hnot) (fun cs b => hsel i oi cs b hi) (fun cs b => hsel j oj cs b hoj) hQ hy h1
      have hfree' : ∀ k ok, ops[k]? = some ok → k ≠ i → (listed.setIfInBounds j true).getD k true = false →
          (∀ e ∈ ok.after, Region.binds md e = true → e.on ≠ i) → oi.apart ops ok = true := fun k ok hk hki hun hno => by
        refine hfree k ok hk hki ?_ hno
        by_cases hjk : j = k
        · subst hjk; exact hjun
        · rw [getD_set_ne true hjk] at hun; exact hun
      refine wpOp_mono (fun a' w' h3 => ⟨h3.2.1, ih (listed.setIfInBounds j true) a' w' (inv.set hj hjlt) hfree' (ready_mono hr (Ne.symm hji)) h3.1 (h3.2.1 hjm) ?_⟩) h2
      rw [Array.setIfInBounds_comm _ _ hji]
      exact h3.2.2

/-- Is the order σ one in which a 'still' step (true) takes what may come up and is free, an 'acting' step what alone may come up? -/
def orderB (md : Region.Mode) (ops : Array Oper) (m : Nat) : List (Nat × Bool) → Array Bool → Bool
  | [], listed => (Region.ready md ops listed).isEmpty
  | (k, true) :: σ, listed => (Region.ready md ops listed).contains k && Region.free md ops listed k && decide (k < m) && orderB md ops m σ (listed.setIfInBounds k true)
  | (k, false) :: σ, listed => decide (Region.ready md ops listed = [k]) && (decide (k < m) || σ.isEmpty) && orderB md ops m σ (listed.setIfInBounds k true)

/-- The walk in the order σ. -/
def Front (P : Program) (ops : Array Oper) (Q : Exit → Act → World → Prop) (S : World → Prop) (m : Nat) : List (Nat × Bool) → Act → World → Prop
  | [], a, w => Q .normal a w
  | (k, true) :: σ, a, w => ∃ o v, ops[k]? = some o ∧ YieldsIf P ops S o v a ∧ (∀ c a w, Q (.panic c) (a.put o.dst v) w → Q (.panic c) a w) ∧ Front P ops Q S m σ (a.put o.dst v) w
  | (k, false) :: σ, a, w => wpOp P ops Q k (fun a' w' => (k ≠ m → S w') ∧ Front P ops Q S m σ a' w') a w

theorem but_of_front (hsel : Region.noSelect ops = true) (hsunk : Sunk md ops m) (hm : ops.size ≤ m + 1) :
    ∀ (σ : List (Nat × Bool)) (listed : Array Bool) (a : Act) (w : World), HeadInv md ops m listed → orderB md ops m σ listed = true → S w →
      Front P ops Q S m σ a w → AnyBut P md ops Q S m σ.length listed a w
  | [], listed, a, w, inv, hB, hS, h => ⟨by simpa [orderB] using hB, h⟩
  | (k, true) :: σ, listed, a, w, inv, hB, hS, h => by
    obtain ⟨o, v, ho, hy, hQ, hrest⟩ := h
    simp only [orderB, Bool.and_eq_true, decide_eq_true_eq] at hB
    obtain ⟨⟨⟨hr, hf⟩, hk⟩, hB'⟩ := hB
    have hr' : k ∈ Region.ready md ops listed := by simpa using hr
    exact but_first ho (Region.noSelect_spec hsel) hQ hsunk hm hk σ.length listed a w inv (Region.free_spec ho hf) hr' hy hS
      (but_of_front hsel hsunk hm σ _ _ w (inv.set hr' hk) hB' hS hrest)
  | (k, false) :: σ, listed, a, w, inv, hB, hS, h => by
    simp only [orderB, Bool.and_eq_true, decide_eq_true_eq, Bool.or_eq_true] at hB
    obtain ⟨⟨hr, hk⟩, hB'⟩ := hB
    refine ⟨fun h0 => (by rw [hr] at h0; cases h0), fun i hi => ?_⟩
    have hik : i = k := by rw [hr] at hi; simpa using hi
    subst hik
    refine wpOp_mono (fun a' w' h' => ⟨h'.1, ?_⟩) h
    rcases hk with hk | hk
    · exact but_of_front hsel hsunk hm σ _ a' w' (inv.set hi hk) hB' (h'.1 (by omega)) h'.2
    · cases σ with
      | cons x xs => cases hk
      | nil => exact ⟨by simpa [orderB] using hB', h'.2⟩

theorem sunk_none : Sunk md ops ops.size := fun _ _ _ _ _ h => by have := ready_lt h; omega
theorem sunk_last {n : Nat} (hn : n + 1 = ops.size) (hs : Region.sinkB md ops n = true) : Sunk md ops n := fun listed inv i hi hun =>
  tail_waits hs (by
    simp only [Region.chainB, List.all_eq_true, List.mem_range, Bool.or_eq_true, decide_eq_true_eq]
    intro t ht; left; omega) (by omega) inv _ i rfl hi hun n (Nat.le_refl _)

/-- Does the last operation wait for all the others? If not: is m the region's size? -/
def lastB (ops : Array Oper) (m : Nat) : Bool := decide (m = ops.size) || (decide (m + 1 = ops.size) && Region.sinkB .any ops m)

theorem wp_front {id : Nat} {a : Act} {w : World} (m : Nat) (σ : List (Nat × Bool)) (hf : P.follows .mixedOrders = true)
    (hB : (Region.noSelect ops && lastB ops m && decide (σ.length = ops.size) && orderB .any ops m σ (Array.replicate ops.size false)) = true)
    (hS : S w.drew) (h : Front P ops Q S m σ a w.drew) : (Code.region id ops true).wp P Q a w := by
  simp only [Bool.and_eq_true, decide_eq_true_eq] at hB
  obtain ⟨⟨⟨hsel, hl⟩, hlen⟩, hB⟩ := hB
  have hsm : Sunk .any ops m ∧ ops.size ≤ m + 1 ∧ m ≤ ops.size := by
    simp only [lastB, Bool.or_eq_true, decide_eq_true_eq, Bool.and_eq_true] at hl
    rcases hl with hl | ⟨hl, hs⟩
    · subst hl; exact ⟨sunk_none, by omega, by omega⟩
    · exact ⟨sunk_last hl hs, by omega, by omega⟩
  have inv0 : HeadInv .any ops m (Array.replicate ops.size false) :=
    ⟨by simp, fun j oj _ hl => (by rw [getD_replicate_false] at hl; cases hl), fun t _ ht => getD_in (by simpa using ht) (getD_replicate_false _ _)⟩
  have := but_of_front (P := P) (Q := Q) hsel hsm.1 hsm.2.1 σ _ a w.drew inv0 hB hS h
  rw [hlen] at this
  exact wp_region_any hf (any_of_but _ _ _ _ this)

theorem Front.still {k : Nat} {σ : List (Nat × Bool)} {a : Act} {w : World} (o : Oper) (v : Value) (ho : ops[k]? = some o) (hy : YieldsIf P ops S o v a)
    (hQ : ∀ c a w, Q (.panic c) (a.put o.dst v) w → Q (.panic c) a w) (h : Front P ops Q S m σ (a.put o.dst v) w) : Front P ops Q S m ((k, true) :: σ) a w := ⟨o, v, ho, hy, hQ, h⟩

theorem Front.act {k : Nat} {σ : List (Nat × Bool)} {a : Act} {w : World} (o : Oper) (ho : ops[k]? = some o)
    (h : ∀ K' : Act → World → Prop, Shut (∀ a w, (k ≠ m → S w) → Front P ops Q S m σ a w → K' a w) → if Region.wanted o (yielded ops a.tmps) = true then Oper.wp P o a w K' Q else K' (a.put o.dst undef) w) :
    Front P ops Q S m ((k, false) :: σ) a w :=
  wpOp_step ho (fun K' hK => h K' (fun a w hS hF => hK a w ⟨hS, hF⟩))

/-- The same two steps for a region that is written out: the operation comes out written out. -/
theorem Front.still' {l : List Oper} {k : Nat} {σ : List (Nat × Bool)} {a : Act} {w : World} {o : Oper} {v : Value} (ho : l[k]? = some o) (hy : YieldsIf P l.toArray S o v a)
    (hQ : ∀ c a w, Q (.panic c) (a.put o.dst v) w → Q (.panic c) a w) (h : Front P l.toArray Q S m σ (a.put o.dst v) w) : Front P l.toArray Q S m ((k, true) :: σ) a w := ⟨o, v, by simpa using ho, hy, hQ, h⟩
theorem Front.act' {l : List Oper} {k : Nat} {σ : List (Nat × Bool)} {a : Act} {w : World} {o : Oper} (ho : l[k]? = some o)
    (h : ∀ K' : Act → World → Prop, Shut (∀ a w, (k ≠ m → S w) → Front P l.toArray Q S m σ a w → K' a w) → if Region.wanted o (yielded l.toArray a.tmps) = true then Oper.wp P o a w K' Q else K' (a.put o.dst undef) w) :
    Front P l.toArray Q S m ((k, false) :: σ) a w := Front.act o (by simpa using ho) h

theorem Front.done {a : Act} {w : World} (h : Q .normal a w) : Front P ops Q S m [] a w := h

/-- 0 .. n - 1 still, then k acting. -/
def inText (n k : Nat) : List (Nat × Bool) := (List.range n).map (·, true) ++ (List.range k).map (n + ·, false)

end
end Go.Proofs.YtmggbhfdomlmcaaGreatFmt
