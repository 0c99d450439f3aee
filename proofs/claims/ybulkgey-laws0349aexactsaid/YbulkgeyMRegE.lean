/- A region that draws its order: heads that read, each in its own class of worlds; then the others, each of which is forced behind them. -/
import Derived.Test.YbulkgeyMEq
namespace Go.Proofs.Ybulkgey
open Go.RowKit
set_option linter.unusedVariables false
section
variable {P : Program} {ops : Array Oper} {Q : Exit → Act → World → Prop} {md : Region.Mode} {qs : List Nat} {DD : Nat → World → Prop} {n : Nat}
/-- The classes of the heads that may still be to come hold. -/
def InvE (md : Region.Mode) (ops : Array Oper) (qs : List Nat) (DD : Nat → World → Prop) (n : Nat) (listed : Array Bool) (w : World) : Prop :=
  ∀ i ∈ qs, (∀ x, x ∉ qs → listed.getD x false = true → i ∉ anc md ops n x) → DD i w
def wpAnyE (P : Program) (md : Region.Mode) (ops : Array Oper) (qs : List Nat) (DD : Nat → World → Prop) (n : Nat) (Q : Exit → Act → World → Prop) : Nat → Array Bool → Act → World → Prop
  | 0, listed, a, w => Region.ready md ops listed = [] ∧ Q .normal a w
  | fuel + 1, listed, a, w => (Region.ready md ops listed = [] → Q .normal a w) ∧
    ∀ i ∈ Region.ready md ops listed, wpOp P ops Q i (fun a' w' => InvE md ops qs DD n (listed.setIfInBounds i true) w' ∧ wpAnyE P md ops qs DD n Q fuel (listed.setIfInBounds i true) a' w') a w
theorem wpAnyE.any : ∀ (fuel : Nat) (listed : Array Bool) (a : Act) (w : World), wpAnyE P md ops qs DD n Q fuel listed a w → wpAny P md ops Q fuel listed a w
  | 0, _, _, _, h => h
  | fuel + 1, _, _, _, h => ⟨h.1, fun i hi => wpOp_mono (fun a' w' hk => wpAnyE.any fuel _ a' w' hk.2) (h.2 i hi)⟩
theorem InvE.head {listed : Array Bool} {w : World} {i : Nat} (h : InvE md ops qs DD n listed w) (hi : i ∈ qs) : InvE md ops qs DD n (listed.setIfInBounds i true) w := by
  intro i' hi' hf
  refine h i' hi' fun x hx hl => hf x hx ?_
  exact getD_set_true hl
theorem InvE.unhead {listed : Array Bool} {w : World} {i : Nat} (h : InvE md ops qs DD n (listed.setIfInBounds i true) w) (hi : i ∈ qs) : InvE md ops qs DD n listed w := by
  intro i' hi' hf
  refine h i' hi' fun x hx hl => hf x hx ?_
  by_cases e : i = x
  · subst e; exact absurd hi hx
  · rw [getD_set_ne false e] at hl; exact hl
theorem wpAnyE_first {i : Nat} {oi : Oper} {v : Value} (hi : ops[i]? = some oi) (hiq : i ∈ qs) (hsel : ∀ (j : Nat) (o : Oper) cs b, ops[j]? = some o → o.op ≠ .select cs b)
    (hQ : ∀ c a w, Q (.panic c) (a.put oi.dst v) w → Q (.panic c) a w) :
    ∀ (fuel : Nat) (listed : Array Bool) (a : Act) (w : World), Closed md ops listed →
      (∀ j oj, ops[j]? = some oj → j ≠ i → listed.getD j true = false → (∀ e ∈ oj.after, Region.binds md e = true → e.on ≠ i) → oi.apart ops oj = true) →
      i ∈ Region.ready md ops listed → YieldsD P ops (DD i) oi v a → InvE md ops qs DD n listed w →
      wpAnyE P md ops qs DD n Q fuel (listed.setIfInBounds i true) (a.put oi.dst v) w → wpAnyE P md ops qs DD n Q (fuel + 1) listed a w := by
  have hDi : ∀ (listed : Array Bool) (w : World), Closed md ops listed → i ∈ Region.ready md ops listed → InvE md ops qs DD n listed w → DD i w := by
    intro listed w hcl hr hI
    refine hI i hiq fun x hx hl hanc => ?_
    have hiun : listed.getD i false = false := by
      have h0 := (mem_ready.1 hr).1
      rcases Nat.lt_or_ge i listed.size with h' | h'
      · simpa [h'] using h0
      · simp [Array.getElem?_eq_none h'] at h0
    have := hcl.anc n x (fun o ho e he hb => hcl x o hl ho e he hb) i hanc
    rw [hiun] at this
    cases this
  intro fuel
  induction fuel with
  | zero =>
    intro listed a w hcl hfree hr hy hI H
    refine ⟨fun h => (by rw [h] at hr; cases hr), fun j hj => ?_⟩
    by_cases hji : j = i
    · subst hji; exact hy.wpOp hi (hDi _ _ hcl hr hI) ⟨hI.head hiq, H⟩
    · have := ready_mono hj hji
      rw [H.1] at this
      cases this
  | succ fuel ih =>
    intro listed a w hcl hfree hr hy hI H
    refine ⟨fun h => (by rw [h] at hr; cases hr), fun j hj => ?_⟩
    by_cases hji : j = i
    · subst hji; exact hy.wpOp hi (hDi _ _ hcl hr hI) ⟨hI.head hiq, H⟩
    · have h1 := H.2 j (ready_mono hj hji)
      obtain ⟨hjun, oj, hoj, hall⟩ := mem_ready.1 hj
      have hiun : listed.getD i false = false := by
        have h0 := (mem_ready.1 hr).1
        rcases Nat.lt_or_ge i listed.size with h' | h'
        · simpa [h'] using h0
        · simp [Array.getElem?_eq_none h'] at h0
      have hnot : ∀ e ∈ oj.after, Region.binds md e = true → e.on ≠ i := fun e he hb heq => by
        have h1 := hall e he hb
        rw [heq, hiun] at h1
        cases h1
      have h2 := wpOp_putD hoj (hfree j oj hoj hji hjun hnot) (fun cs b => hsel i oi cs b hi) (fun cs b => hsel j oj cs b hoj) hQ hy h1
      have hfree' : ∀ k ok, ops[k]? = some ok → k ≠ i → (listed.setIfInBounds j true).getD k true = false →
          (∀ e ∈ ok.after, Region.binds md e = true → e.on ≠ i) → oi.apart ops ok = true := fun k ok hk hki hun hno => by
        refine hfree k ok hk hki ?_ hno
        by_cases hjk : j = k
        · subst hjk; exact hjun
        · rw [getD_set_ne true hjk] at hun; exact hun
      refine wpOp_mono (fun a' w' h3 => ?_) h2
      have hc := Array.setIfInBounds_comm (xs := listed) (i := i) (j := j) true true (fun e => hji e.symm)
      have hI' : InvE md ops qs DD n (listed.setIfInBounds j true) w' := by
        have := h3.2.1
        rw [hc] at this
        exact this.unhead hiq
      refine ⟨hI', ih (listed.setIfInBounds j true) a' w' (hcl.set hj) hfree' (ready_mono hr (Ne.symm hji)) h3.1 hI' ?_⟩
      rw [← hc]
      exact h3.2.2

/-- The tails, one behind the other. -/
def wpTailE (P : Program) (md : Region.Mode) (ops : Array Oper) (qs : List Nat) (DD : Nat → World → Prop) (n : Nat) (Q : Exit → Act → World → Prop) : List Nat → Act → World → Prop
  | [], a, w => Q .normal a w
  | i :: is, a, w => wpOp P ops Q i (fun a' w' => (∀ q ∈ qs, q ∉ anc md ops n i → DD q w') ∧ wpTailE P md ops qs DD n Q is a' w') a w
/-- The heads, each in its class. -/
def wpHeadE (P : Program) (ops : Array Oper) (DD : Nat → World → Prop) (K : Act → Prop) : List Nat → Act → Prop
  | [], a => K a
  | i :: is, a => ∃ o v, ops[i]? = some o ∧ YieldsD P ops (DD i) o v a ∧ wpHeadE P ops DD K is (a.put o.dst v)
theorem wpAnyE_tail : ∀ (ts : List Nat) (listed : Array Bool) (a : Act) (w : World), (∀ t ∈ ts, t ∉ qs ∧ t < listed.size) → forcedB md ops ts listed = true → wpTailE P md ops qs DD n Q ts a w → wpAnyE P md ops qs DD n Q ts.length listed a w
  | [], listed, a, w, _, hB, h => ⟨by simpa [forcedB] using hB, h⟩
  | t :: ts, listed, a, w, ht, hB, h => by
    simp only [forcedB, Bool.and_eq_true, beq_iff_eq] at hB
    refine ⟨fun h0 => (by rw [hB.1] at h0; cases h0), fun i hi => ?_⟩
    rw [hB.1] at hi
    simp only [List.mem_singleton] at hi
    subst hi
    refine wpOp_mono (fun a' w' h1 => ⟨fun q hq hf => h1.1 q hq (hf i (ht i (by simp)).1 ?_), wpAnyE_tail ts _ a' w' (fun t htt => ⟨(ht t (by simp [htt])).1, by simpa using (ht t (by simp [htt])).2⟩) hB.2 h1.2⟩) h
    have := (ht i (by simp)).2
    simp [this]
theorem wpAnyE_head (hs : Region.noSelect ops = true) (hQ : ∀ c a w (d : Option Tmp) v, Q (.panic c) (a.put d v) w → Q (.panic c) a w) (ts : List Nat) : ∀ (rs : List Nat), (∀ i ∈ rs, i ∈ qs) →
    ∀ (listed : Array Bool) (a : Act) (w : World), (∀ t ∈ ts, t ∉ qs ∧ t < listed.size) → Closed md ops listed → orderB md ops ts rs listed = true → InvE md ops qs DD n listed w → wpHeadE P ops DD (fun a' => wpTailE P md ops qs DD n Q ts a' w) rs a → wpAnyE P md ops qs DD n Q (rs.length + ts.length) listed a w
  | [], _, listed, a, w, ht, _, hB, hI, h => by
    have := wpAnyE_tail (P := P) (DD := DD) (Q := Q) (qs := qs) (n := n) ts listed a w ht hB h
    simpa using this
  | i :: rs, hin, listed, a, w, ht, hc, hB, hI, h => by
    obtain ⟨o, v, ho, hy, hK⟩ := h
    simp only [orderB, Bool.and_eq_true] at hB
    obtain ⟨⟨hr, hf⟩, hB'⟩ := hB
    have hi : i ∈ Region.ready md ops listed := by simpa using hr
    have := wpAnyE_first (P := P) (DD := DD) (Q := Q) (n := n) (qs := qs) (v := v) ho (hin i (by simp)) (Region.noSelect_spec hs) (fun c a w hq => hQ c a w _ _ hq)
      (rs.length + ts.length) listed a w hc (Region.free_spec ho hf) hi hy hI
      (wpAnyE_head hs hQ ts rs (fun x hx => hin x (by simp [hx])) _ _ w (fun t htt => ⟨(ht t htt).1, by simpa using (ht t htt).2⟩) (hc.set hi) hB' (hI.head (hin i (by simp))) hK)
    rw [show (i :: rs).length + ts.length = rs.length + ts.length + 1 from by simp; omega]
    exact this
theorem anyE {l : List Oper} {a : Act} {w : World} (qs ts : List Nat) (n : Nat) (DD : Nat → World → Prop) (hs : Region.noSelect l.toArray = true) (hlen : qs.length + ts.length = l.length)
    (hB : orderB .any l.toArray ts qs (Array.replicate l.length false) = true) (ht : ts.all (fun t => !qs.contains t && decide (t < l.length)) = true) (hQ : ∀ c a w (d : Option Tmp) v, Q (.panic c) (a.put d v) w → Q (.panic c) a w) (hD : ∀ q ∈ qs, DD q w)
    (h : wpHeadE P l.toArray DD (fun a' => wpTailE P .any l.toArray qs DD n Q ts a' w) qs a) : wpAny P .any l.toArray Q l.toArray.size (Array.replicate l.toArray.size false) a w := by
  refine wpAnyE.any (md := .any) (qs := qs) (DD := DD) (n := n) _ _ _ _ ?_
  have hcl : Closed .any l.toArray (Array.replicate l.length false) := by
    intro j o hj
    simp [Array.getElem?_replicate] at hj
    split at hj <;> simp at hj
  have := wpAnyE_head (md := .any) (P := P) (DD := DD) (Q := Q) (n := n) (qs := qs) hs hQ ts qs (fun _ h => h) (Array.replicate l.length false) a w (fun t htt => by
      have := List.all_eq_true.1 ht t htt
      simp at this
      exact ⟨this.1, by simpa using this.2⟩) hcl hB (fun q hq _ => hD q hq) h
  rw [hlen] at this
  simpa using this
theorem region_E {id : Nat} {a : Act} {w : World} {l : List Oper} (qs ts : List Nat) (n : Nat) (DD : Nat → World → Prop) (hm : P.follows .mixedOrders = true) (hs : Region.noSelect l.toArray = true) (hlen : qs.length + ts.length = l.length)
    (hB : orderB .any l.toArray ts qs (Array.replicate l.length false) = true) (ht : ts.all (fun t => !qs.contains t && decide (t < l.length)) = true) (hQ : ∀ c a w (d : Option Tmp) v, Q (.panic c) (a.put d v) w → Q (.panic c) a w) (hD : ∀ q ∈ qs, DD q w.drew)
    (h : wpHeadE P l.toArray DD (fun a' => wpTailE P .any l.toArray qs DD n Q ts a' w.drew) qs a) : (Code.region id l.toArray true).wp P Q a w :=
  wp_region_any hm (anyE qs ts n DD hs hlen hB ht hQ hD h)
theorem region_ER {l0 n0 id : Nat} {a : Act} {w : World} {l : List Oper} (hlo : ¬ LetsOut Q) (qs ts : List Nat) (n : Nat) (DD : Nat → World → Prop) (hm : P.follows .mixedOrders = true) (hnd : noDefers l.toArray = true) (hs : Region.noSelect l.toArray = true) (hlen : qs.length + ts.length = l.length)
    (hB : orderB .any l.toArray ts qs (Array.replicate l.length false) = true) (ht : ts.all (fun t => !qs.contains t && decide (t < l.length)) = true) (hQ : ∀ c a w (d : Option Tmp) v, Q (.panic c) (a.put d v) w → Q (.panic c) a w) (hD : ∀ q ∈ qs, DD q w.drew)
    (h : wpHeadE P l.toArray DD (fun a' => wpTailE P .any l.toArray qs DD n Q ts a' w.drew) qs a) : (Code.region id l.toArray true).wpIn (Fence.wide.inRound l0) n0 P Q a w :=
  region_inRound hlo hm hnd (anyE qs ts n DD hs hlen hB ht hQ hD h)
theorem headE_step {K : Act → Prop} {i : Nat} {is : List Nat} {a : Act} {o : Oper} (ho : ops[i]? = some o) (hw : Region.wanted o (yielded ops a.tmps) = true)
    (w0 : World) (h : ∀ K' : Act → World → Prop, (∀ a' w', wpHeadE P ops DD K is a' → K' a' w') → ∃ v, (∀ w, DD i w → (execOp a.eval o).run P w = .ok (.value v) w) ∧ K' (a.put o.dst v) w0) : wpHeadE P ops DD K (i :: is) a := by
  obtain ⟨v, h1, h2⟩ := h (fun a' _ => wpHeadE P ops DD K is a') (fun _ _ x => x)
  exact ⟨o, v, ho, .inl ⟨hw, h1⟩, h2⟩
theorem headE_nil {K : Act → Prop} {a : Act} (h : K a) : wpHeadE P ops DD K [] a := h
theorem tailE_cons {i : Nat} {is : List Nat} {a : Act} {w : World} {o : Oper} (ho : ops[i]? = some o) (hw : Region.wanted o (yielded ops a.tmps) = true) (late : List Nat) (hl : (qs.filter fun q => !(anc md ops n i).contains q) = late)
    (h : ∀ K : Act → World → Prop, (∀ a' w', (∀ q ∈ late, DD q w') → wpTailE P md ops qs DD n Q is a' w' → K a' w') → o.wp P a w K Q) : wpTailE P md ops qs DD n Q (i :: is) a w := by
  unfold wpTailE wpOp
  simp only [ho, hw, if_true]
  refine .inl (h _ (fun a' w' h1 h2 => ⟨fun q hq ha => h1 q ?_, h2⟩))
  rw [← hl]
  simp [hq, ha]
theorem tailE_nil {a : Act} {w : World} (h : Q .normal a w) : wpTailE P md ops qs DD n Q [] a w := h
end
end Go.Proofs.Ybulkgey
