/- A region that draws its order and holds a call of yield: the operations that read no memory first, then the others, each of which is forced. -/
import Derived.Test.YbulkgeyMEq
namespace Go.Proofs.Ybulkgey
open Go.RowKit
set_option linter.unusedVariables false
section
variable {P : Program} {ops : Array Oper} {Q : Exit → Act → World → Prop} {md : Region.Mode} {F : Fence} {n : Nat}
def wpHeadP (P : Program) (ops : Array Oper) (K : Act → Prop) : List Nat → Act → Prop
  | [], a => K a
  | i :: is, a => ∃ o v, ops[i]? = some o ∧ YieldsFenced P ops o v a ∧ wpHeadP P ops K is (a.put o.dst v)
theorem anyIn_tail : ∀ (ts : List Nat) (listed : Array Bool) (a : Act) (w : World), forcedB md ops ts listed = true → wpOpsIn F n P ops Q ts a w → wpAnyIn F n P md ops Q ts.length listed a w
  | [], listed, a, w, hB, h => ⟨by simpa [forcedB] using hB, h⟩
  | t :: ts, listed, a, w, hB, h => by
    simp only [forcedB, Bool.and_eq_true, beq_iff_eq] at hB
    refine ⟨fun h0 => (by rw [hB.1] at h0; cases h0), fun i hi => ?_⟩
    rw [hB.1] at hi
    simp only [List.mem_singleton] at hi
    subst hi
    rw [wpOpsIn_cons] at h
    exact wpOpIn_mono (fun a' w' h1 => anyIn_tail ts _ a' w' hB.2 h1) h
theorem anyIn_head (hro : F.round = none) (hs : Region.noSelect ops = true) (hQ : ∀ c a w (d : Option Tmp) v, Q (.panic c) (a.put d v) w → Q (.panic c) a w) (ts : List Nat) : ∀ (qs : List Nat) (listed : Array Bool) (a : Act) (w : World),
    orderB md ops ts qs listed = true → wpHeadP P ops (fun a' => wpOpsIn F n P ops Q ts a' w) qs a → wpAnyIn F n P md ops Q (qs.length + ts.length) listed a w
  | [], listed, a, w, hB, h => by
    have := anyIn_tail (P := P) (F := F) (n := n) (Q := Q) ts listed a w hB h
    simpa using this
  | i :: qs, listed, a, w, hB, h => by
    obtain ⟨o, v, ho, hy, hK⟩ := h
    simp only [orderB, Bool.and_eq_true] at hB
    obtain ⟨⟨hr, hf⟩, hB'⟩ := hB
    have := wpAnyIn_take (md := md) (F := F) (n := n) (Q := Q) (v := v) (w := w) hro ho hs hf hr (fun c a w hq => hQ c a w _ _ hq) hy (anyIn_head hro hs hQ ts qs _ _ w hB' hK)
    rw [show (i :: qs).length + ts.length = qs.length + ts.length + 1 from by simp; omega]
    exact this
theorem region_pureIn {id : Nat} {a : Act} {w : World} {l : List Oper} (hro : F.round = none) (qs ts : List Nat) (hm : P.follows .mixedOrders = true) (hs : Region.noSelect l.toArray = true) (hlen : qs.length + ts.length = l.length)
    (hB : orderB .any l.toArray ts qs (Array.replicate l.length false) = true) (hQ : ∀ c a w (d : Option Tmp) v, Q (.panic c) (a.put d v) w → Q (.panic c) a w)
    (h : wpHeadP P l.toArray (fun a' => wpOpsIn F n P l.toArray Q ts a' w.drew) qs a) : (Code.region id l.toArray true).wpIn F n P Q a w := by
  refine wpIn_region_any hm ?_
  have := anyIn_head (md := .any) (P := P) (F := F) (n := n) (Q := Q) hro hs hQ ts qs (Array.replicate l.length false) a w.drew hB h
  rw [hlen] at this
  simpa using this
theorem headP_step {K : Act → Prop} {i : Nat} {is : List Nat} {a : Act} {o : Oper} (ho : ops[i]? = some o) (hw : Region.wanted o (yielded ops a.tmps) = true) (hab : ∀ w, o.about P w a.eval = none)
    (w0 : World) (h : ∀ K' : Act → World → Prop, (∀ a' w', wpHeadP P ops K is a' → K' a' w') → ∃ v, (∀ w, (execOp a.eval o).run P w = .ok (.value v) w) ∧ K' (a.put o.dst v) w0) : wpHeadP P ops K (i :: is) a := by
  obtain ⟨v, h1, h2⟩ := h (fun a' _ => wpHeadP P ops K is a') (fun _ _ x => x)
  exact ⟨o, v, ho, ⟨.inl ⟨hw, h1⟩, hab⟩, h2⟩
theorem headP_nil {K : Act → Prop} {a : Act} (h : K a) : wpHeadP P ops K [] a := h
theorem opsIn_step {i : Nat} {is : List Nat} {a : Act} {w : World} {o : Oper} (ho : ops[i]? = some o) (hw : Region.wanted o (yielded ops a.tmps) = true)
    (h : ∀ K : Act → World → Prop, (∀ a' w', wpOpsIn F n P ops Q is a' w' → K a' w') → o.wpIn F n P a w K Q) : wpOpsIn F n P ops Q (i :: is) a w := by
  rw [wpOpsIn_cons]
  unfold wpOpIn
  simp only [ho, hw, if_true]
  exact h _ (fun a' w' h1 => h1)
theorem opsIn_nil {a : Act} {w : World} (h : Q .normal a w) : wpOpsIn F n P ops Q [] a w := h
end
end Go.Proofs.Ybulkgey
