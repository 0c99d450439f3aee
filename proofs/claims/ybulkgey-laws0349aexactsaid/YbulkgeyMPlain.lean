/- The plain side of the merge: the nodes of two clocks, counted up to a rank. -/
import Derived.Test.YbulkgeyMSeq
namespace Go.Proofs.Ybulkgey
open Go.RowKit
set_option linter.unusedVariables false

/-- How many nodes of rank below t the clock holds. -/
def cn (f : Nat → Int) (t : Nat) : Nat := (selA f t).length
/-- The clock holds the node of rank k. -/
def has (f : Nat → Int) (k : Nat) : Bool := !(f k % 9 == 0)
theorem selA_succ (f : Nat → Int) (t : Nat) : selA f (t + 1) = selA f t ++ if has f t = true then [t] else [] := by
  unfold has
  cases h : (f t % 9 == 0)
  · rw [selA_yes h]; simp
  · rw [selA_no h]; simp
theorem cn_succ (f : Nat → Int) (t : Nat) : cn f (t + 1) = cn f t + if has f t = true then 1 else 0 := by
  unfold cn
  rw [selA_succ]
  split <;> simp
theorem cn_zero (f : Nat → Int) : cn f 0 = 0 := rfl
theorem cn_mono (f : Nat → Int) : ∀ {t u : Nat}, t ≤ u → cn f t ≤ cn f u := by
  intro t u h
  induction u with
  | zero => obtain rfl : t = 0 := (by omega); exact Nat.le_refl _
  | succ u ih =>
    by_cases e : t = u + 1
    · subst e; exact Nat.le_refl _
    · have := ih (by omega)
      rw [cn_succ]; omega
theorem cn_flat (f : Nat → Int) {t u : Nat} (h : ∀ k, t ≤ k → k < u → has f k = false) (htu : t ≤ u) : cn f u = cn f t := by
  induction u with
  | zero => obtain rfl : t = 0 := (by omega); rfl
  | succ u ih =>
    by_cases e : t = u + 1
    · subst e; rfl
    · rw [cn_succ, h u (by omega) (by omega), ih (fun k h1 h2 => h k h1 (by omega)) (by omega)]; simp
theorem sel_prefix (f : Nat → Int) {t u : Nat} (h : t ≤ u) : selA f t <+: selA f u := by
  induction u with
  | zero => obtain rfl : t = 0 := (by omega); exact List.prefix_refl _
  | succ u ih =>
    by_cases e : t = u + 1
    · subst e; exact List.prefix_refl _
    · rw [selA_succ]
      exact (ih (by omega)).trans (List.prefix_append _ _)
theorem cn_len (f : Nat → Int) : (NA f 4).length = cn f 4 := by simp [NA, cn]
theorem cn_le (f : Nat → Int) (t : Nat) : cn f t ≤ t := selA_len f t

/-- The next node from rank t on. -/
theorem next_node (f : Nat → Int) : ∀ d t, t + d = 4 → cn f t < cn f 4 → ∃ p, t ≤ p ∧ p < 4 ∧ has f p = true ∧ (∀ k, t ≤ k → k < p → has f k = false) ∧ (NA f 4)[cn f t]? = some (an p) ∧ (CA f 4)[cn f t]? = some (f p % 9) ∧ cn f (p + 1) = cn f t + 1 := by
  intro d
  induction d with
  | zero => intro t h hlt; obtain rfl : t = 4 := (by omega); omega
  | succ d ih =>
    intro t ht hlt
    cases hh : has f t
    · have e : cn f (t + 1) = cn f t := by rw [cn_succ, hh]; simp
      obtain ⟨p, h1, h2, h3, h4, h5, h6, h7⟩ := ih (t + 1) (by omega) (by omega)
      rw [e] at h5 h6 h7
      exact ⟨p, by omega, h2, h3, fun k hk hk' => by
        by_cases e : k = t
        · rw [e]; exact hh
        · exact h4 k (by omega) hk', h5, h6, h7⟩
    · have hp : (selA f 4)[cn f t]? = some t := by
        obtain ⟨r, hr⟩ := sel_prefix f (t := t + 1) (u := 4) (by omega)
        rw [← hr, selA_succ, hh]
        simp [cn]
      refine ⟨t, Nat.le_refl _, by omega, hh, fun k h1 h2 => by omega, ?_, ?_, ?_⟩
      · unfold NA; rw [List.getElem?_map, hp]; rfl
      · unfold CA; rw [List.getElem?_map, hp]; rfl
      · rw [cn_succ, hh]; simp

theorem an_less : ∀ p, p < 4 → ∀ q, q < 4 → lessB (an p) (an q) = decide (p < q) := by
  have key : ∀ p, p < 4 → ∀ q, q < 4 → Op.bytesLess (an p).data.toList (an q).data.toList = decide (p < q) := by decide
  intro p hp q hq
  unfold lessB
  rw [ByteArray.toList_eq, ByteArray.toList_eq]
  exact key p hp q hq
theorem an_inj {p q : Nat} (hp : p < 4) (hq : q < 4) (h : an p = an q) : p = q := by
  have h1 := an_less p hp q hq
  have h2 := an_less q hq p hp
  rw [h, less_irrefl] at h1
  rw [h, less_irrefl] at h2
  have := (decide_eq_false_iff_not).1 h1.symm
  have := (decide_eq_false_iff_not).1 h2.symm
  omega

/-- The two clocks hold the same nodes of the ranks from t to u. -/
def Same (f h : Nat → Int) (t u : Nat) : Prop := ∀ k, t ≤ k → k < u → has f k = has h k
def Lack (h : Nat → Int) (t u : Nat) : Prop := ∀ k, t ≤ k → k < u → has h k = false

theorem same_run (f h : Nat → Int) : ∀ m t, t ≤ 4 → cn f t + m ≤ cn f 4 → cn h t + m ≤ cn h 4 → (∀ k, k < m → (NA f 4)[cn f t + k]? = (NA h 4)[cn h t + k]?) → ∃ u, t ≤ u ∧ u ≤ 4 ∧ cn f u = cn f t + m ∧ cn h u = cn h t + m ∧ Same f h t u := by
  intro m
  induction m with
  | zero => intro t ht _ _ _; exact ⟨t, Nat.le_refl _, ht, rfl, rfl, fun k h1 h2 => by omega⟩
  | succ m ih =>
    intro t ht h1 h2 he
    obtain ⟨p, p1, p2, p3, p4, p5, p6, p7⟩ := next_node f (4 - t) t (by omega) (by omega)
    obtain ⟨q, q1, q2, q3, q4, q5, q6, q7⟩ := next_node h (4 - t) t (by omega) (by omega)
    have e := he 0 (by omega)
    rw [Nat.add_zero, Nat.add_zero, p5, q5] at e
    obtain rfl := an_inj p2 q2 (Option.some.inj e)
    obtain ⟨u, u1, u2, u3, u4, u5⟩ := ih (p + 1) (by omega) (by omega) (by omega) (fun k hk => by rw [p7, q7, Nat.add_assoc, Nat.add_assoc, Nat.add_comm 1 k]; exact he (k + 1) (by omega))
    refine ⟨u, by omega, u2, by omega, by omega, fun k hk hk' => ?_⟩
    by_cases h3 : k < p
    · rw [p4 k hk h3, q4 k hk h3]
    · by_cases h4 : k = p
      · rw [h4, p3, q3]
      · exact u5 k (by omega) hk'

/-- The merged counters. -/
def mx (f h : Nat → Int) (k : Nat) : Int := max (f k % 9) (h k % 9)
theorem mod9 (x : Int) : 0 ≤ x % 9 ∧ x % 9 ≤ 8 := by omega
theorem mx_mod (f h : Nat → Int) (k : Nat) : mx f h k % 9 = max (f k % 9) (h k % 9) := by
  unfold mx
  have := mod9 (f k)
  have := mod9 (h k)
  omega
theorem has_mx (f h : Nat → Int) (k : Nat) : has (mx f h) k = (has f k || has h k) := by
  have e : ∀ x y : Int, (0 ≤ x ∧ x ≤ 8) → (0 ≤ y ∧ y ≤ 8) → (!(max x y == 0)) = (!(x == 0) || !(y == 0)) := by
    intro x y hx hy
    by_cases h1 : x = 0
    · subst h1
      rw [show max 0 y = y by omega]
      simp
    · have h2 : ¬ max x y = 0 := by omega
      rw [beq_eq_false_iff_ne.2 h1, beq_eq_false_iff_ne.2 h2]; rfl
  unfold has
  rw [mx_mod]
  exact e _ _ (mod9 _) (mod9 _)
end Go.Proofs.Ybulkgey
