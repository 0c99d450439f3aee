/- The plain side of the merge: counters raised stretch by stretch; a clock whose nodes are all the other's. -/
import Derived.Test.YbulkgeyMRuns
namespace Go.Proofs.Ybulkgey
open Go.RowKit
set_option linter.unusedVariables false

theorem RA_map (a b : Nat → Int) (l : List Nat) : RA (l.map a) (l.map b) l.length = l.map fun k => max (a k) (b k) := by
  apply List.ext_getElem (by simp [RA])
  intro i h1 h2
  have hi : i < l.length := by simpa using h2
  simp [RA, hi, List.getD_eq_getElem?_getD]

/-- The counters of f's nodes, raised to d's below the rank t. -/
def UL (f d : Nat → Int) (t : Nat) : List Int := (seg f 0 t).map (mx f d) ++ (seg f t 4).map fun k => f k % 9
theorem UL_zero (f d : Nat → Int) : UL f d 0 = CA f 4 := by simp [UL, seg_self, CA_seg]
theorem UL_four (f d : Nat → Int) (h : ∀ k, k < 4 → has d k = true → has f k = true) : UL f d 4 = CA (mx f d) 4 ∧ NA (mx f d) 4 = NA f 4 := by
  have e : seg (mx f d) 0 4 = seg f 0 4 := seg_congr fun k _ hk => by
    rw [has_mx]
    cases hd : has d k
    · simp
    · rw [h k hk hd]; rfl
  constructor
  · rw [UL, seg_self, List.map_nil, List.append_nil, CA_seg, e]
    apply List.map_congr_left
    intro k _
    rw [mx_mod]; rfl
  · rw [NA_seg, NA_seg, e]
theorem UL_len (f d : Nat → Int) {t : Nat} (h : t ≤ 4) : (UL f d t).length = cn f 4 := by
  have a := seg_len f (Nat.zero_le t)
  have b := seg_len f h
  rw [cn_zero] at a
  simp [UL]; omega
theorem UL_lone {f d : Nat → Int} {p q : Nat} (h1 : p ≤ q) (h2 : q ≤ 4) (h : Lack d p q) : UL f d p = UL f d q := by
  unfold UL
  rw [← seg_append f (Nat.zero_le p) h1, ← seg_append f h1 h2, List.map_append, List.map_append, List.append_assoc]
  congr 2
  apply List.map_congr_left
  intro k hk
  unfold seg at hk
  rw [List.mem_filter, List.mem_range'_1] at hk
  have := not_has (h k hk.1.1 (by omega))
  have := mod9 (f k)
  unfold mx
  omega
/-- A stretch in step, raised. -/
theorem UL_parts {f d : Nat → Int} {t p : Nat} (h1 : t ≤ p) (h2 : p ≤ 4) (h : Same f d t p) :
    UL f d t = (seg f 0 t).map (mx f d) ++ ((seg f t p).map fun k => f k % 9) ++ ((seg f p 4).map fun k => f k % 9) ∧
    UL f d p = (seg f 0 t).map (mx f d) ++ RA ((seg f t p).map fun k => f k % 9) ((seg d t p).map fun k => d k % 9) ((seg d t p).map fun k => d k % 9).length ++ ((seg f p 4).map fun k => f k % 9) := by
  constructor
  · unfold UL
    rw [← seg_append f h1 h2, List.map_append, List.append_assoc]
  · unfold UL
    rw [← seg_congr (f := f) (g := d) h, List.length_map, RA_map, ← seg_append f (Nat.zero_le t) h1, List.map_append]
    rfl

/-- d's nodes of the ranks from t on are all f's. -/
def Sub (f d : Nat → Int) (t : Nat) : Prop := ∀ k, t ≤ k → k < 4 → has d k = true → has f k = true
theorem Sub.cn_le {f d : Nat → Int} {s u : Nat} (h : ∀ k, s ≤ k → k < u → has d k = true → has f k = true) (hsu : s ≤ u) : cn d u + cn f s ≤ cn f u + cn d s := by
  induction u with
  | zero => obtain rfl : s = 0 := (by omega); omega
  | succ u ih =>
    by_cases e : s = u + 1
    · subst e; omega
    · have := ih (fun k k1 k2 => h k k1 (by omega)) (by omega)
      rw [cn_succ, cn_succ]
      cases hd : has d u
      · cases hf : has f u <;> simp <;> omega
      · rw [h u (by omega) (by omega) hd]; simp; omega
theorem Sub.same {f d : Nat → Int} {s u : Nat} (h : ∀ k, s ≤ k → k < u → has d k = true → has f k = true) (hsu : s ≤ u) (e : cn d u + cn f s = cn f u + cn d s) : Same f d s u := by
  induction u with
  | zero => intro k _ k2; omega
  | succ u ih =>
    by_cases e1 : s = u + 1
    · intro k k1 k2; omega
    · have h' : ∀ k, s ≤ k → k < u → has d k = true → has f k = true := fun k k1 k2 => h k k1 (by omega)
      have le := Sub.cn_le h' (by omega)
      have hu := h u (by omega) (by omega)
      rw [cn_succ, cn_succ] at e
      have hfd : has f u = has d u ∧ cn d u + cn f s = cn f u + cn d s := by
        cases hf : has f u
        · cases hd : has d u
          · rw [hf, hd] at e; simp at e; exact ⟨rfl, by omega⟩
          · rw [hf] at hu; exact absurd (hu hd) (by simp)
        · cases hd : has d u
          · rw [hf, hd] at e; simp at e; omega
          · rw [hf, hd] at e; simp at e; exact ⟨rfl, by omega⟩
      intro k k1 k2
      by_cases ek : k = u
      · rw [ek]; exact hfd.1
      · exact ih h' (by omega) hfd.2 k k1 (by omega)
/-- The e-th node from rank s on. -/
theorem nth_node (f : Nat → Int) (e s : Nat) (hs : s ≤ 4) (h : cn f s + e < cn f 4) : ∃ p, s ≤ p ∧ p < 4 ∧ has f p = true ∧ (NA f 4)[cn f s + e]? = some (an p) ∧ cn f p = cn f s + e := by
  induction e generalizing s with
  | zero =>
    obtain ⟨p, p1, p2, p3, p4, p5, p6, p7⟩ := next_node f (4 - s) s (by omega) (by omega)
    exact ⟨p, p1, p2, p3, p5, cn_flat f p4 p1⟩
  | succ e ih =>
    obtain ⟨p, p1, p2, p3, p4, p5, p6, p7⟩ := next_node f (4 - s) s (by omega) (by omega)
    obtain ⟨q, q1, q2, q3, q4, q5⟩ := ih (p + 1) (by omega) (by omega)
    rw [p7] at q4 q5
    exact ⟨q, by omega, q2, q3, by rw [← q4]; congr 1; omega, by omega⟩
/-- Where d's nodes are all f's, and the e-th nodes agree, the two hold the same up to there. -/
theorem Sub.agree {f d : Nat → Int} {s e : Nat} (h : Sub f d s) (hs : s ≤ 4) (h1 : cn f s + e < cn f 4) (h2 : cn d s + e < cn d 4) (he : (NA f 4)[cn f s + e]? = (NA d 4)[cn d s + e]?) :
    ∃ u, s ≤ u ∧ u ≤ 4 ∧ cn f u = cn f s + (e + 1) ∧ cn d u = cn d s + (e + 1) ∧ Same f d s u := by
  obtain ⟨p, p1, p2, p3, p4, p5⟩ := nth_node f e s hs h1
  obtain ⟨q, q1, q2, q3, q4, q5⟩ := nth_node d e s hs h2
  rw [p4, q4] at he
  obtain rfl := an_inj p2 q2 (Option.some.inj he)
  have e1 := cn_succ f p
  have e2 := cn_succ d p
  rw [p3] at e1
  rw [q3] at e2
  simp at e1 e2
  exact ⟨p + 1, by omega, by omega, by omega, by omega, Sub.same (fun k k1 k2 => h k k1 (by omega)) (by omega) (by omega)⟩
/-- Where they do not agree, f's next node is alone. -/
theorem Sub.alone {f d : Nat → Int} {s : Nat} (h : Sub f d s) (hs : s ≤ 4) (h2 : cn d s < cn d 4) (he : (NA f 4)[cn f s]? ≠ (NA d 4)[cn d s]?) :
    ∃ u, s ≤ u ∧ u ≤ 4 ∧ cn f u = cn f s + 1 ∧ cn d u = cn d s ∧ Lack d s u := by
  have le := Sub.cn_le (s := s) (u := 4) (fun k k1 k2 => h k k1 k2) hs
  obtain ⟨p, p1, p2, p3, p4, p5, p6, p7⟩ := next_node f (4 - s) s (by omega) (by omega)
  obtain ⟨q, q1, q2, q3, q4, q5, q6, q7⟩ := next_node d (4 - s) s (by omega) (by omega)
  have hf := h q q1 q2 q3
  have hpq : p < q := by
    by_cases e : q < p
    · have := p4 q q1 e; rw [hf] at this; cases this
    · by_cases e2 : p = q
      · subst e2; rw [p5, q5] at he; exact absurd rfl he
      · omega
  have hl : Lack d s (p + 1) := fun k k1 k2 => q4 k k1 (by omega)
  exact ⟨p + 1, by omega, by omega, p7, cn_flat d hl (by omega), hl⟩
end Go.Proofs.Ybulkgey
