/- The plain side of apart: a's counters, and b's where a has none. -/
import Derived.Test.YbulkgeyMRd40
import Derived.Test.YbulkgeyMCopy
namespace Go.Proofs.Ybulkgey
open Go.RowKit
set_option linter.unusedVariables false

def gm (f d : Nat → Int) (k : Nat) : Int := if has f k = true then f k % 9 else d k % 9
theorem gm_mod (f d : Nat → Int) (k : Nat) : gm f d k % 9 = gm f d k := by
  unfold gm
  split
  · have := mod9 (f k); omega
  · have := mod9 (d k); omega
theorem has_gm (f d : Nat → Int) (k : Nat) : has (gm f d) k = (has f k || has d k) := by
  unfold has
  rw [gm_mod]
  unfold gm
  cases h : has f k
  · rw [if_neg (by simp)]
    have := not_has h
    rw [this]; simp
  · rw [if_pos rfl]
    have := is_has h
    simp [this]
theorem has_gm_mx (f d : Nat → Int) (k : Nat) : has (gm f d) k = has (mx f d) k := by rw [has_gm, has_mx]
theorem mx_gm (f d : Nat → Int) : mx (gm f d) d = mx f d := by
  funext k
  unfold mx
  rw [gm_mod]
  unfold gm
  split
  · rfl
  · rename_i h
    have := not_has (by simpa using h)
    have := mod9 (d k)
    omega
theorem NA_gm (f d : Nat → Int) (t : Nat) : NA (gm f d) t = NA (mx f d) t := by rw [NA_seg, NA_seg, seg_congr (fun k _ _ => has_gm_mx f d k)]
theorem cn_gm (f d : Nat → Int) (t : Nat) : cn (gm f d) t = cn (mx f d) t := by
  have := cn_run (f := gm f d) (g := mx f d) (t := 0) (u := t) (fun k _ _ => has_gm_mx f d k) (Nat.zero_le _)
  rw [cn_zero, cn_zero] at this
  omega
theorem VL_gm (f d : Nat → Int) : VL (gm f d) d 0 4 = CA (mx f d) 4 := by
  rw [VL_four, mx_gm, CA_seg, seg_congr (fun k _ _ => has_gm_mx f d k)]
  apply List.map_congr_left
  intro k _
  rw [mx_mod]; rfl
/-- The nodes that a holds: those of the merge, where b has no lone ones. -/
theorem gm_a {f d : Nat → Int} {s p : Nat} (h1 : s ≤ p) (h2 : p ≤ 4) (h : ∀ k, s ≤ k → k < p → has d k = true → has f k = true) :
    NA (gm f d) p = NA (gm f d) s ++ ((NA f 4).drop (cn f s)).take (cn f p - cn f s) ∧ CA (gm f d) p = CA (gm f d) s ++ ((CA f 4).drop (cn f s)).take (cn f p - cn f s) ∧ cn (gm f d) p + cn f s = cn (gm f d) s + cn f p := by
  have hh : ∀ k, s ≤ k → k < p → has (gm f d) k = has f k := fun k k1 k2 => by
    rw [has_gm]
    cases hd : has d k
    · simp
    · rw [h k k1 k2 hd]; rfl
  have e := seg_congr hh
  refine ⟨?_, ?_, by have := cn_run hh h1; omega⟩
  · rw [NA_drop f h1 h2, NA_seg, NA_seg, ← seg_append _ (Nat.zero_le s) h1, List.map_append, e]
  · rw [CA_drop f h1 h2, CA_seg, CA_seg, ← seg_append _ (Nat.zero_le s) h1, List.map_append, e]
    congr 1
    apply List.map_congr_left
    intro k hk
    unfold seg at hk
    rw [List.mem_filter] at hk
    rw [gm_mod]
    unfold gm
    rw [if_pos hk.2]
/-- The nodes that b alone holds. -/
theorem gm_b {f d : Nat → Int} {s p : Nat} (h1 : s ≤ p) (h2 : p ≤ 4) (h : Lack f s p) :
    NA (gm f d) p = NA (gm f d) s ++ ((NA d 4).drop (cn d s)).take (cn d p - cn d s) ∧ CA (gm f d) p = CA (gm f d) s ++ ((CA d 4).drop (cn d s)).take (cn d p - cn d s) ∧ cn (gm f d) p + cn d s = cn (gm f d) s + cn d p := by
  have hh : ∀ k, s ≤ k → k < p → has (gm f d) k = has d k := fun k k1 k2 => by rw [has_gm, h k k1 k2, Bool.false_or]
  have e := seg_congr hh
  refine ⟨?_, ?_, by have := cn_run hh h1; omega⟩
  · rw [NA_drop d h1 h2, NA_seg, NA_seg, ← seg_append _ (Nat.zero_le s) h1, List.map_append, e]
  · rw [CA_drop d h1 h2, CA_seg, CA_seg, ← seg_append _ (Nat.zero_le s) h1, List.map_append, e]
    congr 1
    apply List.map_congr_left
    intro k hk
    unfold seg at hk
    rw [List.mem_filter, List.mem_range'_1] at hk
    rw [gm_mod]
    unfold gm
    rw [if_neg (by rw [h k hk.1.1 (by omega)]; simp)]
theorem gm_lone {f d : Nat → Int} {p q : Nat} (h : Lack d p q ∨ Lack f p q) : ∀ k, p ≤ k → k < q → mx (gm f d) d k = gm f d k % 9 := by
  rcases h with h | h
  · exact mx_lack h
  · intro k k1 k2
    rw [mx_gm, gm_mod]
    have := not_has (h k k1 k2)
    have := mod9 (d k)
    unfold mx gm
    rw [if_neg (by rw [h k k1 k2]; simp)]
    omega
theorem gm_same {f d : Nat → Int} {t p : Nat} (h : Same f d t p) : Same (gm f d) d t p := fun k k1 k2 => by rw [has_gm, h k k1 k2, Bool.or_self]
theorem gm_cn_lone {f d : Nat → Int} {p q : Nat} (h0 : p ≤ q) (h : Lack d p q ∨ Lack f p q) : cn (gm f d) q = cn (gm f d) p + (cn f q - cn f p) + (cn d q - cn d p) := by
  have m1 := cn_mono f h0
  have m2 := cn_mono d h0
  rcases h with h | h
  · have := cn_run (f := gm f d) (g := f) (fun k k1 k2 => by rw [has_gm, h k k1 k2, Bool.or_false]) h0
    have := cn_flat d h h0
    omega
  · have := cn_run (f := gm f d) (g := d) (fun k k1 k2 => by rw [has_gm, h k k1 k2, Bool.false_or]) h0
    have := cn_flat f h h0
    omega
end Go.Proofs.Ybulkgey
