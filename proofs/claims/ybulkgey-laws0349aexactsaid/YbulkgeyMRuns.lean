/- The plain side of the merge: stretches of ranks, the runs of lone nodes. -/
import Derived.Test.YbulkgeyMEq
namespace Go.Proofs.Ybulkgey
open Go.RowKit
set_option linter.unusedVariables false

/-- The ranks from t to u that the clock holds. -/
def seg (f : Nat → Int) (t u : Nat) : List Nat := (List.range' t (u - t)).filter (has f)
theorem seg_self (f : Nat → Int) (t : Nat) : seg f t t = [] := by simp [seg]
theorem seg_append (f : Nat → Int) {t p u : Nat} (h1 : t ≤ p) (h2 : p ≤ u) : seg f t p ++ seg f p u = seg f t u := by
  obtain ⟨a, rfl⟩ := Nat.exists_eq_add_of_le h1
  obtain ⟨b, rfl⟩ := Nat.exists_eq_add_of_le h2
  unfold seg
  rw [← List.filter_append, show t + a - t = a by omega, show t + a + b - (t + a) = b by omega, show t + a + b - t = a + b by omega]
  have := List.range'_append (s := t) (m := a) (n := b) (step := 1)
  rw [Nat.one_mul] at this
  rw [this]
theorem sel_seg (f : Nat → Int) (t : Nat) : selA f t = seg f 0 t := by
  unfold selA seg
  rw [List.range_eq_range', Nat.sub_zero]
  rfl
theorem seg_len (f : Nat → Int) {t u : Nat} (h : t ≤ u) : cn f t + (seg f t u).length = cn f u := by
  unfold cn
  rw [sel_seg, sel_seg, ← seg_append f (Nat.zero_le t) h, List.length_append]
theorem seg_congr {f g : Nat → Int} {t u : Nat} (h : ∀ k, t ≤ k → k < u → has f k = has g k) : seg f t u = seg g t u := by
  unfold seg
  apply List.filter_congr
  intro k hk
  rw [List.mem_range'_1] at hk
  exact h k hk.1 (by omega)
theorem seg_lack {f : Nat → Int} {t u : Nat} (h : Lack f t u) : seg f t u = [] := by
  unfold seg
  rw [List.filter_eq_nil_iff]
  intro k hk
  rw [List.mem_range'_1] at hk
  rw [h k hk.1 (by omega)]; simp
theorem cn_run {f g : Nat → Int} {t u : Nat} (h : ∀ k, t ≤ k → k < u → has f k = has g k) (htu : t ≤ u) : cn f u + cn g t = cn g u + cn f t := by
  rw [← seg_len f htu, ← seg_len g htu, seg_congr h]; omega
theorem lack_of_flat {f : Nat → Int} {t u : Nat} (htu : t ≤ u) (h : cn f t = cn f u) : Lack f t u := by
  intro k k1 k2
  have a := cn_mono f (t := t) (u := k) k1
  have b := cn_mono f (t := k + 1) (u := u) (by omega)
  rw [cn_succ] at b
  cases hh : has f k
  · rfl
  · rw [hh] at b; simp at b; omega

/-- The names' and the counters' lists, by their ranks. -/
theorem NA_seg (f : Nat → Int) (t : Nat) : NA f t = (seg f 0 t).map an := by unfold NA; rw [sel_seg]
theorem CA_seg (f : Nat → Int) (t : Nat) : CA f t = (seg f 0 t).map fun k => f k % 9 := by unfold CA; rw [sel_seg]
theorem NA_drop (f : Nat → Int) {t u : Nat} (h1 : t ≤ u) (h2 : u ≤ 4) : ((NA f 4).drop (cn f t)).take (cn f u - cn f t) = (seg f t u).map an := by
  have a := seg_len f (Nat.zero_le t)
  have b := seg_len f h1
  rw [cn_zero, Nat.zero_add] at a
  rw [NA_seg, ← seg_append f (Nat.zero_le t) (show t ≤ 4 by omega), ← seg_append f h1 h2, List.map_append, List.map_append, List.drop_left' (by simpa using a), List.take_left' (by simp; omega)]
theorem CA_drop (f : Nat → Int) {t u : Nat} (h1 : t ≤ u) (h2 : u ≤ 4) : ((CA f 4).drop (cn f t)).take (cn f u - cn f t) = (seg f t u).map fun k => f k % 9 := by
  have a := seg_len f (Nat.zero_le t)
  have b := seg_len f h1
  rw [cn_zero, Nat.zero_add] at a
  rw [CA_seg, ← seg_append f (Nat.zero_le t) (show t ≤ 4 by omega), ← seg_append f h1 h2, List.map_append, List.map_append, List.drop_left' (by simpa using a), List.take_left' (by simp; omega)]
theorem NA_take (f : Nat → Int) {t : Nat} (h : t ≤ 4) : (NA f 4).take (cn f t) = NA f t := by
  have := NA_drop f (Nat.zero_le t) h
  rw [cn_zero, Nat.sub_zero, List.drop_zero] at this
  rw [this, NA_seg]
/-- The length of the names up to a rank. -/
def sz (f : Nat → Int) (t : Nat) : Nat := (cat (NA f t)).size
theorem sz_seg (f : Nat → Int) {t u : Nat} (h : t ≤ u) : sz f u = sz f t + (cat ((seg f t u).map an)).size := by
  unfold sz
  rw [NA_seg, NA_seg, ← seg_append f (Nat.zero_le t) h, List.map_append, cat_append, ByteArray.size_append]
theorem sz_run {f g : Nat → Int} {t u : Nat} (h : ∀ k, t ≤ k → k < u → has f k = has g k) (htu : t ≤ u) : sz f u + sz g t = sz g u + sz f t := by
  rw [sz_seg f htu, sz_seg g htu, seg_congr h]; omega
theorem sz_lack {f : Nat → Int} {t u : Nat} (h : Lack f t u) (htu : t ≤ u) : sz f u = sz f t := by
  rw [sz_seg f htu, seg_lack h]; simp [cat]

theorem mx_same {f d : Nat → Int} {t u : Nat} (h : Same f d t u) : ∀ k, t ≤ k → k < u → has (mx f d) k = has f k := fun k k1 k2 => by rw [has_mx, ← h k k1 k2, Bool.or_self]
theorem mx_lackR {f d : Nat → Int} {t u : Nat} (h : Lack d t u) : ∀ k, t ≤ k → k < u → has (mx f d) k = has f k := fun k k1 k2 => by rw [has_mx, h k k1 k2, Bool.or_false]
theorem mx_lackL {f d : Nat → Int} {t u : Nat} (h : Lack f t u) : ∀ k, t ≤ k → k < u → has (mx f d) k = has d k := fun k k1 k2 => by rw [has_mx, h k k1 k2, Bool.false_or]
theorem not_has {f : Nat → Int} {k : Nat} (h : has f k = false) : f k % 9 = 0 := by
  unfold has at h
  simpa using h
theorem is_has {f : Nat → Int} {k : Nat} (h : has f k = true) : f k % 9 ≠ 0 := by
  unfold has at h
  simpa using h

/-- The lone runs that came between the ranks t and u; between them the two clocks hold the same. -/
def Runs (f d : Nat → Int) : Nat → List (Nat × Nat) → Nat → Prop
  | t, [], u => t ≤ u ∧ Same f d t u
  | t, (p, q) :: rs, u => t ≤ p ∧ p ≤ q ∧ Same f d t p ∧ (Lack d p q ∨ Lack f p q) ∧ Runs f d q rs u
theorem Runs.le {f d : Nat → Int} : ∀ {rs : List (Nat × Nat)} {t u : Nat}, Runs f d t rs u → t ≤ u
  | [], t, u, h => h.1
  | (p, q) :: rs, t, u, h => by have := Runs.le h.2.2.2.2; have := h.1; have := h.2.1; omega
theorem Runs.same {f d : Nat → Int} : ∀ {rs : List (Nat × Nat)} {t u v : Nat}, Runs f d t rs u → u ≤ v → Same f d u v → Runs f d t rs v
  | [], t, u, v, h, huv, hs => ⟨Nat.le_trans h.1 huv, fun k k1 k2 => by
      by_cases e : k < u
      · exact h.2 k k1 e
      · exact hs k (by omega) k2⟩
  | (p, q) :: rs, t, u, v, h, huv, hs => ⟨h.1, h.2.1, h.2.2.1, h.2.2.2.1, Runs.same h.2.2.2.2 huv hs⟩
theorem Runs.lone {f d : Nat → Int} : ∀ {rs : List (Nat × Nat)} {t u v : Nat}, Runs f d t rs u → u ≤ v → (Lack d u v ∨ Lack f u v) → Runs f d t (rs ++ [(u, v)]) v
  | [], t, u, v, h, huv, hs => ⟨h.1, huv, h.2, hs, Nat.le_refl _, fun k k1 k2 => by omega⟩
  | (p, q) :: rs, t, u, v, h, huv, hs => ⟨h.1, h.2.1, h.2.2.1, h.2.2.2.1, Runs.lone h.2.2.2.2 huv hs⟩

/-- What the walk's record says of a run. -/
def rI (f d : Nat → Int) (r : Nat × Nat) : Nat := cn f r.1
def rJ (f d : Nat → Int) (r : Nat × Nat) : Nat := cn d r.1
def rA (f d : Nat → Int) (r : Nat × Nat) : Nat := cn f r.2 - cn f r.1
def rB (f d : Nat → Int) (r : Nat × Nat) : Nat := cn d r.2 - cn d r.1

/-- In a stretch that both hold the nodes lie in step. -/
theorem step_at {f d : Nat → Int} {t u r : Nat} (h : Same f d t u) (h1 : t ≤ r) (h2 : r < u) (hu : u ≤ 4) (hr : has f r = true) :
    ∃ e, cn f t + e < cn f u ∧ (CA f 4)[cn f t + e]? = some (f r % 9) ∧ (CA d 4)[cn d t + e]? = some (d r % 9) := by
  have hd : has d r = true := by rw [← h r h1 h2]; exact hr
  have a := cn_run (f := f) (g := d) (t := t) (u := r) (fun k k1 k2 => h k k1 (by omega)) h1
  have m1 := cn_mono f h1
  have m2 := cn_mono f (t := r + 1) (u := u) (by omega)
  have m3 := cn_mono f hu
  have s1 := cn_succ f r
  rw [hr] at s1
  simp at s1
  have s2 := cn_succ d r
  rw [hd] at s2
  simp at s2
  have m4 := cn_mono d (t := r + 1) (u := 4) (by omega)
  obtain ⟨p, p1, p2, p3, p4, p5, p6, p7⟩ := next_node f (4 - r) r (by omega) (by omega)
  obtain ⟨q, q1, q2, q3, q4, q5, q6, q7⟩ := next_node d (4 - r) r (by omega) (by omega)
  obtain rfl : p = r := by
    by_cases e : p = r
    · exact e
    · have := p4 r (Nat.le_refl _) (by omega)
      rw [hr] at this; cases this
  obtain rfl : q = p := by
    by_cases e : q = p
    · exact e
    · have := q4 p (Nat.le_refl _) (by omega)
      rw [hd] at this; cases this
  refine ⟨cn f q - cn f t, by omega, ?_, ?_⟩
  · rw [show cn f t + (cn f q - cn f t) = cn f q by omega]; exact p6
  · rw [show cn d t + (cn f q - cn f t) = cn d q by omega]; exact q6
end Go.Proofs.Ybulkgey
