/- What the walk through two clocks tells of their merge: the plain side of measure. -/
import Derived.Test.YbulkgeyMWalk2
namespace Go.Proofs.Ybulkgey
open Go.RowKit
set_option linter.unusedVariables false

def up4 (L : Nat → Int) (e : Nat) (v0 v1 v2 v3 : Int) (x : Nat) : Int := if x = 4 * e then v0 else if x = 4 * e + 1 then v1 else if x = 4 * e + 2 then v2 else if x = 4 * e + 3 then v3 else L x
/-- The kept runs. -/
def Lone (f d : Nat → Int) (L : Nat → Int) (rs : List (Nat × Nat)) : Prop := ∀ k r, rs[k]? = some r → L (4 * k) = cn f r.1 ∧ L (4 * k + 1) = cn d r.1 ∧ L (4 * k + 2) = cn f r.2 - cn f r.1 ∧ L (4 * k + 3) = cn d r.2 - cn d r.1
/-- What is known at the rank t. -/
def Fact (f d : Nat → Int) (t : Nat) (s ib : Nat) (aA bA : Bool) (L : Nat → Int) (rs : List (Nat × Nat)) : Prop :=
  s = cn (mx f d) t ∧ ib + sz f t = sz f 4 + sz (mx f d) t ∧ (bA = false → ∀ k, k < t → d k % 9 ≤ f k % 9) ∧ (aA = false → ∀ k, k < t → f k % 9 ≤ d k % 9) ∧ Runs f d 0 rs t ∧ rs.length ≤ t ∧ (rs.length ≤ 2 → Lone f d L rs) ∧ (aA = true → 0 < cn f t) ∧ (bA = true → 0 < cn d t)
theorem Fact.zero (f d : Nat → Int) : Fact f d 0 0 (sz f 4) false false (fun _ => 0) [] :=
  ⟨rfl, rfl, fun _ k hk => by omega, fun _ k hk => by omega, ⟨Nat.le_refl _, fun k _ hk => by omega⟩, Nat.le_refl _, fun _ k r h => by simp at h, fun h => (by cases h), fun h => (by cases h)⟩
theorem Fact.same {f d : Nat → Int} {t u m s ib : Nat} {aA bA aA' bA' : Bool} {L : Nat → Int} {rs : List (Nat × Nat)} (h : Fact f d t s ib aA bA L rs) (htu : t ≤ u) (hu : u ≤ 4) (hs : Same f d t u) (h1 : cn f u = cn f t + m) (h2 : cn d u = cn d t + m)
    (hb : bA' = false → bA = false ∧ ∀ k, k < m → (CA d 4).getD (cn d t + k) 0 ≤ (CA f 4).getD (cn f t + k) 0) (ha : aA' = false → aA = false ∧ ∀ k, k < m → (CA f 4).getD (cn f t + k) 0 ≤ (CA d 4).getD (cn d t + k) 0) (h3 : 0 < m ∨ (aA' = aA ∧ bA' = bA)) :
    Fact f d u (s + m) ib aA' bA' L rs := by
  obtain ⟨f1, f2, f3, f4, f5, f6, f7, f8, f9⟩ := h
  have c := cn_run (mx_same hs) htu
  have z := sz_run (mx_same hs) htu
  refine ⟨by omega, by omega, fun e k hk => ?_, fun e k hk => ?_, f5.same htu hs, by omega, f7, fun e => ?_, fun e => ?_⟩
  · by_cases hkt : k < t
    · exact f3 (hb e).1 k hkt
    · cases hh : has f k
      · have := not_has hh
        have := not_has (show has d k = false by rw [← hs k (by omega) hk]; exact hh)
        omega
      · obtain ⟨x, x1, x2, x3⟩ := step_at hs (by omega) hk hu hh
        have := (hb e).2 x (by omega)
        simpa [List.getD_eq_getElem?_getD, x2, x3] using this
  · by_cases hkt : k < t
    · exact f4 (ha e).1 k hkt
    · cases hh : has f k
      · have := not_has hh
        have := not_has (show has d k = false by rw [← hs k (by omega) hk]; exact hh)
        omega
      · obtain ⟨x, x1, x2, x3⟩ := step_at hs (by omega) hk hu hh
        have := (ha e).2 x (by omega)
        simpa [List.getD_eq_getElem?_getD, x2, x3] using this
  · rcases h3 with h3 | ⟨h3, _⟩
    · omega
    · have := f8 (h3.symm.trans e)
      omega
  · rcases h3 with h3 | ⟨_, h3⟩
    · omega
    · have := f9 (h3.symm.trans e)
      omega
theorem lone_snoc {f d : Nat → Int} {L : Nat → Int} {rs : List (Nat × Nat)} {t u : Nat} (h : rs.length ≤ 2 → Lone f d L rs) (v0 v1 v2 v3 : Int) (h0 : v0 = cn f t) (h1 : v1 = cn d t) (h2 : v2 = (cn f u : Int) - cn f t) (h3 : v3 = (cn d u : Int) - cn d t) :
    (rs ++ [(t, u)]).length ≤ 2 → Lone f d (up4 L (rs.length % 2) v0 v1 v2 v3) (rs ++ [(t, u)]) := by
  intro hl k r hr
  rw [List.length_append, List.length_singleton] at hl
  have e2 : rs.length % 2 = rs.length := by omega
  rw [e2]
  by_cases hk : k < rs.length
  · rw [List.getElem?_append_left hk] at hr
    have := h (by omega) k r hr
    unfold up4
    rw [if_neg (by omega), if_neg (by omega), if_neg (by omega), if_neg (by omega), if_neg (by omega), if_neg (by omega), if_neg (by omega), if_neg (by omega), if_neg (by omega), if_neg (by omega), if_neg (by omega), if_neg (by omega), if_neg (by omega), if_neg (by omega), if_neg (by omega), if_neg (by omega)]
    exact this
  · rw [List.getElem?_append_right (by omega)] at hr
    have hk2 : k = rs.length := by
      by_cases e : k - rs.length = 0
      · omega
      · rw [List.getElem?_eq_none (by simp; omega)] at hr; cases hr
    subst hk2
    simp at hr
    subst hr
    unfold up4
    rw [if_pos rfl, if_neg (by omega), if_pos rfl, if_neg (by omega), if_neg (by omega), if_pos rfl, if_neg (by omega), if_neg (by omega), if_neg (by omega), if_pos rfl]
    exact ⟨h0, h1, h2, h3⟩
theorem Fact.lonA {f d : Nat → Int} {t u m s ib : Nat} {aA bA : Bool} {L : Nat → Int} {rs : List (Nat × Nat)} (h : Fact f d t s ib aA bA L rs) (htu : t ≤ u) (hm : 0 < m) (hs : Lack d t u) (h1 : cn f u = cn f t + m) (h2 : cn d u = cn d t) :
    Fact f d u (s + m) ib true bA (up4 L (rs.length % 2) (cn f t) (cn d t) m 0) (rs ++ [(t, u)]) := by
  obtain ⟨f1, f2, f3, f4, f5, f6, f7, f8, f9⟩ := h
  have c := cn_run (mx_lackR (f := f) hs) htu
  have z := sz_run (mx_lackR (f := f) hs) htu
  have hlt : t < u := by
    by_cases e : t = u
    · subst e; omega
    · omega
  refine ⟨by omega, by omega, fun e k hk => ?_, fun e => (by cases e), f5.lone htu (.inl hs), by simp; omega, lone_snoc f7 _ _ _ _ rfl rfl (by omega) (by omega), fun _ => by omega, fun e => by have := f9 e; omega⟩
  by_cases hkt : k < t
  · exact f3 e k hkt
  · have := not_has (hs k (by omega) hk)
    have := mod9 (f k)
    omega
theorem Fact.lonB {f d : Nat → Int} {t u m s ib : Nat} {aA bA : Bool} {L : Nat → Int} {rs : List (Nat × Nat)} (h : Fact f d t s ib aA bA L rs) (htu : t ≤ u) (hm : 0 < m) (hs : Lack f t u) (h1 : cn f u = cn f t) (h2 : cn d u = cn d t + m) (ib' : Nat) (hib : ib' + sz d t = ib + sz d u) :
    Fact f d u (s + m) ib' aA true (up4 L (rs.length % 2) (cn f t) (cn d t) 0 m) (rs ++ [(t, u)]) := by
  obtain ⟨f1, f2, f3, f4, f5, f6, f7, f8, f9⟩ := h
  have c := cn_run (mx_lackL (d := d) hs) htu
  have z := sz_run (mx_lackL (d := d) hs) htu
  have z2 := sz_lack hs htu
  have hlt : t < u := by
    by_cases e : t = u
    · subst e; omega
    · omega
  refine ⟨by omega, by omega, fun e => (by cases e), fun e k hk => ?_, f5.lone htu (.inr hs), by simp; omega, lone_snoc f7 _ _ _ _ rfl rfl (by omega) (by omega), fun e => by have := f8 e; omega, fun _ => by omega⟩
  by_cases hkt : k < t
  · exact f4 e k hkt
  · have := not_has (hs k (by omega) hk)
    have := mod9 (d k)
    omega
theorem Fact.four {f d : Nat → Int} {t s ib : Nat} {aA bA : Bool} {L : Nat → Int} {rs : List (Nat × Nat)} (h : Fact f d t s ib aA bA L rs) (ht : t ≤ 4) (h1 : cn f t = cn f 4) (h2 : cn d t = cn d 4) : Fact f d 4 s ib aA bA L rs := by
  have l1 := lack_of_flat ht h1
  have l2 := lack_of_flat ht h2
  have hs : Same f d t 4 := fun k k1 k2 => by rw [l1 k k1 k2, l2 k k1 k2]
  exact Fact.same (m := 0) h ht (by omega) hs (by omega) (by omega) (fun e => ⟨e, fun k hk => by omega⟩) (fun e => ⟨e, fun k hk => by omega⟩) (.inr ⟨rfl, rfl⟩)
theorem Fact.bounds {f d : Nat → Int} {t s ib : Nat} {aA bA : Bool} {L : Nat → Int} {rs : List (Nat × Nat)} (h : Fact f d t s ib aA bA L rs) (ht : t ≤ 4) : s ≤ 4 ∧ ib ≤ 16 ∧ rs.length ≤ 4 := by
  obtain ⟨f1, f2, f3, f4, f5, f6, f7, f8, f9⟩ := h
  have := cn_le (mx f d) t
  have a := NA_cat f 4 (Nat.le_refl _)
  have b := NA_cat (mx f d) t ht
  unfold sz at f2
  exact ⟨by omega, by omega, by omega⟩
end Go.Proofs.Ybulkgey
