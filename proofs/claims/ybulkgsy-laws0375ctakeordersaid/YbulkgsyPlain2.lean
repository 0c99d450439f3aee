/- The law's own loops, plainly. -/
import Derived.Test.YbulkgsyPlain
namespace Go.Proofs.Ybulkgsy
set_option linter.unusedVariables false

/-- The leaves: the totals of the berths not tried; all else is -1. -/
def Lof (S m : Nat) (V : Nat → Int) (b : Nat → Bool) : Nat → Int := fun x => if S ≤ x ∧ x - S < m ∧ b (x - S) = false then V (x - S) else -1
theorem lof_in {S m : Nat} {V : Nat → Int} {b : Nat → Bool} {i : Nat} (hi : i < m) (hb : b i = false) : Lof S m V b (S + i) = V i := by
  unfold Lof
  rw [if_pos ⟨by omega, by omega, by rw [show S + i - S = i from by omega]; exact hb⟩, show S + i - S = i from by omega]
theorem lof_tried {S m : Nat} {V : Nat → Int} {b : Nat → Bool} {i : Nat} (hb : b i = true) : Lof S m V b (S + i) = -1 := by
  unfold Lof
  rw [if_neg]
  rintro ⟨_, _, h⟩
  rw [show S + i - S = i from by omega, hb] at h
  cases h
theorem lof_out {S m : Nat} {V : Nat → Int} {b : Nat → Bool} {i : Nat} (hi : m ≤ i) : Lof S m V b (S + i) = -1 := by
  unfold Lof
  rw [if_neg]
  rintro ⟨_, h, _⟩
  omega
def bset (b : Nat → Bool) (i : Nat) : Nat → Bool := fun k => if k = i then true else b k
theorem lof_set {S m : Nat} {V : Nat → Int} {b : Nat → Bool} {i : Nat} (hi : i < m) : set (Lof S m V b) (S + i) (-1) = Lof S m V (bset b i) := by
  funext x
  by_cases e : x = S + i
  · subst e
    rw [set_same, lof_tried]
    simp [bset]
  · rw [set_other _ _ e]
    unfold Lof
    by_cases hx : S ≤ x
    · have : x - S ≠ i := by omega
      simp only [bset, if_neg this]
    · rw [if_neg (fun h => hx h.1), if_neg (fun h => hx h.1)]

/-- How many of the first n berths are tried. -/
def nt (b : Nat → Bool) : Nat → Nat
  | 0 => 0
  | n + 1 => nt b n + if b n = true then 1 else 0
theorem nt_le (b : Nat → Bool) : ∀ n, nt b n ≤ n
  | 0 => Nat.le_refl _
  | n + 1 => by
    simp only [nt]
    have := nt_le b n
    split <;> omega
theorem nt_lt {b : Nat → Bool} : ∀ n, nt b n < n → ∃ i, i < n ∧ b i = false
  | 0, h => by simp [nt] at h
  | n + 1, h => by
    cases hb : b n with
    | false => exact ⟨n, by omega, hb⟩
    | true =>
      simp only [nt, hb, if_true] at h
      obtain ⟨i, hi, hi2⟩ := nt_lt (b := b) n (by omega)
      exact ⟨i, by omega, hi2⟩
theorem nt_all {b : Nat → Bool} : ∀ n, nt b n = n → ∀ i, i < n → b i = true
  | 0, _, i, hi => by omega
  | n + 1, h, i, hi => by
    simp only [nt] at h
    have := nt_le b n
    cases hb : b n with
    | false => simp [hb] at h; omega
    | true =>
      simp only [hb, if_true] at h
      by_cases e : i = n
      · rw [e]; exact hb
      · exact nt_all n (by omega) i (by omega)
theorem nt_same {b : Nat → Bool} {i : Nat} : ∀ n, n ≤ i → nt (bset b i) n = nt b n
  | 0, _ => rfl
  | n + 1, h => by
    simp only [nt]
    rw [nt_same n (by omega)]
    simp [bset, show n ≠ i from by omega]
theorem nt_set {b : Nat → Bool} {i : Nat} (hb : b i = false) : ∀ n, i < n → nt (bset b i) n = nt b n + 1
  | 0, h => by omega
  | n + 1, h => by
    simp only [nt]
    by_cases e : i = n
    · subst e
      rw [nt_same i (Nat.le_refl _)]
      simp [bset, hb]
    · rw [nt_set hb n (by omega)]
      simp only [bset, show n ≠ i from fun h => e h.symm, if_false]
      omega

/-- The plain model's best and count over the first i berths. -/
def PB (S m : Nat) (V : Nat → Int) (b : Nat → Bool) (i : Nat) (best c : Int) : Prop :=
  -1 ≤ best ∧ (∀ j, j < i → Lof S m V b (S + j) ≤ best) ∧ (0 ≤ best → c = (cnt (Lof S m V b) S i best : Int) ∧ 0 < c) ∧ (best = -1 → c = 0)
theorem pb_start {S m : Nat} {V : Nat → Int} {b : Nat → Bool} : PB S m V b 0 (-1) 0 := ⟨by omega, fun j hj => by omega, fun h => by omega, fun _ => rfl⟩
theorem pb_tried {S m : Nat} {V : Nat → Int} {b : Nat → Bool} {i : Nat} {best c : Int} (h : PB S m V b i best c) (hb : b i = true) : PB S m V b (i + 1) best c := by
  obtain ⟨h1, h2, h3, h4⟩ := h
  have e : Lof S m V b (S + i) = -1 := lof_tried hb
  refine ⟨h1, fun j hj => ?_, fun h0 => ?_, h4⟩
  · by_cases ej : j = i
    · rw [ej, e]; exact h1
    · exact h2 j (by omega)
  · simp only [cnt, e, if_neg (show ¬ ((-1 : Int) = best) from by omega)]
    exact h3 h0
theorem pb_more {S m : Nat} {V : Nat → Int} {b : Nat → Bool} {i : Nat} {best c : Int} (h : PB S m V b i best c) (hi : i < m) (hb : b i = false) (hV : best < V i) : PB S m V b (i + 1) (V i) 1 := by
  obtain ⟨h1, h2, h3, h4⟩ := h
  have e : Lof S m V b (S + i) = V i := lof_in hi hb
  refine ⟨by omega, fun j hj => ?_, fun h0 => ⟨?_, by omega⟩, fun h => by omega⟩
  · by_cases ej : j = i
    · rw [ej, e]; exact Int.le_refl _
    · have := h2 j (by omega); omega
  · simp only [cnt, e, if_true]
    rw [cnt_zero i (fun j hj h => by have := h2 j hj; omega)]
    rfl
theorem pb_same {S m : Nat} {V : Nat → Int} {b : Nat → Bool} {i : Nat} {best c : Int} (h : PB S m V b i best c) (hi : i < m) (hb : b i = false) (hV : V i = best) (h0 : 0 ≤ V i) : PB S m V b (i + 1) best (c + 1) := by
  obtain ⟨h1, h2, h3, h4⟩ := h
  have e : Lof S m V b (S + i) = V i := lof_in hi hb
  obtain ⟨c1, c2⟩ := h3 (by omega)
  refine ⟨h1, fun j hj => ?_, fun _ => ⟨?_, by omega⟩, fun h => by omega⟩
  · by_cases ej : j = i
    · rw [ej, e]; omega
    · exact h2 j (by omega)
  · simp only [cnt, e, if_pos hV]
    omega
theorem pb_less {S m : Nat} {V : Nat → Int} {b : Nat → Bool} {i : Nat} {best c : Int} (h : PB S m V b i best c) (hi : i < m) (hb : b i = false) (hV : V i < best) : PB S m V b (i + 1) best c := by
  obtain ⟨h1, h2, h3, h4⟩ := h
  have e : Lof S m V b (S + i) = V i := lof_in hi hb
  refine ⟨h1, fun j hj => ?_, fun h0 => ?_, h4⟩
  · by_cases ej : j = i
    · rw [ej, e]; omega
    · exact h2 j (by omega)
  · simp only [cnt, e, if_neg (show ¬ (V i = best) from by omega)]
    exact h3 h0

/-- The tournament's root agrees with the plain model. -/
theorem root_eq {H m : Nat} {V : Nat → Int} {b : Nat → Bool} {T C : Nat → Int} {best c : Int} (hm : m ≤ 2 ^ H) (hV : ∀ i, i < m → 0 ≤ V i) (hg : GoodFrom (2 ^ H) 1 T C (Lof (2 ^ H) m V b)) (hp : PB (2 ^ H) m V b m best c) (hs : nt b m < m) :
    0 ≤ best ∧ 0 < c ∧ T 1 = best ∧ C 1 = c ∧ c = (cnt (Lof (2 ^ H) m V b) (2 ^ H) m best : Int) := by
  obtain ⟨h1, h2, h3, h4⟩ := hp
  obtain ⟨i, hi, hb⟩ := nt_lt m hs
  have e : Lof (2 ^ H) m V b (2 ^ H + i) = V i := lof_in hi hb
  have h0 : 0 ≤ best := by have := h2 i hi; have := hV i hi; omega
  obtain ⟨c1, c2⟩ := h3 h0
  have g := hg 1 H (Nat.le_refl _) ⟨by omega, by have := pow_pos' H; omega⟩
  rw [Nat.one_mul] at g
  have hT : T 1 = best := by
    obtain ⟨j, hj, ej⟩ := g.ex
    obtain ⟨j', hj', ej'⟩ := cnt_pos (L := Lof (2 ^ H) m V b) (a := 2 ^ H) (t := best) m (by omega)
    have a1 := g.1 j' (by omega)
    by_cases hjm : j < m
    · have := h2 j hjm; omega
    · rw [lof_out (by omega)] at ej; omega
  refine ⟨h0, c2, hT, ?_, c1⟩
  rw [g.2.1, hT, c1]
  obtain ⟨d, hd⟩ : ∃ d, 2 ^ H = m + d := ⟨2 ^ H - m, by omega⟩
  have : cnt (Lof (2 ^ H) m V b) (2 ^ H) (2 ^ H) best = cnt (Lof (2 ^ H) m V b) (2 ^ H) (m + d) best := by rw [← hd]
  rw [this, cnt_add, cnt_zero d (fun j hj h => by rw [Nat.add_assoc, lof_out (by omega)] at h; omega)]
  omega
theorem root_end {H m : Nat} {V : Nat → Int} {b : Nat → Bool} {T C : Nat → Int} (hg : GoodFrom (2 ^ H) 1 T C (Lof (2 ^ H) m V b)) (hs : nt b m = m) : T 1 = -1 := by
  have g := hg 1 H (Nat.le_refl _) ⟨by omega, by have := pow_pos' H; omega⟩
  rw [Nat.one_mul] at g
  obtain ⟨j, hj, ej⟩ := g.ex
  rw [← ej]
  by_cases hjm : j < m
  · exact lof_tried (nt_all m hs j hjm)
  · exact lof_out (by omega)
theorem lof_hit {S m : Nat} {V : Nat → Int} {b : Nat → Bool} {i : Nat} {t : Int} (ht : 0 ≤ t) (h : Lof S m V b (S + i) = t) : i < m ∧ b i = false ∧ V i = t := by
  by_cases hi : i < m
  · cases hb : b i with
    | false => exact ⟨hi, rfl, by rw [← h, lof_in hi hb]⟩
    | true => rw [lof_tried hb] at h; omega
  · rw [lof_out (by omega)] at h; omega
end Go.Proofs.Ybulkgsy
