/- The tournament, plainly: no Go in sight. -/
namespace Go.Proofs.Ybulkgsy
set_option linter.unusedVariables false

/-- How many of L a, .., L (a + n - 1) are t. -/
def cnt (L : Nat → Int) (a : Nat) : Nat → Int → Nat
  | 0, _ => 0
  | n + 1, t => cnt L a n t + if L (a + n) = t then 1 else 0

theorem cnt_add (L : Nat → Int) (a m : Nat) (t : Int) : ∀ n, cnt L a (m + n) t = cnt L a m t + cnt L (a + m) n t
  | 0 => by simp [cnt]
  | n + 1 => by
    rw [← Nat.add_assoc]
    simp only [cnt]
    rw [cnt_add L a m t n, Nat.add_assoc a m n]
    omega
theorem cnt_le (L : Nat → Int) (a : Nat) (t : Int) : ∀ n, cnt L a n t ≤ n
  | 0 => Nat.le_refl _
  | n + 1 => by
    simp only [cnt]
    have := cnt_le L a t n
    split <;> omega
theorem cnt_congr {L L' : Nat → Int} {a : Nat} {t : Int} : ∀ n, (∀ j, j < n → L (a + j) = L' (a + j)) → cnt L a n t = cnt L' a n t
  | 0, _ => rfl
  | n + 1, h => by
    simp only [cnt]
    rw [cnt_congr n (fun j hj => h j (by omega)), h n (by omega)]
theorem cnt_zero {L : Nat → Int} {a : Nat} {t : Int} : ∀ n, (∀ j, j < n → L (a + j) ≠ t) → cnt L a n t = 0
  | 0, _ => rfl
  | n + 1, h => by
    simp only [cnt]
    rw [cnt_zero n (fun j hj => h j (by omega)), if_neg (h n (by omega))]
theorem cnt_pos {L : Nat → Int} {a : Nat} {t : Int} : ∀ n, 0 < cnt L a n t → ∃ j, j < n ∧ L (a + j) = t
  | 0, h => by simp [cnt] at h
  | n + 1, h => by
    by_cases e : L (a + n) = t
    · exact ⟨n, by omega, e⟩
    · simp only [cnt, if_neg e] at h
      obtain ⟨j, hj, hj'⟩ := cnt_pos n h
      exact ⟨j, by omega, hj'⟩
theorem cnt_one {L : Nat → Int} {a j : Nat} {t : Int} (n : Nat) (hj : j < n) (h : L (a + j) = t) : cnt L a j t + 1 ≤ cnt L a n t := by
  obtain ⟨d, rfl⟩ : ∃ d, n = (j + 1) + d := ⟨n - (j + 1), by omega⟩
  rw [cnt_add]
  simp only [cnt, if_pos h]
  omega
theorem cnt_mono {L : Nat → Int} {a : Nat} {t : Int} {m n : Nat} (h : m ≤ n) : cnt L a m t ≤ cnt L a n t := by
  obtain ⟨d, rfl⟩ : ∃ d, n = m + d := ⟨n - m, by omega⟩
  rw [cnt_add]
  omega
/-- The k-th is one. -/
theorem cnt_unique {L : Nat → Int} {a i j : Nat} {t : Int} (hi : L (a + i) = t) (hj : L (a + j) = t) (h : cnt L a i t = cnt L a j t) : i = j := by
  rcases Nat.lt_trichotomy i j with h1 | h1 | h1
  · have := cnt_one (L := L) (a := a) (t := t) j h1 hi
    omega
  · exact h1
  · have := cnt_one (L := L) (a := a) (t := t) i h1 hj
    omega

def set (L : Nat → Int) (p : Nat) (v : Int) : Nat → Int := fun k => if k = p then v else L k
theorem set_same (L : Nat → Int) (p : Nat) (v : Int) : set L p v p = v := by simp [set]
theorem set_other (L : Nat → Int) {p k : Nat} (v : Int) (h : k ≠ p) : set L p v k = L k := by simp [set, h]
theorem cnt_set {L : Nat → Int} {a n p : Nat} {t v : Int} (h1 : a ≤ p) (h2 : p < a + n) (hp : L p = t) (hv : v ≠ t) : cnt (set L p v) a n t + 1 = cnt L a n t := by
  obtain ⟨i, rfl⟩ : ∃ i, p = a + i := ⟨p - a, by omega⟩
  obtain ⟨d, rfl⟩ : ∃ d, n = i + 1 + d := ⟨n - (i + 1), by omega⟩
  rw [cnt_add (set L (a + i) v) a (i + 1) t d, cnt_add L a (i + 1) t d]
  simp only [cnt, set_same, if_pos hp, if_neg hv]
  rw [cnt_congr (L := set L (a + i) v) (L' := L) i (fun j hj => set_other _ _ (by omega)), cnt_congr (L := set L (a + i) v) (L' := L) d (fun j hj => set_other _ _ (by omega))]
  omega

/-- t is the highest of L a, .., L (a + n - 1), and c of them hold it. -/
def IsTop (L : Nat → Int) (a n : Nat) (t c : Int) : Prop := (∀ j, j < n → L (a + j) ≤ t) ∧ c = (cnt L a n t : Int) ∧ 0 < c

theorem IsTop.congr {L L' : Nat → Int} {a n : Nat} {t c : Int} (h : IsTop L a n t c) (e : ∀ j, j < n → L (a + j) = L' (a + j)) : IsTop L' a n t c :=
  ⟨fun j hj => by rw [← e j hj]; exact h.1 j hj, by rw [← cnt_congr n e]; exact h.2.1, h.2.2⟩
theorem IsTop.ex {L : Nat → Int} {a n : Nat} {t c : Int} (h : IsTop L a n t c) : ∃ j, j < n ∧ L (a + j) = t := cnt_pos n (by have := h.2.1; have := h.2.2; omega)
theorem IsTop.le {L : Nat → Int} {a n : Nat} {t c : Int} (h : IsTop L a n t c) : c ≤ n := by have := cnt_le L a t n; have := h.2.1; omega
theorem IsTop.none {L : Nat → Int} {a n : Nat} {t c t' : Int} (h : IsTop L a n t c) (ht : t < t') : cnt L a n t' = 0 :=
  cnt_zero n (fun j hj e => by have := h.1 j hj; omega)
theorem IsTop.join {L : Nat → Int} {a n : Nat} {t1 c1 t2 c2 : Int} (h1 : IsTop L a n t1 c1) (h2 : IsTop L (a + n) n t2 c2) :
    IsTop L a (n + n) (if t2 < t1 then t1 else t2) (if t2 < t1 then c1 else if t1 < t2 then c2 else c1 + c2) := by
  have all : ∀ t, t1 ≤ t → t2 ≤ t → ∀ j, j < n + n → L (a + j) ≤ t := by
    intro t e1 e2 j hj
    by_cases hjn : j < n
    · have := h1.1 j hjn; omega
    · have := h2.1 (j - n) (by omega)
      rw [show a + n + (j - n) = a + j from by omega] at this
      omega
  have p1 := h1.2.1
  have p2 := h2.2.1
  have q1 := h1.2.2
  have q2 := h2.2.2
  by_cases e : t2 < t1
  · rw [if_pos e, if_pos e]
    refine ⟨all _ (by omega) (by omega), ?_, q1⟩
    rw [cnt_add, h2.none e]
    omega
  · rw [if_neg e, if_neg e]
    by_cases e' : t1 < t2
    · rw [if_pos e']
      refine ⟨all _ (by omega) (by omega), ?_, q2⟩
      rw [cnt_add, h1.none e']
      omega
    · rw [if_neg e']
      obtain rfl : t1 = t2 := by omega
      refine ⟨all _ (by omega) (by omega), ?_, by omega⟩
      rw [cnt_add]
      omega

/-- Node x of height h: its leaves are x * 2 ^ h, .., (x + 1) * 2 ^ h - 1. -/
def Node (S x h : Nat) : Prop := S ≤ x * 2 ^ h ∧ x * 2 ^ h < 2 * S
theorem pow_pos' (h : Nat) : 0 < 2 ^ h := Nat.pow_pos (by omega)
theorem Node.end_le {H x h : Nat} (hn : Node (2 ^ H) x h) : (x + 1) * 2 ^ h ≤ 2 * 2 ^ H := by
  obtain ⟨h1, h2⟩ := hn
  have hx : 0 < x := by
    rcases Nat.eq_zero_or_pos x with rfl | h
    · have := pow_pos' H; omega
    · exact h
  have hle : 2 ^ h ≤ x * 2 ^ h := Nat.le_mul_of_pos_left _ hx
  have e2 : 2 * 2 ^ H = 2 ^ (H + 1) := by rw [Nat.pow_succ]; omega
  rw [e2] at h2 ⊢
  have hh : h < H + 1 := by
    have : 2 ^ h < 2 ^ (H + 1) := by omega
    exact (Nat.pow_lt_pow_iff_right (by omega)).1 this
  have e3 : 2 ^ (H + 1) = 2 ^ (H + 1 - h) * 2 ^ h := by rw [← Nat.pow_add]; congr 1; omega
  rw [e3] at h2 ⊢
  have : x < 2 ^ (H + 1 - h) := Nat.lt_of_mul_lt_mul_right h2
  exact Nat.mul_le_mul_right _ this
theorem Node.pos {S x h : Nat} (hn : Node S x h) (hS : 0 < S) : 0 < x := by
  rcases Nat.eq_zero_or_pos x with rfl | h'
  · have := hn.1; simp at this; omega
  · exact h'
theorem Node.one {S x h k : Nat} (h1 : Node S x h) (h2 : Node S x k) : h = k := by
  have key : ∀ {a b : Nat}, Node S x a → Node S x b → a < b → False := by
    intro a b ha hb hab
    have : 2 * 2 ^ a ≤ 2 ^ b := by
      have : 2 ^ (a + 1) ≤ 2 ^ b := Nat.pow_le_pow_right (by omega) hab
      rw [Nat.pow_succ] at this
      omega
    have h3 : x * (2 * 2 ^ a) ≤ x * 2 ^ b := Nat.mul_le_mul_left _ this
    have e : x * (2 * 2 ^ a) = 2 * (x * 2 ^ a) := by rw [Nat.mul_left_comm]
    have := ha.1
    have := hb.2
    omega
  rcases Nat.lt_trichotomy h k with h' | h' | h'
  · exact (key h1 h2 h').elim
  · exact h'
  · exact (key h2 h1 h').elim
theorem two_mul_pow (x h : Nat) : 2 * x * 2 ^ h = x * 2 ^ (h + 1) := by rw [Nat.pow_succ, Nat.mul_comm 2 x, Nat.mul_assoc, Nat.mul_comm 2]
theorem Node.left {S x h : Nat} (hn : Node S x (h + 1)) : Node S (2 * x) h := by
  unfold Node; rw [two_mul_pow]; exact hn
theorem succ_pow (x h : Nat) : (2 * x + 1) * 2 ^ h = x * 2 ^ (h + 1) + 2 ^ h := by rw [Nat.add_mul, two_mul_pow, Nat.one_mul]
theorem Node.right {H x h : Nat} (hn : Node (2 ^ H) x (h + 1)) : Node (2 ^ H) (2 * x + 1) h := by
  have h1 := hn.end_le
  have h2 := hn.1
  have h3 := pow_pos' h
  rw [Nat.add_mul, Nat.one_mul, Nat.pow_succ 2 h] at h1
  unfold Node
  rw [succ_pow, Nat.pow_succ] at *
  omega
theorem Node.height {S x h : Nat} (hn : Node S x h) (hx : x < S) : ∃ k, h = k + 1 := by
  cases h with
  | zero => have := hn.1; simp at this; omega
  | succ k => exact ⟨k, rfl⟩
theorem Node.leaf {S x h : Nat} (hn : Node S x h) (hx : S ≤ x) : h = 0 := by
  have h1 : Node S x 0 := ⟨by simpa using hx, by
    have := hn.2
    have : x * 1 ≤ x * 2 ^ h := Nat.mul_le_mul_left _ (pow_pos' h)
    simp only [Nat.pow_zero]
    omega⟩
  exact hn.one h1

/-- The nodes from i on are right. -/
def GoodFrom (S i : Nat) (T C : Nat → Int) (L : Nat → Int) : Prop := ∀ x h, i ≤ x → Node S x h → IsTop L (x * 2 ^ h) (2 ^ h) (T x) (C x)

theorem isTop_leaf (L : Nat → Int) (x : Nat) (t c : Int) (ht : t = L x) (hc : c = 1) : IsTop L (x * 2 ^ 0) (2 ^ 0) t c := by
  subst ht hc
  simp only [Nat.pow_zero, Nat.mul_one]
  refine ⟨fun j hj => ?_, ?_, by omega⟩
  · obtain rfl : j = 0 := by omega
    simp
  · simp [cnt]
theorem goodFrom_leaves {S : Nat} {T C L : Nat → Int} (hT : ∀ x, S ≤ x → x < 2 * S → T x = L x) (hC : ∀ x, S ≤ x → x < 2 * S → C x = 1) : GoodFrom S S T C L := by
  intro x h hx hn
  obtain rfl := hn.leaf hx
  have h2 := hn.2
  simp only [Nat.pow_zero, Nat.mul_one] at h2
  exact isTop_leaf L x _ _ (hT x hx h2) (hC x hx h2)
theorem GoodFrom.leaf {S i : Nat} {T C L : Nat → Int} (h : GoodFrom S i T C L) {x : Nat} (hi : i ≤ x) (h1 : S ≤ x) (h2 : x < 2 * S) : T x = L x ∧ C x = 1 := by
  have := h x 0 hi ⟨by simpa using h1, by simpa using h2⟩
  simp only [Nat.pow_zero, Nat.mul_one] at this
  obtain ⟨j, hj, e⟩ := this.ex
  obtain rfl : j = 0 := by omega
  have e' : T x = L x := by simpa using e.symm
  refine ⟨e', ?_⟩
  rw [this.2.1, e']
  simp [cnt]

/-- What 'join' makes of the two children. -/
theorem join_top {H n h : Nat} {T C L : Nat → Int} (hn : Node (2 ^ H) n (h + 1)) (h1 : IsTop L (2 * n * 2 ^ h) (2 ^ h) (T (2 * n)) (C (2 * n))) (h2 : IsTop L ((2 * n + 1) * 2 ^ h) (2 ^ h) (T (2 * n + 1)) (C (2 * n + 1))) :
    IsTop L (n * 2 ^ (h + 1)) (2 ^ (h + 1)) (if T (2 * n + 1) < T (2 * n) then T (2 * n) else T (2 * n + 1)) (if T (2 * n + 1) < T (2 * n) then C (2 * n) else if T (2 * n) < T (2 * n + 1) then C (2 * n + 1) else C (2 * n) + C (2 * n + 1)) := by
  rw [two_mul_pow] at h1
  rw [succ_pow] at h2
  have := h1.join h2
  rwa [show 2 ^ h + 2 ^ h = 2 ^ (h + 1) from by rw [Nat.pow_succ]; omega] at this
theorem GoodFrom.step {H n : Nat} {T C L : Nat → Int} (h : GoodFrom (2 ^ H) (n + 1) T C L) (hn0 : 0 < n) (hn : n < 2 ^ H) :
    GoodFrom (2 ^ H) n (set T n (if T (2 * n + 1) < T (2 * n) then T (2 * n) else T (2 * n + 1))) (set C n (if T (2 * n + 1) < T (2 * n) then C (2 * n) else if T (2 * n) < T (2 * n + 1) then C (2 * n + 1) else C (2 * n) + C (2 * n + 1))) L := by
  intro x k hx hk
  by_cases e : x = n
  · subst e
    rw [set_same, set_same]
    obtain ⟨k, rfl⟩ := hk.height hn
    exact join_top hk (h _ _ (by omega) hk.left) (h _ _ (by omega) hk.right)
  · rw [set_other _ _ e, set_other _ _ e]
    exact h x k (by omega) hk

/-! ### 'take': down -/
theorem child_tied {H n h : Nat} {T C L : Nat → Int} (hg : GoodFrom (2 ^ H) 1 T C L) (hn : Node (2 ^ H) n (h + 1)) :
    (cnt L (n * 2 ^ (h + 1)) (2 ^ h) (T n) : Int) = (if T (2 * n) = T n then C (2 * n) else 0) ∧
    (cnt L (n * 2 ^ (h + 1) + 2 ^ h) (2 ^ h) (T n) : Int) = (if T (2 * n + 1) = T n then C (2 * n + 1) else 0) ∧
    C n = (cnt L (n * 2 ^ (h + 1)) (2 ^ h) (T n) : Int) + (cnt L (n * 2 ^ (h + 1) + 2 ^ h) (2 ^ h) (T n) : Int) := by
  have hp := hn.pos (pow_pos' H)
  have g0 := hg n _ (by omega) hn
  have g1 := hg (2 * n) _ (by omega) hn.left
  have g2 := hg (2 * n + 1) _ (by omega) hn.right
  rw [two_mul_pow] at g1
  rw [succ_pow] at g2
  have e2 : 2 ^ (h + 1) = 2 ^ h + 2 ^ h := by rw [Nat.pow_succ]; omega
  refine ⟨?_, ?_, ?_⟩
  · by_cases e : T (2 * n) = T n
    · rw [if_pos e, ← e]; exact g1.2.1.symm
    · rw [if_neg e]
      obtain ⟨j, hj, hj'⟩ := g1.ex
      have := g0.1 j (by omega)
      rw [g1.none (by omega)]
      rfl
  · by_cases e : T (2 * n + 1) = T n
    · rw [if_pos e, ← e]; exact g2.2.1.symm
    · rw [if_neg e]
      obtain ⟨j, hj, hj'⟩ := g2.ex
      have := g0.1 (2 ^ h + j) (by omega)
      rw [← Nat.add_assoc] at this
      rw [g2.none (by omega)]
      rfl
  · rw [g0.2.1, show cnt L (n * 2 ^ (h + 1)) (2 ^ (h + 1)) (T n) = cnt L (n * 2 ^ (h + 1)) (2 ^ h + 2 ^ h) (T n) from by rw [← e2], cnt_add]
    omega

/-- Where 'take' stands: at node n of height h, with k of the node's ties still to pass; k0 was asked for. -/
def At (H n h : Nat) (k k0 : Int) (T C L : Nat → Int) : Prop := Node (2 ^ H) n h ∧ T n = T 1 ∧ 0 ≤ k ∧ k < C n ∧ k0 = (cnt L (2 ^ H) (n * 2 ^ h - 2 ^ H) (T 1) : Int) + k
theorem at_start {H : Nat} {T C L : Nat → Int} {k : Int} (h0 : 0 ≤ k) (h1 : k < C 1) : At H 1 H k k T C L := by
  refine ⟨⟨by omega, by have := pow_pos' H; omega⟩, rfl, h0, h1, ?_⟩
  simp [cnt]
theorem At.left {H n h : Nat} {k k0 : Int} {T C L : Nat → Int} (hg : GoodFrom (2 ^ H) 1 T C L) (ha : At H n (h + 1) k k0 T C L) (hk : k < if T (2 * n) = T n then C (2 * n) else 0) : At H (2 * n) h k k0 T C L := by
  obtain ⟨hn, ht, h0, h1, h2⟩ := ha
  have e : T (2 * n) = T n := by
    by_cases e : T (2 * n) = T n
    · exact e
    · rw [if_neg e] at hk; omega
  rw [if_pos e] at hk
  exact ⟨hn.left, e.trans ht, h0, hk, by rw [two_mul_pow]; exact h2⟩
theorem At.right {H n h : Nat} {k k0 : Int} {T C L : Nat → Int} (hg : GoodFrom (2 ^ H) 1 T C L) (ha : At H n (h + 1) k k0 T C L) (hk : (if T (2 * n) = T n then C (2 * n) else 0) ≤ k) : At H (2 * n + 1) h (k - if T (2 * n) = T n then C (2 * n) else 0) k0 T C L := by
  obtain ⟨hn, ht, h0, h1, h2⟩ := ha
  obtain ⟨c1, c2, c3⟩ := child_tied hg hn
  rw [← c1] at hk ⊢
  have e : T (2 * n + 1) = T n := by
    by_cases e : T (2 * n + 1) = T n
    · exact e
    · rw [if_neg e] at c2; omega
  rw [if_pos e] at c2
  refine ⟨hn.right, e.trans ht, by omega, by omega, ?_⟩
  rw [h2, succ_pow]
  have h3 := hn.1
  rw [Nat.sub_add_comm h3, cnt_add, show 2 ^ H + (n * 2 ^ (h + 1) - 2 ^ H) = n * 2 ^ (h + 1) from by omega, ← ht]
  omega
theorem At.leaf {H n : Nat} {k k0 : Int} {T C L : Nat → Int} (hg : GoodFrom (2 ^ H) 1 T C L) (ha : At H n 0 k k0 T C L) : 2 ^ H ≤ n ∧ n < 2 * 2 ^ H ∧ L n = T 1 ∧ k0 = (cnt L (2 ^ H) (n - 2 ^ H) (T 1) : Int) := by
  obtain ⟨hn, ht, h0, h1, h2⟩ := ha
  have a1 := hn.1
  have a2 := hn.2
  simp only [Nat.pow_zero, Nat.mul_one] at a1 a2 h2
  have hp := pow_pos' H
  obtain ⟨e1, e2⟩ := hg.leaf (x := n) (by omega) a1 a2
  exact ⟨a1, a2, by rw [← e1]; exact ht, by omega⟩

/-! ### 'take': up again -/
theorem in_seg {p x k : Nat} (h1 : x * 2 ^ k ≤ p) (h2 : p < (x + 1) * 2 ^ k) : x = p / 2 ^ k := by
  have := pow_pos' k
  exact (Nat.div_eq_of_lt_le h1 h2).symm
theorem node_up {H p h : Nat} (h1 : 2 ^ H ≤ p) (h2 : p < 2 * 2 ^ H) (h0 : 0 < p / 2 ^ h) : Node (2 ^ H) (p / 2 ^ h) h := by
  have hp := pow_pos' h
  have e2 : 2 * 2 ^ H = 2 ^ (H + 1) := by rw [Nat.pow_succ]; omega
  have hle : p / 2 ^ h * 2 ^ h ≤ p := Nat.div_mul_le_self p (2 ^ h)
  refine ⟨?_, by omega⟩
  have hh : h ≤ H := by
    rcases Nat.lt_or_ge H h with h' | h'
    · have : 2 ^ (H + 1) ≤ 2 ^ h := Nat.pow_le_pow_right (by omega) h'
      rw [Nat.div_eq_of_lt (by omega)] at h0
      omega
    · exact h'
  have e3 : 2 ^ H = 2 ^ (H - h) * 2 ^ h := by rw [← Nat.pow_add]; congr 1; omega
  have : 2 ^ (H - h) ≤ p / 2 ^ h := by rw [Nat.le_div_iff_mul_le hp]; omega
  rw [e3]
  exact Nat.mul_le_mul_right _ this

/-- Above height h the nodes over leaf p are as they were; all the others are right for the leaves with p tried. -/
def Mid (H p h : Nat) (T C L : Nat → Int) : Prop := ∀ x k, Node (2 ^ H) x k → (h ≤ k → x = p / 2 ^ k → IsTop L (x * 2 ^ k) (2 ^ k) (T x) (C x)) ∧ (¬ (h ≤ k ∧ x = p / 2 ^ k) → IsTop (set L p (-1)) (x * 2 ^ k) (2 ^ k) (T x) (C x))
theorem mid_start {H p : Nat} {T C L : Nat → Int} (hg : GoodFrom (2 ^ H) 1 T C L) (h1 : 2 ^ H ≤ p) (h2 : p < 2 * 2 ^ H) : Mid H p 1 (set T p (-1)) C L := by
  intro x k hn
  have hx := hn.pos (pow_pos' H)
  have g := hg x k hx hn
  refine ⟨fun hk e => ?_, fun hne => ?_⟩
  · have : x ≠ p := by
      rintro rfl
      have := hn.leaf h1
      omega
    rw [set_other _ _ this]
    exact g
  · by_cases e : x = p
    · subst e
      obtain rfl := hn.leaf h1
      exact isTop_leaf _ _ _ _ (by rw [set_same, set_same]) (hg.leaf (by omega) h1 h2).2
    · rw [set_other _ _ e]
      refine g.congr fun j hj => (set_other _ _ ?_).symm
      rintro rfl
      have ex := in_seg (p := x * 2 ^ k + j) (x := x) (k := k) (by omega) (by rw [Nat.add_mul]; omega)
      refine hne ⟨?_, ex⟩
      rcases Nat.eq_zero_or_pos k with rfl | hk
      · simp only [Nat.pow_zero, Nat.mul_one] at hj e
        omega
      · exact hk
theorem mid_top {H p h : Nat} {T C L : Nat → Int} (hm : Mid H p h T C L) (h1 : 2 ^ H ≤ p) (h2 : p < 2 * 2 ^ H) (h0 : 0 < p / 2 ^ h) (hall : ∀ j, 2 ^ H ≤ j → j < 2 * 2 ^ H → L j ≤ L p) :
    IsTop L (p / 2 ^ h * 2 ^ h) (2 ^ h) (L p) (C (p / 2 ^ h)) ∧ T (p / 2 ^ h) = L p := by
  have hn := node_up h1 h2 h0
  have g := (hm _ _ hn).1 (Nat.le_refl _) rfl
  have hp := pow_pos' h
  have hle : p / 2 ^ h * 2 ^ h ≤ p := Nat.div_mul_le_self p (2 ^ h)
  have hlt : p < (p / 2 ^ h + 1) * 2 ^ h := by
    rw [Nat.mul_comm]
    exact Nat.lt_mul_div_succ p hp
  have e : T (p / 2 ^ h) = L p := by
    obtain ⟨j, hj, e⟩ := g.ex
    have a1 := hn.1
    have a2 := hn.end_le
    rw [Nat.add_mul, Nat.one_mul] at a2
    have b1 := hall (p / 2 ^ h * 2 ^ h + j) (by omega) (by omega)
    have b2 := g.1 (p - p / 2 ^ h * 2 ^ h) (by rw [Nat.add_mul] at hlt; omega)
    rw [show p / 2 ^ h * 2 ^ h + (p - p / 2 ^ h * 2 ^ h) = p from by omega] at b2
    omega
  exact ⟨e ▸ g, e⟩
theorem mid_step {H p h : Nat} {T C L : Nat → Int} (hm : Mid H p h T C L) (t c : Int) (hn : Node (2 ^ H) (p / 2 ^ h) h) (hi : IsTop (set L p (-1)) (p / 2 ^ h * 2 ^ h) (2 ^ h) t c) {T' C' : Nat → Int}
    (hT : ∀ x, T' x = if x = p / 2 ^ h then t else T x) (hC : ∀ x, C' x = if x = p / 2 ^ h then c else C x) : Mid H p (h + 1) T' C' L := by
  intro x k hx
  rw [hT, hC]
  by_cases e : x = p / 2 ^ h
  · obtain rfl : k = h := by rw [e] at hx; exact hx.one hn
    rw [if_pos e, if_pos e]
    refine ⟨fun hk _ => by omega, fun _ => ?_⟩
    rw [e]; exact hi
  · rw [if_neg e, if_neg e]
    obtain ⟨g1, g2⟩ := hm x k hx
    refine ⟨fun hk e' => g1 (by omega) e', fun hne => g2 (fun ⟨a, b⟩ => hne ⟨?_, b⟩)⟩
    rcases Nat.eq_or_lt_of_le a with rfl | h'
    · exact absurd b e
    · exact h'
theorem isTop_dec {L : Nat → Int} {a n p : Nat} {c : Int} (h : IsTop L a n (L p) c) (h1 : a ≤ p) (h2 : p < a + n) (hp : 0 ≤ L p) (hc : c ≠ 1) : IsTop (set L p (-1)) a n (L p) (c - 1) := by
  have e := cnt_set (v := -1) h1 h2 (rfl : L p = L p) (by omega)
  obtain ⟨g1, g2, g3⟩ := h
  refine ⟨fun j hj => ?_, by omega, by omega⟩
  by_cases ej : a + j = p
  · rw [ej, set_same]; omega
  · rw [set_other _ _ ej]; exact g1 j hj
theorem mid_end {H p h : Nat} {T C L : Nat → Int} (hm : Mid H p h T C L) (h0 : p / 2 ^ h = 0) : GoodFrom (2 ^ H) 1 T C (set L p (-1)) := by
  intro x k hx hn
  refine (hm x k hn).2 fun ⟨hk, e⟩ => ?_
  have hle : p / 2 ^ k ≤ p / 2 ^ h := Nat.div_le_div_left (Nat.pow_le_pow_right (by omega) hk) (pow_pos' h)
  omega
theorem mid_child {H p h x : Nat} {T C L : Nat → Int} (hm : Mid H p (h + 1) T C L) (hn : Node (2 ^ H) x h) : IsTop (set L p (-1)) (x * 2 ^ h) (2 ^ h) (T x) (C x) := (hm x h hn).2 (fun ⟨a, _⟩ => by omega)
end Go.Proofs.Ybulkgsy
