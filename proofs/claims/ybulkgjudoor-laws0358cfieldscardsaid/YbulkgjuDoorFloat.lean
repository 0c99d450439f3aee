/- The values of float64 words, and what the model's operations make of them, within a crude bound. -/
import Derived.Laws.FloatArith
namespace Go.Proofs.YbulkgjuDoor
set_option linter.unusedVariables false

def p2 (e : Int) : Rat := (2 : Rat) ^ e
theorem two_ne : (2 : Rat) ≠ 0 := by decide
theorem p2_add (a b : Int) : p2 (a + b) = p2 a * p2 b := Rat.zpow_add two_ne a b
theorem p2_pos (a : Int) : 0 < p2 a := Rat.zpow_pos (by decide)
theorem p2_nat (n : Nat) : p2 n = ((2 ^ n : Nat) : Rat) := by
  unfold p2
  rw [Rat.zpow_natCast, Rat.natCast_pow]; rfl
theorem p2_zero : p2 0 = 1 := Rat.zpow_zero 2
theorem p2_mono {a b : Int} (h : a ≤ b) : p2 a ≤ p2 b := by
  obtain ⟨n, rfl⟩ : ∃ n : Nat, b = a + n := ⟨(b - a).toNat, by omega⟩
  rw [p2_add, p2_nat]
  have h1 : (1 : Rat) ≤ ((2 ^ n : Nat) : Rat) := by
    have : (1 : Nat) ≤ 2 ^ n := Nat.one_le_two_pow
    exact_mod_cast this
  have h2 := p2_pos a
  have := Rat.mul_nonneg (Rat.le_of_lt h2) (show (0 : Rat) ≤ ((2 ^ n : Nat) : Rat) - 1 by grind)
  grind

def sgn (s : Bool) : Rat := if s then -1 else 1
/-- The word b is finite and stands for q. -/
def V (b : Nat) (q : Rat) : Prop := ∃ s m e, Ieee.double.read b = .number s m e ∧ q = sgn s * ((m : Nat) : Rat) * p2 e

theorem V.unique {b : Nat} {q r : Rat} (h : V b q) (h' : V b r) : q = r := by
  obtain ⟨s, m, e, h1, h2⟩ := h
  obtain ⟨s', m', e', h1', h2'⟩ := h'
  rw [h1] at h1'
  cases h1'
  rw [h2, h2']

theorem cut_near (neg : Bool) (n d : Nat) : n / 2 ^ d ≤ Ieee.Toward.even.cut neg n d ∧ Ieee.Toward.even.cut neg n d ≤ n / 2 ^ d + 1 := by
  have hb : ∀ b : Bool, b.toNat ≤ 1 := by decide
  unfold Ieee.Toward.cut
  simp only [Nat.shiftLeft_eq, Nat.one_mul]
  by_cases hd : d ≤ n.log2 + 2
  · rw [Nat.min_eq_left hd]
    exact ⟨Nat.le_add_right _ _, Nat.add_le_add_left (hb _) _⟩
  · have h2 : n < 2 ^ (n.log2 + 1) := Nat.lt_log2_self
    have h3 : 2 ^ (n.log2 + 2) = 2 * 2 ^ (n.log2 + 1) := by rw [Nat.pow_succ]; omega
    have h4 : 2 ^ (n.log2 + 2) ≤ 2 ^ d := Nat.pow_le_pow_right (by omega) (by omega)
    rw [Nat.min_eq_right (by omega)]
    rw [Nat.div_eq_of_lt (by omega : n < 2 ^ d)]
    constructor
    · exact Nat.zero_le _
    · rw [Nat.div_eq_of_lt (by omega)]
      have := hb (decide (2 ^ (n.log2 + 2) < 2 * (n % 2 ^ (n.log2 + 2))) || (2 ^ (n.log2 + 2) == 2 * (n % 2 ^ (n.log2 + 2)) && 0 % 2 == 1))
      omega

theorem read_word (s : Bool) (r : Nat) (h : r < 2 ^ 63) : Ieee.double.read (Ieee.double.word s r) =
    if r < 2 ^ 52 then .number s r (-1074) else if r < 2047 * 2 ^ 52 then .number s (2 ^ 52 + r % 2 ^ 52) (-1074 + (r / 2 ^ 52 - 1 : Nat)) else if r = 2047 * 2 ^ 52 then .infinity s else .nan s (r - 2047 * 2 ^ 52) := by
  have e1 : Ieee.double.signWeight = 2 ^ 63 := by decide
  have e2 : Ieee.double.binade = 2 ^ 52 := by decide
  have e3 : Ieee.double.infRung = 2047 * 2 ^ 52 := by decide
  have e4 : Ieee.double.leastPlace = -1074 := by decide
  unfold Ieee.Format.read
  rw [e1, e2, e3, e4]
  cases s
  · simp only [Ieee.Format.word, Bool.false_eq_true, if_false]
    rw [Nat.div_eq_of_lt h, Nat.mod_eq_of_lt h]
    rfl
  · simp only [Ieee.Format.word, if_true, e1]
    rw [show (2 ^ 63 + r) / 2 ^ 63 = 1 by omega, show (2 ^ 63 + r) % 2 ^ 63 = r by omega]
    rfl

/-- The word of the rung of 'kept' units at the place 'last'. -/
theorem rung_val (s : Bool) (k c : Nat) (hk : k ≤ 2044) (hc : c ≤ 2 ^ 53) (hl : 0 < k → 2 ^ 52 ≤ c) :
    V (Ieee.double.word s (k * 2 ^ 52 + c)) (sgn s * (c : Rat) * p2 ((k : Int) - 1074)) := by
  have hlt : k * 2 ^ 52 + c < 2047 * 2 ^ 52 := by omega
  have hr := read_word s (k * 2 ^ 52 + c) (by omega)
  by_cases h1 : k * 2 ^ 52 + c < 2 ^ 52
  · rw [if_pos h1] at hr
    have hk0 : k = 0 := by omega
    subst hk0
    refine ⟨_, _, _, hr, ?_⟩
    simp
  · rw [if_neg h1, if_pos hlt] at hr
    refine ⟨_, _, _, hr, ?_⟩
    have hc1 : 2 ^ 52 ≤ c := by
      rcases Nat.eq_zero_or_pos k with h | h
      · subst h; omega
      · exact hl h
    by_cases h3 : c = 2 ^ 53
    · subst h3
      rw [show 2 ^ 52 + (k * 2 ^ 52 + 2 ^ 53) % 2 ^ 52 = 2 ^ 52 by omega, show (k * 2 ^ 52 + 2 ^ 53) / 2 ^ 52 - 1 = k + 1 by omega]
      rw [show (-1074 : Int) + ((k + 1 : Nat) : Int) = ((k : Int) - 1074) + 1 by omega, p2_add]
      have : p2 1 = 2 := Rat.zpow_one 2
      rw [this, show ((2 ^ 53 : Nat) : Rat) = 2 * ((2 ^ 52 : Nat) : Rat) by exact_mod_cast (by decide : (2 ^ 53 : Nat) = 2 * 2 ^ 52)]
      grind
    · rw [show 2 ^ 52 + (k * 2 ^ 52 + c) % 2 ^ 52 = c by omega, show (k * 2 ^ 52 + c) / 2 ^ 52 - 1 = k by omega]
      rw [show (-1074 : Int) + (k : Int) = (k : Int) - 1074 by omega]

def u52 : Rat := p2 (-52)
def tiny : Rat := p2 (-1074)

/-- What 'nearest' gives: finite, and near. -/
theorem nearest_val (s : Bool) (mag : Nat) (place : Int) (hb : (mag : Rat) * p2 place < p2 1023) :
    ∃ c : Rat, V (Ieee.double.nearest s mag place) (sgn s * c) ∧ 0 ≤ c ∧ c - (mag : Rat) * p2 place ≤ (mag : Rat) * p2 place * u52 + tiny ∧ (mag : Rat) * p2 place - c ≤ (mag : Rat) * p2 place * u52 + tiny := by
  have e2 : Ieee.double.binade = 2 ^ 52 := by decide
  have e3 : Ieee.double.infRung = 2047 * 2 ^ 52 := by decide
  have e4 : Ieee.double.leastPlace = -1074 := by decide
  have e5 : Ieee.double.fractionBits = 52 := rfl
  have ht : 0 < tiny := p2_pos _
  have hu : 0 < u52 := p2_pos _
  unfold Ieee.Format.nearest
  by_cases h0 : mag = 0
  · subst h0
    rw [if_pos rfl]
    refine ⟨0, ?_, by grind, by simp; grind, by simp; grind⟩
    have := rung_val s 0 0 (by omega) (by omega) (by omega)
    simpa using this
  rw [if_neg h0, e2, e3, e4, e5]
  simp only []
  have hL1 : 2 ^ mag.log2 ≤ mag := Nat.log2_self_le h0
  have hL2 : mag < 2 ^ (mag.log2 + 1) := Nat.lt_log2_self
  generalize hL : mag.log2 = L at *
  have hLX : p2 (place + (L : Int)) ≤ (mag : Rat) * p2 place := by
    rw [p2_add, p2_nat]
    have h1 : ((2 ^ L : Nat) : Rat) ≤ (mag : Rat) := by exact_mod_cast hL1
    have := Rat.mul_nonneg (Rat.le_of_lt (p2_pos place)) (show (0 : Rat) ≤ (mag : Rat) - ((2 ^ L : Nat) : Rat) by grind)
    grind
  have hpl : place + (L : Int) < 1023 := by
    refine Int.not_le.1 fun h => ?_
    have := p2_mono h
    grind
  obtain ⟨last, hlast⟩ : ∃ last, last = max (place + (L : Int) - ((52 : Nat) : Int)) (-1074) := ⟨_, rfl⟩
  rw [← hlast]
  have hP : p2 last ≤ (mag : Rat) * p2 place * u52 + tiny := by
    have hX : 0 ≤ (mag : Rat) * p2 place * u52 := Rat.mul_nonneg (Rat.mul_nonneg (by exact_mod_cast Nat.zero_le mag) (Rat.le_of_lt (p2_pos _))) (Rat.le_of_lt hu)
    by_cases h : last = -1074
    · rw [h]; unfold tiny; grind
    · have : last = (place + (L : Int)) + (-52) := by omega
      rw [this, p2_add]
      have := Rat.mul_nonneg (Rat.le_of_lt hu) (show (0 : Rat) ≤ (mag : Rat) * p2 place - p2 (place + (L : Int)) by grind)
      unfold u52 at *
      grind
  generalize ha : (place - last).toNat = a at *
  generalize hd : (last - place).toNat = d at *
  generalize hk : (last - -1074).toNat = k at *
  simp only [Nat.shiftLeft_eq]
  obtain ⟨c1, c2⟩ := cut_near s (mag * 2 ^ a) d
  generalize Ieee.Toward.even.cut s (mag * 2 ^ a) d = c at *
  have hD : 0 < 2 ^ d := Nat.two_pow_pos d
  have q1 : (c : Rat) * ((2 ^ d : Nat) : Rat) ≤ ((mag * 2 ^ a : Nat) : Rat) + ((2 ^ d : Nat) : Rat) := by
    have : c * 2 ^ d ≤ mag * 2 ^ a + 2 ^ d := by
      have := Nat.mul_le_mul_right (2 ^ d) c2
      have h := Nat.div_mul_le_self (mag * 2 ^ a) (2 ^ d)
      rw [Nat.add_mul] at this
      omega
    exact_mod_cast this
  have q2 : ((mag * 2 ^ a : Nat) : Rat) ≤ ((c : Rat) + 1) * ((2 ^ d : Nat) : Rat) := by
    have : mag * 2 ^ a ≤ (c + 1) * 2 ^ d := by
      have h := Nat.lt_mul_div_succ (mag * 2 ^ a) hD
      have := Nat.mul_le_mul_left (2 ^ d) (Nat.succ_le_succ c1)
      rw [Nat.mul_comm (c + 1)]
      exact Nat.le_trans (Nat.le_of_lt h) this
    exact_mod_cast this
  have hX : (mag : Rat) * p2 place * ((2 ^ d : Nat) : Rat) = ((mag * 2 ^ a : Nat) : Rat) * p2 last := by
    rw [Rat.natCast_mul, ← p2_nat, ← p2_nat, Rat.mul_assoc, ← p2_add, Rat.mul_assoc, ← p2_add, show place + (d : Int) = (a : Int) + last by omega]
  have hc53 : c ≤ 2 ^ 53 := by
    have : mag * 2 ^ a < 2 ^ 53 * 2 ^ d := by
      have h1 : mag * 2 ^ a < 2 ^ (L + 1) * 2 ^ a := Nat.mul_lt_mul_of_pos_right hL2 (Nat.two_pow_pos a)
      rw [← Nat.pow_add] at h1 ⊢
      exact Nat.lt_of_lt_of_le h1 (Nat.pow_le_pow_right (by omega) (by omega))
    have := (Nat.div_lt_iff_lt_mul hD).2 this
    omega
  have hc52 : 0 < k → 2 ^ 52 ≤ c := by
    intro hk0
    have : 2 ^ 52 * 2 ^ d ≤ mag * 2 ^ a := by
      have h1 : 2 ^ L * 2 ^ a ≤ mag * 2 ^ a := Nat.mul_le_mul_right _ hL1
      rw [← Nat.pow_add] at h1 ⊢
      exact Nat.le_trans (Nat.pow_le_pow_right (by omega) (by omega)) h1
    have := (Nat.le_div_iff_mul_le hD).2 this
    omega
  have hv := rung_val s k c (by omega) hc53 hc52
  rw [show (k : Int) - 1074 = last by omega] at hv
  rw [Nat.min_eq_left (by omega)]
  refine ⟨(c : Rat) * p2 last, by rw [← Rat.mul_assoc]; exact hv, Rat.mul_nonneg (by exact_mod_cast Nat.zero_le c) (Rat.le_of_lt (p2_pos _)), ?_, ?_⟩
  · refine Rat.le_trans ?_ hP
    have h1 : (0 : Rat) < ((2 ^ d : Nat) : Rat) := by exact_mod_cast hD
    have h2 := Rat.mul_nonneg (Rat.le_of_lt (p2_pos last)) (show (0 : Rat) ≤ ((mag * 2 ^ a : Nat) : Rat) + ((2 ^ d : Nat) : Rat) - (c : Rat) * ((2 ^ d : Nat) : Rat) by grind)
    have h3 : 0 ≤ (p2 last - ((c : Rat) * p2 last - (mag : Rat) * p2 place)) * ((2 ^ d : Nat) : Rat) := by grind
    refine Rat.not_lt.1 fun h => ?_
    have := Rat.mul_pos (show (0 : Rat) < ((c : Rat) * p2 last - (mag : Rat) * p2 place) - p2 last by grind) h1
    grind
  · refine Rat.le_trans ?_ hP
    have h1 : (0 : Rat) < ((2 ^ d : Nat) : Rat) := by exact_mod_cast hD
    have h2 := Rat.mul_nonneg (Rat.le_of_lt (p2_pos last)) (show (0 : Rat) ≤ ((c : Rat) + 1) * ((2 ^ d : Nat) : Rat) - ((mag * 2 ^ a : Nat) : Rat) by grind)
    have h3 : 0 ≤ (p2 last - ((mag : Rat) * p2 place - (c : Rat) * p2 last)) * ((2 ^ d : Nat) : Rat) := by grind
    refine Rat.not_lt.1 fun h => ?_
    have := Rat.mul_pos (show (0 : Rat) < ((mag : Rat) * p2 place - (c : Rat) * p2 last) - p2 last by grind) h1
    grind


/-- The unit of the crude bound: 2^-51. -/
def e51 : Rat := 2 * u52
theorem u52_eq : 4503599627370496 * u52 = 1 := by
  have : ((2 ^ 52 : Nat) : Rat) * u52 = 1 := by
    rw [← p2_nat]; unfold u52
    rw [← p2_add]; exact p2_zero
  have h : ((2 ^ 52 : Nat) : Rat) = 4503599627370496 := by decide +kernel
  rwa [h] at this
theorem u52_pos : 0 < u52 := p2_pos _
theorem tiny_le : tiny ≤ u52 * u52 := by
  have h1 : tiny ≤ p2 (-104) := p2_mono (by decide)
  have h2 : p2 (-104) = u52 * u52 := by unfold u52; rw [← p2_add]; rfl
  rwa [h2] at h1
@[irreducible] def big : Rat := p2 1000
theorem big_lt : big < p2 1023 := by
  unfold big
  rw [show (1023 : Int) = 1000 + 23 from rfl, p2_add]
  have h1 := p2_pos 1000
  have h2 : p2 23 = ((2 ^ 23 : Nat) : Rat) := p2_nat 23
  have h3 : ((2 ^ 23 : Nat) : Rat) = 8388608 := by decide +kernel
  rw [h2, h3]
  grind

/-- z is within B units of q. -/
def Nr (z q B : Rat) : Prop := z - q ≤ B * e51 ∧ q - z ≤ B * e51
def Bd (q B : Rat) : Prop := -B ≤ q ∧ q ≤ B

theorem sgn_or (s : Bool) : sgn s = 1 ∨ sgn s = -1 := by cases s <;> simp [sgn]

theorem nearest_bd (s : Bool) (mag : Nat) (place : Int) (q B : Rat) (hq : q = sgn s * (mag : Rat) * p2 place) (hb : Bd q B) (hB : B ≤ big) (hB0 : u52 ≤ B) :
    ∃ z, V (Ieee.double.nearest s mag place) z ∧ Nr z q B := by
  have h0 : 0 ≤ (mag : Rat) * p2 place := Rat.mul_nonneg (by exact_mod_cast Nat.zero_le mag) (Rat.le_of_lt (p2_pos _))
  have hX : (mag : Rat) * p2 place ≤ B := by
    obtain ⟨b1, b2⟩ := hb
    rcases sgn_or s with h | h <;> rw [h] at hq <;> grind
  have hbig := big_lt
  obtain ⟨c, hv, c0, c1, c2⟩ := nearest_val s mag place (by grind)
  have ht := tiny_le
  have hu := u52_pos
  have hm : (mag : Rat) * p2 place * u52 ≤ B * u52 := by
    have := Rat.mul_nonneg (Rat.le_of_lt hu) (show (0 : Rat) ≤ B - (mag : Rat) * p2 place by grind)
    grind
  have hm2 : u52 * u52 ≤ B * u52 := by
    have := Rat.mul_nonneg (Rat.le_of_lt hu) (show (0 : Rat) ≤ B - u52 by grind)
    grind
  refine ⟨_, hv, ?_⟩
  unfold Nr e51
  rw [show B * (2 * u52) = B * u52 + B * u52 by grind]
  generalize hXX : (mag : Rat) * p2 place = X at *
  have hq' : q = sgn s * X := by rw [hq, Rat.mul_assoc, hXX]
  clear hq
  generalize B * u52 = Y at *
  generalize X * u52 = Z at *
  generalize u52 * u52 = W at *
  rcases sgn_or s with h | h <;> rw [h] at hq' ⊢ <;> constructor <;> grind

theorem signed_val (s : Bool) (m up : Nat) (i base : Int) (h : i = base + up) : ((Ieee.signed s m up : Int) : Rat) * p2 base = sgn s * (m : Rat) * p2 i := by
  subst h
  rw [p2_add, p2_nat]
  unfold Ieee.signed
  rw [Nat.shiftLeft_eq]
  cases s
  · simp only [Bool.false_eq_true, if_false, sgn]
    rw [show (((m * 2 ^ up : Nat) : Int) : Rat) = (m : Rat) * ((2 ^ up : Nat) : Rat) by rw [Rat.intCast_natCast, Rat.natCast_mul]]
    grind
  · simp only [if_true, sgn]
    rw [Rat.intCast_neg, show (((m * 2 ^ up : Nat) : Int) : Rat) = (m : Rat) * ((2 ^ up : Nat) : Rat) by rw [Rat.intCast_natCast, Rat.natCast_mul]]
    grind

theorem natAbs_val (t : Int) (s u : Bool) : sgn (if t = 0 then s && u else decide (t < 0)) * ((t.natAbs : Nat) : Rat) = (t : Rat) := by
  by_cases h : t = 0
  · subst h; simp
  · rw [if_neg h]
    by_cases h2 : t < 0
    · simp only [h2, decide_true, sgn, if_true]
      have : (t : Rat) = ((-(t.natAbs : Int) : Int) : Rat) := by congr 1; omega
      rw [this, Rat.intCast_neg, Rat.intCast_natCast]; grind
    · simp only [h2, decide_false, sgn, Bool.false_eq_true, if_false]
      have : (t : Rat) = (((t.natAbs : Int) : Int) : Rat) := by congr 1; omega
      rw [this, Rat.intCast_natCast]; grind

theorem sum_val {s t : Bool} {m n : Nat} {i j : Int} : ∃ u g b, Ieee.Datum.sum (.number s m i) (.number t n j) = some (.number u g b) ∧ sgn u * (g : Rat) * p2 b = sgn s * (m : Rat) * p2 i + sgn t * (n : Rat) * p2 j := by
  refine ⟨_, _, _, rfl, ?_⟩
  rw [natAbs_val, ← signed_val s m _ i (min i j) (by omega : i = min i j + ((i - min i j).toNat : Int)), ← signed_val t n _ j (min i j) (by omega : j = min i j + ((j - min i j).toNat : Int)), Rat.intCast_add]
  grind

theorem add_val {a b : Nat} {x y : Rat} (ha : V a x) (hb : V b y) (B : Rat) (h : Bd (x + y) B) (hB : B ≤ big) (hB0 : u52 ≤ B) : ∃ r z, floatBits .add .f64 a b = some r ∧ V r z ∧ Nr z (x + y) B := by
  obtain ⟨s, m, i, h1, rfl⟩ := ha
  obtain ⟨t, n, j, h2, rfl⟩ := hb
  obtain ⟨u, g, p, h3, h4⟩ := @sum_val s t m n i j
  obtain ⟨z, hz, hn⟩ := nearest_bd u g p _ B h4.symm h hB hB0
  refine ⟨_, z, ?_, hz, hn⟩
  show ((Ieee.double.read a).sum (Ieee.double.read b)).map Ieee.double.write = _
  rw [h1, h2, h3]; rfl

theorem sub_val {a b : Nat} {x y : Rat} (ha : V a x) (hb : V b y) (B : Rat) (h : Bd (x - y) B) (hB : B ≤ big) (hB0 : u52 ≤ B) : ∃ r z, floatBits .sub .f64 a b = some r ∧ V r z ∧ Nr z (x - y) B := by
  obtain ⟨s, m, i, h1, rfl⟩ := ha
  obtain ⟨t, n, j, h2, rfl⟩ := hb
  obtain ⟨u, g, p, h3, h4⟩ := @sum_val s (!t) m n i j
  have hsg : sgn (!t) = - sgn t := by cases t <;> simp [sgn]
  obtain ⟨z, hz, hn⟩ := nearest_bd u g p (sgn s * (m : Rat) * p2 i - sgn t * (n : Rat) * p2 j) B (by rw [h4, hsg]; grind) h hB hB0
  refine ⟨_, z, ?_, hz, hn⟩
  show ((Ieee.double.read a).sum (Ieee.double.read b).opposite).map Ieee.double.write = _
  rw [h1, h2]
  show (Ieee.Datum.sum (.number s m i) (.number (!t) n j)).map Ieee.double.write = _
  rw [h3]; rfl

theorem sgn_xor (s t : Bool) : sgn (s ^^ t) = sgn s * sgn t := by cases s <;> cases t <;> simp [sgn] <;> decide +kernel

theorem mul_val {a b : Nat} {x y : Rat} (ha : V a x) (hb : V b y) (B : Rat) (h : Bd (x * y) B) (hB : B ≤ big) (hB0 : u52 ≤ B) : ∃ r z, floatBits .mul .f64 a b = some r ∧ V r z ∧ Nr z (x * y) B := by
  obtain ⟨s, m, i, h1, rfl⟩ := ha
  obtain ⟨t, n, j, h2, rfl⟩ := hb
  obtain ⟨z, hz, hn⟩ := nearest_bd (s ^^ t) (m * n) (i + j) (sgn s * (m : Rat) * p2 i * (sgn t * (n : Rat) * p2 j)) B (by rw [sgn_xor, p2_add, Rat.natCast_mul]; grind) h hB hB0
  refine ⟨_, z, ?_, hz, hn⟩
  show ((Ieee.double.read a).product (Ieee.double.read b)).map Ieee.double.write = _
  rw [h1, h2]; rfl

theorem compare_rat (t u : Int) (P : Rat) (hP : 0 < P) : ((t : Rat) * P < (u : Rat) * P → compare t u = .lt) ∧ ((t : Rat) * P = (u : Rat) * P → compare t u = .eq) ∧ ((u : Rat) * P < (t : Rat) * P → compare t u = .gt) := by
  have key : ∀ a b : Int, a ≤ b → (a : Rat) * P ≤ (b : Rat) * P := fun a b h => by
    have h1 : (a : Rat) ≤ (b : Rat) := by exact_mod_cast h
    have := Rat.mul_nonneg (Rat.le_of_lt hP) (show (0 : Rat) ≤ (b : Rat) - (a : Rat) by grind)
    grind
  have key2 : ∀ a b : Int, a < b → (a : Rat) * P < (b : Rat) * P := fun a b h => by
    have h1 : (a : Rat) < (b : Rat) := by exact_mod_cast h
    have := Rat.mul_pos hP (show (0 : Rat) < (b : Rat) - (a : Rat) by grind)
    grind
  refine ⟨fun h => ?_, fun h => ?_, fun h => ?_⟩
  · rw [Int.compare_eq_lt]
    refine Int.not_le.1 fun h' => ?_
    have := key _ _ h'; grind
  · rw [Int.compare_eq_eq]
    rcases Int.lt_trichotomy t u with h' | h' | h'
    · have := key2 _ _ h'; grind
    · exact h'
    · have := key2 _ _ h'; grind
  · rw [Int.compare_eq_gt]
    refine Int.not_le.1 fun h' => ?_
    have := key _ _ h'; grind

theorem order_val {a b : Nat} {x y : Rat} (ha : V a x) (hb : V b y) : (x < y → Ieee.double.order a b = some .lt) ∧ (x = y → Ieee.double.order a b = some .eq) ∧ (y < x → Ieee.double.order a b = some .gt) := by
  obtain ⟨s, m, i, h1, rfl⟩ := ha
  obtain ⟨t, n, j, h2, rfl⟩ := hb
  have e : Ieee.double.order a b = some (compare (Ieee.signed s m (i - min i j).toNat) (Ieee.signed t n (j - min i j).toNat)) := by
    unfold Ieee.Format.order
    rw [h1, h2]; rfl
  rw [e]
  have := compare_rat (Ieee.signed s m (i - min i j).toNat) (Ieee.signed t n (j - min i j).toNat) (p2 (min i j)) (p2_pos _)
  rw [signed_val s m _ i (min i j) (by omega : i = min i j + ((i - min i j).toNat : Int)), signed_val t n _ j (min i j) (by omega : j = min i j + ((j - min i j).toNat : Int))] at this
  exact ⟨fun h => by rw [this.1 h], fun h => by rw [this.2.1 h], fun h => by rw [this.2.2 h]⟩

end Go.Proofs.YbulkgjuDoor
