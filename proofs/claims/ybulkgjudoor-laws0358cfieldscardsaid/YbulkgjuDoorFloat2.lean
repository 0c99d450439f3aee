/- More on float64 words: whole parts, numbers to floats, signs, quotients, constants, classes. -/
import Derived.Test.YbulkgjuDoorFloat
namespace Go.Proofs.YbulkgjuDoor
set_option linter.unusedVariables false

theorem cut_zero (s : Bool) (n d : Nat) : Ieee.Toward.zero.cut s n d = n / 2 ^ d := by
  unfold Ieee.Toward.cut
  simp only [Nat.shiftLeft_eq, Nat.one_mul, Bool.toNat_false, Nat.add_zero]
  by_cases hd : d ≤ n.log2 + 2
  · rw [Nat.min_eq_left hd]
  · have h2 : n < 2 ^ (n.log2 + 1) := Nat.lt_log2_self
    have h3 : 2 ^ (n.log2 + 2) = 2 * 2 ^ (n.log2 + 1) := by rw [Nat.pow_succ]; omega
    have h4 : 2 ^ (n.log2 + 2) ≤ 2 ^ d := Nat.pow_le_pow_right (by omega) (by omega)
    rw [Nat.min_eq_right (by omega), Nat.div_eq_of_lt (by omega), Nat.div_eq_of_lt (by omega)]

theorem sgn_zero_of {s : Bool} {X : Rat} (h0 : 0 ≤ X) (h : 0 ≤ sgn s * X) : sgn s * X = X := by
  cases s
  · simp [sgn]
  · simp only [sgn, if_true] at *; grind

theorem trunc_val {a : Nat} {x : Rat} (ha : V a x) (h0 : 0 ≤ x) (h1 : x ≤ 1099511627776) : ∃ n : Nat, floatToIntVal .f64 a .u64 = some (n : Int) ∧ (n : Rat) ≤ x ∧ x ≤ (n : Rat) + 1 := by
  obtain ⟨s, m, i, h, rfl⟩ := ha
  have hp : 0 ≤ (m : Rat) * p2 i := Rat.mul_nonneg (by exact_mod_cast Nat.zero_le m) (Rat.le_of_lt (p2_pos _))
  rw [Rat.mul_assoc] at h0 h1
  rw [Rat.mul_assoc, sgn_zero_of hp h0]
  rw [sgn_zero_of hp h0] at h1
  obtain ⟨n, hn⟩ : ∃ n, n = (m * 2 ^ i.toNat) / 2 ^ (-i).toNat := ⟨_, rfl⟩
  have hD : 0 < 2 ^ (-i).toNat := Nat.two_pow_pos _
  have hX : (m : Rat) * p2 i * ((2 ^ (-i).toNat : Nat) : Rat) = ((m * 2 ^ i.toNat : Nat) : Rat) := by
    rw [Rat.natCast_mul, ← p2_nat, ← p2_nat, Rat.mul_assoc, ← p2_add, show i + ((-i).toNat : Int) = (i.toNat : Int) by omega]
  have hDq : (0 : Rat) < ((2 ^ (-i).toNat : Nat) : Rat) := by exact_mod_cast hD
  have b1 : (n : Rat) ≤ (m : Rat) * p2 i := by
    have : ((n * 2 ^ (-i).toNat : Nat) : Rat) ≤ ((m * 2 ^ i.toNat : Nat) : Rat) := by
      have := Nat.div_mul_le_self (m * 2 ^ i.toNat) (2 ^ (-i).toNat)
      rw [← hn] at this
      exact_mod_cast this
    rw [← hX, Rat.natCast_mul] at this
    refine Rat.not_lt.1 fun h => ?_
    have := Rat.mul_pos (show (0 : Rat) < (n : Rat) - (m : Rat) * p2 i by grind) hDq
    grind
  have b2 : (m : Rat) * p2 i ≤ (n : Rat) + 1 := by
    have : ((m * 2 ^ i.toNat : Nat) : Rat) ≤ (((n + 1) * 2 ^ (-i).toNat : Nat) : Rat) := by
      have := Nat.lt_mul_div_succ (m * 2 ^ i.toNat) hD
      rw [← hn, Nat.mul_comm (2 ^ (-i).toNat)] at this
      exact_mod_cast Nat.le_of_lt this
    rw [← hX, Rat.natCast_mul, Rat.natCast_add] at this
    refine Rat.not_lt.1 fun h => ?_
    have := Rat.mul_pos (show (0 : Rat) < (m : Rat) * p2 i - ((n : Rat) + ((1 : Nat) : Rat)) by grind) hDq
    grind
  refine ⟨n, ?_, b1, b2⟩
  have hnb : n ≤ 1099511627776 := by
    have : (n : Rat) ≤ ((1099511627776 : Nat) : Rat) := by
      refine Rat.le_trans b1 (Rat.le_trans h1 ?_)
      decide +kernel
    exact_mod_cast this
  have hto : (FloatKind.decode .f64 a).toInt .zero = some (n : Int) := by
    show (Ieee.Datum.toInt .zero (Ieee.double.read a)) = _
    rw [h]
    show some (Ieee.signed s (Ieee.Toward.zero.cut s (m <<< i.toNat) (-i).toNat) 0) = _
    rw [cut_zero, Nat.shiftLeft_eq, ← hn]
    cases s
    · simp [Ieee.signed]
    · have hz : (m : Rat) * p2 i = 0 := by simp only [sgn, if_true] at h0; grind
      have hm : m = 0 := by
        rcases Nat.eq_zero_or_pos m with h | h
        · exact h
        · have := Rat.mul_pos (show (0 : Rat) < (m : Rat) by exact_mod_cast h) (p2_pos i)
          grind
      subst hm
      simp at hn
      subst hn
      simp [Ieee.signed]
  unfold floatToIntVal
  rw [hto]
  have : IntKind.min .u64 ≤ (n : Int) ∧ (n : Int) ≤ IntKind.max .u64 := by
    have e1 : IntKind.min .u64 = 0 := by decide
    have e2 : IntKind.max .u64 = 18446744073709551615 := by decide
    rw [e1, e2]; omega
  simp only [this, and_self, if_true]

theorem ofNat_val (n : Nat) (B : Rat) (h : (n : Rat) ≤ B) (hB : B ≤ big) (hB0 : u52 ≤ B) : ∃ z, V (floatOfInt .f64 (n : Int)) z ∧ Nr z (n : Rat) B := by
  have := nearest_bd false n 0 (n : Rat) B (by rw [p2_zero]; simp [sgn]) ⟨by
    have : (0 : Rat) ≤ (n : Rat) := by exact_mod_cast Nat.zero_le n
    grind, h⟩ hB hB0
  have e : floatOfInt .f64 (n : Int) = Ieee.double.nearest false n 0 := by
    show Ieee.double.nearest (decide ((n : Int) < 0)) (n : Int).natAbs 0 = _
    rw [show decide ((n : Int) < 0) = false by simp, Int.natAbs_natCast]
  rw [e]; exact this

theorem V.split {b : Nat} {q : Rat} (h : V b q) : ∃ s m e, Ieee.double.read b = .number s m e ∧ q = sgn s * ((m : Nat) : Rat) * p2 e := h

theorem read_mod (b : Nat) : Ieee.double.read (b % 2 ^ 63) = match Ieee.double.read b with
    | .number _ m e => .number false m e
    | .infinity _ => .infinity false
    | .nan _ f => .nan false f := by
  have e1 : Ieee.double.signWeight = 2 ^ 63 := by decide
  unfold Ieee.Format.read
  simp only [e1]
  rw [Nat.mod_mod, Nat.div_eq_of_lt (Nat.mod_lt _ (Nat.two_pow_pos 63))]
  have : ((0 : Nat) % 2 == 1) = false := by decide
  rw [this]
  split <;> rename_i h1
  · rfl
  · split <;> rename_i h2
    · rfl
    · split <;> rfl

theorem abs_val {b : Nat} {x : Rat} (h : V b x) : ∃ y, V (b % 2 ^ 63) y ∧ 0 ≤ y ∧ (y = x ∨ y = -x) := by
  obtain ⟨s, m, e, h1, rfl⟩ := h
  have hr := read_mod b
  rw [h1] at hr
  refine ⟨(m : Rat) * p2 e, ⟨_, _, _, hr, by simp [sgn]⟩, Rat.mul_nonneg (by exact_mod_cast Nat.zero_le m) (Rat.le_of_lt (p2_pos _)), ?_⟩
  cases s <;> simp [sgn] <;> grind

theorem neg_word (b : Nat) : Op.negFloat .f64 b = b ^^^ 2 ^ 63 := rfl
theorem neg_val {b : Nat} {x : Rat} (h : V b x) (hb : b < 2 ^ 64) : V (Op.negFloat .f64 b) (-x) := by
  have e1 : Ieee.double.signWeight = 2 ^ 63 := by decide
  have key : (b ^^^ 2 ^ 63) % 2 ^ 63 = b % 2 ^ 63 ∧ ((b ^^^ 2 ^ 63) / 2 ^ 63 % 2 == 1) = !(b / 2 ^ 63 % 2 == 1) := by
    constructor
    · rw [Nat.xor_mod_two_pow]; simp
    · rw [Nat.xor_div_two_pow, Nat.div_self (Nat.two_pow_pos 63)]
      have : b / 2 ^ 63 = 0 ∨ b / 2 ^ 63 = 1 := by omega
      rcases this with h | h <;> rw [h] <;> decide
  have hr : Ieee.double.read (b ^^^ 2 ^ 63) = match Ieee.double.read b with
    | .number s m e => .number (!s) m e
    | .infinity s => .infinity (!s)
    | .nan s f => .nan (!s) f := by
    unfold Ieee.Format.read
    simp only [e1]
    rw [key.1, key.2]
    split <;> rename_i h1
    · rfl
    · split <;> rename_i h2
      · rfl
      · split <;> rfl
  obtain ⟨s, m, e, h1, rfl⟩ := h
  rw [h1] at hr
  refine ⟨_, _, _, hr, ?_⟩
  cases s <;> simp [sgn] <;> grind

theorem read_bounds {b : Nat} {s : Bool} {m : Nat} {e : Int} (h : Ieee.double.read b = .number s m e) : m ≤ 2 ^ 53 - 1 ∧ -1074 ≤ e ∧ e ≤ 971 := by
  have e1 : Ieee.double.signWeight = 2 ^ 63 := by decide
  have e2 : Ieee.double.binade = 2 ^ 52 := by decide
  have e3 : Ieee.double.infRung = 2047 * 2 ^ 52 := by decide
  have e4 : Ieee.double.leastPlace = -1074 := by decide
  unfold Ieee.Format.read at h
  simp only [e1, e2, e3, e4] at h
  split at h <;> rename_i h1
  · cases h; omega
  · split at h <;> rename_i h2
    · cases h; omega
    · split at h <;> cases h

/-- A finite number over 180 (or another number from 2 on) is finite. -/
theorem div_val {a b : Nat} {x y : Rat} (ha : V a x) (hb : V b y) (hy : 2 ≤ y) (h : Bd x big) : ∃ r z, floatBits .quo .f64 a b = some r ∧ V r z := by
  obtain ⟨s, m, i, h1, rfl⟩ := ha
  obtain ⟨t, n, j, h2, rfl⟩ := hb
  have hm53 := (read_bounds h1).1
  have hn0 : n ≠ 0 := by
    intro hn; subst hn
    simp at hy; exact absurd hy (by decide +kernel)
  obtain ⟨more, hmore⟩ : ∃ more, more = 54 + n.log2 - m.log2 := ⟨_, rfl⟩
  obtain ⟨mag, hmag⟩ : ∃ mag, mag = 2 * ((m <<< more) / n) + ((m <<< more) % n != 0).toNat := ⟨_, rfl⟩
  have hq : Ieee.Datum.quotient 54 (.number s m i) (.number t n j) = some (.number (s ^^ t) mag (i - j - more - 1)) := by
    subst hmag
    show (if n = 0 then _ else some _) = _
    rw [if_neg hn0, ← hmore]
  have hlt : (mag : Rat) * p2 (i - j - more - 1) < p2 1023 := by
    have hpos : 0 < n := by omega
    have hX0 : (m : Rat) * p2 i ≤ big := by
      obtain ⟨b1, b2⟩ := h
      rcases sgn_or s with h | h <;> rw [h] at b1 b2 <;> grind
    have hY : 2 ≤ (n : Rat) * p2 j := by
      have : 0 ≤ (n : Rat) * p2 j := Rat.mul_nonneg (by exact_mod_cast Nat.zero_le n) (Rat.le_of_lt (p2_pos _))
      rcases sgn_or t with h | h <;> rw [h] at hy <;> grind
    rcases Nat.eq_zero_or_pos m with hm | hm
    · subst hm
      have : mag = 0 := by rw [hmag]; simp
      rw [this]; simp; exact p2_pos _
    have hL1 : 2 ^ m.log2 ≤ m := Nat.log2_self_le (by omega)
    have hL2 : n < 2 ^ (n.log2 + 1) := Nat.lt_log2_self
    have hml : m.log2 ≤ 52 := by
      have : m.log2 < 53 := (Nat.log2_lt (by omega)).2 (by omega)
      omega
    have hD : n ≤ m * 2 ^ more := by
      have h1 : 2 ^ (m.log2 + more) ≤ m * 2 ^ more := by rw [Nat.pow_add]; exact Nat.mul_le_mul_right _ hL1
      have h2 : 2 ^ (n.log2 + 1) ≤ 2 ^ (m.log2 + more) := Nat.pow_le_pow_right (by omega) (by omega)
      omega
    have hmn : mag * n ≤ 3 * (m * 2 ^ more) := by
      rw [hmag, Nat.shiftLeft_eq, Nat.add_mul]
      have h1 := Nat.div_mul_le_self (m * 2 ^ more) n
      have h2 : ((m * 2 ^ more % n != 0).toNat) ≤ 1 := (by decide : ∀ b : Bool, b.toNat ≤ 1) _
      have h3 := Nat.mul_le_mul_right n h2
      rw [Nat.mul_assoc]
      omega
    have hmnq : (mag : Rat) * (n : Rat) ≤ 3 * ((m : Rat) * ((2 ^ more : Nat) : Rat)) := by exact_mod_cast hmn
    rw [← p2_nat] at hmnq
    have hP := p2_pos (i - more - 1)
    have hk := Rat.mul_nonneg (Rat.le_of_lt hP) (show (0 : Rat) ≤ 3 * ((m : Rat) * p2 more) - (mag : Rat) * (n : Rat) by grind)
    have e1 : p2 (i - more - 1) * p2 more * 2 = p2 i := by
      have : p2 1 = 2 := Rat.zpow_one 2
      rw [← this, ← p2_add, ← p2_add]; congr 1; omega
    have e2 : p2 (i - more - 1) = p2 (i - j - more - 1) * p2 j := by rw [← p2_add]; congr 1; omega
    have hG : 0 ≤ (mag : Rat) * p2 (i - j - more - 1) := Rat.mul_nonneg (by exact_mod_cast Nat.zero_le mag) (Rat.le_of_lt (p2_pos _))
    have f1 : (mag : Rat) * p2 (i - j - more - 1) * ((n : Rat) * p2 j) * 2 ≤ 3 * ((m : Rat) * p2 i) := by
      rw [← e1]
      rw [e2] at hk ⊢
      grind
    have f2 := Rat.mul_nonneg hG (show (0 : Rat) ≤ (n : Rat) * p2 j - 2 by grind)
    have f3 := big_lt
    grind
  obtain ⟨c, hv, _⟩ := nearest_val (s ^^ t) mag (i - j - more - 1) hlt
  refine ⟨_, _, ?_, hv⟩
  show ((Ieee.double.read a).quotient 54 (Ieee.double.read b)).map Ieee.double.write = _
  rw [h1, h2, hq]; rfl

/-- A constant. -/
theorem V_dy (b : Nat) (s : Bool) (m d : Nat) (h : Ieee.double.read b = .number s m (-(d : Int))) : V b (sgn s * (m : Rat) / ((2 ^ d : Nat) : Rat)) := by
  refine ⟨s, m, _, h, ?_⟩
  have : p2 (-(d : Int)) * ((2 ^ d : Nat) : Rat) = 1 := by rw [← p2_nat, ← p2_add, show -(d : Int) + (d : Int) = 0 by omega, p2_zero]
  have h0 : (((2 ^ d : Nat) : Rat)) ≠ 0 := by intro h; rw [h] at this; grind
  grind

/-- The classes of words. -/
inductive Class (b : Nat) : Prop
  | fin (q : Rat) (h : V b q)
  | inf (s : Bool) (h : Ieee.double.read b = .infinity s)
  | nan (s : Bool) (f : Nat) (h : Ieee.double.read b = .nan s f)

theorem classOf (b : Nat) : Class b := by
  cases h : Ieee.double.read b with
  | number s m e => exact .fin _ ⟨s, m, e, h, rfl⟩
  | infinity s => exact .inf s h
  | nan s f => exact .nan s f h

def NaNw (b : Nat) : Prop := ∃ s f, Ieee.double.read b = .nan s f

theorem order_self_fin {b : Nat} {q : Rat} (h : V b q) : Ieee.double.order b b = some .eq := (order_val h h).2.1 rfl
theorem order_self_nan {b : Nat} (h : NaNw b) : Ieee.double.order b b = none := by
  obtain ⟨s, f, h⟩ := h
  unfold Ieee.Format.order; rw [h]; rfl
theorem order_self_inf {b : Nat} {s : Bool} (h : Ieee.double.read b = .infinity s) : Ieee.double.order b b = some .eq := by
  unfold Ieee.Format.order; rw [h]; cases s <;> rfl

/-- The greatest finite word. -/
theorem max_val : V 9218868437227405311 (((2 ^ 53 - 1 : Nat) : Rat) * p2 971) := ⟨false, 2 ^ 53 - 1, 971, by decide +kernel, by simp [sgn]⟩
theorem fin_le_max {b : Nat} {q : Rat} (h : V b q) : q ≤ ((2 ^ 53 - 1 : Nat) : Rat) * p2 971 := by
  obtain ⟨s, m, e, h1, rfl⟩ := h
  obtain ⟨b1, b2, b3⟩ := read_bounds h1
  have p0 := p2_pos e
  have hm : (m : Rat) ≤ ((2 ^ 53 - 1 : Nat) : Rat) := by exact_mod_cast b1
  have hm0 : (0 : Rat) ≤ (m : Rat) := by exact_mod_cast Nat.zero_le m
  have h2 := Rat.mul_nonneg (Rat.le_of_lt p0) (show (0 : Rat) ≤ ((2 ^ 53 - 1 : Nat) : Rat) - (m : Rat) by grind)
  have h3 := Rat.mul_nonneg (show (0 : Rat) ≤ ((2 ^ 53 - 1 : Nat) : Rat) by grind) (show (0 : Rat) ≤ p2 971 - p2 e by have := p2_mono b3; grind)
  have h4 := Rat.mul_nonneg hm0 (Rat.le_of_lt p0)
  generalize ((2 ^ 53 - 1 : Nat) : Rat) = M at *
  rcases sgn_or s with h | h <;> rw [h] <;> grind

end Go.Proofs.YbulkgjuDoor
