/- The polynomials as float64 words: how near they come. -/
import Derived.Test.YbulkgjuDoorPoly
namespace Go.Proofs.YbulkgjuDoor
set_option linter.unusedVariables false

theorem e51_pos : 0 < e51 := by have := u52_pos; unfold e51; grind
theorem e51_eq : 2251799813685248 * e51 = 1 := by have := u52_eq; unfold e51; grind
theorem u52_lt : u52 ≤ 1 := by have := u52_eq; have := u52_pos; grind
theorem big_ge : 1000000000000000000000000000000 ≤ big := by
  have h : p2 100 ≤ big := by unfold big; exact p2_mono (by decide)
  have h2 : p2 100 = ((2 ^ 100 : Nat) : Rat) := p2_nat 100
  rw [h2] at h
  exact Rat.le_trans (by decide +kernel) h

/-- The word b is finite and within n units of x. -/
def A (b : Nat) (x n : Rat) : Prop := ∃ x', V b x' ∧ Nr x' x n

theorem A.exact {b : Nat} {x : Rat} (h : V b x) : A b x 0 := ⟨x, h, by unfold Nr; constructor <;> grind⟩
theorem A.near {b : Nat} {x n m : Rat} (h : A b x n) (hm : n ≤ m) : A b x m := by
  obtain ⟨x', h1, h2, h3⟩ := h
  have := Rat.mul_nonneg (Rat.le_of_lt e51_pos) (show (0 : Rat) ≤ m - n by grind)
  exact ⟨x', h1, by unfold Nr; constructor <;> grind⟩

theorem prod_near {x y x' y' n m e : Rat} (he : 0 < e) (hx : x' - x ≤ n * e) (hx2 : x - x' ≤ n * e) (hy : y' - y ≤ m * e) (hy2 : y - y' ≤ m * e) (X Y : Rat) (b1 : Bd x' X) (b2 : Bd y Y) :
    x' * y' - x * y ≤ (X * m + Y * n) * e ∧ x * y - x' * y' ≤ (X * m + Y * n) * e := by
  obtain ⟨p1, p2⟩ := b1
  obtain ⟨p3, p4⟩ := b2
  have a1 := Rat.mul_nonneg (show (0 : Rat) ≤ X - x' by grind) (show (0 : Rat) ≤ m * e - (y' - y) by grind)
  have a2 := Rat.mul_nonneg (show (0 : Rat) ≤ X - x' by grind) (show (0 : Rat) ≤ m * e - (y - y') by grind)
  have a3 := Rat.mul_nonneg (show (0 : Rat) ≤ X + x' by grind) (show (0 : Rat) ≤ m * e - (y' - y) by grind)
  have a4 := Rat.mul_nonneg (show (0 : Rat) ≤ X + x' by grind) (show (0 : Rat) ≤ m * e - (y - y') by grind)
  have a5 := Rat.mul_nonneg (show (0 : Rat) ≤ Y - y by grind) (show (0 : Rat) ≤ n * e - (x' - x) by grind)
  have a6 := Rat.mul_nonneg (show (0 : Rat) ≤ Y - y by grind) (show (0 : Rat) ≤ n * e - (x - x') by grind)
  have a7 := Rat.mul_nonneg (show (0 : Rat) ≤ Y + y by grind) (show (0 : Rat) ≤ n * e - (x' - x) by grind)
  have a8 := Rat.mul_nonneg (show (0 : Rat) ≤ Y + y by grind) (show (0 : Rat) ≤ n * e - (x - x') by grind)
  constructor <;> grind

theorem bd_mul {x y X Y : Rat} (h1 : Bd x X) (h2 : Bd y Y) : Bd (x * y) (X * Y) := by
  obtain ⟨p1, p2⟩ := h1
  obtain ⟨p3, p4⟩ := h2
  have a1 := Rat.mul_nonneg (show (0 : Rat) ≤ X - x by grind) (show (0 : Rat) ≤ Y - y by grind)
  have a2 := Rat.mul_nonneg (show (0 : Rat) ≤ X + x by grind) (show (0 : Rat) ≤ Y - y by grind)
  have a3 := Rat.mul_nonneg (show (0 : Rat) ≤ X - x by grind) (show (0 : Rat) ≤ Y + y by grind)
  have a4 := Rat.mul_nonneg (show (0 : Rat) ≤ X + x by grind) (show (0 : Rat) ≤ Y + y by grind)
  constructor <;> grind
theorem bd_add {x y X Y : Rat} (h1 : Bd x X) (h2 : Bd y Y) : Bd (x + y) (X + Y) := by
  obtain ⟨p1, p2⟩ := h1
  obtain ⟨p3, p4⟩ := h2
  constructor <;> grind
theorem bd_sub {x y X Y : Rat} (h1 : Bd x X) (h2 : Bd y Y) : Bd (x - y) (X + Y) := by
  obtain ⟨p1, p2⟩ := h1
  obtain ⟨p3, p4⟩ := h2
  constructor <;> grind
theorem bd_le {x X Y : Rat} (h : Bd x X) (hXY : X ≤ Y) : Bd x Y := by
  obtain ⟨p1, p2⟩ := h
  constructor <;> grind
theorem bd_near {x x' n X : Rat} (h : Nr x' x n) (hb : Bd x X) (hn : n ≤ 1000000000) : Bd x' (X + 1) := by
  obtain ⟨a, b⟩ := h
  obtain ⟨p1, p2⟩ := hb
  have := Rat.mul_nonneg (Rat.le_of_lt e51_pos) (show (0 : Rat) ≤ 1000000000 - n by grind)
  have := e51_eq
  constructor <;> grind

/-- Factors of at most 2. -/
theorem A_mul2 {a b : Nat} {x y n m : Rat} (ha : A a x n) (hb : A b y m) (hx : Bd x 2) (hy : Bd y 2) (hn : n ≤ 1000000000) (hm : m ≤ 1000000000) :
    ∃ r, floatBits .mul .f64 a b = some r ∧ A r (x * y) (2 * n + 3 * m + 9) := by
  obtain ⟨x', v1, n1⟩ := ha
  obtain ⟨y', v2, n2⟩ := hb
  have bx := bd_near n1 hx hn
  have by' := bd_near n2 hy hm
  have hbig := big_ge
  have hu := u52_lt
  obtain ⟨r, z, h1, h2, h3⟩ := mul_val v1 v2 9 (bd_le (bd_mul bx by') (by grind)) (by grind) (by grind)
  have := prod_near e51_pos n1.1 n1.2 n2.1 n2.2 3 2 (bd_le bx (by grind)) hy
  refine ⟨r, h1, z, h2, ?_⟩
  unfold Nr at *
  constructor <;> grind
/-- Factors of at most 1. -/
theorem A_mul1 {a b : Nat} {x y n m : Rat} (ha : A a x n) (hb : A b y m) (hx : Bd x 1) (hy : Bd y 1) (hn : n ≤ 1000000000) (hm : m ≤ 1000000000) :
    ∃ r, floatBits .mul .f64 a b = some r ∧ A r (x * y) (n + 2 * m + 4) := by
  obtain ⟨x', v1, n1⟩ := ha
  obtain ⟨y', v2, n2⟩ := hb
  have bx := bd_near n1 hx hn
  have by' := bd_near n2 hy hm
  have hbig := big_ge
  have hu := u52_lt
  obtain ⟨r, z, h1, h2, h3⟩ := mul_val v1 v2 4 (bd_le (bd_mul bx by') (by grind)) (by grind) (by grind)
  have := prod_near e51_pos n1.1 n1.2 n2.1 n2.2 2 1 (bd_le bx (by grind)) hy
  refine ⟨r, h1, z, h2, ?_⟩
  unfold Nr at *
  constructor <;> grind
theorem A_add {a b : Nat} {x y n m : Rat} (ha : A a x n) (hb : A b y m) (hx : Bd x 2) (hy : Bd y 2) (hn : n ≤ 1000000000) (hm : m ≤ 1000000000) :
    ∃ r, floatBits .add .f64 a b = some r ∧ A r (x + y) (n + m + 6) := by
  obtain ⟨x', v1, n1⟩ := ha
  obtain ⟨y', v2, n2⟩ := hb
  have bx := bd_near n1 hx hn
  have by' := bd_near n2 hy hm
  have hbig := big_ge
  have hu := u52_lt
  obtain ⟨r, z, h1, h2, h3⟩ := add_val v1 v2 6 (bd_le (bd_add bx by') (by grind)) (by grind) (by grind)
  refine ⟨r, h1, z, h2, ?_⟩
  unfold Nr at *
  constructor <;> grind
theorem A_sub {a b : Nat} {x y n m : Rat} (ha : A a x n) (hb : A b y m) (hx : Bd x 2) (hy : Bd y 2) (hn : n ≤ 1000000000) (hm : m ≤ 1000000000) :
    ∃ r, floatBits .sub .f64 a b = some r ∧ A r (x - y) (n + m + 6) := by
  obtain ⟨x', v1, n1⟩ := ha
  obtain ⟨y', v2, n2⟩ := hb
  have bx := bd_near n1 hx hn
  have by' := bd_near n2 hy hm
  have hbig := big_ge
  have hu := u52_lt
  obtain ⟨r, z, h1, h2, h3⟩ := sub_val v1 v2 6 (bd_le (bd_sub bx by') (by grind)) (by grind) (by grind)
  refine ⟨r, h1, z, h2, ?_⟩
  unfold Nr at *
  constructor <;> grind

/-- One step of Horner's scheme. -/
theorem hor {a zz cb : Nat} {x u c n X C : Rat} (ha : A a x n) (hx : Bd x X) (hX : X ≤ 1) (hz : A zz u 4) (hu : Bd u 1) (hc : V cb c) (hC : Bd c C) (hC1 : C ≤ 1) (hX0 : 0 ≤ X) (hn : n ≤ 1000000) :
    ∃ r1 r2, floatBits .mul .f64 a zz = some r1 ∧ floatBits .add .f64 r1 cb = some r2 ∧ A r2 (x * u + c) (n + 18) ∧ Bd (x * u + c) (X + C) := by
  have hxu : Bd (x * u) X := bd_le (bd_mul hx hu) (by grind)
  obtain ⟨r1, h1, a1⟩ := A_mul1 ha hz (bd_le hx hX) hu (by grind) (by grind)
  obtain ⟨r2, h2, a2⟩ := A_add a1 (A.exact hc) (bd_le hxu (by grind)) (bd_le hC (by grind)) (by grind) (by grind)
  exact ⟨r1, r2, h1, h2, a2.near (by grind), bd_add hxu hC⟩

theorem V_dy' (b : Nat) (s : Bool) (m d : Nat) (h : Ieee.double.read b = .number s m (-(d : Int))) : V b (dy s m d) := V_dy b s m d h
theorem Vs0 : V 4460209587652500685 s0 := V_dy' _ false 6149556183080141 85 (by decide +kernel)
theorem Vs1 : V 13716528389658582877 s1 := V_dy' _ true 7571123942793053 78 (by decide +kernel)
theorem Vs2 : V 4523617212962785441 s2 := V_dy' _ false 6506786710177953 71 (by decide +kernel)
theorem Vs3 : V 13774824197404483331 s3 := V_dy' _ true 7320136532877059 65 (by decide +kernel)
theorem Vs4 : V 4575957461383575504 s4 := V_dy' _ false 4803839602522064 59 (by decide +kernel)
theorem Vs5 : V 13818544856648471880 s5 := V_dy' _ true 6004799503160648 55 (by decide +kernel)
theorem Vc0 : V 13666448263388469915 c0 := V_dy' _ true 7030593573755547 89 (by decide +kernel)
theorem Vc1 : V 4477121864728985349 c1 := V_dy' _ false 5047434750082821 81 (by decide +kernel)
theorem Vc2 : V 13732177093698800582 c2 := V_dy' _ true 5205429473528774 74 (by decide +kernel)
theorem Vc3 : V 4537941361668146421 c3 := V_dy' _ false 7320136533427445 68 (by decide +kernel)
theorem Vc4 : V 13787419979223748497 c4 := V_dy' _ true 6405119470030737 62 (by decide +kernel)
theorem Vc5 : V 4586165620538955083 c5 := V_dy' _ false 6004799503160651 57 (by decide +kernel)
theorem Vhalf : V 4602678819172646912 (1 / 2) := by
  have := V_dy 4602678819172646912 false (2 ^ 52) 53 (by decide +kernel)
  rwa [show sgn false * ((2 ^ 52 : Nat) : Rat) / ((2 ^ 53 : Nat) : Rat) = 1 / 2 by decide +kernel] at this
theorem Vone : V 4607182418800017408 1 := by
  have := V_dy 4607182418800017408 false (2 ^ 52) 52 (by decide +kernel)
  rwa [show sgn false * ((2 ^ 52 : Nat) : Rat) / ((2 ^ 52 : Nat) : Rat) = 1 by decide +kernel] at this
theorem bdK (c : Rat) (C : Rat) (h : (decide (-C ≤ c) && decide (c ≤ C)) = true) : Bd c C := by
  simp only [Bool.and_eq_true, decide_eq_true_eq] at h
  exact h

theorem horner6 {zz k0 k1 k2 k3 k4 k5 : Nat} {u a0 a1 a2 a3 a4 a5 : Rat} (hz : A zz u 4) (hu : Bd u 1) (h0 : V k0 a0) (h1 : V k1 a1) (h2 : V k2 a2) (h3 : V k3 a3) (h4 : V k4 a4) (h5 : V k5 a5)
    (b0 : Bd a0 (1 / 8)) (b1 : Bd a1 (1 / 8)) (b2 : Bd a2 (1 / 8)) (b3 : Bd a3 (1 / 8)) (b4 : Bd a4 (1 / 8)) (b5 : Bd a5 (1 / 4)) :
    ∃ r1 r2 r3 r4 r5 r6 r7 r8 r9 r10, floatBits .mul .f64 k0 zz = some r1 ∧ floatBits .add .f64 r1 k1 = some r2 ∧ floatBits .mul .f64 r2 zz = some r3 ∧ floatBits .add .f64 r3 k2 = some r4 ∧
      floatBits .mul .f64 r4 zz = some r5 ∧ floatBits .add .f64 r5 k3 = some r6 ∧ floatBits .mul .f64 r6 zz = some r7 ∧ floatBits .add .f64 r7 k4 = some r8 ∧ floatBits .mul .f64 r8 zz = some r9 ∧ floatBits .add .f64 r9 k5 = some r10 ∧
      A r10 (((((a0 * u + a1) * u + a2) * u + a3) * u + a4) * u + a5) 90 ∧ Bd (((((a0 * u + a1) * u + a2) * u + a3) * u + a4) * u + a5) 1 := by
  obtain ⟨r1, r2, e1, e2, p1, q1⟩ := hor (A.exact h0) b0 (by grind) hz hu h1 b1 (by grind) (by grind) (by grind)
  obtain ⟨r3, r4, e3, e4, p2, q2⟩ := hor p1 q1 (by grind) hz hu h2 b2 (by grind) (by grind) (by grind)
  obtain ⟨r5, r6, e5, e6, p3, q3⟩ := hor p2 q2 (by grind) hz hu h3 b3 (by grind) (by grind) (by grind)
  obtain ⟨r7, r8, e7, e8, p4, q4⟩ := hor p3 q3 (by grind) hz hu h4 b4 (by grind) (by grind) (by grind)
  obtain ⟨r9, r10, e9, e10, p5, q5⟩ := hor p4 q4 (by grind) hz hu h5 b5 (by grind) (by grind) (by grind)
  exact ⟨r1, r2, r3, r4, r5, r6, r7, r8, r9, r10, e1, e2, e3, e4, e5, e6, e7, e8, e9, e10, p5.near (by grind), bd_le q5 (by grind)⟩

end Go.Proofs.YbulkgjuDoor
