/- sin and cos of float64 words: the words and their values. -/
import Derived.Test.YbulkgjuDoorApx
namespace Go.Proofs.YbulkgjuDoor
set_option linter.unusedVariables false

theorem zz_ex {z : Nat} {q : Rat} (hz : V z q) (hq : Bd q 1) : ∃ zz, floatBits .mul .f64 z z = some zz ∧ A zz (q * q) 4 ∧ Bd (q * q) 1 := by
  obtain ⟨zz, h, a⟩ := A_mul1 (A.exact hz) (A.exact hz) hq hq (by grind) (by grind)
  exact ⟨zz, h, a.near (by grind), bd_le (bd_mul hq hq) (by grind)⟩

theorem sin_poly {z zz : Nat} {q : Rat} (hz : V z q) (hq : Bd q 1) (hzz : A zz (q * q) 4) (hu : Bd (q * q) 1) :
    ∃ m0 r1 r2 r3 r4 r5 r6 r7 r8 r9 r10 t1 y, floatBits .mul .f64 z zz = some m0 ∧ floatBits .mul .f64 4460209587652500685 zz = some r1 ∧ floatBits .add .f64 r1 13716528389658582877 = some r2 ∧ floatBits .mul .f64 r2 zz = some r3 ∧ floatBits .add .f64 r3 4523617212962785441 = some r4 ∧
      floatBits .mul .f64 r4 zz = some r5 ∧ floatBits .add .f64 r5 13774824197404483331 = some r6 ∧ floatBits .mul .f64 r6 zz = some r7 ∧ floatBits .add .f64 r7 4575957461383575504 = some r8 ∧ floatBits .mul .f64 r8 zz = some r9 ∧ floatBits .add .f64 r9 13818544856648471880 = some r10 ∧
      floatBits .mul .f64 m0 r10 = some t1 ∧ floatBits .add .f64 z t1 = some y ∧ A y (Sx q) 300 := by
  obtain ⟨m0, e0, a0⟩ := A_mul1 (A.exact hz) hzz hq hu (by grind) (by grind)
  obtain ⟨r1, r2, r3, r4, r5, r6, r7, r8, r9, r10, f1, f2, f3, f4, f5, f6, f7, f8, f9, f10, p, b⟩ := horner6 hzz hu Vs0 Vs1 Vs2 Vs3 Vs4 Vs5 (bdK _ _ (by decide +kernel)) (bdK _ _ (by decide +kernel)) (bdK _ _ (by decide +kernel)) (bdK _ _ (by decide +kernel)) (bdK _ _ (by decide +kernel)) (bdK _ _ (by decide +kernel))
  have b0 : Bd (q * (q * q)) 1 := bd_le (bd_mul hq hu) (by grind)
  obtain ⟨t1, e1, a1⟩ := A_mul1 a0 p b0 b (by grind) (by grind)
  obtain ⟨y, e2, a2⟩ := A_add (A.exact hz) a1 (bd_le hq (by grind)) (bd_le (bd_mul b0 b) (by grind)) (by grind) (by grind)
  exact ⟨m0, r1, r2, r3, r4, r5, r6, r7, r8, r9, r10, t1, y, e0, f1, f2, f3, f4, f5, f6, f7, f8, f9, f10, e1, e2, A.near a2 (by grind)⟩

theorem cos_poly {zz : Nat} {q : Rat} (hzz : A zz (q * q) 4) (hu : Bd (q * q) 1) :
    ∃ g0 g1 g2 r1 r2 r3 r4 r5 r6 r7 r8 r9 r10 t1 y, floatBits .mul .f64 4602678819172646912 zz = some g0 ∧ floatBits .sub .f64 4607182418800017408 g0 = some g1 ∧ floatBits .mul .f64 zz zz = some g2 ∧ floatBits .mul .f64 13666448263388469915 zz = some r1 ∧ floatBits .add .f64 r1 4477121864728985349 = some r2 ∧ floatBits .mul .f64 r2 zz = some r3 ∧ floatBits .add .f64 r3 13732177093698800582 = some r4 ∧
      floatBits .mul .f64 r4 zz = some r5 ∧ floatBits .add .f64 r5 4537941361668146421 = some r6 ∧ floatBits .mul .f64 r6 zz = some r7 ∧ floatBits .add .f64 r7 13787419979223748497 = some r8 ∧ floatBits .mul .f64 r8 zz = some r9 ∧ floatBits .add .f64 r9 4586165620538955083 = some r10 ∧
      floatBits .mul .f64 g2 r10 = some t1 ∧ floatBits .add .f64 g1 t1 = some y ∧ A y (Cx q) 300 := by
  have bh : Bd (1 / 2 : Rat) 1 := bdK _ _ (by decide +kernel)
  have b1 : Bd (1 : Rat) 1 := bdK _ _ (by decide +kernel)
  obtain ⟨g0, e0, a0⟩ := A_mul1 (A.exact Vhalf) hzz bh hu (by grind) (by grind)
  obtain ⟨g1, e1, a1⟩ := A_sub (A.exact Vone) a0 (bd_le b1 (by grind)) (bd_le (bd_mul bh hu) (by grind)) (by grind) (by grind)
  obtain ⟨g2, e2, a2⟩ := A_mul1 hzz hzz hu hu (by grind) (by grind)
  obtain ⟨r1, r2, r3, r4, r5, r6, r7, r8, r9, r10, f1, f2, f3, f4, f5, f6, f7, f8, f9, f10, p, b⟩ := horner6 hzz hu Vc0 Vc1 Vc2 Vc3 Vc4 Vc5 (bdK _ _ (by decide +kernel)) (bdK _ _ (by decide +kernel)) (bdK _ _ (by decide +kernel)) (bdK _ _ (by decide +kernel)) (bdK _ _ (by decide +kernel)) (bdK _ _ (by decide +kernel))
  have b0 : Bd ((q * q) * (q * q)) 1 := bd_le (bd_mul hu hu) (by grind)
  obtain ⟨t1, e3, a3⟩ := A_mul1 a2 p b0 b (by grind) (by grind)
  obtain ⟨y, e4, a4⟩ := A_add a1 a3 (bd_le (bd_sub b1 (bd_mul bh hu)) (by grind)) (bd_le (bd_mul b0 b) (by grind)) (by grind) (by grind)
  exact ⟨g0, g1, g2, r1, r2, r3, r4, r5, r6, r7, r8, r9, r10, t1, y, e0, e1, e2, f1, f2, f3, f4, f5, f6, f7, f8, f9, f10, e3, e4, A.near a4 (by grind)⟩

theorem sq_nonneg (q : Rat) : 0 ≤ q * q := by
  rcases Rat.le_total (a := 0) (b := q) with h | h
  · exact Rat.mul_nonneg h h
  · have := Rat.mul_nonneg (show (0 : Rat) ≤ -q by grind) (show (0 : Rat) ≤ -q by grind); grind
theorem bd_of_sq {q B : Rat} (h : q * q ≤ B * B) (hB : 0 ≤ B) : Bd q B := by
  constructor
  · refine Rat.not_lt.1 fun h' => ?_
    have := Rat.mul_pos (show (0 : Rat) < -B - q by grind) (show (0 : Rat) < B - q by grind)
    grind
  · refine Rat.not_lt.1 fun h' => ?_
    have := Rat.mul_pos (show (0 : Rat) < q - B by grind) (show (0 : Rat) < q + B by grind)
    grind

/-- Of one z the two words' squares make 1, nearly. -/
def Pair (c d : Nat) : Prop := ∃ x y, V c x ∧ V d y ∧ Bd (10000000000 * (x * x + y * y - 1)) 1
theorem Pair.swap {c d : Nat} (h : Pair c d) : Pair d c := by
  obtain ⟨x, y, h1, h2, h3⟩ := h
  refine ⟨y, x, h2, h1, ?_⟩
  rwa [show y * y + x * x = x * x + y * y by grind]
theorem Pair.neg1 {c d : Nat} (h : Pair c d) (hc : c < 2 ^ 64) : Pair (Op.negFloat .f64 c) d := by
  obtain ⟨x, y, h1, h2, h3⟩ := h
  refine ⟨-x, y, neg_val h1 hc, h2, ?_⟩
  rwa [show -x * -x = x * x by grind]

theorem pair_of {c d : Nat} {q : Rat} (hq : Bd q 1) (hc : A c (Cx q) 300) (hd : A d (Sx q) 300) : Pair c d := by
  obtain ⟨x, v1, n1⟩ := hc
  obtain ⟨y, v2, n2⟩ := hd
  refine ⟨x, y, v1, v2, ?_⟩
  obtain ⟨u1, u2⟩ := unit_exact q hq
  have s1 := sq_nonneg (Cx q)
  have s2 := sq_nonneg (Sx q)
  have bC : Bd (Cx q) 2 := bd_of_sq (by grind) (by grind)
  have bS : Bd (Sx q) 2 := bd_of_sq (by grind) (by grind)
  have bx := bd_near n1 bC (by grind)
  have bY := bd_near n2 bS (by grind)
  have p1 := prod_near e51_pos n1.1 n1.2 n1.1 n1.2 3 2 (bd_le bx (by grind)) bC
  have p2 := prod_near e51_pos n2.1 n2.2 n2.1 n2.2 3 2 (bd_le bY (by grind)) bS
  have he := e51_eq
  generalize Cx q * Cx q = c2 at *
  generalize Sx q * Sx q = s2 at *
  generalize x * x = x2 at *
  generalize y * y = y2 at *
  clear n1 n2 bC bS bx bY v1 v2
  constructor <;> grind


theorem V_lin (b m d D : Nat) (h : Ieee.double.read b = .number false m (-(d : Int))) (hD : 2 ^ d = D) : ∃ q, V b q ∧ (D : Rat) * q = (m : Rat) := by
  refine ⟨_, V_dy b false m d h, ?_⟩
  rw [hD]
  have h0 : (D : Rat) ≠ 0 := by
    have : (0 : Rat) < (D : Rat) := by rw [← hD]; exact_mod_cast Nat.two_pow_pos d
    grind
  simp only [sgn, Bool.false_eq_true, if_false]
  grind
theorem Vk : ∃ q, V 4608412980311869571 q ∧ 4503599627370496 * q = 5734161139222659 := V_lin _ 5734161139222659 52 4503599627370496 (by decide +kernel) (by decide +kernel)
theorem Va : ∃ q, V 4605249456957292544 q ∧ 9007199254740992 * q = 7074237412016128 := V_lin _ 7074237412016128 53 9007199254740992 (by decide +kernel) (by decide +kernel)
theorem Vb : ∃ q, V 4495793288086814720 q ∧ 151115727451828646838272 * q = 5704459598430208 := V_lin _ 5704459598430208 77 151115727451828646838272 (by decide +kernel) (by decide +kernel)
theorem Vcc : ∃ q, V 4388835458085048688 q ∧ 2535301200456458802993406410752 * q = 6833020653556080 := V_lin _ 6833020653556080 101 2535301200456458802993406410752 (by decide +kernel) (by decide +kernel)
theorem Vp4 : ∃ q, V 4605249457297304856 q ∧ 9007199254740992 * q = 7074237752028440 := V_lin _ 7074237752028440 53 9007199254740992 (by decide +kernel) (by decide +kernel)
theorem Vthr : V 4737786807993761792 536870912 := by
  have := V_dy 4737786807993761792 false 4503599627370496 23 (by decide +kernel)
  rwa [show sgn false * ((4503599627370496 : Nat) : Rat) / ((2 ^ 23 : Nat) : Rat) = 536870912 by decide +kernel] at this

theorem trunc_neg {a : Nat} {x : Rat} (ha : V a x) (h0 : -1 < x) (h1 : x < 0) : floatToIntVal .f64 a .u64 = some 0 := by
  obtain ⟨s, m, i, h, rfl⟩ := ha
  have hp : 0 ≤ (m : Rat) * p2 i := Rat.mul_nonneg (by exact_mod_cast Nat.zero_le m) (Rat.le_of_lt (p2_pos _))
  have hs : s = true := by
    cases s
    · simp only [sgn, Bool.false_eq_true, if_false] at h1; grind
    · rfl
  subst hs
  have hlt : (m : Rat) * p2 i < 1 := by simp only [sgn, if_true] at h0; grind
  have hD : 0 < 2 ^ (-i).toNat := Nat.two_pow_pos _
  have hDq : (0 : Rat) < ((2 ^ (-i).toNat : Nat) : Rat) := by exact_mod_cast hD
  have hX : (m : Rat) * p2 i * ((2 ^ (-i).toNat : Nat) : Rat) = ((m * 2 ^ i.toNat : Nat) : Rat) := by
    rw [Rat.natCast_mul, ← p2_nat, ← p2_nat, Rat.mul_assoc, ← p2_add, show i + ((-i).toNat : Int) = (i.toNat : Int) by omega]
  have hn : m * 2 ^ i.toNat < 2 ^ (-i).toNat := by
    have : ((m * 2 ^ i.toNat : Nat) : Rat) < ((2 ^ (-i).toNat : Nat) : Rat) := by
      rw [← hX]
      have := Rat.mul_pos (show (0 : Rat) < 1 - (m : Rat) * p2 i by grind) hDq
      grind
    exact_mod_cast this
  have hto : (FloatKind.decode .f64 a).toInt .zero = some 0 := by
    show (Ieee.Datum.toInt .zero (Ieee.double.read a)) = _
    rw [h]
    show some (Ieee.signed true (Ieee.Toward.zero.cut true (m <<< i.toNat) (-i).toNat) 0) = _
    rw [cut_zero, Nat.shiftLeft_eq, Nat.div_eq_of_lt hn]
    rfl
  unfold floatToIntVal
  rw [hto]
  rfl

/-- The whole part of x over PI/4. -/
theorem red_t {x : Nat} {q : Rat} (hx : V x q) (h0 : 0 ≤ q) (h1 : q ≤ 536870912) :
    ∃ t, ∃ j : Nat, floatBits .mul .f64 x 4608412980311869571 = some t ∧ floatToIntVal .f64 t .u64 = some (j : Int) ∧ j ≤ 1073741824 ∧
      (∃ y, V (floatOfInt .f64 (j : Int)) y ∧ 4503599627370496 * (y + 1) ≥ 5734161139222659 * q - 4503599627370496 / 100 ∧ 4503599627370496 * y ≤ 5734161139222659 * q + 4503599627370496 / 100) ∧
      ∃ r y, floatBits .add .f64 (floatOfInt .f64 (j : Int)) 4607182418800017408 = some r ∧ V r y ∧ 4503599627370496 * y ≥ 5734161139222659 * q - 4503599627370496 / 100 ∧ 4503599627370496 * (y - 1) ≤ 5734161139222659 * q + 4503599627370496 / 100 := by
  obtain ⟨k, vk, ek⟩ := Vk
  have hbig := big_ge
  have hu := u52_lt
  have hxk : 4503599627370496 * (q * k) = 5734161139222659 * q := by grind
  have he := e51_eq
  obtain ⟨t, t', e1, v1, n1⟩ := mul_val hx vk 1073741824 ⟨by grind, by grind⟩ (by grind) (by grind)
  obtain ⟨n11, n12⟩ := n1
  have ht : -1 / 1000 ≤ t' ∧ t' ≤ 1073741824 := by constructor <;> grind
  obtain ⟨j, ej, j1, j2⟩ : ∃ j : Nat, floatToIntVal .f64 t .u64 = some (j : Int) ∧ (j : Rat) ≤ t' + 1 / 1000 ∧ t' ≤ (j : Rat) + 1 := by
    by_cases hneg : t' < 0
    · exact ⟨0, trunc_neg v1 (by grind) hneg, by simp; grind, by simp; grind⟩
    · obtain ⟨n, a1, a2, a3⟩ := trunc_val v1 (by grind) (by grind)
      exact ⟨n, a1, by grind, a3⟩
  have hjb : (j : Rat) ≤ 1073741825 := by grind
  have hjn : j ≤ 1073741824 := by
    have : (j : Rat) < ((1073741825 : Nat) : Rat) := by
      have h : ((1073741825 : Nat) : Rat) = 1073741825 := by decide +kernel
      rw [h]; grind
    have : j < 1073741825 := by exact_mod_cast this
    omega
  obtain ⟨y, vy, n21, n22⟩ := ofNat_val j 2147483648 (by grind) (by grind) (by grind)
  have hj0 : (0 : Rat) ≤ (j : Rat) := by exact_mod_cast Nat.zero_le j
  obtain ⟨r, y1, er, vr, n31, n32⟩ := add_val vy Vone 4294967296 ⟨by grind, by grind⟩ (by grind) (by grind)
  refine ⟨t, j, e1, ej, hjn, ⟨y, vy, ?_, ?_⟩, r, y1, er, vr, ?_, ?_⟩ <;> grind


/-- What is left of x. -/
theorem red_z {x y : Nat} {q v : Rat} (hx : V x q) (h0 : 0 ≤ q) (h1 : q ≤ 536870912) (hy : V y v)
    (hlo : 4503599627370496 * (v + 1) ≥ 5734161139222659 * q - 4503599627370496 / 100) (hhi : 4503599627370496 * (v - 1) ≤ 5734161139222659 * q + 4503599627370496 / 100) :
    ∃ m1 d1 m2 d2 m3 z, floatBits .mul .f64 y 4605249456957292544 = some m1 ∧ floatBits .sub .f64 x m1 = some d1 ∧ floatBits .mul .f64 y 4495793288086814720 = some m2 ∧ floatBits .sub .f64 d1 m2 = some d2 ∧
      floatBits .mul .f64 y 4388835458085048688 = some m3 ∧ floatBits .sub .f64 d2 m3 = some z ∧ ∃ w, V z w ∧ Bd w 1 := by
  obtain ⟨a, va, ea⟩ := Va
  obtain ⟨b, vb, eb⟩ := Vb
  obtain ⟨c, vc, ec⟩ := Vcc
  have hbig := big_ge
  have hu := u52_lt
  have he := e51_eq
  have fa : 9007199254740992 * (v * a) = 7074237412016128 * v := by grind
  have fb : 151115727451828646838272 * (v * b) = 5704459598430208 * v := by grind
  have fc : 2535301200456458802993406410752 * (v * c) = 6833020653556080 * v := by grind
  obtain ⟨m1, p1, e1, v1, n11, n12⟩ := mul_val hy va 4294967296 ⟨by grind, by grind⟩ (by grind) (by grind)
  obtain ⟨d1, p2, e2, v2, n21, n22⟩ := sub_val hx v1 8589934592 ⟨by grind, by grind⟩ (by grind) (by grind)
  obtain ⟨m2, p3, e3, v3, n31, n32⟩ := mul_val hy vb 4294967296 ⟨by grind, by grind⟩ (by grind) (by grind)
  obtain ⟨d2, p4, e4, v4, n41, n42⟩ := sub_val v2 v3 17179869184 ⟨by grind, by grind⟩ (by grind) (by grind)
  obtain ⟨m3, p5, e5, v5, n51, n52⟩ := mul_val hy vc 4294967296 ⟨by grind, by grind⟩ (by grind) (by grind)
  obtain ⟨z, p6, e6, v6, n61, n62⟩ := sub_val v4 v5 34359738368 ⟨by grind, by grind⟩ (by grind) (by grind)
  refine ⟨m1, d1, m2, d2, m3, z, e1, e2, e3, e4, e5, e6, p6, v6, ?_⟩
  clear e1 e2 e3 e4 e5 e6 v1 v2 v3 v4 v5 v6 hx hy va vb vc ea eb ec hbig hu
  generalize v * a = A at *
  generalize v * b = B at *
  generalize v * c = C at *
  constructor <;> grind

end Go.Proofs.YbulkgjuDoor
