/- math.Cos and math.Sin of a finite word: what comes back. -/
import Derived.Test.YbulkgjuDoorCos
namespace Go.Proofs.YbulkgjuDoor
open Go.RowKit
set_option linter.unusedVariables false

theorem floatBits_lt {op : BinOp} {x y r : Nat} (h : floatBits op .f64 x y = some r) : r < 18446744073709551616 := by
  have := floatBits_wf h
  simp [Lit.wf] at this
  omega
theorem negFloat_lt {b : Nat} (h : b < 18446744073709551616) : Op.negFloat .f64 b < 18446744073709551616 := by
  rw [neg_word]
  exact Nat.xor_lt_two_pow (n := 64) h (by decide)

theorem and1 (n : Nat) (hn : n < 18446744073709551616) : bits .and .u64 (n : Int) 1 = ((n % 2 : Nat) : Int) := by
  have h := bits_and_u64_nat n 1 hn (by omega)
  rw [show (1 : Nat) = 2 ^ 1 - 1 from rfl, Nat.and_two_pow_sub_one_eq_mod] at h
  exact h
theorem and7 (n : Nat) (hn : n < 18446744073709551616) : bits .and .u64 (n : Int) 7 = ((n % 8 : Nat) : Int) := by
  have h := bits_and_u64_nat n 7 hn (by omega)
  rw [show (7 : Nat) = 2 ^ 3 - 1 from rfl, Nat.and_two_pow_sub_one_eq_mod] at h
  exact h

theorem small_red {a : Nat} {y : Rat} (hv : V a y) (h0 : 0 ≤ y) (h1 : y ≤ 536870912) :
    ∃ j z u, (j = 0 ∨ j = 2 ∨ j = 4 ∨ j = 6) ∧ Small a j z ∧ V z u ∧ Bd u 1 := by
  obtain ⟨t, n, e1, e2, hn, ⟨v, vv, l1, l2⟩, r, v', er, vr, l3, l4⟩ := red_t hv h0 h1
  have hp : n % 2 = 0 ∨ n % 2 = 1 := by omega
  rcases hp with hp | hp
  · obtain ⟨m1, d1, m2, d2, m3, z, f1, f2, f3, f4, f5, f6, u, vz, bz⟩ := red_z hv h0 h1 vv l1 (by grind)
    refine ⟨n % 8, z, u, by omega, ⟨t, n, _, m1, d1, m2, d2, m3, e1, e2, f1, f2, f3, f4, f5, f6, hn, .inl ⟨?_, ?_, rfl⟩⟩, vz, bz⟩
    · rw [and1 n (by omega), hp]; rfl
    · exact and7 n (by omega)
  · obtain ⟨m1, d1, m2, d2, m3, z, f1, f2, f3, f4, f5, f6, u, vz, bz⟩ := red_z hv h0 h1 vr (by grind) l4
    refine ⟨(n + 1) % 8, z, u, by omega, ⟨t, n, _, m1, d1, m2, d2, m3, e1, e2, f1, f2, f3, f4, f5, f6, hn, .inr ⟨?_, ?_, er⟩⟩, vz, bz⟩
    · rw [and1 n (by omega), hp]; rfl
    · exact and7 (n + 1) (by omega)

theorem polys_ex {z : Nat} {u : Rat} (hz : V z u) (hu : Bd u 1) : ∃ zz sy cy, Polys z zz sy cy ∧ A sy (Sx u) 300 ∧ A cy (Cx u) 300 ∧ sy < 18446744073709551616 ∧ cy < 18446744073709551616 := by
  obtain ⟨zz, h, a, b⟩ := zz_ex hz hu
  obtain ⟨m0, r1, r2, r3, r4, r5, r6, r7, r8, r9, r10, t1, sy, e0, e1, e2, e3, e4, e5, e6, e7, e8, e9, e10, e11, e12, aS⟩ := sin_poly hz hu a b
  obtain ⟨g0, g1, g2, k1, k2, k3, k4, k5, k6, k7, k8, k9, k10, k11, cy, f0, f1, f2, f3, f4, f5, f6, f7, f8, f9, f10, f11, f12, f13, f14, aC⟩ := cos_poly a b
  exact ⟨zz, sy, cy, ⟨h, ⟨m0, r1, r2, r3, r4, r5, r6, r7, r8, r9, r10, t1, e0, e1, e2, e3, e4, e5, e6, e7, e8, e9, e10, e11, e12⟩, ⟨g0, g1, g2, k1, k2, k3, k4, k5, k6, k7, k8, k9, k10, k11, f0, f1, f2, f3, f4, f5, f6, f7, f8, f9, f10, f11, f12, f13, f14⟩⟩, aS, aC, floatBits_lt e12, floatBits_lt f14⟩

/-- A contract of a function of one float that only reads. -/
def Fun1 (f x r : Nat) : Prop := ∀ w, LaidW w → Calls Ybad.prog f #[.float .f64 x] w fun e w' => e = .returned (.float .f64 r) ∧ ∃ k, w' = w.drewN k
theorem Fun1.of0 {f x r : Nat} (h : ∀ w, LaidW w → Calls Ybad.prog f #[.float .f64 x] w fun e w' => e = .returned (.float .f64 r) ∧ w' = w) : Fun1 f x r :=
  fun w hw => (h w hw).mono fun e w' ⟨a, b⟩ => ⟨a, 0, b⟩
theorem Fun1.of3 {f x r : Nat} (h : ∀ w, LaidW w → Calls Ybad.prog f #[.float .f64 x] w fun e w' => e = .returned (.float .f64 r) ∧ w' = w.drew.drew.drew) : Fun1 f x r :=
  fun w hw => (h w hw).mono fun e w' ⟨a, b⟩ => ⟨a, 3, b⟩

theorem cos_word {a : Nat} (cy sy j : Nat) (hj : j = 0 ∨ j = 2 ∨ j = 4 ∨ j = 6) (hc : cy < 18446744073709551616) (hs : sy < 18446744073709551616) (hP : Pair cy sy) :
    ∃ cw sw sn, ((j = 0 ∧ cw = cy) ∨ (j = 2 ∧ cw = Op.negFloat .f64 sy) ∨ (j = 4 ∧ cw = Op.negFloat .f64 cy) ∨ (j = 6 ∧ cw = sy)) ∧
      ((j = 0 ∧ sw = sy) ∨ (j = 2 ∧ sw = cy) ∨ (j = 4 ∧ sw = Op.negFloat .f64 sy) ∨ (j = 6 ∧ sw = Op.negFloat .f64 cy)) ∧
      ((j = 0 ∧ sn = Op.negFloat .f64 sy) ∨ (j = 2 ∧ sn = Op.negFloat .f64 cy) ∨ (j = 4 ∧ sn = sy) ∨ (j = 6 ∧ sn = cy)) ∧ Pair cw sw ∧ Pair cw sn ∧ cw < 18446744073709551616 ∧ sw < 18446744073709551616 ∧ sn < 18446744073709551616 := by
  have nc := negFloat_lt hc
  have ns := negFloat_lt hs
  rcases hj with rfl | rfl | rfl | rfl
  · exact ⟨cy, sy, Op.negFloat .f64 sy, .inl ⟨rfl, rfl⟩, .inl ⟨rfl, rfl⟩, .inl ⟨rfl, rfl⟩, hP, (hP.swap.neg1 hs).swap, hc, hs, ns⟩
  · exact ⟨Op.negFloat .f64 sy, cy, Op.negFloat .f64 cy, .inr (.inl ⟨rfl, rfl⟩), .inr (.inl ⟨rfl, rfl⟩), .inr (.inl ⟨rfl, rfl⟩), hP.swap.neg1 hs, ((hP.swap.neg1 hs).swap.neg1 hc).swap, ns, hc, nc⟩
  · exact ⟨Op.negFloat .f64 cy, Op.negFloat .f64 sy, sy, .inr (.inr (.inl ⟨rfl, rfl⟩)), .inr (.inr (.inl ⟨rfl, rfl⟩)), .inr (.inr (.inl ⟨rfl, rfl⟩)), ((hP.neg1 hc).swap.neg1 hs).swap, hP.neg1 hc, nc, ns, hs⟩
  · exact ⟨sy, Op.negFloat .f64 cy, cy, .inr (.inr (.inr ⟨rfl, rfl⟩)), .inr (.inr (.inr ⟨rfl, rfl⟩)), .inr (.inr (.inr ⟨rfl, rfl⟩)), (hP.neg1 hc).swap, hP.swap, hs, nc, hc⟩

theorem Vzero : V 0 0 := ⟨false, 0, -1074, by decide +kernel, by simp⟩

/-- The sign of a finite word. -/
theorem sign_of {x : Nat} {q : Rat} (hx : x < 18446744073709551616) (hv : V x q) : (0 < q → x % 9223372036854775808 = x) ∧ (q < 0 → Op.negFloat .f64 x = x % 9223372036854775808) ∧ (q = 0 → x % 9223372036854775808 = 0) := by
  have hr := read_mod x
  obtain ⟨s, m, e, h1, rfl⟩ := hv
  have hs : s = (x / 2 ^ 63 % 2 == 1) := by
    have e1 : Ieee.double.signWeight = 2 ^ 63 := by decide
    have h := h1
    unfold Ieee.Format.read at h
    simp only [e1] at h
    split at h
    · cases h; rfl
    · split at h
      · cases h; rfl
      · split at h <;> cases h
  have hp : 0 ≤ (m : Rat) * p2 e := Rat.mul_nonneg (by exact_mod_cast Nat.zero_le m) (Rat.le_of_lt (p2_pos _))
  refine ⟨fun h => ?_, fun h => ?_, fun h => ?_⟩
  · cases s
    · have : x / 2 ^ 63 % 2 ≠ 1 := by intro h; rw [h] at hs; exact absurd hs (by decide)
      omega
    · simp only [sgn, if_true] at h; grind
  · cases s
    · simp only [sgn, Bool.false_eq_true, if_false] at h; grind
    · have h63 : x / 2 ^ 63 % 2 = 1 := by simpa using hs.symm
      rw [neg_word]
      obtain ⟨y, hy⟩ : ∃ y, x = 2 ^ 63 * 1 + y ∧ y < 2 ^ 63 := ⟨x - 2 ^ 63, by omega, by omega⟩
      have h2 := Nat.two_pow_add_eq_or_of_lt (i := 63) (b := y) hy.2 1
      apply Nat.eq_of_testBit_eq
      intro i
      rw [Nat.testBit_xor, Nat.testBit_mod_two_pow (x := x) (j := 63) (i := i)]
      rw [hy.1, h2, Nat.testBit_or, Nat.mul_one, Nat.testBit_two_pow]
      by_cases hi : 63 = i
      · subst hi
        rw [Nat.testBit_lt_two_pow hy.2]; decide
      · by_cases hi2 : i < 63
        · simp [hi, hi2]
        · rw [Nat.testBit_lt_two_pow (Nat.lt_of_lt_of_le hy.2 (Nat.pow_le_pow_right (by omega) (by omega)))]
          simp [hi, hi2]
  · have hm : m = 0 := by
      rcases Nat.eq_zero_or_pos m with h' | h'
      · exact h'
      · have := Rat.mul_pos (show (0 : Rat) < (m : Rat) by exact_mod_cast h') (p2_pos e)
        rcases sgn_or s with h3 | h3 <;> rw [h3] at h <;> grind
    subst hm
    rw [h1] at hr
    dsimp only at hr
    have hr2 := read_word false (x % 2 ^ 63) (Nat.mod_lt _ (by omega))
    rw [show Ieee.double.word false (x % 2 ^ 63) = x % 2 ^ 63 from rfl, hr] at hr2
    show x % 2 ^ 63 = 0
    split at hr2
    · simp only [Ieee.Datum.number.injEq] at hr2; omega
    · split at hr2
      · simp only [Ieee.Datum.number.injEq] at hr2; omega
      · split at hr2 <;> cases hr2


theorem not_inf {a : Nat} {y : Rat} (h : V a y) : (FloatKind.f64.format.order a 9218868437227405311 == some .gt) = false := by
  have h1 := order_val h max_val
  have h2 := fin_le_max h
  show (Ieee.double.order a 9218868437227405311 == some .gt) = false
  generalize ((2 ^ 53 - 1 : Nat) : Rat) * p2 971 = M at *
  by_cases h3 : y = M
  · rw [h1.2.1 h3]; rfl
  · rw [h1.1 (by grind)]; rfl

theorem cos_zero (x : Nat) (hx : x < 18446744073709551616) (h0 : x % 9223372036854775808 = 0) (hv : V x 0) : Fun1 13 x 4607182418800017408 := by
  have hpol : Polys 0 0 0 4607182418800017408 := ⟨by decide +kernel,
    ⟨0, 0, 13716528389658582877, 9223372036854775808, 4523617212962785441, 0, 13774824197404483331, 9223372036854775808, 4575957461383575504, 0, 13818544856648471880, 9223372036854775808, by decide +kernel⟩,
    ⟨0, 4607182418800017408, 0, 9223372036854775808, 4477121864728985349, 0, 13732177093698800582, 9223372036854775808, 4537941361668146421, 0, 13787419979223748497, 9223372036854775808, 4586165620538955083, 0, by decide +kernel⟩⟩
  have hsm : Small 0 0 0 := ⟨0, 0, 0, 0, 0, 0, 0, 0, by decide +kernel, by decide +kernel, by decide +kernel, by decide +kernel, by decide +kernel, by decide +kernel, by decide +kernel, by decide +kernel, by omega, .inl ⟨by decide, by decide, by decide +kernel⟩⟩
  exact .of0 fun w hw => cos_small x 0 0 0 0 0 _ _ hx h0 (order_self_fin hv) (by decide +kernel) (.inl ⟨rfl, rfl⟩) (by decide +kernel) hsm hpol w hw

theorem sin_zero (x : Nat) (hv : V x 0) : Fun1 15 x x := by
  have h : FloatKind.f64.format.order x 0 = some .eq := (order_val hv Vzero).2.1 rfl
  refine .of0 fun w hw => ?_
  go_enter Ybad.func15, Ybad.ntmps15
  go_wp2_with fail
  go_ret
  exact ⟨rfl, rfl⟩

theorem Vone_pair {x : Nat} (hv : V x 0) : Pair 4607182418800017408 x := ⟨1, 0, Vone, hv, by constructor <;> grind⟩

theorem trig_fin (x : Nat) (q : Rat) (hx : x < 18446744073709551616) (hv : V x q) : ∃ cw sw, Fun1 13 x cw ∧ Fun1 15 x sw ∧ Pair cw sw ∧ cw < 18446744073709551616 ∧ sw < 18446744073709551616 := by
  obtain ⟨sp, sn, sz⟩ := sign_of hx hv
  obtain ⟨y, va, y0, hy⟩ := abs_val hv
  change V (x % 9223372036854775808) y at va
  have hxx : FloatKind.f64.format.order x x = some .eq := order_self_fin hv
  have hinf := not_inf va
  by_cases hz : q = 0
  · subst hz
    exact ⟨_, _, cos_zero x hx (sz rfl) hv, sin_zero x hv, Vone_pair hv, by decide, hx⟩
  obtain ⟨a, ha⟩ : ∃ a, x % 9223372036854775808 = a := ⟨_, rfl⟩
  rw [ha] at va hinf sp sn
  have haL : a < 2 ^ 63 := by omega
  by_cases hbig : 536870912 ≤ y
  · obtain ⟨j, z, u, hj, vz, bz, hc⟩ := trig_red a y va haL hbig
    obtain ⟨zz, sy, cy, hp, aS, aC, ls, lc⟩ := polys_ex vz bz
    obtain ⟨cw, sw, sn', c1, c2, c3, p1, p2, l1, l2, l3⟩ := cos_word (a := a) cy sy j hj lc ls (pair_of bz aC aS)
    have hge : FloatKind.f64.format.order a 4737786807993761792 = some .gt ∨ FloatKind.f64.format.order a 4737786807993761792 = some .eq := by
      have := order_val va Vthr
      by_cases h : y = 536870912
      · exact .inr (this.2.1 h)
      · exact .inl (this.2.2 (by grind))
    have hcos : Fun1 13 x cw := .of3 fun w hw => cos_big x a j z zz sy cy cw hx ha hxx hinf c1 hge hp w hw (hc w hw)
    by_cases hs : 0 < q
    · exact ⟨cw, sw, hcos, .of3 fun w hw => sin_pos_big x a j z zz sy cy sw hx ha hxx hinf c2 ((order_val hv Vzero).2.2 hs) (sp hs).symm hge hp w hw (hc w hw), p1, l1, l2⟩
    · exact ⟨cw, sn', hcos, .of3 fun w hw => sin_neg_big x a j z zz sy cy sn' hx ha hxx hinf c3 ((order_val hv Vzero).1 (by grind)) (sn (by grind)) hge hp w hw (hc w hw), p2, l1, l3⟩
  · obtain ⟨j, z, u, hj, hsm, vz, bz⟩ := small_red va y0 (by grind)
    obtain ⟨zz, sy, cy, hp, aS, aC, ls, lc⟩ := polys_ex vz bz
    obtain ⟨cw, sw, sn', c1, c2, c3, p1, p2, l1, l2, l3⟩ := cos_word (a := a) cy sy j hj lc ls (pair_of bz aC aS)
    have hlt : FloatKind.f64.format.order a 4737786807993761792 = some .lt := (order_val va Vthr).1 (by grind)
    have hcos : Fun1 13 x cw := .of0 fun w hw => cos_small x a j z zz sy cy cw hx ha hxx hinf c1 hlt hsm hp w hw
    by_cases hs : 0 < q
    · exact ⟨cw, sw, hcos, .of0 fun w hw => sin_pos_small x a j z zz sy cy sw hx ha hxx hinf c2 ((order_val hv Vzero).2.2 hs) (sp hs).symm hlt hsm hp w hw, p1, l1, l2⟩
    · exact ⟨cw, sn', hcos, .of0 fun w hw => sin_neg_small x a j z zz sy cy sn' hx ha hxx hinf c3 ((order_val hv Vzero).1 (by grind)) (sn (by grind)) hlt hsm hp w hw, p2, l1, l3⟩

theorem Cos_of {x r : Nat} (h : Fun1 13 x r) : Fun1 6 x r := by
  intro w hw
  have hc := h w hw
  go_enter Ybad.func6, Ybad.ntmps6
  go_wp2_with fail
  refine hc.mono ?_
  rintro e w' ⟨rfl, k, rfl⟩
  go_wp2_with fail
  go_ret
  exact ⟨rfl, k, rfl⟩
theorem Sin_of {x r : Nat} (h : Fun1 15 x r) : Fun1 8 x r := by
  intro w hw
  have hc := h w hw
  go_enter Ybad.func8, Ybad.ntmps8
  go_wp2_with fail
  refine hc.mono ?_
  rintro e w' ⟨rfl, k, rfl⟩
  go_wp2_with fail
  go_ret
  exact ⟨rfl, k, rfl⟩

end Go.Proofs.YbulkgjuDoor
