/- math.cos and math.sin of a finite word: the walks. -/
import Derived.Test.YbulkgjuDoorRed
namespace Go.Proofs.YbulkgjuDoor
open Go.RowKit
set_option linter.unusedVariables false

theorem LaidW.drew {w : World} (h : LaidW w) : LaidW w.drew := ⟨h.s0, h.s1, h.s2, h.s3, h.s4, h.s5, h.c0, h.c1, h.c2, h.c3, h.c4, h.c5, h.m⟩
theorem fp {op : BinOp} {a b r : Nat} (h : floatBits op .f64 a b = some r) : ∀ (t : TypeId) (w : World), (binOp op t (.float .f64 a) (.float .f64 b)).run Ybad.prog w = .ok (.float .f64 r) w := fun t w => run_float_arith w op t .f64 a b r h
theorem fi {a : Nat} {n : Int} (h : floatToIntVal .f64 a .u64 = some n) : ∀ w, (convert 22 31 (.float .f64 a)).run Ybad.prog w = .ok (.int .u64 n) w := fun w => run_convert_float_int w 22 31 .f64 .u64 a n (by rw [Ybad.underlying22]; rfl) Ybad.underlying31 h

theorem neg_run (b : Nat) (w : World) : (Op.unary .neg (.float .f64 b)).run Ybad.prog w = .ok (.float .f64 (Op.negFloat .f64 b)) w := rfl

/-- The words of the two polynomials at z. -/
structure Polys (z zz sy cy : Nat) : Prop where
  q : floatBits .mul .f64 z z = some zz
  s : ∃ m0 r1 r2 r3 r4 r5 r6 r7 r8 r9 r10 t1, floatBits .mul .f64 z zz = some m0 ∧ floatBits .mul .f64 4460209587652500685 zz = some r1 ∧ floatBits .add .f64 r1 13716528389658582877 = some r2 ∧ floatBits .mul .f64 r2 zz = some r3 ∧ floatBits .add .f64 r3 4523617212962785441 = some r4 ∧
      floatBits .mul .f64 r4 zz = some r5 ∧ floatBits .add .f64 r5 13774824197404483331 = some r6 ∧ floatBits .mul .f64 r6 zz = some r7 ∧ floatBits .add .f64 r7 4575957461383575504 = some r8 ∧ floatBits .mul .f64 r8 zz = some r9 ∧ floatBits .add .f64 r9 13818544856648471880 = some r10 ∧
      floatBits .mul .f64 m0 r10 = some t1 ∧ floatBits .add .f64 z t1 = some sy
  c : ∃ g0 g1 g2 r1 r2 r3 r4 r5 r6 r7 r8 r9 r10 t1, floatBits .mul .f64 4602678819172646912 zz = some g0 ∧ floatBits .sub .f64 4607182418800017408 g0 = some g1 ∧ floatBits .mul .f64 zz zz = some g2 ∧ floatBits .mul .f64 13666448263388469915 zz = some r1 ∧ floatBits .add .f64 r1 4477121864728985349 = some r2 ∧ floatBits .mul .f64 r2 zz = some r3 ∧ floatBits .add .f64 r3 13732177093698800582 = some r4 ∧
      floatBits .mul .f64 r4 zz = some r5 ∧ floatBits .add .f64 r5 4537941361668146421 = some r6 ∧ floatBits .mul .f64 r6 zz = some r7 ∧ floatBits .add .f64 r7 13787419979223748497 = some r8 ∧ floatBits .mul .f64 r8 zz = some r9 ∧ floatBits .add .f64 r9 4586165620538955083 = some r10 ∧
      floatBits .mul .f64 g2 r10 = some t1 ∧ floatBits .add .f64 g1 t1 = some cy

/-- The words of the reduction below 2^29. -/
def Small (a j z : Nat) : Prop := ∃ (t n yw m1 d1 m2 d2 m3 : Nat), floatBits .mul .f64 a 4608412980311869571 = some t ∧ floatToIntVal .f64 t .u64 = some (n : Int) ∧ floatBits .mul .f64 yw 4605249456957292544 = some m1 ∧ floatBits .sub .f64 a m1 = some d1 ∧ floatBits .mul .f64 yw 4495793288086814720 = some m2 ∧ floatBits .sub .f64 d1 m2 = some d2 ∧
      floatBits .mul .f64 yw 4388835458085048688 = some m3 ∧ floatBits .sub .f64 d2 m3 = some z ∧ n ≤ 1073741824 ∧
      ((bits .and .u64 (n : Int) 1 = 0 ∧ bits .and .u64 (n : Int) 7 = (j : Int) ∧ yw = floatOfInt .f64 (n : Int)) ∨ (bits .and .u64 (n : Int) 1 = 1 ∧ bits .and .u64 ((n : Int) + 1) 7 = (j : Int) ∧ floatBits .add .f64 (floatOfInt .f64 (n : Int)) 4607182418800017408 = some yw))

set_option maxRecDepth 100000 in
set_option maxHeartbeats 8000000 in
theorem cos_big (x a j z zz sy cy rw : Nat) (hx : x < 18446744073709551616) (ha : x % 9223372036854775808 = a) (hxx : FloatKind.f64.format.order x x = some .eq) (hinf : (FloatKind.f64.format.order a 9218868437227405311 == some .gt) = false)
    (hj : (j = 0 ∧ rw = cy) ∨ (j = 2 ∧ rw = Op.negFloat .f64 sy) ∨ (j = 4 ∧ rw = Op.negFloat .f64 cy) ∨ (j = 6 ∧ rw = sy)) (hge : FloatKind.f64.format.order a 4737786807993761792 = some .gt ∨ FloatKind.f64.format.order a 4737786807993761792 = some .eq) (hp : Polys z zz sy cy) (w : World) (hw : LaidW w)
    (ht : Calls Ybad.prog 20 #[.float .f64 a] w fun e w' => e = .returned (.tuple #[.int .u64 (j : Int), .float .f64 z]) ∧ w' = w.drew.drew.drew) :
    Calls Ybad.prog 13 #[.float .f64 x] w fun e w' => e = .returned (.float .f64 rw) ∧ w' = w.drew.drew.drew := by
  obtain ⟨hq, ⟨m0, r1, r2, r3, r4, r5, r6, r7, r8, r9, r10, t1, e0, e1, e2, e3, e4, e5, e6, e7, e8, e9, e10, e11, e12⟩, g0, g1, g2, k1, k2, k3, k4, k5, k6, k7, k8, k9, k10, k11, f0, f1, f2, f3, f4, f5, f6, f7, f8, f9, f10, f11, f12, f13, f14⟩ := hp
  obtain ⟨w0, w1, w2, w3, w4, w5, v0, v1, v2, v3, v4, v5, _⟩ := hw.drew.drew.drew
  have A := fp hq
  have hneg := fun (b : Nat) (w : World) => neg_run b w
  have B0 := fp e0; have B1 := fp e1; have B2 := fp e2; have B3 := fp e3; have B4 := fp e4; have B5 := fp e5; have B6 := fp e6; have B7 := fp e7; have B8 := fp e8; have B9 := fp e9; have B10 := fp e10; have B11 := fp e11; have B12 := fp e12
  have C0 := fp f0; have C1 := fp f1; have C2 := fp f2; have C3 := fp f3; have C4 := fp f4; have C5 := fp f5; have C6 := fp f6; have C7 := fp f7; have C8 := fp f8; have C9 := fp f9; have C10 := fp f10; have C11 := fp f11; have C12 := fp f12; have C13 := fp f13; have C14 := fp f14
  clear hq e0 e1 e2 e3 e4 e5 e6 e7 e8 e9 e10 e11 e12 f0 f1 f2 f3 f4 f5 f6 f7 f8 f9 f10 f11 f12 f13 f14 hw
  go_enter Ybad.func13, Ybad.ntmps13
  go_wp2_with fail
  refine (isNaN_any x _).mono ?_
  rintro e w' ⟨rfl, rfl⟩
  rw [hxx]
  go_wp2_with fail
  refine (isInf_any x hx _).mono ?_
  rintro e w' ⟨rfl, rfl⟩
  rw [ha, hinf]
  go_wp2_with fail
  refine (abs_any x hx _).mono ?_
  rintro e w' ⟨rfl, rfl⟩
  rw [ha]
  clear hinf hxx hx ha
  rcases hge with hge | hge <;> rcases hj with ⟨rfl, rfl⟩ | ⟨rfl, rfl⟩ | ⟨rfl, rfl⟩ | ⟨rfl, rfl⟩ <;> {
    go_wp2_with fail
    refine ht.mono ?_
    rintro e w' ⟨rfl, rfl⟩
    clear ht
    go_wp2_with fail
    go_ret
    exact ⟨rfl, rfl⟩ }

set_option maxRecDepth 100000 in
set_option maxHeartbeats 8000000 in
theorem cos_small (x a j z zz sy cy rw : Nat) (hx : x < 18446744073709551616) (ha : x % 9223372036854775808 = a) (hxx : FloatKind.f64.format.order x x = some .eq) (hinf : (FloatKind.f64.format.order a 9218868437227405311 == some .gt) = false)
    (hj : (j = 0 ∧ rw = cy) ∨ (j = 2 ∧ rw = Op.negFloat .f64 sy) ∨ (j = 4 ∧ rw = Op.negFloat .f64 cy) ∨ (j = 6 ∧ rw = sy)) (hlt : FloatKind.f64.format.order a 4737786807993761792 = some .lt) (hs : Small a j z) (hp : Polys z zz sy cy) (w : World) (hw : LaidW w) :
    Calls Ybad.prog 13 #[.float .f64 x] w fun e w' => e = .returned (.float .f64 rw) ∧ w' = w := by
  obtain ⟨hq, ⟨m0, r1, r2, r3, r4, r5, r6, r7, r8, r9, r10, t1, e0, e1, e2, e3, e4, e5, e6, e7, e8, e9, e10, e11, e12⟩, g0, g1, g2, k1, k2, k3, k4, k5, k6, k7, k8, k9, k10, k11, f0, f1, f2, f3, f4, f5, f6, f7, f8, f9, f10, f11, f12, f13, f14⟩ := hp
  obtain ⟨w0, w1, w2, w3, w4, w5, v0, v1, v2, v3, v4, v5, _⟩ := (show LaidW w from hw)
  have A := fp hq
  have hneg := fun (b : Nat) (w : World) => neg_run b w
  have B0 := fp e0; have B1 := fp e1; have B2 := fp e2; have B3 := fp e3; have B4 := fp e4; have B5 := fp e5; have B6 := fp e6; have B7 := fp e7; have B8 := fp e8; have B9 := fp e9; have B10 := fp e10; have B11 := fp e11; have B12 := fp e12
  have C0 := fp f0; have C1 := fp f1; have C2 := fp f2; have C3 := fp f3; have C4 := fp f4; have C5 := fp f5; have C6 := fp f6; have C7 := fp f7; have C8 := fp f8; have C9 := fp f9; have C10 := fp f10; have C11 := fp f11; have C12 := fp f12; have C13 := fp f13; have C14 := fp f14
  clear hq e0 e1 e2 e3 e4 e5 e6 e7 e8 e9 e10 e11 e12 f0 f1 f2 f3 f4 f5 f6 f7 f8 f9 f10 f11 f12 f13 f14 hw
  obtain ⟨t, n, yw, m1, d1, m2, d2, m3, x1, x2, x3, x4, x5, x6, x7, x8, hn, hpar⟩ := hs
  have D1 := fp x1; have D2 := fi x2; have D3 := fp x3; have D4 := fp x4; have D5 := fp x5; have D6 := fp x6; have D7 := fp x7; have D8 := fp x8
  clear x1 x2 x3 x4 x5 x6 x7 x8
  go_enter Ybad.func13, Ybad.ntmps13
  go_wp2_with fail
  refine (isNaN_any x _).mono ?_
  rintro e w' ⟨rfl, rfl⟩
  rw [hxx]
  go_wp2_with fail
  refine (isInf_any x hx _).mono ?_
  rintro e w' ⟨rfl, rfl⟩
  rw [ha, hinf]
  go_wp2_with fail
  refine (abs_any x hx _).mono ?_
  rintro e w' ⟨rfl, rfl⟩
  rw [ha]
  clear hinf hxx hx ha
  rcases hpar with ⟨p1, p2, rfl⟩ | ⟨p1, p2, x9⟩
  · rcases hj with ⟨rfl, rfl⟩ | ⟨rfl, rfl⟩ | ⟨rfl, rfl⟩ | ⟨rfl, rfl⟩ <;> {
      go_wp2_with fail
      go_ret
      exact ⟨rfl, rfl⟩ }
  · have D9 := fp x9
    clear x9
    rcases hj with ⟨rfl, rfl⟩ | ⟨rfl, rfl⟩ | ⟨rfl, rfl⟩ | ⟨rfl, rfl⟩ <;> {
      go_wp2_with fail
      go_ret
      exact ⟨rfl, rfl⟩ }

set_option maxRecDepth 100000 in
set_option maxHeartbeats 8000000 in
theorem sin_pos_big (x a j z zz sy cy rw : Nat) (hx : x < 18446744073709551616) (ha : x % 9223372036854775808 = a) (hxx : FloatKind.f64.format.order x x = some .eq) (hinf : (FloatKind.f64.format.order a 9218868437227405311 == some .gt) = false)
    (hj : (j = 0 ∧ rw = sy) ∨ (j = 2 ∧ rw = cy) ∨ (j = 4 ∧ rw = Op.negFloat .f64 sy) ∨ (j = 6 ∧ rw = Op.negFloat .f64 cy)) (hsg : FloatKind.f64.format.order x 0 = some .gt) (hxa : x = a) (hge : FloatKind.f64.format.order a 4737786807993761792 = some .gt ∨ FloatKind.f64.format.order a 4737786807993761792 = some .eq) (hp : Polys z zz sy cy) (w : World) (hw : LaidW w)
    (ht : Calls Ybad.prog 20 #[.float .f64 a] w fun e w' => e = .returned (.tuple #[.int .u64 (j : Int), .float .f64 z]) ∧ w' = w.drew.drew.drew) :
    Calls Ybad.prog 15 #[.float .f64 x] w fun e w' => e = .returned (.float .f64 rw) ∧ w' = w.drew.drew.drew := by
  subst hxa
  obtain ⟨hq, ⟨m0, r1, r2, r3, r4, r5, r6, r7, r8, r9, r10, t1, e0, e1, e2, e3, e4, e5, e6, e7, e8, e9, e10, e11, e12⟩, g0, g1, g2, k1, k2, k3, k4, k5, k6, k7, k8, k9, k10, k11, f0, f1, f2, f3, f4, f5, f6, f7, f8, f9, f10, f11, f12, f13, f14⟩ := hp
  obtain ⟨w0, w1, w2, w3, w4, w5, v0, v1, v2, v3, v4, v5, _⟩ := hw.drew.drew.drew
  have A := fp hq
  have hneg := fun (b : Nat) (w : World) => neg_run b w
  have B0 := fp e0; have B1 := fp e1; have B2 := fp e2; have B3 := fp e3; have B4 := fp e4; have B5 := fp e5; have B6 := fp e6; have B7 := fp e7; have B8 := fp e8; have B9 := fp e9; have B10 := fp e10; have B11 := fp e11; have B12 := fp e12
  have C0 := fp f0; have C1 := fp f1; have C2 := fp f2; have C3 := fp f3; have C4 := fp f4; have C5 := fp f5; have C6 := fp f6; have C7 := fp f7; have C8 := fp f8; have C9 := fp f9; have C10 := fp f10; have C11 := fp f11; have C12 := fp f12; have C13 := fp f13; have C14 := fp f14
  clear hq e0 e1 e2 e3 e4 e5 e6 e7 e8 e9 e10 e11 e12 f0 f1 f2 f3 f4 f5 f6 f7 f8 f9 f10 f11 f12 f13 f14 hw
  go_enter Ybad.func15, Ybad.ntmps15
  go_wp2_with fail
  refine (isNaN_any x _).mono ?_
  rintro e w' ⟨rfl, rfl⟩
  rw [hxx]
  go_wp2_with fail
  refine (isInf_any x hx _).mono ?_
  rintro e w' ⟨rfl, rfl⟩
  rw [ha, hinf]
  clear hinf hxx hx ha
  rcases hge with hge | hge <;> rcases hj with ⟨rfl, rfl⟩ | ⟨rfl, rfl⟩ | ⟨rfl, rfl⟩ | ⟨rfl, rfl⟩ <;> {
    go_wp2_with fail
    refine ht.mono ?_
    rintro e w' ⟨rfl, rfl⟩
    clear ht
    go_wp2_with fail
    go_ret
    exact ⟨rfl, rfl⟩ }

set_option maxRecDepth 100000 in
set_option maxHeartbeats 8000000 in
theorem sin_pos_small (x a j z zz sy cy rw : Nat) (hx : x < 18446744073709551616) (ha : x % 9223372036854775808 = a) (hxx : FloatKind.f64.format.order x x = some .eq) (hinf : (FloatKind.f64.format.order a 9218868437227405311 == some .gt) = false)
    (hj : (j = 0 ∧ rw = sy) ∨ (j = 2 ∧ rw = cy) ∨ (j = 4 ∧ rw = Op.negFloat .f64 sy) ∨ (j = 6 ∧ rw = Op.negFloat .f64 cy)) (hsg : FloatKind.f64.format.order x 0 = some .gt) (hxa : x = a) (hlt : FloatKind.f64.format.order a 4737786807993761792 = some .lt) (hs : Small a j z) (hp : Polys z zz sy cy) (w : World) (hw : LaidW w) :
    Calls Ybad.prog 15 #[.float .f64 x] w fun e w' => e = .returned (.float .f64 rw) ∧ w' = w := by
  subst hxa
  obtain ⟨hq, ⟨m0, r1, r2, r3, r4, r5, r6, r7, r8, r9, r10, t1, e0, e1, e2, e3, e4, e5, e6, e7, e8, e9, e10, e11, e12⟩, g0, g1, g2, k1, k2, k3, k4, k5, k6, k7, k8, k9, k10, k11, f0, f1, f2, f3, f4, f5, f6, f7, f8, f9, f10, f11, f12, f13, f14⟩ := hp
  obtain ⟨w0, w1, w2, w3, w4, w5, v0, v1, v2, v3, v4, v5, _⟩ := (show LaidW w from hw)
  have A := fp hq
  have hneg := fun (b : Nat) (w : World) => neg_run b w
  have B0 := fp e0; have B1 := fp e1; have B2 := fp e2; have B3 := fp e3; have B4 := fp e4; have B5 := fp e5; have B6 := fp e6; have B7 := fp e7; have B8 := fp e8; have B9 := fp e9; have B10 := fp e10; have B11 := fp e11; have B12 := fp e12
  have C0 := fp f0; have C1 := fp f1; have C2 := fp f2; have C3 := fp f3; have C4 := fp f4; have C5 := fp f5; have C6 := fp f6; have C7 := fp f7; have C8 := fp f8; have C9 := fp f9; have C10 := fp f10; have C11 := fp f11; have C12 := fp f12; have C13 := fp f13; have C14 := fp f14
  clear hq e0 e1 e2 e3 e4 e5 e6 e7 e8 e9 e10 e11 e12 f0 f1 f2 f3 f4 f5 f6 f7 f8 f9 f10 f11 f12 f13 f14 hw
  obtain ⟨t, n, yw, m1, d1, m2, d2, m3, x1, x2, x3, x4, x5, x6, x7, x8, hn, hpar⟩ := hs
  have D1 := fp x1; have D2 := fi x2; have D3 := fp x3; have D4 := fp x4; have D5 := fp x5; have D6 := fp x6; have D7 := fp x7; have D8 := fp x8
  clear x1 x2 x3 x4 x5 x6 x7 x8
  go_enter Ybad.func15, Ybad.ntmps15
  go_wp2_with fail
  refine (isNaN_any x _).mono ?_
  rintro e w' ⟨rfl, rfl⟩
  rw [hxx]
  go_wp2_with fail
  refine (isInf_any x hx _).mono ?_
  rintro e w' ⟨rfl, rfl⟩
  rw [ha, hinf]
  clear hinf hxx hx ha
  rcases hpar with ⟨p1, p2, rfl⟩ | ⟨p1, p2, x9⟩
  · rcases hj with ⟨rfl, rfl⟩ | ⟨rfl, rfl⟩ | ⟨rfl, rfl⟩ | ⟨rfl, rfl⟩ <;> {
      go_wp2_with fail
      go_ret
      exact ⟨rfl, rfl⟩ }
  · have D9 := fp x9
    clear x9
    rcases hj with ⟨rfl, rfl⟩ | ⟨rfl, rfl⟩ | ⟨rfl, rfl⟩ | ⟨rfl, rfl⟩ <;> {
      go_wp2_with fail
      go_ret
      exact ⟨rfl, rfl⟩ }

set_option maxRecDepth 100000 in
set_option maxHeartbeats 8000000 in
theorem sin_neg_big (x a j z zz sy cy rw : Nat) (hx : x < 18446744073709551616) (ha : x % 9223372036854775808 = a) (hxx : FloatKind.f64.format.order x x = some .eq) (hinf : (FloatKind.f64.format.order a 9218868437227405311 == some .gt) = false)
    (hj : (j = 0 ∧ rw = Op.negFloat .f64 sy) ∨ (j = 2 ∧ rw = Op.negFloat .f64 cy) ∨ (j = 4 ∧ rw = sy) ∨ (j = 6 ∧ rw = cy)) (hsg : FloatKind.f64.format.order x 0 = some .lt) (hxa : Op.negFloat .f64 x = a) (hge : FloatKind.f64.format.order a 4737786807993761792 = some .gt ∨ FloatKind.f64.format.order a 4737786807993761792 = some .eq) (hp : Polys z zz sy cy) (w : World) (hw : LaidW w)
    (ht : Calls Ybad.prog 20 #[.float .f64 a] w fun e w' => e = .returned (.tuple #[.int .u64 (j : Int), .float .f64 z]) ∧ w' = w.drew.drew.drew) :
    Calls Ybad.prog 15 #[.float .f64 x] w fun e w' => e = .returned (.float .f64 rw) ∧ w' = w.drew.drew.drew := by
  obtain ⟨hq, ⟨m0, r1, r2, r3, r4, r5, r6, r7, r8, r9, r10, t1, e0, e1, e2, e3, e4, e5, e6, e7, e8, e9, e10, e11, e12⟩, g0, g1, g2, k1, k2, k3, k4, k5, k6, k7, k8, k9, k10, k11, f0, f1, f2, f3, f4, f5, f6, f7, f8, f9, f10, f11, f12, f13, f14⟩ := hp
  obtain ⟨w0, w1, w2, w3, w4, w5, v0, v1, v2, v3, v4, v5, _⟩ := hw.drew.drew.drew
  have A := fp hq
  have hneg := fun (b : Nat) (w : World) => neg_run b w
  have B0 := fp e0; have B1 := fp e1; have B2 := fp e2; have B3 := fp e3; have B4 := fp e4; have B5 := fp e5; have B6 := fp e6; have B7 := fp e7; have B8 := fp e8; have B9 := fp e9; have B10 := fp e10; have B11 := fp e11; have B12 := fp e12
  have C0 := fp f0; have C1 := fp f1; have C2 := fp f2; have C3 := fp f3; have C4 := fp f4; have C5 := fp f5; have C6 := fp f6; have C7 := fp f7; have C8 := fp f8; have C9 := fp f9; have C10 := fp f10; have C11 := fp f11; have C12 := fp f12; have C13 := fp f13; have C14 := fp f14
  clear hq e0 e1 e2 e3 e4 e5 e6 e7 e8 e9 e10 e11 e12 f0 f1 f2 f3 f4 f5 f6 f7 f8 f9 f10 f11 f12 f13 f14 hw
  go_enter Ybad.func15, Ybad.ntmps15
  go_wp2_with fail
  refine (isNaN_any x _).mono ?_
  rintro e w' ⟨rfl, rfl⟩
  rw [hxx]
  go_wp2_with fail
  refine (isInf_any x hx _).mono ?_
  rintro e w' ⟨rfl, rfl⟩
  rw [ha, hinf]
  clear hinf hxx hx ha
  rcases hge with hge | hge <;> rcases hj with ⟨rfl, rfl⟩ | ⟨rfl, rfl⟩ | ⟨rfl, rfl⟩ | ⟨rfl, rfl⟩ <;> {
    go_wp2_with fail
    refine ht.mono ?_
    rintro e w' ⟨rfl, rfl⟩
    clear ht
    go_wp2_with fail
    go_ret
    exact ⟨rfl, rfl⟩ }

set_option maxRecDepth 100000 in
set_option maxHeartbeats 8000000 in
theorem sin_neg_small (x a j z zz sy cy rw : Nat) (hx : x < 18446744073709551616) (ha : x % 9223372036854775808 = a) (hxx : FloatKind.f64.format.order x x = some .eq) (hinf : (FloatKind.f64.format.order a 9218868437227405311 == some .gt) = false)
    (hj : (j = 0 ∧ rw = Op.negFloat .f64 sy) ∨ (j = 2 ∧ rw = Op.negFloat .f64 cy) ∨ (j = 4 ∧ rw = sy) ∨ (j = 6 ∧ rw = cy)) (hsg : FloatKind.f64.format.order x 0 = some .lt) (hxa : Op.negFloat .f64 x = a) (hlt : FloatKind.f64.format.order a 4737786807993761792 = some .lt) (hs : Small a j z) (hp : Polys z zz sy cy) (w : World) (hw : LaidW w) :
    Calls Ybad.prog 15 #[.float .f64 x] w fun e w' => e = .returned (.float .f64 rw) ∧ w' = w := by
  obtain ⟨hq, ⟨m0, r1, r2, r3, r4, r5, r6, r7, r8, r9, r10, t1, e0, e1, e2, e3, e4, e5, e6, e7, e8, e9, e10, e11, e12⟩, g0, g1, g2, k1, k2, k3, k4, k5, k6, k7, k8, k9, k10, k11, f0, f1, f2, f3, f4, f5, f6, f7, f8, f9, f10, f11, f12, f13, f14⟩ := hp
  obtain ⟨w0, w1, w2, w3, w4, w5, v0, v1, v2, v3, v4, v5, _⟩ := (show LaidW w from hw)
  have A := fp hq
  have hneg := fun (b : Nat) (w : World) => neg_run b w
  have B0 := fp e0; have B1 := fp e1; have B2 := fp e2; have B3 := fp e3; have B4 := fp e4; have B5 := fp e5; have B6 := fp e6; have B7 := fp e7; have B8 := fp e8; have B9 := fp e9; have B10 := fp e10; have B11 := fp e11; have B12 := fp e12
  have C0 := fp f0; have C1 := fp f1; have C2 := fp f2; have C3 := fp f3; have C4 := fp f4; have C5 := fp f5; have C6 := fp f6; have C7 := fp f7; have C8 := fp f8; have C9 := fp f9; have C10 := fp f10; have C11 := fp f11; have C12 := fp f12; have C13 := fp f13; have C14 := fp f14
  clear hq e0 e1 e2 e3 e4 e5 e6 e7 e8 e9 e10 e11 e12 f0 f1 f2 f3 f4 f5 f6 f7 f8 f9 f10 f11 f12 f13 f14 hw
  obtain ⟨t, n, yw, m1, d1, m2, d2, m3, x1, x2, x3, x4, x5, x6, x7, x8, hn, hpar⟩ := hs
  have D1 := fp x1; have D2 := fi x2; have D3 := fp x3; have D4 := fp x4; have D5 := fp x5; have D6 := fp x6; have D7 := fp x7; have D8 := fp x8
  clear x1 x2 x3 x4 x5 x6 x7 x8
  go_enter Ybad.func15, Ybad.ntmps15
  go_wp2_with fail
  refine (isNaN_any x _).mono ?_
  rintro e w' ⟨rfl, rfl⟩
  rw [hxx]
  go_wp2_with fail
  refine (isInf_any x hx _).mono ?_
  rintro e w' ⟨rfl, rfl⟩
  rw [ha, hinf]
  clear hinf hxx hx ha
  rcases hpar with ⟨p1, p2, rfl⟩ | ⟨p1, p2, x9⟩
  · rcases hj with ⟨rfl, rfl⟩ | ⟨rfl, rfl⟩ | ⟨rfl, rfl⟩ | ⟨rfl, rfl⟩ <;> {
      go_wp2_with fail
      go_ret
      exact ⟨rfl, rfl⟩ }
  · have D9 := fp x9
    clear x9
    rcases hj with ⟨rfl, rfl⟩ | ⟨rfl, rfl⟩ | ⟨rfl, rfl⟩ | ⟨rfl, rfl⟩ <;> {
      go_wp2_with fail
      go_ret
      exact ⟨rfl, rfl⟩ }

end Go.Proofs.YbulkgjuDoor
