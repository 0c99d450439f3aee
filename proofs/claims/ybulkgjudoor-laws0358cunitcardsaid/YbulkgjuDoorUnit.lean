/- LawS0358CUnit: the numbers and the walk. -/
import Derived.Test.YbulkgjuDoorItem
namespace Go.Proofs.YbulkgjuDoor
open Go.RowKit
set_option linter.unusedVariables false

theorem Vnano : ∃ q, V 4472406533629990549 q ∧ 4835703278458516698824704 * q = 4835703278458517 := V_lin _ 4835703278458517 82 4835703278458516698824704 (by decide +kernel) (by decide +kernel)

theorem abs_le {d : Nat} {x : Rat} (hv : V d x) (hb : Bd (1000000000 * x) (9 / 10)) : FloatKind.f64.format.order (d % 9223372036854775808) 4472406533629990549 = some .lt := by
  obtain ⟨k, vk, ek⟩ := Vnano
  obtain ⟨y, vy, y0, hy⟩ := abs_val hv
  refine (order_val vy vk).1 ?_
  obtain ⟨a, b⟩ := hb
  rcases hy with rfl | rfl <;> grind

theorem nums {c s c2 s2 : Nat} (h1 : Pair c s) (h2 : Pair c2 s2) :
    ∃ v0 v1 a0 a1 a01 a2 n d cc d2, floatBits .mul .f64 c c2 = some v0 ∧ floatBits .mul .f64 c s2 = some v1 ∧ floatBits .mul .f64 v0 v0 = some a0 ∧ floatBits .mul .f64 v1 v1 = some a1 ∧ floatBits .add .f64 a0 a1 = some a01 ∧
      floatBits .mul .f64 s s = some a2 ∧ floatBits .add .f64 a01 a2 = some n ∧ floatBits .sub .f64 n 4607182418800017408 = some d ∧ floatBits .mul .f64 c c = some cc ∧ floatBits .sub .f64 a01 cc = some d2 ∧
      FloatKind.f64.format.order (d % 9223372036854775808) 4472406533629990549 = some .lt ∧ FloatKind.f64.format.order (d2 % 9223372036854775808) 4472406533629990549 = some .lt := by
  obtain ⟨x, y, vx, vy, p1, p2⟩ := h1
  obtain ⟨X, Y, vX, vY, p3, p4⟩ := h2
  have sx := sq_nonneg x
  have sy := sq_nonneg y
  have sX := sq_nonneg X
  have sY := sq_nonneg Y
  have bx : Bd x (11 / 10) := bd_of_sq (by grind) (by grind)
  have bY' : Bd y (11 / 10) := bd_of_sq (by grind) (by grind)
  have bX : Bd X (11 / 10) := bd_of_sq (by grind) (by grind)
  have bY : Bd Y (11 / 10) := bd_of_sq (by grind) (by grind)
  have bxX : Bd (x * X) (121 / 100) := bd_le (bd_mul bx bX) (by grind)
  have bxY : Bd (x * Y) (121 / 100) := bd_le (bd_mul bx bY) (by grind)
  have bxX2 : Bd (x * X * (x * X)) (3 / 2) := bd_le (bd_mul bxX bxX) (by grind)
  have bxY2 : Bd (x * Y * (x * Y)) (3 / 2) := bd_le (bd_mul bxY bxY) (by grind)
  have bxx : Bd (x * x) (121 / 100) := bd_le (bd_mul bx bx) (by grind)
  have byy : Bd (y * y) (121 / 100) := bd_le (bd_mul bY' bY') (by grind)
  have hT : Bd (10000000000 * (x * x * (X * X + Y * Y - 1))) (121 / 100) := by
    have := bd_mul bxx (⟨p3, p4⟩ : Bd (10000000000 * (X * X + Y * Y - 1)) 1)
    obtain ⟨a, b⟩ := this
    constructor <;> grind
  have eT : x * X * (x * X) + x * Y * (x * Y) = x * x + x * x * (X * X + Y * Y - 1) := by grind
  obtain ⟨t1, t2⟩ := hT
  generalize hTT : x * x * (X * X + Y * Y - 1) = T at *
  have bsum : Bd (x * X * (x * X) + x * Y * (x * Y)) 2 := by
    rw [eT]; obtain ⟨a, b⟩ := bxx; constructor <;> grind
  have bn : Bd (x * X * (x * X) + x * Y * (x * Y) + y * y) 2 := by
    rw [eT]; constructor <;> grind
  obtain ⟨v0, e0, q0⟩ := A_mul2 (A.exact vx) (A.exact vX) (bd_le bx (by grind)) (bd_le bX (by grind)) (by grind) (by grind)
  obtain ⟨v1, e1, q1⟩ := A_mul2 (A.exact vx) (A.exact vY) (bd_le bx (by grind)) (bd_le bY (by grind)) (by grind) (by grind)
  obtain ⟨a0, e2, q2⟩ := A_mul2 q0 q0 (bd_le bxX (by grind)) (bd_le bxX (by grind)) (by grind) (by grind)
  obtain ⟨a1, e3, q3⟩ := A_mul2 q1 q1 (bd_le bxY (by grind)) (bd_le bxY (by grind)) (by grind) (by grind)
  obtain ⟨a01, e4, q4⟩ := A_add q2 q3 (bd_le bxX2 (by grind)) (bd_le bxY2 (by grind)) (by grind) (by grind)
  obtain ⟨a2, e5, q5⟩ := A_mul2 (A.exact vy) (A.exact vy) (bd_le bY' (by grind)) (bd_le bY' (by grind)) (by grind) (by grind)
  obtain ⟨n, e6, q6⟩ := A_add q4 q5 bsum (bd_le byy (by grind)) (by grind) (by grind)
  obtain ⟨d, e7, q7⟩ := A_sub q6 (A.exact Vone) bn (bdK _ _ (by decide +kernel)) (by grind) (by grind)
  obtain ⟨cc, e8, q8⟩ := A_mul2 (A.exact vx) (A.exact vx) (bd_le bx (by grind)) (bd_le bx (by grind)) (by grind) (by grind)
  obtain ⟨d2, e9, q9⟩ := A_sub q4 q8 bsum (bd_le bxx (by grind)) (by grind) (by grind)
  have he := e51_eq
  obtain ⟨z, vz, n1, n2⟩ := q7
  obtain ⟨z2, vz2, n3, n4⟩ := q9
  rw [eT] at n1 n2 n3 n4
  refine ⟨v0, v1, a0, a1, a01, a2, n, d, cc, d2, e0, e1, e2, e3, e4, e5, e6, e7, e8, e9, abs_le vz ?_, abs_le vz2 ?_⟩
  · clear q0 q1 q2 q3 q4 q5 q6 q8 bx bY' bX bY bxX bxY bxX2 bxY2 bxx byy bsum bn n3 n4 vz2 eT hTT
    generalize x * x = xx at *
    generalize y * y = yy at *
    constructor <;> grind
  · clear q0 q1 q2 q3 q4 q5 q6 q8 bx bY' bX bY bxX bxY bxX2 bxY2 bxx byy bsum bn n1 n2 vz eT hTT
    generalize x * x = xx at *
    generalize y * y = yy at *
    constructor <;> grind


/-- A word whose absolute value is at most 1e300 is finite. -/
theorem fin_of_le {x : Nat} (hx : x < 18446744073709551616) (h : FloatKind.f64.format.order (x % 9223372036854775808) 9094988921128908188 = some .lt ∨ FloatKind.f64.format.order (x % 9223372036854775808) 9094988921128908188 = some .eq) : ∃ q, V x q ∧ Bd q (p2 997) := by
  obtain ⟨k, vk, hk⟩ := V300
  have hr := read_mod x
  cases classOf x with
  | fin q hv =>
    obtain ⟨y, vy, y0, hy⟩ := abs_val hv
    refine ⟨q, hv, ?_⟩
    have hle : y ≤ k := by
      refine Rat.not_lt.1 fun hlt => ?_
      have := (order_val vy vk).2.2 hlt
      change FloatKind.f64.format.order (x % 9223372036854775808) 9094988921128908188 = _ at this
      rw [this] at h
      rcases h with h | h <;> cases h
    rcases hy with rfl | rfl <;> constructor <;> grind
  | inf s h' =>
    rw [h'] at hr
    dsimp only at hr
    have : FloatKind.f64.format.order (x % 9223372036854775808) 9094988921128908188 = some .gt := by
      obtain ⟨s', m, e, h2, _⟩ := vk
      show Ieee.double.order (x % 2 ^ 63) _ = _
      unfold Ieee.Format.order; rw [hr, h2]; rfl
    rw [this] at h
    rcases h with h | h <;> cases h
  | nan s f h' =>
    rw [h'] at hr
    dsimp only at hr
    have : FloatKind.f64.format.order (x % 9223372036854775808) 9094988921128908188 = none := by
      show Ieee.double.order (x % 2 ^ 63) _ = _
      unfold Ieee.Format.order; rw [hr]; rfl
    rw [this] at h
    rcases h with h | h <;> cases h

theorem unit_out1 (lat lon : Nat) (index : Int) (hlat : lat < 18446744073709551616) (h : ((FloatKind.f64.format.order (lat % 9223372036854775808) 9094988921128908188 == some .lt) || (FloatKind.f64.format.order (lat % 9223372036854775808) 9094988921128908188 == some .eq)) = false) (w : World) :
    Calls Ybad.prog 4 #[.float .f64 lat, .float .f64 lon, .int .i64 index] w fun e w' => e = .returned (.bool true) ∧ Below w.heap.size w w' := by
  go_enter Ybad.func4, Ybad.ntmps4
  go_wp2_with fail
  refine (abs_any lat hlat _).mono ?_
  rintro e w' ⟨rfl, rfl⟩
  go_wp2_with fail
  all_goals (go_ret; exact ⟨rfl, Below.refl _ _⟩)
theorem unit_out2 (lat lon : Nat) (index : Int) (hlat : lat < 18446744073709551616) (hlon : lon < 18446744073709551616) (h1 : ((FloatKind.f64.format.order (lat % 9223372036854775808) 9094988921128908188 == some .lt) || (FloatKind.f64.format.order (lat % 9223372036854775808) 9094988921128908188 == some .eq)) = true) (h : ((FloatKind.f64.format.order (lon % 9223372036854775808) 9094988921128908188 == some .lt) || (FloatKind.f64.format.order (lon % 9223372036854775808) 9094988921128908188 == some .eq)) = false) (w : World) :
    Calls Ybad.prog 4 #[.float .f64 lat, .float .f64 lon, .int .i64 index] w fun e w' => e = .returned (.bool true) ∧ Below w.heap.size w w' := by
  go_enter Ybad.func4, Ybad.ntmps4
  go_wp2_with fail
  refine (abs_any lat hlat _).mono ?_
  rintro e w' ⟨rfl, rfl⟩
  go_wp2_with fail
  refine (abs_any lon hlon _).mono ?_
  rintro e w' ⟨rfl, rfl⟩
  go_wp2_with fail
  all_goals (go_ret; exact ⟨rfl, Below.refl _ _⟩)

set_option maxRecDepth 100000 in
set_option maxHeartbeats 4000000 in
theorem unit_in (lat lon rlat c s v0 v1 a0 a1 a01 a2 n d cc d2 : Nat) (index : Int) (hlat : lat < 18446744073709551616) (hlon : lon < 18446744073709551616)
    (h1 : ((FloatKind.f64.format.order (lat % 9223372036854775808) 9094988921128908188 == some .lt) || (FloatKind.f64.format.order (lat % 9223372036854775808) 9094988921128908188 == some .eq)) = true) (h2 : ((FloatKind.f64.format.order (lon % 9223372036854775808) 9094988921128908188 == some .lt) || (FloatKind.f64.format.order (lon % 9223372036854775808) 9094988921128908188 == some .eq)) = true)
    (e2 : floatBits .mul .f64 v0 v0 = some a0) (e3 : floatBits .mul .f64 v1 v1 = some a1) (e4 : floatBits .add .f64 a0 a1 = some a01) (e5 : floatBits .mul .f64 s s = some a2) (e6 : floatBits .add .f64 a01 a2 = some n) (e7 : floatBits .sub .f64 n 4607182418800017408 = some d) (e8 : floatBits .mul .f64 c c = some cc) (e9 : floatBits .sub .f64 a01 cc = some d2)
    (o1 : FloatKind.f64.format.order (d % 9223372036854775808) 4472406533629990549 = some .lt) (o2 : FloatKind.f64.format.order (d2 % 9223372036854775808) 4472406533629990549 = some .lt) (w : World)
    (hit : Calls Ybad.prog 5 #[.agg #[.float .f64 lat, .float .f64 lon], .int .i64 index] w fun e w' => e = .returned (.agg #[.float .f64 v0, .float .f64 v1, .float .f64 s, .float .f64 rlat, .float .f64 c, .float .f64 lon, .int .i64 index]) ∧ Below w.heap.size w w') :
    Calls Ybad.prog 4 #[.float .f64 lat, .float .f64 lon, .int .i64 index] w fun e w' => e = .returned (.bool true) ∧ Below w.heap.size w w' := by
  have hd := floatBits_lt e7
  have hd2 := floatBits_lt e9
  go_enter Ybad.func4, Ybad.ntmps4
  go_wp2_with fail
  refine (abs_any lat hlat _).mono ?_
  rintro e w' ⟨rfl, rfl⟩
  go_wp2_with fail
  refine (abs_any lon hlon _).mono ?_
  rintro e w' ⟨rfl, rfl⟩
  clear hlat hlon
  go_wp2_with fail
  refine hit.mono ?_
  rintro e w1 ⟨rfl, bel⟩
  clear hit h1 h2
  have hle : w'.heap.size ≤ w1.heap.size := by obtain ⟨_, _, _, hle, _⟩ := bel; exact hle
  go_wp2_with fail
  have hbW : (w1.alloc (.cells #[.float .f64 0, .float .f64 0, .float .f64 0, .float .f64 0, .float .f64 0, .float .f64 0, .int .i64 0] 25)).heap[w1.heap.size]? = some (.cells #[.float .f64 0, .float .f64 0, .float .f64 0, .float .f64 0, .float .f64 0, .float .f64 0, .int .i64 0] 25) := heap_alloc_new _ _
  obtain ⟨rW, zW⟩ := blockRow hbW
  have Q0 : RowE (w1.alloc (.cells #[.float .f64 0, .float .f64 0, .float .f64 0, .float .f64 0, .float .f64 0, .float .f64 0, .int .i64 0] 25)) w1.heap.size 7 := ⟨fun j hj => by rw [rW j]; simp; omega, zW⟩
  have bel' : Below w'.heap.size w' (w1.alloc (.cells #[.float .f64 0, .float .f64 0, .float .f64 0, .float .f64 0, .float .f64 0, .float .f64 0, .int .i64 0] 25)) := bel.alloc hle _
  generalize (w1.alloc (.cells #[.float .f64 0, .float .f64 0, .float .f64 0, .float .f64 0, .float .f64 0, .float .f64 0, .int .i64 0] 25)) = W3 at *
  generalize w1.heap.size = B2 at *
  clear hbW rW zW bel
  have Q1 := Q0.set 0 (by omega) (.float .f64 v0)
  have Q2 := Q1.set 1 (by omega) (.float .f64 v1)
  have Q3 := Q2.set 2 (by omega) (.float .f64 s)
  have Q4 := Q3.set 3 (by omega) (.float .f64 rlat)
  have Q5 := Q4.set 4 (by omega) (.float .f64 c)
  have Q6 := Q5.set 5 (by omega) (.float .f64 lon)
  have S0 := Q0.store 0 (by omega) (.float .f64 v0) rfl
  have S1 := Q1.store 1 (by omega) (.float .f64 v1) rfl
  have S2 := Q2.store 2 (by omega) (.float .f64 s) rfl
  have S3 := Q3.store 3 (by omega) (.float .f64 rlat) rfl
  have S4 := Q4.store 4 (by omega) (.float .f64 c) rfl
  have S5 := Q5.store 5 (by omega) (.float .f64 lon) rfl
  rw [S0]
  clear S0
  simp only [Result.andThen_ok]
  rw [S1]
  clear S1
  simp only [Result.andThen_ok]
  rw [S2]
  clear S2
  simp only [Result.andThen_ok]
  rw [S3]
  clear S3
  simp only [Result.andThen_ok]
  rw [S4]
  clear S4
  simp only [Result.andThen_ok]
  rw [S5]
  clear S5
  simp only [Result.andThen_ok]
  have hcell := setsFrom_cell (B := B2) (n := 7) [.float .f64 v0, .float .f64 v1, .float .f64 s, .float .f64 rlat, .float .f64 c, .float .f64 lon] W3 0 Q0 (by simp)
  have hbel := setsFrom_below (B := B2) [.float .f64 v0, .float .f64 v1, .float .f64 s, .float .f64 rlat, .float .f64 c, .float .f64 lon] hle W3 0 bel'
  have t0 := hcell 0 (by simp)
  have t1 := hcell 1 (by simp)
  have t2 := hcell 2 (by simp)
  have t3 := hcell 3 (by simp)
  have t4 := hcell 4 (by simp)
  have t5 := hcell 5 (by simp)
  have R6 := Q6
  clear Q0 Q1 Q2 Q3 Q4 Q5 Q6 hcell bel'
  simp only [setsFrom, Nat.zero_add, Nat.reduceAdd, List.getElem?_cons_zero, List.getElem?_cons_succ] at t0 t1 t2 t3 t4 t5 hbel
  generalize (((((W3.setCell ⟨B2, 0, none⟩ (.float .f64 v0)).setCell ⟨B2, 1, none⟩ (.float .f64 v1)).setCell ⟨B2, 2, none⟩ (.float .f64 s)).setCell ⟨B2, 3, none⟩ (.float .f64 rlat)).setCell ⟨B2, 4, none⟩ (.float .f64 c)).setCell ⟨B2, 5, none⟩ (.float .f64 lon) = W6 at *
  obtain ⟨u6, h6⟩ := Option.isSome_iff_exists.1 (R6.1 6 (by omega))
  have f6 := R6.2 6
  simp only [h6, f6, Bool.false_eq_true, if_false, Result.andThen_ok]
  have oth : ∀ j, j < 6 → (W6.setCell ⟨B2, 6, none⟩ (.int .i64 index)).cell? ⟨B2, j, none⟩ = W6.cell? ⟨B2, j, none⟩ := fun j hj => World.cell?_setCell_other _ _ _ _ (by intro h; simp only [Addr.mk.injEq] at h; omega)
  have y0 := (oth 0 (by omega)).trans t0
  have y1 := (oth 1 (by omega)).trans t1
  have y2 := (oth 2 (by omega)).trans t2
  have y3 := (oth 3 (by omega)).trans t3
  have y4 := (oth 4 (by omega)).trans t4
  have y5 := (oth 5 (by omega)).trans t5
  have y6 := World.cell?_setCell_same W6 ⟨B2, 6, none⟩ (.int .i64 index) h6
  have hb7 := hbel.setCell (p := ⟨B2, 6, none⟩) hle (.int .i64 index)
  clear oth t0 t1 t2 t3 t4 t5 hbel h6 f6 R6
  generalize W6.setCell ⟨B2, 6, none⟩ (.int .i64 index) = W7 at *
  have g2 := fp e2; have g3 := fp e3; have g4 := fp e4; have g5 := fp e5; have g6 := fp e6; have g7 := fp e7; have g8 := fp e8; have g9 := fp e9
  clear e2 e3 e4 e5 e6 e7 e8 e9
  go_wp2_with fail
  refine (abs_any d hd _).mono ?_
  rintro e w2 ⟨rfl, rfl⟩
  rw [show (d % 9223372036854775808) = d % 9223372036854775808 from rfl]
  go_wp2_with fail
  refine (abs_any d2 hd2 _).mono ?_
  rintro e w2 ⟨rfl, rfl⟩
  go_wp2_with fail
  go_ret
  exact ⟨rfl, hb7⟩

theorem bool_or {o : Option Ordering} (h : ((o == some .lt) || (o == some .eq)) = true) : o = some .lt ∨ o = some .eq := by
  rcases o with _ | _ | _ | _ <;> simp_all

theorem unit_walk (lat lon : Nat) (index : Int) (hlat : lat < 18446744073709551616) (hlon : lon < 18446744073709551616) (w : World) (hw : LaidW w) :
    Calls Ybad.prog 4 #[.float .f64 lat, .float .f64 lon, .int .i64 index] w fun e w' => e = .returned (.bool true) ∧ Below w.heap.size w w' := by
  cases h1 : ((FloatKind.f64.format.order (lat % 9223372036854775808) 9094988921128908188 == some .lt) || (FloatKind.f64.format.order (lat % 9223372036854775808) 9094988921128908188 == some .eq)) with
  | false => exact unit_out1 lat lon index hlat h1 w
  | true =>
    cases h2 : ((FloatKind.f64.format.order (lon % 9223372036854775808) 9094988921128908188 == some .lt) || (FloatKind.f64.format.order (lon % 9223372036854775808) 9094988921128908188 == some .eq)) with
    | false => exact unit_out2 lat lon index hlat hlon h1 h2 w
    | true =>
      obtain ⟨q1, v1, b1⟩ := fin_of_le hlat (bool_or h1)
      obtain ⟨q2, v2, b2⟩ := fin_of_le hlon (bool_or h2)
      obtain ⟨rlat, u1, l1, vr1, hr1⟩ := radians_fin lat q1 v1 b1
      obtain ⟨rlon, u2, l2, vr2, hr2⟩ := radians_fin lon q2 v2 b2
      obtain ⟨c, s, hc, hs, hp, _, _⟩ := trig_fin rlat u1 l1 vr1
      obtain ⟨c2, s2, hc2, hs2, hp2, _, _⟩ := trig_fin rlon u2 l2 vr2
      obtain ⟨v0, v1', a0, a1, a01, a2, n, d, cc, d2, e0, e1, e2, e3, e4, e5, e6, e7, e8, e9, o1, o2⟩ := nums hp hp2
      exact unit_in lat lon rlat c s v0 v1' a0 a1 a01 a2 n d cc d2 index hlat hlon h1 h2 e2 e3 e4 e5 e6 e7 e8 e9 o1 o2 w
        (item_any lat lon rlat rlon c s c2 s2 v0 v1' index hr1 hr2 (Cos_of hc) (Sin_of hs) (Cos_of hc2) (Sin_of hs2) e0 e1 w hw)

end Go.Proofs.YbulkgjuDoor
