/- radians and newItem. -/
import Derived.Test.YbulkgjuDoorSinCos
import Derived.BigQuiet
import Derived.WalkSpells
import Derived.Handy
namespace Go.Proofs.YbulkgjuDoor
open Go.RowKit
set_option linter.unusedVariables false

theorem hid {p : Prop} (h : p) : Hid p := h

theorem Vpi : ∃ q, V 4614256656552045848 q ∧ 2251799813685248 * q = 7074237752028440 := V_lin _ 7074237752028440 51 2251799813685248 (by decide +kernel) (by decide +kernel)
theorem V180 : V 4640537203540230144 180 := by
  have := V_dy 4640537203540230144 false 6333186975989760 45 (by decide +kernel)
  rwa [show sgn false * ((6333186975989760 : Nat) : Rat) / ((2 ^ 45 : Nat) : Rat) = 180 by decide +kernel] at this
theorem V300 : ∃ q, V 9094988921128908188 q ∧ q ≤ p2 997 := by
  refine ⟨_, ⟨false, 6724873095247260, 944, by decide +kernel, rfl⟩, ?_⟩
  rw [show (997 : Int) = ((53 : Nat) : Int) + 944 from rfl, p2_add, p2_nat]
  have h1 : ((6724873095247260 : Nat) : Rat) ≤ ((2 ^ 53 : Nat) : Rat) := by decide +kernel
  have h2 := Rat.mul_nonneg (Rat.le_of_lt (p2_pos 944)) (show (0 : Rat) ≤ ((2 ^ 53 : Nat) : Rat) - ((6724873095247260 : Nat) : Rat) by grind)
  simp only [sgn, Bool.false_eq_true, if_false]
  generalize ((2 ^ 53 : Nat) : Rat) = M at *
  generalize ((6724873095247260 : Nat) : Rat) = m at *
  grind

theorem radians_fin (x : Nat) (q : Rat) (hv : V x q) (hq : Bd q (p2 997)) : ∃ r v, r < 18446744073709551616 ∧ V r v ∧ ∀ w, Calls Ybad.prog 11 #[.float .f64 x] w fun e w' => e = .returned (.float .f64 r) ∧ w' = w := by
  obtain ⟨k, vk, ek⟩ := Vpi
  have hP := p2_pos 997
  have e2 : p2 999 = 4 * p2 997 := by
    rw [show (999 : Int) = 997 + ((2 : Nat) : Int) from rfl, p2_add, p2_nat, show ((2 ^ 2 : Nat) : Rat) = 4 by decide +kernel]; grind
  have e3 : big = 8 * p2 997 := by
    unfold big
    rw [show (1000 : Int) = 997 + ((3 : Nat) : Int) from rfl, p2_add, p2_nat, show ((2 ^ 3 : Nat) : Rat) = 8 by decide +kernel]; grind
  have h1 : 1 ≤ p2 997 := by rw [← p2_zero]; exact p2_mono (by decide)
  have hu := u52_lt
  have he := e51_eq
  have hkq : 2251799813685248 * (q * k) = 7074237752028440 * q := by grind
  have hkb : Bd (q * k) (4 * p2 997) := by
    obtain ⟨a, b⟩ := hq
    constructor <;> grind
  obtain ⟨t, t', f1, v1, n1, n2⟩ := mul_val hv vk (4 * p2 997) hkb (by grind) (by grind)
  have hn : 4 * p2 997 * e51 ≤ p2 997 := by
    have := Rat.mul_nonneg (Rat.le_of_lt hP) (show (0 : Rat) ≤ 1 - 4 * e51 by grind)
    grind
  obtain ⟨r, v, f2, v2⟩ := div_val v1 V180 (by grind) (by obtain ⟨a, b⟩ := hkb; constructor <;> grind)
  have g1 := fp f1
  have g2 := fp f2
  refine ⟨r, v, floatBits_lt f2, v2, fun w => ?_⟩
  clear hq e2 e3 hP h1 hu he hkq hkb hn n1 n2 ek vk hv v1 v2 f1
  go_enter Ybad.func11, Ybad.ntmps11
  go_wp2
  go_ret
  exact ⟨rfl, rfl⟩

theorem LaidW.drewN {w : World} (h : LaidW w) (n : Nat) : LaidW (w.drewN n) := ⟨h.s0, h.s1, h.s2, h.s3, h.s4, h.s5, h.c0, h.c1, h.c2, h.c3, h.c4, h.c5, h.m⟩
theorem LaidW.lt {w : World} (h : LaidW w) : 3 < w.heap.size := block_lt_of_cell (h.m 0 (by omega))
theorem LaidW.later {w w' : World} (h : LaidW w) (hb : Below w.heap.size w w') : LaidW w' :=
  ⟨cell_later hb h.s0, cell_later hb h.s1, cell_later hb h.s2, cell_later hb h.s3, cell_later hb h.s4, cell_later hb h.s5, cell_later hb h.c0, cell_later hb h.c1, cell_later hb h.c2, cell_later hb h.c3, cell_later hb h.c4, cell_later hb h.c5, fun i hi => cell_later hb (h.m i hi)⟩

def RowE (w : World) (B n : Nat) : Prop := (∀ j, j < n → (w.cell? ⟨B, j, none⟩).isSome = true) ∧ ∀ j, w.frozen? ⟨B, j, none⟩ = false
theorem RowE.set {w : World} {B n : Nat} (h : RowE w B n) (i : Nat) (hi : i < n) (v : Value) : RowE (w.setCell ⟨B, i, none⟩ v) B n := by
  refine ⟨fun j hj => ?_, fun j => by rw [World.frozen?_setCell]; exact h.2 j⟩
  by_cases e : j = i
  · subst e
    obtain ⟨u, hu⟩ := Option.isSome_iff_exists.1 (h.1 j hj)
    rw [World.cell?_setCell_same _ _ _ hu]; rfl
  · rw [World.cell?_setCell_other _ _ _ _ (by intro h; simp only [Addr.mk.injEq] at h; omega)]
    exact h.1 j hj
theorem RowE.setElse {w : World} {B n : Nat} (h : RowE w B n) (D i : Nat) (v : Value) (hne : D ≠ B) : RowE (w.setCell ⟨D, i, none⟩ v) B n := by
  refine ⟨fun j hj => ?_, fun j => by rw [World.frozen?_setCell]; exact h.2 j⟩
  rw [World.cell?_setCell_other _ _ _ _ (by intro h; simp only [Addr.mk.injEq] at h; omega)]
  exact h.1 j hj
def setsFrom (w : World) (B : Nat) : Nat → List Value → World
  | _, [] => w
  | i, v :: l => setsFrom (w.setCell ⟨B, i, none⟩ v) B (i + 1) l
theorem setsFrom_low {B : Nat} (l : List Value) : ∀ (w : World) (i j : Nat), j < i → (setsFrom w B i l).cell? ⟨B, j, none⟩ = w.cell? ⟨B, j, none⟩ := by
  induction l with
  | nil => intro w i j h; rfl
  | cons v l ih =>
    intro w i j h
    rw [setsFrom, ih _ _ _ (by omega), World.cell?_setCell_other _ _ _ _ (by intro h; simp only [Addr.mk.injEq] at h; omega)]
theorem setsFrom_cell {B n : Nat} (l : List Value) : ∀ (w : World) (i : Nat), RowE w B n → i + l.length ≤ n → ∀ j, j < l.length → (setsFrom w B i l).cell? ⟨B, i + j, none⟩ = l[j]? := by
  induction l with
  | nil => intro w i h hl j hj; simp at hj
  | cons v l ih =>
    intro w i h hl j hj
    simp only [List.length_cons] at hl hj
    cases j with
    | zero =>
      rw [setsFrom, setsFrom_low _ _ _ _ (by omega)]
      obtain ⟨u, hu⟩ := Option.isSome_iff_exists.1 (h.1 i (by omega))
      exact World.cell?_setCell_same _ _ _ hu
    | succ j =>
      rw [setsFrom, show i + (j + 1) = (i + 1) + j by omega]
      exact ih _ _ (h.set i (by omega) v) (by omega) j (by omega)
theorem setsFrom_below {B b : Nat} {w0 : World} (l : List Value) (hB : b ≤ B) : ∀ (w : World) (i : Nat), Below b w0 w → Below b w0 (setsFrom w B i l) := by
  induction l with
  | nil => intro w i h; exact h
  | cons v l ih => intro w i h; exact ih _ _ (h.setCell (p := ⟨B, i, none⟩) hB v)
/-- Three floats put into a row. -/
theorem put3 {w : World} {B : Nat} (h : RowE w B 3) (x y z : Value) : ((((w.setCell ⟨B, 0, none⟩ x).setCell ⟨B, 1, none⟩ y).setCell ⟨B, 2, none⟩ z).cell? ⟨B, 0, none⟩ = some x) ∧ ((((w.setCell ⟨B, 0, none⟩ x).setCell ⟨B, 1, none⟩ y).setCell ⟨B, 2, none⟩ z).cell? ⟨B, 1, none⟩ = some y) ∧ ((((w.setCell ⟨B, 0, none⟩ x).setCell ⟨B, 1, none⟩ y).setCell ⟨B, 2, none⟩ z).cell? ⟨B, 2, none⟩ = some z) := by
  obtain ⟨u0, h0⟩ := Option.isSome_iff_exists.1 (h.1 0 (by omega))
  obtain ⟨u1, h1⟩ := Option.isSome_iff_exists.1 ((h.set 0 (by omega) x).1 1 (by omega))
  obtain ⟨u2, h2⟩ := Option.isSome_iff_exists.1 (((h.set 0 (by omega) x).set 1 (by omega) y).1 2 (by omega))
  refine ⟨?_, ?_, World.cell?_setCell_same _ _ _ h2⟩
  · rw [World.cell?_setCell_other _ _ _ _ (by intro h; simp only [Addr.mk.injEq] at h; omega), World.cell?_setCell_other _ _ _ _ (by intro h; simp only [Addr.mk.injEq] at h; omega)]
    exact World.cell?_setCell_same _ _ _ h0
  · rw [World.cell?_setCell_other _ _ _ _ (by intro h; simp only [Addr.mk.injEq] at h; omega)]
    exact World.cell?_setCell_same _ _ _ h1
theorem RowE.store {w : World} {B n : Nat} (h : RowE w B n) (i : Nat) (hi : i < n) (v : Value) (hv : v.oneCell' = true) : (store ⟨B, i, none⟩ v).run Ybad.prog w = .ok () (w.setCell ⟨B, i, none⟩ v) := by
  obtain ⟨u, hu⟩ := Option.isSome_iff_exists.1 (h.1 i hi)
  rw [run_store _ _ _ _ _ hv]
  simp only [hu, h.2 i, Bool.false_eq_true, if_false]
theorem blockRow {w : World} {B : Nat} {A : Array Value} {e : TypeId} (h : w.heap[B]? = some (.cells A e)) : (∀ j, w.cell? ⟨B, j, none⟩ = A[j]?) ∧ ∀ j, w.frozen? ⟨B, j, none⟩ = false :=
  ⟨fun j => by simp [World.cell?, h], fun j => by simp [World.frozen?, h]⟩
theorem three (w : World) (n : Nat) (o1 o2 o3 : Obj) : ((((w.alloc o1).alloc o2).drewN n).alloc o3).heap[w.heap.size]? = some o1 ∧ ((((w.alloc o1).alloc o2).drewN n).alloc o3).heap[w.heap.size + 1]? = some o2 ∧
    ((((w.alloc o1).alloc o2).drewN n).alloc o3).heap[w.heap.size + 1 + 1]? = some o3 ∧ Below w.heap.size w ((((w.alloc o1).alloc o2).drewN n).alloc o3) := by
  have e2 : (((w.alloc o1).alloc o2).drewN n).heap = ((w.alloc o1).alloc o2).heap := rfl
  have s1 : (w.alloc o1).heap.size = w.heap.size + 1 := by simp
  have s2 : ((w.alloc o1).alloc o2).heap.size = w.heap.size + 1 + 1 := by simp
  have s3 : (((w.alloc o1).alloc o2).drewN n).heap.size = w.heap.size + 1 + 1 := s2
  refine ⟨?_, ?_, ?_, ?_⟩
  · rw [heap_alloc_old _ _ (by rw [s3]; omega), e2, heap_alloc_old _ _ (by rw [s1]; omega)]
    exact heap_alloc_new _ _
  · rw [heap_alloc_old _ _ (by rw [s3]; omega), e2, ← s1]
    exact heap_alloc_new _ _
  · rw [← s3]
    exact heap_alloc_new _ _
  · have h1 : Below w.heap.size w ((w.alloc o1).alloc o2) := by go_grown
    exact (Below.alloc (below_drewN h1 n) (by rw [s3]; omega) o3)

set_option maxRecDepth 100000 in
set_option maxHeartbeats 4000000 in
theorem item_any (lat lon rlat rlon c s c2 s2 v0 v1 : Nat) (index : Int) (h1 : ∀ w, Calls Ybad.prog 11 #[.float .f64 lat] w fun e w' => e = .returned (.float .f64 rlat) ∧ w' = w) (h2 : ∀ w, Calls Ybad.prog 11 #[.float .f64 lon] w fun e w' => e = .returned (.float .f64 rlon) ∧ w' = w)
    (hc : Fun1 6 rlat c) (hs : Fun1 8 rlat s) (hc2 : Fun1 6 rlon c2) (hs2 : Fun1 8 rlon s2) (e0 : floatBits .mul .f64 c c2 = some v0) (e1 : floatBits .mul .f64 c s2 = some v1) (w : World) (hw : LaidW w) :
    Calls Ybad.prog 5 #[.agg #[.float .f64 lat, .float .f64 lon], .int .i64 index] w fun e w' => e = .returned (.agg #[.float .f64 v0, .float .f64 v1, .float .f64 s, .float .f64 rlat, .float .f64 c, .float .f64 lon, .int .i64 index]) ∧ Below w.heap.size w w' := by
  have g0 := fp e0
  have g1 := fp e1
  go_enter Ybad.func5, Ybad.ntmps5
  go_wp2_with fail
  go_quiet (first | (go_at_call 11; exact Calls.quiet_of_same (h1 _)) | (go_at_call 11; exact Calls.quiet_of_same (h2 _)))
  have hl : ∀ n, LaidW (((w.alloc (.cells #[.float .f64 lat, .float .f64 lon] 28)).alloc (.cells #[.float .f64 0, .float .f64 0, .float .f64 0, .float .f64 0, .float .f64 0, .float .f64 0, .int .i64 0] 25)).drewN n) := fun n => (hw.later (by go_grown)).drewN n
  have hc' := fun n => hc _ (hl n)
  have hs' := fun n => hs _ (hl n)
  have hc2' := fun n => hc2 _ (hl n)
  have hs2' := fun n => hs2 _ (hl n)
  clear hc hs hc2 hs2 h1 h2
  go_wp2_with fail
  refine (hc' _).mono ?_
  rintro e w' ⟨rfl, k1, rfl⟩
  rw [World.drewN_drewN]
  go_wp2_with fail
  refine (hc2' _).mono ?_
  rintro e w' ⟨rfl, k2, rfl⟩
  rw [World.drewN_drewN]
  go_wp2_with fail
  refine (hs2' _).mono ?_
  rintro e w' ⟨rfl, k3, rfl⟩
  rw [World.drewN_drewN]
  go_wp2_with fail
  refine (hs' _).mono ?_
  rintro e w' ⟨rfl, k4, rfl⟩
  rw [World.drewN_drewN]
  go_wp2_with fail
  generalize nq + k1 + k2 + k3 + k4 = n
  obtain ⟨b1, b2, b3, bel⟩ := three w n (.cells #[.float .f64 lat, .float .f64 lon] 28) (.cells #[.float .f64 0, .float .f64 0, .float .f64 0, .float .f64 0, .float .f64 0, .float .f64 0, .int .i64 0] 25) (.cells #[.float .f64 0, .float .f64 0, .float .f64 0] 23)
  generalize ((((w.alloc (.cells #[.float .f64 lat, .float .f64 lon] 28)).alloc (.cells #[.float .f64 0, .float .f64 0, .float .f64 0, .float .f64 0, .float .f64 0, .float .f64 0, .int .i64 0] 25)).drewN n).alloc (.cells #[.float .f64 0, .float .f64 0, .float .f64 0] 23)) = W at *
  obtain ⟨r1, z1⟩ := blockRow b1
  obtain ⟨r2, z2⟩ := blockRow b2
  obtain ⟨r3, z3⟩ := blockRow b3
  have c11 : W.cell? ⟨w.heap.size, 1, none⟩ = some (.float .f64 lon) := r1 1
  have R3 : RowE W (w.heap.size + 1 + 1) 3 := ⟨fun j hj => by rw [r3 j]; simp; omega, z3⟩
  have R2 : RowE W (w.heap.size + 1) 7 := ⟨fun j hj => by rw [r2 j]; simp; omega, z2⟩
  clear r1 r2 r3 b1 b2 b3 z1 z2 z3
  generalize hB3 : w.heap.size + 1 + 1 = B3 at *
  generalize hB2 : w.heap.size + 1 = B2 at *
  have q1 : B2 ≠ B3 := by omega
  have q2 : B3 ≠ B2 := by omega
  have q3 : B2 ≠ w.heap.size := by omega
  have q4 : B3 ≠ w.heap.size := by omega
  have q7 : w.heap.size ≤ B2 := by omega
  have q8 : w.heap.size ≤ B3 := by omega
  clear hB2 hB3
  rw [R3.store 0 (by omega) _ rfl]
  simp only [Result.andThen_ok]
  rw [(R3.set 0 (by omega) _).store 1 (by omega) _ rfl]
  simp only [Result.andThen_ok]
  rw [((R3.set 0 (by omega) _).set 1 (by omega) _).store 2 (by omega) _ rfl]
  simp only [Result.andThen_ok]
  obtain ⟨d0, d1, d2⟩ := put3 R3 (.float .f64 v0) (.float .f64 v1) (.float .f64 s)
  have d3 : (((W.setCell ⟨B3, 0, none⟩ (.float .f64 v0)).setCell ⟨B3, 1, none⟩ (.float .f64 v1)).setCell ⟨B3, 2, none⟩ (.float .f64 s)).cell? ⟨w.heap.size, 1, none⟩ = some (.float .f64 lon) := by
    rw [World.cell?_setCell_other _ _ _ _ (by intro h; simp only [Addr.mk.injEq] at h; omega), World.cell?_setCell_other _ _ _ _ (by intro h; simp only [Addr.mk.injEq] at h; omega), World.cell?_setCell_other _ _ _ _ (by intro h; simp only [Addr.mk.injEq] at h; omega)]
    exact c11
  have R2' := ((R2.setElse B3 0 (.float .f64 v0) q2).setElse B3 1 (.float .f64 v1) q2).setElse B3 2 (.float .f64 s) q2
  have bel' := (((bel.setCell (p := ⟨B3, 0, none⟩) q8 (.float .f64 v0)).setCell (p := ⟨B3, 1, none⟩) q8 (.float .f64 v1)).setCell (p := ⟨B3, 2, none⟩) q8 (.float .f64 s))
  generalize ((W.setCell ⟨B3, 0, none⟩ (.float .f64 v0)).setCell ⟨B3, 1, none⟩ (.float .f64 v1)).setCell ⟨B3, 2, none⟩ (.float .f64 s) = W3 at *
  clear bel R2 R3 c11 q1 q2 q3 q4 q8
  go_wp2_with fail
  clear d0 d1 d2 d3
  have Q0 := R2'
  have Q1 := Q0.set 0 (by omega) (.float .f64 v0)
  have Q2 := Q1.set 1 (by omega) (.float .f64 v1)
  have Q3 := Q2.set 2 (by omega) (.float .f64 s)
  have Q4 := Q3.set 3 (by omega) (.float .f64 rlat)
  have Q5 := Q4.set 4 (by omega) (.float .f64 c)
  have Q6 := Q5.set 5 (by omega) (.float .f64 lon)
  have S0 := Q0.store 0 (by omega) (.float .f64 v0) rfl
  have S1 := Q1.store 1 (by omega) (.float .f64 v1) rfl
  have S2 := Q2.store 2 (by omega) (.float .f64 s) rfl
  have S3 := Q3.store 3 (by omega) (.float .f64 rlat) rfl
  have S4 := Q4.store 4 (by omega) (.float .f64 c) rfl
  have S5 := Q5.store 5 (by omega) (.float .f64 lon) rfl
  rw [S0]
  clear S0
  simp only [Result.andThen_ok]
  rw [S1]
  clear S1
  simp only [Result.andThen_ok]
  rw [S2]
  clear S2
  simp only [Result.andThen_ok]
  rw [S3]
  clear S3
  simp only [Result.andThen_ok]
  rw [S4]
  clear S4
  simp only [Result.andThen_ok]
  rw [S5]
  clear S5
  simp only [Result.andThen_ok]
  have hcell := setsFrom_cell (B := B2) (n := 7) [.float .f64 v0, .float .f64 v1, .float .f64 s, .float .f64 rlat, .float .f64 c, .float .f64 lon] W3 0 R2' (by simp)
  have hbel := setsFrom_below (B := B2) [.float .f64 v0, .float .f64 v1, .float .f64 s, .float .f64 rlat, .float .f64 c, .float .f64 lon] q7 W3 0 bel'
  have t0 := hcell 0 (by simp)
  have t1 := hcell 1 (by simp)
  have t2 := hcell 2 (by simp)
  have t3 := hcell 3 (by simp)
  have t4 := hcell 4 (by simp)
  have t5 := hcell 5 (by simp)
  have R6 := Q6
  clear Q0 Q1 Q2 Q3 Q4 Q5 Q6 hcell bel' R2'
  simp only [setsFrom, Nat.zero_add, Nat.reduceAdd, List.getElem?_cons_zero, List.getElem?_cons_succ] at t0 t1 t2 t3 t4 t5 hbel
  generalize (((((W3.setCell ⟨B2, 0, none⟩ (.float .f64 v0)).setCell ⟨B2, 1, none⟩ (.float .f64 v1)).setCell ⟨B2, 2, none⟩ (.float .f64 s)).setCell ⟨B2, 3, none⟩ (.float .f64 rlat)).setCell ⟨B2, 4, none⟩ (.float .f64 c)).setCell ⟨B2, 5, none⟩ (.float .f64 lon) = W6 at *
  obtain ⟨u6, h6⟩ := Option.isSome_iff_exists.1 (R6.1 6 (by omega))
  have f6 := R6.2 6
  clear R6
  go_wp2_with fail
  case inl => exact absurd (show W6.frozen? ⟨B2, 6, none⟩ = true by assumption) (by rw [f6]; decide)
  case inr =>
    have oth : ∀ j, j < 6 → (W6.setCell ⟨B2, 6, none⟩ (.int .i64 index)).cell? ⟨B2, j, none⟩ = W6.cell? ⟨B2, j, none⟩ := fun j hj => World.cell?_setCell_other _ _ _ _ (by intro h; simp only [Addr.mk.injEq] at h; omega)
    have y0 := (oth 0 (by omega)).trans t0
    have y1 := (oth 1 (by omega)).trans t1
    have y2 := (oth 2 (by omega)).trans t2
    have y3 := (oth 3 (by omega)).trans t3
    have y4 := (oth 4 (by omega)).trans t4
    have y5 := (oth 5 (by omega)).trans t5
    have y6 := World.cell?_setCell_same W6 ⟨B2, 6, none⟩ (.int .i64 index) h6
    have hb7 := hbel.setCell (p := ⟨B2, 6, none⟩) q7 (.int .i64 index)
    clear oth t0 t1 t2 t3 t4 t5 hbel h6 f6
    generalize W6.setCell ⟨B2, 6, none⟩ (.int .i64 index) = W7 at *
    refine bodyPost_ret (v := .agg #[.float .f64 v0, .float .f64 v1, .float .f64 s, .float .f64 rlat, .float .f64 c, .float .f64 lon, .int .i64 index]) (by simp [results, Ybad.results5, go_sem, y0, y1, y2, y3, y4, y5, y6]) rfl ⟨rfl, hb7⟩
end Go.Proofs.YbulkgjuDoor
