/- newItem, whatever the words: what may come back. -/
import Derived.Test.YbulkgjuDoorSets
import Derived.Deep.RegionWith
namespace Go.Proofs.YbulkgjuDoor
open Go.RowKit
set_option linter.unusedVariables false
set_option maxRecDepth 100000 in
set_option maxHeartbeats 4000000 in
theorem item_gen (lat lon c c2 : Nat) (R1 R2 S1 S2 T0 T1 : Nat → Prop) (index : Int)
    (h1 : ∀ w, Calls Ybad.prog 11 #[.float .f64 lat] w fun e w' => ∃ r, e = .returned (.float .f64 r) ∧ R1 r ∧ ∃ k, w' = w.drewN k) (h2 : ∀ w, Calls Ybad.prog 11 #[.float .f64 lon] w fun e w' => ∃ r, e = .returned (.float .f64 r) ∧ R2 r ∧ ∃ k, w' = w.drewN k)
    (hc : ∀ r, R1 r → Fun1 6 r c) (hs : ∀ r, R1 r → ∃ s, Fun1 8 r s ∧ S1 s) (hc2 : ∀ r, R2 r → Fun1 6 r c2) (hs2 : ∀ r, R2 r → ∃ s, Fun1 8 r s ∧ S2 s)
    (g0 : ∃ N k, Gives .mul c c2 N k ∧ ∀ w, T0 (N w)) (g1 : ∀ s, S2 s → ∃ N k, Gives .mul c s N k ∧ ∀ w, T1 (N w)) (w : World) (hw : LaidW w) :
    Calls Ybad.prog 5 #[.agg #[.float .f64 lat, .float .f64 lon], .int .i64 index] w fun e w' => ∃ v0 v1 s r, T0 v0 ∧ T1 v1 ∧ S1 s ∧ R1 r ∧ e = .returned (.agg #[.float .f64 v0, .float .f64 v1, .float .f64 s, .float .f64 r, .float .f64 c, .float .f64 lon, .int .i64 index]) ∧ Below w.heap.size w w' := by
  obtain ⟨N0, k0, G0, hT0⟩ := g0
  have G0' : ∀ (t : TypeId) (w : World), (binOp .mul t (.float .f64 c) (.float .f64 c2)).run Ybad.prog w = .ok (.float .f64 (N0 w)) (w.drewN k0) := G0
  clear G0
  have hl : ∀ n, LaidW (((w.alloc (.cells #[.float .f64 lat, .float .f64 lon] 28)).alloc (.cells #[.float .f64 0, .float .f64 0, .float .f64 0, .float .f64 0, .float .f64 0, .float .f64 0, .int .i64 0] 25)).drewN n) := fun n => (hw.later (by go_grown)).drewN n
  go_enter Ybad.func5, Ybad.ntmps5
  go_wp2_with fail
  go_region_with (first
    | (go_at_call_of 11 lat; refine (h1 _).mono ?_; rintro e w' ⟨r1, rfl, hr1, m1, rfl⟩)
    | (go_at_call_of 11 lon; refine (h2 _).mono ?_; rintro e w' ⟨r2, rfl, hr2, m2, rfl⟩))
  all_goals
    generalize 1 + m1 + m2 = n1
    have F1 := fun n => hc r1 hr1 _ (hl n)
    have F3 := fun n => hc2 r2 hr2 _ (hl n)
    obtain ⟨s, F2', hs1⟩ := hs r1 hr1
    obtain ⟨s2, F4', hs2'⟩ := hs2 r2 hr2
    have F2 := fun n => F2' _ (hl n)
    have F4 := fun n => F4' _ (hl n)
    obtain ⟨N1, k1, G1, hT1⟩ := g1 s2 hs2'
    have G1' : ∀ (t : TypeId) (w : World), (binOp .mul t (.float .f64 c) (.float .f64 s2)).run Ybad.prog w = .ok (.float .f64 (N1 w)) (w.drewN k1) := G1
    clear F2' F4' G1 h1 h2 hc hs hc2 hs2 g1
    go_wp2_with fail
    refine (F1 _).mono ?_
    rintro e w' ⟨rfl, ka, rfl⟩
    rw [World.drewN_drewN]
    generalize n1 + ka = n2
    go_wp2_with fail
    refine (F3 _).mono ?_
    rintro e w' ⟨rfl, kb, rfl⟩
    rw [World.drewN_drewN]
    generalize n2 + kb = n3
    go_wp2_with fail
    have tv0 := hT0 (((w.alloc (.cells #[.float .f64 lat, .float .f64 lon] 28)).alloc (.cells #[.float .f64 0, .float .f64 0, .float .f64 0, .float .f64 0, .float .f64 0, .float .f64 0, .int .i64 0] 25)).drewN n3)
    generalize N0 (((w.alloc (.cells #[.float .f64 lat, .float .f64 lon] 28)).alloc (.cells #[.float .f64 0, .float .f64 0, .float .f64 0, .float .f64 0, .float .f64 0, .float .f64 0, .int .i64 0] 25)).drewN n3) = v0 at *
    refine (F4 _).mono ?_
    rintro e w' ⟨rfl, kc, rfl⟩
    rw [World.drewN_drewN]
    generalize n3 + k0 + kc = n4
    go_wp2_with fail
    have tv1 := hT1 (((w.alloc (.cells #[.float .f64 lat, .float .f64 lon] 28)).alloc (.cells #[.float .f64 0, .float .f64 0, .float .f64 0, .float .f64 0, .float .f64 0, .float .f64 0, .int .i64 0] 25)).drewN n4)
    generalize N1 (((w.alloc (.cells #[.float .f64 lat, .float .f64 lon] 28)).alloc (.cells #[.float .f64 0, .float .f64 0, .float .f64 0, .float .f64 0, .float .f64 0, .float .f64 0, .int .i64 0] 25)).drewN n4) = v1 at *
    refine (F2 _).mono ?_
    rintro e w' ⟨rfl, kd, rfl⟩
    rw [World.drewN_drewN]
    generalize n4 + k1 + kd = n
    clear F1 F2 F3 F4 hl G0' G1' hT0 hT1
    go_wp2_with fail
    obtain ⟨b1, b2, b3, bel⟩ := three w n (.cells #[.float .f64 lat, .float .f64 lon] 28) (.cells #[.float .f64 0, .float .f64 0, .float .f64 0, .float .f64 0, .float .f64 0, .float .f64 0, .int .i64 0] 25) (.cells #[.float .f64 0, .float .f64 0, .float .f64 0] 23)
    generalize ((((w.alloc (.cells #[.float .f64 lat, .float .f64 lon] 28)).alloc (.cells #[.float .f64 0, .float .f64 0, .float .f64 0, .float .f64 0, .float .f64 0, .float .f64 0, .int .i64 0] 25)).drewN n).alloc (.cells #[.float .f64 0, .float .f64 0, .float .f64 0] 23)) = W at *
    obtain ⟨r1, z1⟩ := blockRow b1
    obtain ⟨r2, z2⟩ := blockRow b2
    obtain ⟨r3, z3⟩ := blockRow b3
    have c11 : W.cell? ⟨w.heap.size, 1, none⟩ = some (.float .f64 lon) := r1 1
    have R3 : RowE W (w.heap.size + 1 + 1) 3 := ⟨fun j hj => by rw [r3 j]; simp; omega, z3⟩
    have R2 : RowE W (w.heap.size + 1) 7 := ⟨fun j hj => by rw [r2 j]; simp; omega, z2⟩
    clear r1 r2 r3 b1 b2 b3 z1 z2 z3
    generalize hB3 : w.heap.size + 1 + 1 = B3 at *
    generalize hB2 : w.heap.size + 1 = B2 at *
    have q1 : B2 ≠ B3 := by omega
    have q2 : B3 ≠ B2 := by omega
    have q3 : B2 ≠ w.heap.size := by omega
    have q4 : B3 ≠ w.heap.size := by omega
    have q7 : w.heap.size ≤ B2 := by omega
    have q8 : w.heap.size ≤ B3 := by omega
    clear hB2 hB3
    rw [R3.store 0 (by omega) _ rfl]
    simp only [Result.andThen_ok]
    rw [(R3.set 0 (by omega) _).store 1 (by omega) _ rfl]
    simp only [Result.andThen_ok]
    rw [((R3.set 0 (by omega) _).set 1 (by omega) _).store 2 (by omega) _ rfl]
    simp only [Result.andThen_ok]
    obtain ⟨d0, d1, d2⟩ := put3 R3 (.float .f64 v0) (.float .f64 v1) (.float .f64 s)
    have d3 : (((W.setCell ⟨B3, 0, none⟩ (.float .f64 v0)).setCell ⟨B3, 1, none⟩ (.float .f64 v1)).setCell ⟨B3, 2, none⟩ (.float .f64 s)).cell? ⟨w.heap.size, 1, none⟩ = some (.float .f64 lon) := by
      rw [World.cell?_setCell_other _ _ _ _ (by intro h; simp only [Addr.mk.injEq] at h; omega), World.cell?_setCell_other _ _ _ _ (by intro h; simp only [Addr.mk.injEq] at h; omega), World.cell?_setCell_other _ _ _ _ (by intro h; simp only [Addr.mk.injEq] at h; omega)]
      exact c11
    have R2' := ((R2.setElse B3 0 (.float .f64 v0) q2).setElse B3 1 (.float .f64 v1) q2).setElse B3 2 (.float .f64 s) q2
    have bel' := (((bel.setCell (p := ⟨B3, 0, none⟩) q8 (.float .f64 v0)).setCell (p := ⟨B3, 1, none⟩) q8 (.float .f64 v1)).setCell (p := ⟨B3, 2, none⟩) q8 (.float .f64 s))
    generalize ((W.setCell ⟨B3, 0, none⟩ (.float .f64 v0)).setCell ⟨B3, 1, none⟩ (.float .f64 v1)).setCell ⟨B3, 2, none⟩ (.float .f64 s) = W3 at *
    clear bel R2 R3 c11 q1 q2 q3 q4 q8
    go_wp2_with fail
    clear d0 d1 d2 d3
    have Q0 := R2'
    have Q1 := Q0.set 0 (by omega) (.float .f64 v0)
    have Q2 := Q1.set 1 (by omega) (.float .f64 v1)
    have Q3 := Q2.set 2 (by omega) (.float .f64 s)
    have Q4 := Q3.set 3 (by omega) (.float .f64 r1)
    have Q5 := Q4.set 4 (by omega) (.float .f64 c)
    have Q6 := Q5.set 5 (by omega) (.float .f64 lon)
    have S0 := Q0.store 0 (by omega) (.float .f64 v0) rfl
    have S1 := Q1.store 1 (by omega) (.float .f64 v1) rfl
    have S2 := Q2.store 2 (by omega) (.float .f64 s) rfl
    have S3 := Q3.store 3 (by omega) (.float .f64 r1) rfl
    have S4 := Q4.store 4 (by omega) (.float .f64 c) rfl
    have S5 := Q5.store 5 (by omega) (.float .f64 lon) rfl
    rw [S0]
    clear S0
    simp only [Result.andThen_ok]
    rw [S1]
    clear S1
    simp only [Result.andThen_ok]
    rw [S2]
    clear S2
    simp only [Result.andThen_ok]
    rw [S3]
    clear S3
    simp only [Result.andThen_ok]
    rw [S4]
    clear S4
    simp only [Result.andThen_ok]
    rw [S5]
    clear S5
    simp only [Result.andThen_ok]
    have hcell := setsFrom_cell (B := B2) (n := 7) [.float .f64 v0, .float .f64 v1, .float .f64 s, .float .f64 r1, .float .f64 c, .float .f64 lon] W3 0 R2' (by simp)
    have hbel := setsFrom_below (B := B2) [.float .f64 v0, .float .f64 v1, .float .f64 s, .float .f64 r1, .float .f64 c, .float .f64 lon] q7 W3 0 bel'
    have t0 := hcell 0 (by simp)
    have t1 := hcell 1 (by simp)
    have t2 := hcell 2 (by simp)
    have t3 := hcell 3 (by simp)
    have t4 := hcell 4 (by simp)
    have t5 := hcell 5 (by simp)
    have R6 := Q6
    clear Q0 Q1 Q2 Q3 Q4 Q5 Q6 hcell bel' R2'
    simp only [setsFrom, Nat.zero_add, Nat.reduceAdd, List.getElem?_cons_zero, List.getElem?_cons_succ] at t0 t1 t2 t3 t4 t5 hbel
    generalize (((((W3.setCell ⟨B2, 0, none⟩ (.float .f64 v0)).setCell ⟨B2, 1, none⟩ (.float .f64 v1)).setCell ⟨B2, 2, none⟩ (.float .f64 s)).setCell ⟨B2, 3, none⟩ (.float .f64 r1)).setCell ⟨B2, 4, none⟩ (.float .f64 c)).setCell ⟨B2, 5, none⟩ (.float .f64 lon) = W6 at *
    obtain ⟨u6, h6⟩ := Option.isSome_iff_exists.1 (R6.1 6 (by omega))
    have f6 := R6.2 6
    clear R6
    go_wp2_with fail
    case inl => exact absurd (show W6.frozen? ⟨B2, 6, none⟩ = true by assumption) (by rw [f6]; decide)
    case inr =>
      have oth : ∀ j, j < 6 → (W6.setCell ⟨B2, 6, none⟩ (.int .i64 index)).cell? ⟨B2, j, none⟩ = W6.cell? ⟨B2, j, none⟩ := fun j hj => World.cell?_setCell_other _ _ _ _ (by intro h; simp only [Addr.mk.injEq] at h; omega)
      have y0 := (oth 0 (by omega)).trans t0
      have y1 := (oth 1 (by omega)).trans t1
      have y2 := (oth 2 (by omega)).trans t2
      have y3 := (oth 3 (by omega)).trans t3
      have y4 := (oth 4 (by omega)).trans t4
      have y5 := (oth 5 (by omega)).trans t5
      have y6 := World.cell?_setCell_same W6 ⟨B2, 6, none⟩ (.int .i64 index) h6
      have hb7 := hbel.setCell (p := ⟨B2, 6, none⟩) q7 (.int .i64 index)
      clear oth t0 t1 t2 t3 t4 t5 hbel h6 f6
      generalize W6.setCell ⟨B2, 6, none⟩ (.int .i64 index) = W7 at *
      refine bodyPost_ret (v := .agg #[.float .f64 v0, .float .f64 v1, .float .f64 s, .float .f64 r1, .float .f64 c, .float .f64 lon, .int .i64 index]) (by simp [results, Ybad.results5, go_sem, y0, y1, y2, y3, y4, y5, y6]) rfl ⟨v0, v1, s, r1, tv0, tv1, hs1, hr1, rfl, hb7⟩
end Go.Proofs.YbulkgjuDoor
