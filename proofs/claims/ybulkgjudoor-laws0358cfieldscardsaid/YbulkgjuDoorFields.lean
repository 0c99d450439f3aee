/- LawS0358CFields: the walk. -/
import Derived.Test.YbulkgjuDoorItemGen
import Derived.Test.YbulkgjuDoorAnyOrder
namespace Go.Proofs.YbulkgjuDoor
open Go.RowKit
set_option linter.unusedVariables false

theorem Alike.refl_sim (x : Nat) : Sim x x := (Alike.sim (S := fun y => y = x) (.inl ⟨x, fun _ h => h⟩) rfl rfl)

set_option maxRecDepth 100000 in
set_option maxHeartbeats 4000000 in
theorem fields_in (lat lon c c2 : Nat) (R1 R2 T0 T1 : Nat → Prop) (index : Int) (aR1 : Alike R1) (aS1 : Alike (fun s => ∃ r, R1 r ∧ s = sinF r)) (aT0 : Alike T0) (aT1 : Alike T1) (hR1 : Rad lat R1) (hR2 : Rad lon R2)
    (hc : ∀ r, R1 r → Fun1 6 r c) (hs : ∀ r, R1 r → Fun1 8 r (sinF r)) (hc2 : ∀ r, R2 r → Fun1 6 r c2) (hs2 : ∀ r, R2 r → Fun1 8 r (sinF r))
    (g0 : ∃ N k, Gives .mul c c2 N k ∧ ∀ w, T0 (N w)) (g1 : ∀ s, (∃ r, R2 r ∧ s = sinF r) → ∃ N k, Gives .mul c s N k ∧ ∀ w, T1 (N w)) (w : World) (hw : LaidW w) :
    Calls Ybad.prog 3 #[.float .f64 lat, .float .f64 lon, .int .i64 index] w fun e w' => e = .returned (.bool true) ∧ Below w.heap.size w w' := by
  have hit := item_gen lat lon c c2 R1 R2 (fun s => ∃ r, R1 r ∧ s = sinF r) (fun s => ∃ r, R2 r ∧ s = sinF r) T0 T1 index (radians_any lat R1 hR1) (radians_any lon R2 hR2) hc (fun r hr => ⟨sinF r, hs r hr, r, hr, rfl⟩) hc2 (fun r hr => ⟨sinF r, hs2 r hr, r, hr, rfl⟩) g0 g1 w hw
  obtain ⟨N0, k0, G0, hT0⟩ := g0
  have G0' : ∀ (t : TypeId) (w : World), (binOp .mul t (.float .f64 c) (.float .f64 c2)).run Ybad.prog w = .ok (.float .f64 (N0 w)) (w.drewN k0) := G0
  obtain ⟨Nm1, km1, Nq1, kq1, l1, l2, l3⟩ := hR1
  obtain ⟨Nm2, km2, Nq2, kq2, l4, l5, l6⟩ := hR2
  have M1 : ∀ (t : TypeId) (w : World), (binOp .mul t (.float .f64 lat) (.float .f64 4614256656552045848)).run Ybad.prog w = .ok (.float .f64 (Nm1 w)) (w.drewN km1) := l1
  have Q1 : ∀ (u : World) (t : TypeId) (w : World), (binOp .quo t (.float .f64 (Nm1 u)) (.float .f64 4640537203540230144)).run Ybad.prog w = .ok (.float .f64 (Nq1 u w)) (w.drewN (kq1 u)) := l2
  have M2 : ∀ (t : TypeId) (w : World), (binOp .mul t (.float .f64 lon) (.float .f64 4614256656552045848)).run Ybad.prog w = .ok (.float .f64 (Nm2 w)) (w.drewN km2) := l4
  have Q2 : ∀ (u : World) (t : TypeId) (w : World), (binOp .quo t (.float .f64 (Nm2 u)) (.float .f64 4640537203540230144)).run Ybad.prog w = .ok (.float .f64 (Nq2 u w)) (w.drewN (kq2 u)) := l5
  clear G0 l1 l2 l4 l5
  go_enter Ybad.func3, Ybad.ntmps3
  go_wp2_with fail
  refine hit.mono ?_
  rintro e w1 ⟨v0, v1, s, r, tv0, tv1, hs1, hr1, rfl, bel⟩
  clear hit
  have hle : w.heap.size ≤ w1.heap.size := by obtain ⟨_, _, _, hle, _⟩ := bel; exact hle
  go_wp2_with fail
  have hbW : (w1.alloc (.cells #[.float .f64 0, .float .f64 0, .float .f64 0, .float .f64 0, .float .f64 0, .float .f64 0, .int .i64 0] 25)).heap[w1.heap.size]? = some (.cells #[.float .f64 0, .float .f64 0, .float .f64 0, .float .f64 0, .float .f64 0, .float .f64 0, .int .i64 0] 25) := heap_alloc_new _ _
  obtain ⟨rW, zW⟩ := blockRow hbW
  have Q0 : RowE (w1.alloc (.cells #[.float .f64 0, .float .f64 0, .float .f64 0, .float .f64 0, .float .f64 0, .float .f64 0, .int .i64 0] 25)) w1.heap.size 7 := ⟨fun j hj => by rw [rW j]; simp; omega, zW⟩
  have bel' : Below w.heap.size w (w1.alloc (.cells #[.float .f64 0, .float .f64 0, .float .f64 0, .float .f64 0, .float .f64 0, .float .f64 0, .int .i64 0] 25)) := bel.alloc hle _
  generalize (w1.alloc (.cells #[.float .f64 0, .float .f64 0, .float .f64 0, .float .f64 0, .float .f64 0, .float .f64 0, .int .i64 0] 25)) = W3 at *
  generalize w1.heap.size = B2 at *
  clear hbW rW zW bel
  have Q1 := Q0.set 0 (by omega) (.float .f64 v0)
  have Q2 := Q1.set 1 (by omega) (.float .f64 v1)
  have Q3 := Q2.set 2 (by omega) (.float .f64 s)
  have Q4 := Q3.set 3 (by omega) (.float .f64 r)
  have Q5 := Q4.set 4 (by omega) (.float .f64 c)
  have Q6 := Q5.set 5 (by omega) (.float .f64 lon)
  have S0 := Q0.store 0 (by omega) (.float .f64 v0) rfl
  have S1 := Q1.store 1 (by omega) (.float .f64 v1) rfl
  have S2 := Q2.store 2 (by omega) (.float .f64 s) rfl
  have S3 := Q3.store 3 (by omega) (.float .f64 r) rfl
  have S4 := Q4.store 4 (by omega) (.float .f64 c) rfl
  have S5 := Q5.store 5 (by omega) (.float .f64 lon) rfl
  rw [S0]
  clear S0
  simp only [Result.andThen_ok]
  rw [S1]
  clear S1
  simp only [Result.andThen_ok]
  rw [S2]
  clear S2
  simp only [Result.andThen_ok]
  rw [S3]
  clear S3
  simp only [Result.andThen_ok]
  rw [S4]
  clear S4
  simp only [Result.andThen_ok]
  rw [S5]
  clear S5
  simp only [Result.andThen_ok]
  have hcell := setsFrom_cell (B := B2) (n := 7) [.float .f64 v0, .float .f64 v1, .float .f64 s, .float .f64 r, .float .f64 c, .float .f64 lon] W3 0 Q0 (by simp)
  have hbel := setsFrom_below (B := B2) [.float .f64 v0, .float .f64 v1, .float .f64 s, .float .f64 r, .float .f64 c, .float .f64 lon] hle W3 0 bel'
  have t0 := hcell 0 (by simp)
  have t1 := hcell 1 (by simp)
  have t2 := hcell 2 (by simp)
  have t3 := hcell 3 (by simp)
  have t4 := hcell 4 (by simp)
  have t5 := hcell 5 (by simp)
  have R6 := Q6
  clear Q0 Q1 Q2 Q3 Q4 Q5 Q6 hcell bel'
  simp only [setsFrom, Nat.zero_add, Nat.reduceAdd, List.getElem?_cons_zero, List.getElem?_cons_succ] at t0 t1 t2 t3 t4 t5 hbel
  generalize (((((W3.setCell ⟨B2, 0, none⟩ (.float .f64 v0)).setCell ⟨B2, 1, none⟩ (.float .f64 v1)).setCell ⟨B2, 2, none⟩ (.float .f64 s)).setCell ⟨B2, 3, none⟩ (.float .f64 r)).setCell ⟨B2, 4, none⟩ (.float .f64 c)).setCell ⟨B2, 5, none⟩ (.float .f64 lon) = W6 at *
  obtain ⟨u6, h6⟩ := Option.isSome_iff_exists.1 (R6.1 6 (by omega))
  have f6 := R6.2 6
  simp only [h6, f6, Bool.false_eq_true, if_false, Result.andThen_ok]
  have oth : ∀ j, j < 6 → (W6.setCell ⟨B2, 6, none⟩ (.int .i64 index)).cell? ⟨B2, j, none⟩ = W6.cell? ⟨B2, j, none⟩ := fun j hj => World.cell?_setCell_other _ _ _ _ (by intro h; simp only [Addr.mk.injEq] at h; omega)
  have y0 := (oth 0 (by omega)).trans t0
  have y1 := (oth 1 (by omega)).trans t1
  have y2 := (oth 2 (by omega)).trans t2
  have y3 := (oth 3 (by omega)).trans t3
  have y4 := (oth 4 (by omega)).trans t4
  have y5 := (oth 5 (by omega)).trans t5
  have y6 := World.cell?_setCell_same W6 ⟨B2, 6, none⟩ (.int .i64 index) h6
  have hb7 := hbel.setCell (p := ⟨B2, 6, none⟩) hle (.int .i64 index)
  clear oth t0 t1 t2 t3 t4 t5 hbel h6 f6 R6
  generalize W6.setCell ⟨B2, 6, none⟩ (.int .i64 index) = W7 at *
  have hl : ∀ n, LaidW (W7.drewN n) := fun n => (hw.later hb7).drewN n
  clear hle
  go_wp2_with fail
  have hq1 := l3 W7 (W7.drewN km1)
  have hq2 := l6 (W7.drewN (km1 + kq1 W7)) (W7.drewN (km1 + kq1 W7 + km2))
  generalize Nq1 W7 (W7.drewN km1) = q1 at *
  generalize Nq2 (W7.drewN (km1 + kq1 W7)) (W7.drewN (km1 + kq1 W7 + km2)) = q2 at *
  generalize Nm1 W7 = j1
  generalize Nm2 (W7.drewN (km1 + kq1 W7)) = j2
  generalize km1 + kq1 W7 + km2 + kq2 (W7.drewN (km1 + kq1 W7)) = n1
  have F1 := fun n => hc q1 hq1 _ (hl n)
  have F2' := hs q1 hq1
  have F4' := hs2 q2 hq2
  obtain ⟨N1, k1, G1, hT1⟩ := g1 (sinF q2) ⟨q2, hq2, rfl⟩
  have G1' : ∀ (t : TypeId) (w : World), (binOp .mul t (.float .f64 c) (.float .f64 (sinF q2))).run Ybad.prog w = .ok (.float .f64 (N1 w)) (w.drewN k1) := G1
  have E1 := fun W => same_any r q1 W (aR1.sim hr1 hq1)
  have E2 := fun W => same_any c c W (Alike.refl_sim c)
  have E3 := fun U W => same_any v0 (N0 U) W (aT0.sim tv0 (hT0 U))
  have E4 := fun U W => same_any v1 (N1 U) W (aT1.sim tv1 (hT1 U))
  have E5 := fun W => same_any s (sinF q1) W (aS1.sim hs1 ⟨q1, hq1, rfl⟩)
  have F3' := hc2 q2 hq2
  clear G1 hc hs hc2 hs2 g1 M1 Q1 M2 Q2 l3 l6
  refine (F1 _).mono ?_
  rintro e w' ⟨rfl, ka, rfl⟩
  rw [World.drewN_drewN]
  generalize n1 + ka = n2
  go_wp2_with fail
  refine (E1 _).mono ?_
  rintro e w' ⟨rfl, rfl⟩
  go_wp2_with fail
  refine (E2 _).mono ?_
  rintro e w' ⟨rfl, rfl⟩
  go_wp2_with fail
  clear E1 E2 F1
  have h9 := run9
  have hW := hl n2
  have z0 : (W7.drewN n2).cell? ⟨B2, 0, none⟩ = some (.float .f64 v0) := y0
  have z1 : (W7.drewN n2).cell? ⟨B2, 1, none⟩ = some (.float .f64 v1) := y1
  have z2 : (W7.drewN n2).cell? ⟨B2, 2, none⟩ = some (.float .f64 s) := y2
  have z5 : (W7.drewN n2).cell? ⟨B2, 5, none⟩ = some (.float .f64 lon) := y5
  have z6 : (W7.drewN n2).cell? ⟨B2, 6, none⟩ = some (.int .i64 index) := y6
  have zb : Below w.heap.size w (W7.drewN n2) := below_drewN hb7 n2
  clear hl y0 y1 y2 y3 y4 y5 y6 hb7
  generalize W7.drewN n2 = W at *
  obtain ⟨Ret, hRet6, hRet7, hRet8⟩ : ∃ Ret : FuncId → Array Value → Value → Prop, (∀ v, Ret 6 #[.float .f64 q2] v ↔ v = .float .f64 c2) ∧ (∀ x y v, Ret 7 #[x, y] v ↔ v = .bool true) ∧ ∀ q v, Ret 8 #[.float .f64 q] v ↔ v = .float .f64 (sinF q) :=
    ⟨fun f args v => (f = 6 ∧ v = .float .f64 c2) ∨ (f = 7 ∧ v = .bool true) ∨ (f = 8 ∧ ∃ q, args = #[.float .f64 q] ∧ v = .float .f64 (sinF q)), fun v => by simp, fun x y v => by simp, fun q v => by
      constructor
      · rintro (⟨h, _⟩ | ⟨h, _⟩ | ⟨_, q', h, rfl⟩)
        · exact absurd h (by decide)
        · exact absurd h (by decide)
        · simp at h; rw [h]
      · intro h; exact .inr (.inr ⟨rfl, q, rfl, h⟩)⟩
  refine wp_region_tame Ret (by kernel_rfl) (by kernel_rfl) ?_
  (refine tame_oneK (.pointer (some ⟨B2, 0, none⟩)) (by go_simp) (fun n => by go_simp) (fun K hK => ?_); go_simp; refine hK _ ?_; clear hK K)
  (refine tame_oneK (.pointer (some ⟨B2, 0, none⟩)) (by go_simp) (fun n => by go_simp) (fun K hK => ?_); go_simp; refine hK _ ?_; clear hK K)
  (refine tame_oneK (.float .f64 v0) (by go_simp) (fun n => by go_simp) (fun K hK => ?_); go_simp; refine hK _ ?_; clear hK K)
  (refine tame_oneK (.float .f64 c) (by go_simp) (fun n => by go_simp) (fun K hK => ?_); go_simp; refine hK _ ?_; clear hK K)
  (refine tame_oneK (.float .f64 q2) (by go_simp) (fun n => by go_simp) (fun K hK => ?_); go_simp; refine hK _ ?_; clear hK K)
  (refine tame_callK 6 #[.float .f64 q2] (.float .f64 c2) (by go_simp) (fun n => by go_simp) (fun n => Calls.quiet_of (F3' _ (hW.drewN n))) (fun v => hRet6 v) (fun K hK => ?_); go_simp; refine hK _ ?_; clear hK K)
  (refine tame_setK (fun w => .float .f64 (N0 w)) k0 (by go_simp) (fun w => by go_simp) (fun n3 K hK => ?_); go_simp; refine hK _ ?_; clear hK K)
  (refine tame_callK 7 #[.float .f64 v0, .float .f64 (N0 (W.drewN n3))] (.bool true) (by go_simp) (fun n => by go_simp) (fun n => Calls.quiet_of_same (E3 _ _)) (fun v => hRet7 _ _ v) (fun K hK => ?_); go_simp; refine hK _ ?_; clear hK K)
  (refine tame_oneK (.bool false) (by go_simp) (fun n => by go_simp) (fun K hK => ?_); go_simp; refine hK _ ?_; clear hK K)
  (refine tame_oneK (.bool false) (by go_simp) (fun n => by go_simp) (fun K hK => ?_); go_simp; refine hK _ ?_; clear hK K)
  (refine tame_oneK (.pointer (some ⟨B2, 0, none⟩)) (by go_simp) (fun n => by go_simp) (fun K hK => ?_); go_simp; refine hK _ ?_; clear hK K)
  (refine tame_oneK (.pointer (some ⟨B2, 1, none⟩)) (by go_simp) (fun n => by go_simp) (fun K hK => ?_); go_simp; refine hK _ ?_; clear hK K)
  (refine tame_oneK (.float .f64 v1) (by go_simp) (fun n => by go_simp) (fun K hK => ?_); go_simp; refine hK _ ?_; clear hK K)
  (refine tame_oneK (.float .f64 c) (by go_simp) (fun n => by go_simp) (fun K hK => ?_); go_simp; refine hK _ ?_; clear hK K)
  (refine tame_oneK (.float .f64 q2) (by go_simp) (fun n => by go_simp) (fun K hK => ?_); go_simp; refine hK _ ?_; clear hK K)
  (refine tame_callK 8 #[.float .f64 q2] (.float .f64 (sinF q2)) (by go_simp) (fun n => by go_simp) (fun n => Calls.quiet_of (F4' _ (hW.drewN n))) (fun v => hRet8 _ v) (fun K hK => ?_); go_simp; refine hK _ ?_; clear hK K)
  (refine tame_setK (fun w => .float .f64 (N1 w)) k1 (by go_simp) (fun w => by go_simp) (fun n4 K hK => ?_); go_simp; refine hK _ ?_; clear hK K)
  (refine tame_callK 7 #[.float .f64 v1, .float .f64 (N1 (W.drewN n4))] (.bool true) (by go_simp) (fun n => by go_simp) (fun n => Calls.quiet_of_same (E4 _ _)) (fun v => hRet7 _ _ v) (fun K hK => ?_); go_simp; refine hK _ ?_; clear hK K)
  (refine tame_oneK (.bool false) (by go_simp) (fun n => by go_simp) (fun K hK => ?_); go_simp; refine hK _ ?_; clear hK K)
  (refine tame_oneK (.bool false) (by go_simp) (fun n => by go_simp) (fun K hK => ?_); go_simp; refine hK _ ?_; clear hK K)
  (refine tame_oneK (.bool false) (by go_simp) (fun n => by go_simp) (fun K hK => ?_); go_simp; refine hK _ ?_; clear hK K)
  (refine tame_oneK (.pointer (some ⟨B2, 0, none⟩)) (by go_simp) (fun n => by go_simp) (fun K hK => ?_); go_simp; refine hK _ ?_; clear hK K)
  (refine tame_oneK (.pointer (some ⟨B2, 2, none⟩)) (by go_simp) (fun n => by go_simp) (fun K hK => ?_); go_simp; refine hK _ ?_; clear hK K)
  (refine tame_oneK (.float .f64 s) (by go_simp) (fun n => by go_simp) (fun K hK => ?_); go_simp; refine hK _ ?_; clear hK K)
  (refine tame_oneK (.float .f64 q1) (by go_simp) (fun n => by go_simp) (fun K hK => ?_); go_simp; refine hK _ ?_; clear hK K)
  (refine tame_callK 8 #[.float .f64 q1] (.float .f64 (sinF q1)) (by go_simp) (fun n => by go_simp) (fun n => Calls.quiet_of (F2' _ (hW.drewN n))) (fun v => hRet8 _ v) (fun K hK => ?_); go_simp; refine hK _ ?_; clear hK K)
  (refine tame_callK 7 #[.float .f64 s, .float .f64 (sinF q1)] (.bool true) (by go_simp) (fun n => by go_simp) (fun n => Calls.quiet_of_same (E5 _)) (fun v => hRet7 _ _ v) (fun K hK => ?_); go_simp; refine hK _ ?_; clear hK K)
  (refine tame_oneK (.bool false) (by go_simp) (fun n => by go_simp) (fun K hK => ?_); go_simp; refine hK _ ?_; clear hK K)
  (refine tame_oneK (.bool false) (by go_simp) (fun n => by go_simp) (fun K hK => ?_); go_simp; refine hK _ ?_; clear hK K)
  intro n9
  clear hRet6 hRet7 hRet8 E3 E4 E5 F2' F3' F4' G0' G1'
  go_wp2_with fail
  go_ret
  exact ⟨rfl, below_drewN zb n9⟩

theorem fields_walk (lat lon : Nat) (index : Int) (w : World) (hw : LaidW w) :
    Calls Ybad.prog 3 #[.float .f64 lat, .float .f64 lon, .int .i64 index] w fun e w' => e = .returned (.bool true) ∧ Below w.heap.size w w' := by
  obtain ⟨R1, r1, a1, l1⟩ := rad_ex lat
  obtain ⟨R2, r2, a2, l2⟩ := rad_ex lon
  obtain ⟨c, s1, h1, h2⟩ := trig_setsF R1 a1 l1
  obtain ⟨c2, s2, h3, h4⟩ := trig_setsF R2 a2 l2
  obtain ⟨T0, aT0, hT0⟩ := mul_sets c (fun s => s = c2) (.inl ⟨c2, fun _ h => h⟩)
  obtain ⟨T1, aT1, hT1⟩ := mul_sets c _ s2
  exact fields_in lat lon c c2 R1 R2 T0 T1 index a1 s1 aT0 aT1 r1 r2 h1 h2 h3 h4 (hT0 c2 rfl) hT1 w hw

end Go.Proofs.YbulkgjuDoor
