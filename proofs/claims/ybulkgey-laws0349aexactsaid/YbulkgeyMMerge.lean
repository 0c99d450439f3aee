/- Merge: the walk (walkApart's contract as a premise). -/
import Derived.Test.YbulkgeyMApart
namespace Go.Proofs.Ybulkgey
open Go.RowKit
set_option linter.unusedVariables false

/-- What walkApart owes. -/
def WApart (f d : Nat → Int) : Prop := ∀ (W : World) (ab ao bb bo : Nat), ClkAt W ab ao (NA f 4) (CA f 4) → ClkAt W bb bo (NA d 4) (CA d 4) → 0 < cn f 4 → 0 < cn d 4 →
  Calls Yba.prog 65 #[.pointer (some ⟨ab, ao, none⟩), .pointer (some ⟨bb, bo, none⟩), .int .i64 (cn (mx f d) 4), .int .i64 (sz (mx f d) 4)] W fun e w' => MergedTo f d e w' ∧ Below W.heap.size W w'

theorem list_congr {f g : Nat → Int} (h : ∀ k, k < 4 → f k % 9 = g k % 9) : NA f 4 = NA g 4 ∧ CA f 4 = CA g 4 := by
  have e : seg f 0 4 = seg g 0 4 := seg_congr fun k _ hk => by unfold has; rw [h k hk]
  refine ⟨by rw [NA_seg, NA_seg, e], ?_⟩
  rw [CA_seg, CA_seg, e]
  apply List.map_congr_left
  intro k hk
  unfold seg at hk
  rw [List.mem_filter, List.mem_range'_1] at hk
  exact h k (by omega)
theorem mx_comm (f d : Nat → Int) : mx f d = mx d f := by funext k; unfold mx; omega
theorem mx_left {f d : Nat → Int} (h : ∀ k, k < 4 → d k % 9 ≤ f k % 9) : NA (mx f d) 4 = NA f 4 ∧ CA (mx f d) 4 = CA f 4 :=
  list_congr fun k hk => by rw [mx_mod]; have := h k hk; omega
theorem sub_of_size {f d : Nat → Int} (h : cn (mx f d) 4 = cn f 4) : Sub f d 0 := by
  have hs : Same (mx f d) f 0 4 := Sub.same (f := mx f d) (d := f) (fun k _ _ hh => by rw [has_mx, hh]; rfl) (by omega) (by rw [cn_zero, cn_zero]; omega)
  intro k k1 k2 hd
  rw [← hs k k1 k2, has_mx, hd, Bool.or_true]
theorem merged_of_row {f d : Nat → Int} (hs : Sub f d 0) : VL f d 0 4 = CA (mx f d) 4 ∧ NA (mx f d) 4 = NA f 4 := by
  have := UL_four f d (fun k hk hd => hs k (by omega) hk hd)
  rw [← this.1]
  refine ⟨?_, this.2⟩
  simp [VL, UL]

theorem runs_at {f d : Nat → Int} : ∀ {rs : List (Nat × Nat)} {t u : Nat}, Runs f d t rs u → ∀ {k p q : Nat}, rs[k]? = some (p, q) → p ≤ q ∧ q ≤ u
  | [], _, _, _, _, _, _, h => by simp at h
  | (a, b) :: rs, t, u, h, 0, p, q, hk => by
    simp at hk
    obtain ⟨rfl, rfl⟩ := hk
    exact ⟨h.2.1, h.2.2.2.2.le⟩
  | (a, b) :: rs, t, u, h, k + 1, p, q, hk => by
    simp at hk
    exact runs_at h.2.2.2.2 hk
theorem rec_false {f d : Nat → Int} {L : Nat → Int} {rs : List (Nat × Nat)} (hr : Runs f d 0 rs 4) (h : Lone f d L rs) (k : Nat) (r : Nat × Nat) (hk : rs[k]? = some r) : RecAt false f d L k r := by
  obtain ⟨p, q⟩ := r
  obtain ⟨h1, h2⟩ := runs_at hr hk
  obtain ⟨e0, e1, e2, e3⟩ := recNat h hk h1 h2
  have := cn_le f p
  have := cn_le d p
  have := cn_le f q
  have := cn_le d q
  exact ⟨_, _, _, _, e0, e1, e2, e3, by omega, by omega, by omega, by omega, fun _ => ⟨rfl, rfl, rfl⟩, fun h => by cases h⟩
theorem rec_true {f d : Nat → Int} {L : Nat → Int} {rs : List (Nat × Nat)} (hr : Runs f d 0 rs 4) (h : Lone f d L rs) (k : Nat) (r : Nat × Nat) (hk : rs[k]? = some r) : RecAt true d f L k r := by
  obtain ⟨p, q⟩ := r
  obtain ⟨h1, h2⟩ := runs_at hr hk
  obtain ⟨e0, e1, e2, e3⟩ := recNat h hk h1 h2
  have := cn_le f p
  have := cn_le d p
  have := cn_le f q
  have := cn_le d q
  exact ⟨_, _, _, _, e0, e1, e2, e3, by omega, by omega, by omega, by omega, fun h => (by cases h), fun _ => ⟨rfl, rfl, rfl⟩⟩

set_option maxRecDepth 100000 in
set_option maxHeartbeats 8000000 in
theorem merge_any (w : World) (f d : Nat → Int) (hWA : WApart f d) (p1 p2 q1 q2 : Option Addr) (n1 c1 n2 c2 m1 k1 m2 k2 : Nat) (hc : Clk w (.slice p1 n1 c1) (.slice p2 n2 c2) (NA f 4) (CA f 4)) (ho : Clk w (.slice q1 m1 k1) (.slice q2 m2 k2) (NA d 4) (CA d 4)) :
    Calls Yba.prog 25 #[.agg #[.string (cat (NA f 4)), .slice p1 n1 c1, .slice p2 n2 c2], .agg #[.string (cat (NA d 4)), .slice q1 m1 k1, .slice q2 m2 k2]] w fun e w' => MergedTo f d e w' ∧ Below w.heap.size w w' := by
  have HC := hid hc
  have HO := hid ho
  have l1 := hc.len
  have l2 := ho.len
  rw [cn_len] at l1 l2
  subst l1 l2
  clear hc ho
  have cf4 := cn_le f 4
  have cd4 := cn_le d 4
  have HWA := hid hWA
  clear hWA
  go_enter Yba.func25, Yba.ntmps25
  go_wp2_with fail
  simp only [Nat.add_assoc, Nat.reduceAdd]
  -- the worlds ahead of measure
  obtain ⟨W0, hW0⟩ : ∃ W0, W0 = (w.alloc (.cells #[.string (cat (NA f 4)), .slice p1 n1 c1, .slice p2 (cn f 4) c2] 27)).alloc (.cells #[.string (cat (NA d 4)), .slice q1 m1 k1, .slice q2 (cn d 4) k2] 27) := ⟨_, rfl⟩
  obtain ⟨w4, hw4⟩ : ∃ w4, w4 = (W0.alloc (.cells #[.string ⟨#[]⟩, .slice none 0 0, .slice none 0 0] 27)).alloc (.cells (mrec 0 0 false false (fun _ => 0) 0) 86) := ⟨_, rfl⟩
  have hW0s : W0.heap.size = w.heap.size + 2 := by rw [hW0]; simp
  have hbW0 : Below w.heap.size w W0 := by rw [hW0]; exact (below_alloc w _ _ (Nat.le_refl _)).trans ((below_alloc _ _ _ (Nat.le_refl _)).mono (by simp))
  have a0 : W0.heap[w.heap.size]? = some (.cells #[.string (cat (NA f 4)), .slice p1 n1 c1, .slice p2 (cn f 4) c2] 27) := by rw [hW0, Go.heap_alloc_old _ _ (by simp)]; exact heap_new_at _ _ rfl
  have a1 : W0.heap[w.heap.size + 1]? = some (.cells #[.string (cat (NA d 4)), .slice q1 m1 k1, .slice q2 (cn d 4) k2] 27) := by rw [hW0]; exact heap_new_at _ _ (by simp)
  have hcA : ClkAt W0 w.heap.size 0 (NA f 4) (CA f 4) := ⟨_, _, _, _, _, _, by rw [cell_of_block a0]; rfl, by rw [cell_of_block a0]; rfl, by rw [cell_of_block a0]; rfl, HC.out.below hbW0⟩
  have hcB : ClkAt W0 (w.heap.size + 1) 0 (NA d 4) (CA d 4) := ⟨_, _, _, _, _, _, by rw [cell_of_block a1]; rfl, by rw [cell_of_block a1]; rfl, by rw [cell_of_block a1]; rfl, HO.out.below hbW0⟩
  have hb04 : Below W0.heap.size W0 w4 := by rw [hw4]; exact (below_alloc W0 _ _ (Nat.le_refl _)).trans ((below_alloc _ _ _ (Nat.le_refl _)).mono (by simp))
  have a2 : w4.heap[w.heap.size + 2]? = some (.cells #[.string ⟨#[]⟩, .slice none 0 0, .slice none 0 0] 27) := by rw [hw4, Go.heap_alloc_old _ _ (by simp [hW0s])]; exact heap_new_at _ _ (by omega)
  have a3 : w4.heap[w.heap.size + 3]? = some (.cells (mrec 0 0 false false (fun _ => 0) 0) 86) := by rw [hw4]; exact heap_new_at _ _ (by simp [hW0s])
  have hw4s : w4.heap.size = w.heap.size + 4 := by rw [hw4]; simp [hW0s]
  have hme := measure_any w4 W0 (w.heap.size + 3) w.heap.size 0 (w.heap.size + 1) 0 f d hcA hcB hb04 (by omega) a3
  have hweq : (((w.alloc (.cells #[.string (cat (NA f 4)), .slice p1 n1 c1, .slice p2 (cn f 4) c2] 27)).alloc (.cells #[.string (cat (NA d 4)), .slice q1 m1 k1, .slice q2 (cn d 4) k2] 27)).alloc (.cells #[.string ⟨#[]⟩, .slice none 0 0, .slice none 0 0] 27)).alloc (.cells #[.int .i64 0, .int .i64 0, .bool false, .bool false, .int .u32 0, .int .u32 0, .int .u32 0, .int .u32 0, .int .u32 0, .int .u32 0, .int .u32 0, .int .u32 0, .int .i64 0] 86) = w4 := by rw [hw4, hW0]; rfl
  rw [hweq]
  clear hweq hw4 hW0 a3
  refine hme.mono ?_
  rintro e w5 ⟨rfl, hk5, s, ib, aA, bA, L, rs, hF, hrec⟩
  have e0 : w5.heap[w.heap.size]? = some (.cells #[.string (cat (NA f 4)), .slice p1 n1 c1, .slice p2 (cn f 4) c2] 27) := by rw [hk5.block _ (by omega) (by omega), hb04.block _ (by omega)]; exact a0
  have e1 : w5.heap[w.heap.size + 1]? = some (.cells #[.string (cat (NA d 4)), .slice q1 m1 k1, .slice q2 (cn d 4) k2] 27) := by rw [hk5.block _ (by omega) (by omega), hb04.block _ (by omega)]; exact a1
  have e2 : w5.heap[w.heap.size + 2]? = some (.cells #[.string ⟨#[]⟩, .slice none 0 0, .slice none 0 0] 27) := by rw [hk5.block _ (by omega) (by omega)]; exact a2
  have hb5 : Below W0.heap.size W0 w5 := hb04.trans ⟨hk5.os, hk5.tape, hk5.output, hk5.size, fun k hk => hk5.block k (by omega) (by omega)⟩
  have hbw5 : Below w.heap.size w w5 := hbW0.trans (hb5.mono (by omega))
  have hcA5 := hcA.below hb5
  have hcB5 := hcB.below hb5
  have f0 : w5.cell? ⟨w.heap.size + 3, 0, none⟩ = some (.int .i64 s) := by rw [cell_of_block hrec]; rfl
  have f2 : w5.cell? ⟨w.heap.size + 3, 2, none⟩ = some (.bool aA) := by rw [cell_of_block hrec]; rfl
  have f3 : w5.cell? ⟨w.heap.size + 3, 3, none⟩ = some (.bool bA) := by rw [cell_of_block hrec]; rfl
  have g00 : w5.cell? ⟨w.heap.size, 0, none⟩ = some (.string (cat (NA f 4))) := by rw [cell_of_block e0]; rfl
  have g01 : w5.cell? ⟨w.heap.size, 1, none⟩ = some (.slice p1 n1 c1) := by rw [cell_of_block e0]; rfl
  have g02 : w5.cell? ⟨w.heap.size, 2, none⟩ = some (.slice p2 (cn f 4) c2) := by rw [cell_of_block e0]; rfl
  have g10 : w5.cell? ⟨w.heap.size + 1, 0, none⟩ = some (.string (cat (NA d 4))) := by rw [cell_of_block e1]; rfl
  have g11 : w5.cell? ⟨w.heap.size + 1, 1, none⟩ = some (.slice q1 m1 k1) := by rw [cell_of_block e1]; rfl
  have g12 : w5.cell? ⟨w.heap.size + 1, 2, none⟩ = some (.slice q2 (cn d 4) k2) := by rw [cell_of_block e1]; rfl
  have u0 : w5.cell? ⟨w.heap.size + 2, 0, none⟩ = some (.string ⟨#[]⟩) := by rw [cell_of_block e2]; rfl
  have u1 : w5.cell? ⟨w.heap.size + 2, 1, none⟩ = some (.slice none 0 0) := by rw [cell_of_block e2]; rfl
  have u2 : w5.cell? ⟨w.heap.size + 2, 2, none⟩ = some (.slice none 0 0) := by rw [cell_of_block e2]; rfl
  have z0 := frozen_of_block e2 0
  have z1 := frozen_of_block e2 1
  have z2 := frozen_of_block e2 2
  have HF := hid hF
  have HREC := hid hrec
  have HE2 := hid e2
  have HCA5 := hid hcA5
  have HCB5 := hid hcB5
  have hbd := hF.bounds (Nat.le_refl _)
  have h5s : w.heap.size + 4 ≤ w5.heap.size := by have := hk5.size; omega
  clear hme hF hrec a0 a1 a2 hcA hcB hb04 hk5 hb5 hbW0 e0 e1 e2 hcA5 hcB5
  cases bA
  · have hmx := mx_left (f := f) (d := d) (fun k hk => HF.out.2.2.1 rfl k hk)
    have HMX := hid hmx
    have HCK := hid ((HC.out.below hbw5).setRes HE2.out (.string (cat (NA f 4))) (.slice p1 n1 c1) (.slice p2 (cn f 4) c2))
    have HBW := hid hbw5
    clear hmx hbw5
    go_wp2_with fail
    refine bodyPost_ret (v := .agg #[.string (cat (NA f 4)), .slice p1 n1 c1, .slice p2 (cn f 4) c2]) (by simp [results, Yba.results25, go_sem, u0, u1, u2]) rfl ?_
    refine ⟨⟨_, _, _, _, _, _, by rw [HMX.out.1], ?_⟩, ((HBW.out.setCell (p := ⟨w.heap.size + 2, 0, none⟩) (by show w.heap.size ≤ w.heap.size + 2; omega) _).setCell (p := ⟨w.heap.size + 2, 1, none⟩) (by show w.heap.size ≤ w.heap.size + 2; omega) _).setCell (p := ⟨w.heap.size + 2, 2, none⟩) (by show w.heap.size ≤ w.heap.size + 2; omega) _⟩
    rw [HMX.out.1, HMX.out.2]
    exact HCK.out
  · cases aA
    · have hmx := mx_left (f := d) (d := f) (fun k hk => HF.out.2.2.2.1 rfl k hk)
      rw [← mx_comm] at hmx
      have HMX := hid hmx
      have HCK := hid ((HO.out.below hbw5).setRes HE2.out (.string (cat (NA d 4))) (.slice q1 m1 k1) (.slice q2 (cn d 4) k2))
      have HBW := hid hbw5
      clear hmx hbw5
      go_wp2_with fail
      refine bodyPost_ret (v := .agg #[.string (cat (NA d 4)), .slice q1 m1 k1, .slice q2 (cn d 4) k2]) (by simp [results, Yba.results25, go_sem, u0, u1, u2]) rfl ?_
      refine ⟨⟨_, _, _, _, _, _, by rw [HMX.out.1], ?_⟩, ((HBW.out.setCell (p := ⟨w.heap.size + 2, 0, none⟩) (by show w.heap.size ≤ w.heap.size + 2; omega) _).setCell (p := ⟨w.heap.size + 2, 1, none⟩) (by show w.heap.size ≤ w.heap.size + 2; omega) _).setCell (p := ⟨w.heap.size + 2, 2, none⟩) (by show w.heap.size ≤ w.heap.size + 2; omega) _⟩
      rw [HMX.out.1, HMX.out.2]
      exact HCK.out
    · have hpf := HF.out.2.2.2.2.2.2.2.1 rfl
      have hpd := HF.out.2.2.2.2.2.2.2.2 rfl
      have HSZ := hid HF.out.1
      go_upto_region 7 with fail
      go_cut [19] from 15 to 19 (fun v ws => v = .bool ((s : Int) == (cn f 4 : Int)) ∧ Below w5.heap.size w5 ws)
      case first =>
        refine wp_region_D [0, 1, 2] [3, 4] 30 (fun w' => Below w5.heap.size w5 w') (by kernel_rfl) (by kernel_rfl) rfl (by kernel_rfl) (fun _ _ _ dd _ h => by cases dd <;> exact h) ((Below.refl _ _).drew) ?_
        repeat
          refine wpHeadD_step rfl rfl w5 (fun K' hK' => ⟨?_, fun w' hw' => ?_, ?_⟩)
          rotate_left
          · have d0 := cell_later hw' f0
            have d1 := cell_later hw' g00
            have d2 := cell_later hw' g01
            have d3 := cell_later hw' g02
            go_simp
            first
              | done
              | rfl
          go_simp
          try go_bits
          refine hK' _ _ ?_
          clear hK' K'
        refine wpHeadD_nil ?_
        refine wpTailD_cons rfl rfl (fun K' hK' => ?_)
        go_simp
        refine (len_any _ _ _ _ _ _ _ _).mono ?_
        rintro e w6 ⟨rfl, hb6⟩
        have hb56 : Below w5.heap.size w5 w6 := ((Below.refl _ w5).drew).trans hb6
        dsimp only
        refine hK' _ _ (fun _ => hb56) ?_
        clear hK' K'
        refine wpTailD_lone (by kernel_rfl) rfl rfl (fun K' hK' => ?_)
        go_simp
        refine hK' _ _ ?_
        clear hK' K'
        refine wpTailD_nil ?_
        go_wp2_with fail
        go_meet
        exact ⟨rfl, hb56⟩
      case rest =>
        obtain ⟨rfl, hb6⟩ := hcut
        by_cases hsf : s = cn f 4
        · have hsf' : ((s : Int) == (cn f 4 : Int)) = true := by simp; omega
          rw [hsf']
          have hsub : Sub f d 0 := sub_of_size (by rw [← HSZ.out]; exact hsf)
          have HMR := hid (merged_of_row (f := f) (d := d) hsub)
          have hra := raised40_any wc.drew (w.heap.size + 3) (w.heap.size) 0 (w.heap.size + 1) 0 false f d s ib true true L rs (HCA5.out.below hb6.drew) (HCB5.out.below hb6.drew) (show wc.drew.heap[w.heap.size + 3]? = _ from (hb6.block _ (by omega)).trans HREC.out) hsub (by omega) (by omega) HF.out.2.2.2.2.1 (by omega) (fun h2 => rec_false HF.out.2.2.2.2.1 (HF.out.2.2.2.2.2.2.1 h2))
          have d0 := cell_later hb6 g00
          have d1 := cell_later hb6 g01
          go_upto_region 8 with fail
          refine wp_region_D [0, 1, 2, 3] [4, 5, 6] 30 (fun w' => Below wc.heap.size wc w') (by kernel_rfl) (by kernel_rfl) rfl (by kernel_rfl) (fun _ _ _ dd _ h => by cases dd <;> exact h) ((Below.refl _ _).drew) ?_
          repeat
            refine wpHeadD_step rfl rfl wc (fun K' hK' => ⟨?_, fun w' hw' => ?_, ?_⟩)
            rotate_left
            · have x0 := cell_later hw' d0
              have x1 := cell_later hw' d1
              go_simp
              first
                | done
                | rfl
            go_simp
            try go_bits
            refine hK' _ _ ?_
            clear hK' K'
          refine wpHeadD_nil ?_
          refine wpTailD_cons rfl rfl (fun K' hK' => ?_)
          go_simp
          refine hra.mono ?_
          rintro e w7 ⟨⟨r1, r2, r3, rfl, hrow⟩, hb7⟩
          have hb67 : Below wc.heap.size wc w7 := ((Below.refl _ wc).drew).trans hb7
          dsimp only
          refine hK' _ _ (fun _ => hb67) ?_
          clear hK' K'
          refine wpTailD_lone (by kernel_rfl) rfl rfl (fun K' hK' => ?_)
          go_simp
          refine hK' _ _ ?_
          clear hK' K'
          have hb57 : Below w5.heap.size w5 w7 := hb6.trans (hb67.mono hb6.size)
          have e2 : w7.heap[w.heap.size + 2]? = some (.cells #[.string ⟨#[]⟩, .slice none 0 0, .slice none 0 0] 27) := by rw [hb57.block _ (by omega)]; exact HE2.out
          have v0 : w7.cell? ⟨w.heap.size + 2, 0, none⟩ = some (.string ⟨#[]⟩) := by rw [cell_of_block e2]; rfl
          have v1 : w7.cell? ⟨w.heap.size + 2, 1, none⟩ = some (.slice none 0 0) := by rw [cell_of_block e2]; rfl
          have v2 : w7.cell? ⟨w.heap.size + 2, 2, none⟩ = some (.slice none 0 0) := by rw [cell_of_block e2]; rfl
          have y0 := frozen_of_block e2 0
          have y1 := frozen_of_block e2 1
          have y2 := frozen_of_block e2 2
          refine wpTailD_lone (by kernel_rfl) rfl rfl (fun K' hK' => ?_)
          go_simp
          refine hK' _ _ ?_
          clear hK' K'
          refine wpTailD_nil ?_
          have hcl : Clk w7 (.slice p1 n1 c1) (.slice r1 r2 r3) (NA (mx f d) 4) (CA (mx f d) 4) := by
            have hh := HC.out.below (hbw5.trans (hb57.mono hbw5.size))
            rw [HMR.out.2, ← HMR.out.1]
            exact ⟨hrow, by rw [HMR.out.1, CA_len, HMR.out.2], hh.2.2⟩
          have HCK := hid (hcl.setRes e2 (.string (cat (NA f 4))) (.slice p1 n1 c1) (.slice r1 r2 r3))
          have HBW := hid (hbw5.trans (hb57.mono hbw5.size))
          have HMN := hid HMR.out.2
          clear hcl hrow hb7 hb67 hb57 hra
          go_wp2_with fail
          refine bodyPost_ret (v := .agg #[.string (cat (NA f 4)), .slice p1 n1 c1, .slice r1 r2 r3]) (by simp [results, Yba.results25, go_sem, v0, v1, v2]) rfl ?_
          exact ⟨⟨_, _, _, _, _, _, by rw [HMN.out], HCK.out⟩, ((HBW.out.setCell (p := ⟨w.heap.size + 2, 0, none⟩) (by show w.heap.size ≤ w.heap.size + 2; omega) _).setCell (p := ⟨w.heap.size + 2, 1, none⟩) (by show w.heap.size ≤ w.heap.size + 2; omega) _).setCell (p := ⟨w.heap.size + 2, 2, none⟩) (by show w.heap.size ≤ w.heap.size + 2; omega) _⟩
        · have hsf' : ((s : Int) == (cn f 4 : Int)) = false := by simp; omega
          rw [hsf']
          clear u0 u1 u2 z0 z1 z2 f2 f3
          have f0' := cell_later hb6 f0
          have g10' := cell_later hb6 g10
          have g11' := cell_later hb6 g11
          have g12' := cell_later hb6 g12
          go_upto_region 9 with fail
          go_cut [30] from 26 to 30 (fun v ws => v = .bool ((s : Int) == (cn d 4 : Int)) ∧ Below w5.heap.size w5 ws)
          case first =>
            refine wp_region_D [0, 1, 2] [3, 4] 30 (fun w' => Below wc.heap.size wc w') (by kernel_rfl) (by kernel_rfl) rfl (by kernel_rfl) (fun _ _ _ dd _ h => by cases dd <;> exact h) ((Below.refl _ _).drew) ?_
            repeat
              refine wpHeadD_step rfl rfl wc (fun K' hK' => ⟨?_, fun w' hw' => ?_, ?_⟩)
              rotate_left
              · have d0 := cell_later hw' f0'
                have d1 := cell_later hw' g10'
                have d2 := cell_later hw' g11'
                have d3 := cell_later hw' g12'
                go_simp
                first
                  | done
                  | rfl
              go_simp
              try go_bits
              refine hK' _ _ ?_
              clear hK' K'
            refine wpHeadD_nil ?_
            refine wpTailD_cons rfl rfl (fun K' hK' => ?_)
            go_simp
            refine (len_any _ _ _ _ _ _ _ _).mono ?_
            rintro e w6 ⟨rfl, hb6'⟩
            have hb56 : Below wc.heap.size wc w6 := ((Below.refl _ wc).drew).trans hb6'
            dsimp only
            refine hK' _ _ (fun _ => hb56) ?_
            clear hK' K'
            refine wpTailD_lone (by kernel_rfl) rfl rfl (fun K' hK' => ?_)
            go_simp
            refine hK' _ _ ?_
            clear hK' K'
            refine wpTailD_nil ?_
            go_wp2_with fail
            go_meet
            exact ⟨rfl, hb6.trans (hb56.mono hb6.size)⟩
          case rest =>
            clear f0' g10' g11' g12' hb6
            obtain ⟨rfl, hb6⟩ := hcut
            by_cases hsd : s = cn d 4
            · have hsd' : ((s : Int) == (cn d 4 : Int)) = true := by simp; omega
              rw [hsd']
              have hsub : Sub d f 0 := sub_of_size (by rw [mx_comm, ← HSZ.out]; exact hsd)
              have HMR := hid (merged_of_row (f := d) (d := f) hsub)
              have hra := raised40_any wc.drew (w.heap.size + 3) (w.heap.size + 1) 0 (w.heap.size) 0 true d f s ib true true L rs (HCB5.out.below hb6.drew) (HCA5.out.below hb6.drew) (show wc.drew.heap[w.heap.size + 3]? = _ from (hb6.block _ (by omega)).trans HREC.out) hsub (by omega) (by omega) HF.out.2.2.2.2.1.swap (by omega) (fun h2 => rec_true HF.out.2.2.2.2.1 (HF.out.2.2.2.2.2.2.1 h2))
              have d0 := cell_later hb6 g10
              have d1 := cell_later hb6 g11
              go_upto_region 10 with fail
              refine wp_region_D [0, 1, 2, 3] [4, 5, 6] 30 (fun w' => Below wc.heap.size wc w') (by kernel_rfl) (by kernel_rfl) rfl (by kernel_rfl) (fun _ _ _ dd _ h => by cases dd <;> exact h) ((Below.refl _ _).drew) ?_
              repeat
                refine wpHeadD_step rfl rfl wc (fun K' hK' => ⟨?_, fun w' hw' => ?_, ?_⟩)
                rotate_left
                · have x0 := cell_later hw' d0
                  have x1 := cell_later hw' d1
                  go_simp
                  first
                    | done
                    | rfl
                go_simp
                try go_bits
                refine hK' _ _ ?_
                clear hK' K'
              refine wpHeadD_nil ?_
              refine wpTailD_cons rfl rfl (fun K' hK' => ?_)
              go_simp
              refine hra.mono ?_
              rintro e w7 ⟨⟨r1, r2, r3, rfl, hrow⟩, hb7⟩
              have hb67 : Below wc.heap.size wc w7 := ((Below.refl _ wc).drew).trans hb7
              dsimp only
              refine hK' _ _ (fun _ => hb67) ?_
              clear hK' K'
              refine wpTailD_lone (by kernel_rfl) rfl rfl (fun K' hK' => ?_)
              go_simp
              refine hK' _ _ ?_
              clear hK' K'
              have hb57 : Below w5.heap.size w5 w7 := hb6.trans (hb67.mono hb6.size)
              have e2 : w7.heap[w.heap.size + 2]? = some (.cells #[.string ⟨#[]⟩, .slice none 0 0, .slice none 0 0] 27) := by rw [hb57.block _ (by omega)]; exact HE2.out
              have v0 : w7.cell? ⟨w.heap.size + 2, 0, none⟩ = some (.string ⟨#[]⟩) := by rw [cell_of_block e2]; rfl
              have v1 : w7.cell? ⟨w.heap.size + 2, 1, none⟩ = some (.slice none 0 0) := by rw [cell_of_block e2]; rfl
              have v2 : w7.cell? ⟨w.heap.size + 2, 2, none⟩ = some (.slice none 0 0) := by rw [cell_of_block e2]; rfl
              have y0 := frozen_of_block e2 0
              have y1 := frozen_of_block e2 1
              have y2 := frozen_of_block e2 2
              refine wpTailD_lone (by kernel_rfl) rfl rfl (fun K' hK' => ?_)
              go_simp
              refine hK' _ _ ?_
              clear hK' K'
              refine wpTailD_nil ?_
              have hcl : Clk w7 (.slice q1 m1 k1) (.slice r1 r2 r3) (NA (mx f d) 4) (CA (mx f d) 4) := by
                have hh := HO.out.below (hbw5.trans (hb57.mono hbw5.size))
                rw [mx_comm f d]
                rw [HMR.out.2, ← HMR.out.1]
                exact ⟨hrow, by rw [HMR.out.1, CA_len, HMR.out.2], hh.2.2⟩
              have HCK := hid (hcl.setRes e2 (.string (cat (NA d 4))) (.slice q1 m1 k1) (.slice r1 r2 r3))
              have HBW := hid (hbw5.trans (hb57.mono hbw5.size))
              have HMN : Hid (NA (mx f d) 4 = NA d 4) := by rw [mx_comm f d]; exact HMR.out.2
              clear hcl hrow hb7 hb67 hb57 hra
              go_wp2_with fail
              refine bodyPost_ret (v := .agg #[.string (cat (NA d 4)), .slice q1 m1 k1, .slice r1 r2 r3]) (by simp [results, Yba.results25, go_sem, v0, v1, v2]) rfl ?_
              exact ⟨⟨_, _, _, _, _, _, by rw [HMN.out], HCK.out⟩, ((HBW.out.setCell (p := ⟨w.heap.size + 2, 0, none⟩) (by show w.heap.size ≤ w.heap.size + 2; omega) _).setCell (p := ⟨w.heap.size + 2, 1, none⟩) (by show w.heap.size ≤ w.heap.size + 2; omega) _).setCell (p := ⟨w.heap.size + 2, 2, none⟩) (by show w.heap.size ≤ w.heap.size + 2; omega) _⟩
            · have hsd' : ((s : Int) == (cn d 4 : Int)) = false := by simp; omega
              rw [hsd']
              have hcA := HCA5.out.below hb6
              have hcB := HCB5.out.below hb6
              have hap := apart_any wc (w.heap.size + 3) w.heap.size 0 (w.heap.size + 1) 0 f d s ib true true L rs hcA hcB ((hb6.block _ (by omega)).trans HREC.out) HF.out hpf hpd (fun W hbW => HWA.out W _ _ _ _ (hcA.below hbW) (hcB.below hbW) hpf hpd)
              clear hcA hcB
              go_wp2_with fail
              refine hap.mono ?_
              rintro e w7 ⟨⟨r1, r2, r3, r4, r5, r6, rfl, hck⟩, hb7⟩
              have hb57 : Below w5.heap.size w5 w7 := hb6.trans (hb7.mono hb6.size)
              have e2 : w7.heap[w.heap.size + 2]? = some (.cells #[.string ⟨#[]⟩, .slice none 0 0, .slice none 0 0] 27) := by rw [hb57.block _ (by omega)]; exact HE2.out
              have v0 : w7.cell? ⟨w.heap.size + 2, 0, none⟩ = some (.string ⟨#[]⟩) := by rw [cell_of_block e2]; rfl
              have v1 : w7.cell? ⟨w.heap.size + 2, 1, none⟩ = some (.slice none 0 0) := by rw [cell_of_block e2]; rfl
              have v2 : w7.cell? ⟨w.heap.size + 2, 2, none⟩ = some (.slice none 0 0) := by rw [cell_of_block e2]; rfl
              have y0 := frozen_of_block e2 0
              have y1 := frozen_of_block e2 1
              have y2 := frozen_of_block e2 2
              have HCK := hid (hck.setRes e2 (.string (cat (NA (mx f d) 4))) (.slice r1 r2 r3) (.slice r4 r5 r6))
              have HBW := hid (hbw5.trans (hb57.mono hbw5.size))
              clear hck hb7 hb57 hap
              go_wp2_with fail
              refine bodyPost_ret (v := .agg #[.string (cat (NA (mx f d) 4)), .slice r1 r2 r3, .slice r4 r5 r6]) (by simp [results, Yba.results25, go_sem, v0, v1, v2]) rfl ?_
              exact ⟨⟨_, _, _, _, _, _, rfl, HCK.out⟩, ((HBW.out.setCell (p := ⟨w.heap.size + 2, 0, none⟩) (by show w.heap.size ≤ w.heap.size + 2; omega) _).setCell (p := ⟨w.heap.size + 2, 1, none⟩) (by show w.heap.size ≤ w.heap.size + 2; omega) _).setCell (p := ⟨w.heap.size + 2, 2, none⟩) (by show w.heap.size ≤ w.heap.size + 2; omega) _⟩
end Go.Proofs.Ybulkgey
