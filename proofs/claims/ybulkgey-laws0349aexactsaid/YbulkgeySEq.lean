/- zzs0349aeq (13): the walk. -/
import Derived.Test.YbulkgeySSync
namespace Go.Proofs.Ybulkgey
open Go.RowKit
set_option linter.unusedVariables false

theorem names_any (w : World) : Calls Yba.prog 7 #[] w fun e w' => e = .returned (.agg anCells) ∧ Below w.heap.size w w' := by
  go_enter Yba.func7, Yba.ntmps7
  go_wp2_with fail
  refine bodyPost_ret (v := .agg anCells) (by simp [results, Yba.results7, go_sem]; rfl) rfl ?_
  exact ⟨rfl, by go_grown⟩

set_option maxRecDepth 100000 in
set_option maxHeartbeats 4000000 in
theorem eq_any (w : World) (v u : Value) (f d : Nat → Int) (P Q : Nat → Bool) (hv : Sib w v f P) (hu : Sib w u d Q) (hPQ : codes P = codes Q) (hfd : ∀ k, k < 4 → f k % 9 = d k % 9) :
    Calls Yba.prog 13 #[v, u] w fun e w' => e = .returned (.bool true) ∧ Below w.heap.size w w' := by
  obtain ⟨p1, n1, c1, p2, n2, c2, a, cap, rfl, hck, hrow⟩ := hv
  obtain ⟨q1, m1, k1, q2, m2, k2, b, bcap, rfl, hck', hrow'⟩ := hu
  obtain ⟨eN, eC⟩ := list_congr hfd
  rw [← hPQ] at hrow' ⊢
  rw [← eN, ← eC] at hck'
  rw [← eN]
  clear hPQ hfd eN eC
  have hlP := codes_len P
  have l1 := hck.len
  have l2 := hck'.len
  rw [cn_len] at l1 l2
  subst l1 l2
  have HG : Hid (∀ W k, Below w.heap.size w W → k < 4 → Calls Yba.prog 11 #[.agg #[.string (cat (NA f 4)), .slice p1 n1 c1, .slice p2 (cn f 4) c2], .string (an k)] W fun e w' => e = .returned (.int .u64 (f k % 9)) ∧ Below W.heap.size W w') := fun W k hb hk => by
    have := get_any W p1 p2 n1 c1 (cn f 4) c2 (NA f 4) (CA f 4) (hck.below hb) (an k) (by have := NA_cat f 4 (Nat.le_refl _); omega) (by have := NA_len f 4; omega) (NA_order f hk)
    rw [NA_get f hk] at this
    exact this
  have HG' : Hid (∀ W k, Below w.heap.size w W → k < 4 → Calls Yba.prog 11 #[.agg #[.string (cat (NA f 4)), .slice q1 m1 k1, .slice q2 (cn f 4) k2], .string (an k)] W fun e w' => e = .returned (.int .u64 (f k % 9)) ∧ Below W.heap.size W w') := fun W k hb hk => by
    have := get_any W q1 q2 m1 k1 (cn f 4) k2 (NA f 4) (CA f 4) (hck'.below hb) (an k) (by have := NA_cat f 4 (Nat.le_refl _); omega) (by have := NA_len f 4; omega) (NA_order f hk)
    rw [NA_get f hk] at this
    exact this
  have HR := hid hrow
  have HR' := hid hrow'
  clear hck hck' hrow hrow'
  have hp : Yba.prog.stoodInHeld 36 = false := by kernel_rfl
  have hm : Yba.prog.eqGuardType Yba.prog.depth 36 = false := by kernel_rfl
  go_enter Yba.func13, Yba.ntmps13
  go_wp2_with fail
  obtain ⟨W0, hW0⟩ : ∃ W0, W0 = (w.alloc (.cells #[.string (cat (NA f 4)), .slice p1 n1 c1, .slice p2 (cn f 4) c2, .slice a (codes P).length cap] 30)).alloc (.cells #[.string (cat (NA f 4)), .slice q1 m1 k1, .slice q2 (cn f 4) k2, .slice b (codes P).length bcap] 30) := ⟨_, rfl⟩
  have g0 : W0.heap[w.heap.size]? = some (.cells #[.string (cat (NA f 4)), .slice p1 n1 c1, .slice p2 (cn f 4) c2, .slice a (codes P).length cap] 30) := by rw [hW0, Go.heap_alloc_old _ _ (by simp)]; exact heap_new_at _ _ rfl
  have g1 : W0.heap[w.heap.size + 1]? = some (.cells #[.string (cat (NA f 4)), .slice q1 m1 k1, .slice q2 (cn f 4) k2, .slice b (codes P).length bcap] 30) := by rw [hW0]; exact heap_new_at _ _ (by simp)
  have hb0 : Below w.heap.size w W0 := by rw [hW0]; go_grown
  rw [← hW0]
  clear hW0
  have x0 : W0.cell? ⟨w.heap.size, 0, none⟩ = some (.string (cat (NA f 4))) := cell_of_block g0 0
  have x1 : W0.cell? ⟨w.heap.size, 1, none⟩ = some (.slice p1 n1 c1) := cell_of_block g0 1
  have x2 : W0.cell? ⟨w.heap.size, 2, none⟩ = some (.slice p2 (cn f 4) c2) := cell_of_block g0 2
  have x3 : W0.cell? ⟨w.heap.size, 3, none⟩ = some (.slice a (codes P).length cap) := cell_of_block g0 3
  have y0 : W0.cell? ⟨w.heap.size + 1, 0, none⟩ = some (.string (cat (NA f 4))) := cell_of_block g1 0
  have y1 : W0.cell? ⟨w.heap.size + 1, 1, none⟩ = some (.slice q1 m1 k1) := cell_of_block g1 1
  have y2 : W0.cell? ⟨w.heap.size + 1, 2, none⟩ = some (.slice q2 (cn f 4) k2) := cell_of_block g1 2
  have y3 : W0.cell? ⟨w.heap.size + 1, 3, none⟩ = some (.slice b (codes P).length bcap) := cell_of_block g1 3
  clear g0 g1
  go_loopw [5] (fun v5 wr => ∃ i q : Nat, i ≤ (codes P).length ∧ v5 = .int .i64 i ∧ wr = W0.drewN q) (fun v5 wr => (codes P).length - (intOf v5).toNat)
  case atStart => exact ⟨0, 0, by omega, rfl, rfl⟩
  case round =>
    obtain ⟨i, q, hi, rfl, rfl⟩ := hrel
    by_cases hlt : i < (codes P).length
    · have hlt' : (i : Int) < ((codes P).length : Int) := by omega
      rcases HR.out.below hb0 with hnil | ⟨g, o, rfl, hcell⟩
      · rw [List.map_eq_nil_iff.1 hnil] at hlt; simp at hlt
      rcases HR'.out.below hb0 with hnil | ⟨g', o', rfl, hcell'⟩
      · rw [List.map_eq_nil_iff.1 hnil] at hlt; simp at hlt
      obtain ⟨s0, s1, s2⟩ := hcell i (by simpa using hlt)
      obtain ⟨t0, t1, t2⟩ := hcell' i (by simpa using hlt)
      generalize ((codes P).map mkW)[i]'(by simpa using hlt) = x at s0 s1 s2 t0 t1 t2
      obtain ⟨xs, xc, xv⟩ := x
      dsimp only at s0 s1 s2 t0 t1 t2
      clear hcell hcell'
      go_upto_region 6 with fail
      go_quiet (fail)
      go_wp2_with fail
      exact ⟨⟨i + 1, q + nq, by omega, by go_num, rfl⟩, by simp [intOf]; omega⟩
    · obtain rfl : i = (codes P).length := by omega
      clear hlt
      go_upto_region 8 with fail
      have hbq : Below W0.heap.size W0 (W0.drewN q) := below_drewN (Below.refl _ _) q
      refine wp_region_D [0, 1, 3, 4] [2, 5, 6] 30 (fun w' => Below W0.heap.size W0 w') (by kernel_rfl) (by kernel_rfl) rfl (by kernel_rfl) (fun _ _ _ dd _ h => by cases dd <;> exact h) hbq.drew ?_
      repeat
        refine wpHeadD_step rfl rfl W0 (fun K' hK' => ⟨?_, fun w' hw' => ?_, ?_⟩)
        rotate_left
        · have e0 := cell_later hw' x0
          have e1 := cell_later hw' x1
          have e2 := cell_later hw' x2
          have e3 := cell_later hw' y0
          have e4 := cell_later hw' y1
          have e5 := cell_later hw' y2
          go_simp
          first
            | done
            | rfl
        go_simp
        try go_bits
        refine hK' _ _ ?_
        clear hK' K'
      refine wpHeadD_nil ?_
      refine wpTailD_cons rfl rfl (fun K' hK' => ?_)
      go_simp
      refine (len_any _ _ _ _ _ _ _ _).mono ?_
      rintro e w6 ⟨rfl, hb6⟩
      have hb06 : Below W0.heap.size W0 w6 := hbq.drew.trans (hb6.mono (by simp))
      dsimp only
      refine hK' _ _ (fun _ => hb06) ?_
      clear hK' K'
      refine wpTailD_lone (by kernel_rfl) rfl rfl (fun K' hK' => ?_)
      go_simp
      refine (len_any _ _ _ _ _ _ _ _).mono ?_
      rintro e w7 ⟨rfl, hb7⟩
      have hb07 : Below W0.heap.size W0 w7 := hb06.trans (hb7.mono hb06.size)
      dsimp only
      refine hK' _ _ ?_
      clear hK' K'
      refine wpTailD_lone (by kernel_rfl) rfl rfl (fun K' hK' => ?_)
      go_simp
      refine hK' _ _ ?_
      clear hK' K'
      refine wpTailD_nil ?_
      clear hb6 hb7 hb06 hbq
      go_wp2_with fail
      refine (names_any _).mono ?_
      rintro e w8 ⟨rfl, hb8⟩
      have hb08 : Below W0.heap.size W0 w8 := hb07.trans (hb8.mono hb07.size)
      clear hb8 hb07
      unfold anCells
      go_wp2_with fail
      have n0 : (w8.alloc (.cells anCells 23)).heap[w8.heap.size]? = some (.cells anCells 23) := heap_new_at _ _ rfl
      have hb9 : Below w8.heap.size w8 (w8.alloc (.cells anCells 23)) := below_alloc _ _ _ (Nat.le_refl _)
      have hnm : ∀ k, k < 4 → (w8.alloc (.cells anCells 23)).cell? ⟨w8.heap.size, k, none⟩ = some (.string (an k)) := fun k hk => (cell_of_block n0 k).trans (anCells_at k hk)
      unfold anCells at n0 hb9 hnm
      generalize w8.alloc (.cells #[.string ⟨#[65]⟩, .string ⟨#[66, 120]⟩, .string ⟨#[67]⟩, .string ⟨#[100]⟩] 23) = w9 at n0 hb9 hnm ⊢
      have hb09 : Below W0.heap.size W0 w9 := hb08.trans (hb9.mono hb08.size)
      have X0 := cell_later hb09 x0
      have X1 := cell_later hb09 x1
      have X2 := cell_later hb09 x2
      have Y0 := cell_later hb09 y0
      have Y1 := cell_later hb09 y1
      have Y2 := cell_later hb09 y2
      have HNM := hid hnm
      have hbw9 : Below w.heap.size w w9 := hb0.trans (hb09.mono hb0.size)
      clear x0 x1 x2 x3 y0 y1 y2 y3 hb08 hb9 n0 hnm hb09
      go_loopw [7] (fun v7 wr => ∃ k : Nat, k ≤ 4 ∧ v7 = .int .i64 k ∧ Below w9.heap.size w9 wr) (fun v7 wr => 4 - (intOf v7).toNat)
      case atStart => exact ⟨0, by omega, rfl, Below.refl _ _⟩
      case round =>
        obtain ⟨k, hk, rfl, hbr⟩ := hrel
        have hbwr : Below w.heap.size w wr := hbw9.trans (hbr.mono hbw9.size)
        by_cases hlt : k < 4
        · have hlt' : (k : Int) < 4 := by omega
          have N0 := HNM.out k hlt
          have hg1 := fun W (hb : Below wr.heap.size wr W) => HG.out W k (hbwr.trans (hb.mono hbwr.size)) hlt
          have hg2 := fun W (hb : Below wr.heap.size wr W) => HG'.out W k (hbwr.trans (hb.mono hbwr.size)) hlt
          have HG1 := hid hg1
          have HG2 := hid hg2
          clear hg1 hg2
          go_upto_region 14 with fail
          refine wp_region_D [0, 1, 2, 3, 4, 6, 7, 8, 9, 10] [5, 11, 12] 30 (fun w' => Below w9.heap.size w9 w') (by kernel_rfl) (by kernel_rfl) rfl (by kernel_rfl) (fun _ _ _ dd _ h => by cases dd <;> exact h) hbr.drew ?_
          repeat
            refine wpHeadD_step rfl rfl w9 (fun K' hK' => ⟨?_, fun w' hw' => ?_, ?_⟩)
            rotate_left
            · have e0 := cell_later hw' X0
              have e1 := cell_later hw' X1
              have e2 := cell_later hw' X2
              have e3 := cell_later hw' Y0
              have e4 := cell_later hw' Y1
              have e5 := cell_later hw' Y2
              have e6 := cell_later hw' N0
              go_simp
              first
                | done
                | rfl
            go_simp
            try go_bits
            refine hK' _ _ ?_
            clear hK' K'
          refine wpHeadD_nil ?_
          refine wpTailD_cons rfl rfl (fun K' hK' => ?_)
          go_simp
          refine (HG1.out _ ((Below.refl _ wr).drew)).mono ?_
          rintro e wa ⟨rfl, hba⟩
          have hba' : Below wr.heap.size wr wa := ((Below.refl _ wr).drew).trans hba
          dsimp only
          refine hK' _ _ (fun _ => hbr.trans (hba'.mono hbr.size)) ?_
          clear hK' K'
          refine wpTailD_lone (by kernel_rfl) rfl rfl (fun K' hK' => ?_)
          go_simp
          refine (HG2.out _ hba').mono ?_
          rintro e wb ⟨rfl, hbb⟩
          have hbb' : Below w9.heap.size w9 wb := hbr.trans ((hba'.trans (hbb.mono hba'.size)).mono hbr.size)
          dsimp only
          refine hK' _ _ ?_
          clear hK' K'
          refine wpTailD_lone (by kernel_rfl) rfl rfl (fun K' hK' => ?_)
          go_simp
          refine hK' _ _ ?_
          clear hK' K'
          refine wpTailD_nil ?_
          clear hba hba' hbb HG1 HG2 N0
          go_wp2_with fail
          exact ⟨⟨k + 1, by omega, by go_num, hbb'⟩, by simp [intOf]; omega⟩
        · obtain rfl : k = 4 := by omega
          go_wp2_with fail
          go_ret
          exact ⟨rfl, hbwr⟩
end Go.Proofs.Ybulkgey
