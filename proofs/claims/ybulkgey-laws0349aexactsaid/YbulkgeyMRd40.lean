/- (*mergeWalk).raised: the walk. -/
import Derived.Test.YbulkgeyMRd
import Derived.Test.YbulkgeyMMeas
namespace Go.Proofs.Ybulkgey
open Go.RowKit
set_option linter.unusedVariables false

theorem Runs.swap {f d : Nat → Int} : ∀ {rs : List (Nat × Nat)} {t u : Nat}, Runs f d t rs u → Runs d f t rs u
  | [], t, u, h => ⟨h.1, fun k k1 k2 => (h.2 k k1 k2).symm⟩
  | (p, q) :: rs, t, u, h => ⟨h.1, h.2.1, fun k k1 k2 => (h.2.2.1 k k1 k2).symm, h.2.2.2.1.symm, Runs.swap h.2.2.2.2⟩
/-- What the record says of the k-th run, from the side of the first clock. -/
def RecAt (sw : Bool) (F D : Nat → Int) (L : Nat → Int) (k : Nat) (r : Nat × Nat) : Prop := ∃ x0 x1 x2 x3 : Nat, L (4 * k) = x0 ∧ L (4 * k + 1) = x1 ∧ L (4 * k + 2) = x2 ∧ L (4 * k + 3) = x3 ∧ x0 ≤ 4 ∧ x1 ≤ 4 ∧ x2 ≤ 4 ∧ x3 ≤ 4 ∧
  (sw = false → x0 = cn F r.1 ∧ x1 = cn D r.1 ∧ x2 = cn F r.2 - cn F r.1) ∧ (sw = true → x1 = cn F r.1 ∧ x0 = cn D r.1 ∧ x3 = cn F r.2 - cn F r.1)

/-- A stretch in step, maybe empty: the counters raised. -/
theorem raise_part (W : World) (g cap gb ob cb t p : Nat) (F D : Nat → Int) (post : List Value) (hg : W.heap[g]? = some (.cells (ints (VL F D 0 t) ++ post).toArray 34))
    (hcell : ∀ k, k < cn D 4 → W.cell? ⟨gb, ob + k, none⟩ = some (.int .u64 ((CA D 4).getD k 0))) (hgb : gb < W.heap.size) (hne : gb ≠ g) (hc : cn D 4 ≤ cb) (hm : cb ≤ maxLen)
    (h1 : t ≤ p) (h2 : p ≤ 4) (hs : Same F D t p) (hn : cn F 4 ≤ cap) :
    Calls Yba.prog 64 #[.slice (if cap = cn F t then some ⟨g, 0, none⟩ else some ⟨g, cn F t, none⟩) (cn F 4 - cn F t) (cap - cn F t), .slice (if cb = cn D t then some ⟨gb, ob, none⟩ else some ⟨gb, ob + cn D t, none⟩) (cn D p - cn D t) (cb - cn D t)] W fun e w' => e = .returned (.tuple #[]) ∧
      w'.heap[g]? = some (.cells (ints (VL F D 0 p) ++ post).toArray 34) ∧ Kept W.heap.size g W w' := by
  have a1 := cn_mono D h1
  have a2 := cn_mono D h2
  have a3 := cn_mono F h1
  have a4 := cn_mono F h2
  have e := cn_run hs h1
  by_cases hr : cn D p - cn D t = 0
  · rw [hr]
    refine (raiseTo_nil W _ _ _ _ _ (by omega)).mono ?_
    rintro e w' ⟨rfl, rfl⟩
    refine ⟨rfl, ?_, Kept.refl _ _ _⟩
    rw [hg, VL_lone (Nat.zero_le t) h1 h2 (mx_lack (lack_of_flat h1 (by omega)))]
  · rw [if_neg (by omega), if_neg (by omega)]
    have := raise_step W g (cn F 4 - cn F t) (cap - cn F t) gb ob cb 0 t p (cn D p - cn D t) F D [] post (by simpa using hg) hcell hgb hne hc hm (Nat.zero_le _) h1 h2 hs (by omega) (by omega) (by omega) (by omega)
    simp only [List.length_nil, cn_zero, Nat.sub_zero, Nat.zero_add, List.nil_append] at this
    refine this.mono ?_
    rintro e w' ⟨rfl, r1, r2, r3⟩
    exact ⟨rfl, r1, r2⟩

set_option maxRecDepth 100000 in
set_option maxHeartbeats 4000000 in
theorem raised40_any (w : World) (m ab ao bb bo : Nat) (sw : Bool) (F D : Nat → Int) (s ib : Int) (aA bA : Bool) (L : Nat → Int) (rs : List (Nat × Nat)) (hA : ClkAt w ab ao (NA F 4) (CA F 4)) (hB : ClkAt w bb bo (NA D 4) (CA D 4))
    (hm : w.heap[m]? = some (.cells (mrec s ib aA bA L rs.length) 86)) (hsub : Sub F D 0) (hpos : 0 < cn F 4) (hposD : 0 < cn D 4) (hruns : Runs F D 0 rs 4) (hl4 : rs.length ≤ 4)
    (hL : rs.length ≤ 2 → ∀ k r, rs[k]? = some r → RecAt sw F D L k r) :
    Calls Yba.prog 40 #[.pointer (some ⟨m, 0, none⟩), .pointer (some ⟨ab, ao, none⟩), .pointer (some ⟨bb, bo, none⟩), .bool sw] w fun e w' => (∃ p m c, e = .returned (.slice p m c) ∧ Row w' (.slice p m c) (ints (VL F D 0 4))) ∧ Below w.heap.size w w' := by
  have hmlt := block_lt hm
  have c12 : w.cell? ⟨m, 12, none⟩ = some (.int .i64 rs.length) := by rw [cell_of_block hm]; rfl
  have hk := kept_any w m ab ao bb bo rs.length _ _ _ _ hA hB (by have := NA_len F 4; omega) (by have := NA_len D 4; omega) c12
  obtain ⟨pa, ca, hpa⟩ := ctr_cell hA
  obtain ⟨rA, lA, _, _⟩ := ctr_at hA hpa
  obtain ⟨pb, cb, hpb⟩ := ctr_cell hB
  obtain ⟨_, _, capB, posB⟩ := ctr_at hB hpb
  rw [cn_len] at hpa rA hpb capB posB
  have lca : (CA F 4).length = cn F 4 := by rw [CA_len, cn_len]
  have HA := hid hA
  have HB := hid hB
  have HS := hid hsub
  have HM := hid hm
  have HR := hid hruns
  have HL := hid hL
  obtain ⟨gb, ob, rfl, mb, gb0, cellb⟩ := posB hposD
  have HMB := hid mb
  have HCE := hid cellb
  have HGB := hid gb0
  have HCB := hid capB
  have HPBC := hid hpb
  clear hA hB hsub lA hm hruns hL posB capB mb gb0 cellb hpb
  by_cases hn2 : rs.length ≤ 2
  · rw [decide_eq_true hn2] at hk
    go_enter Yba.func40, Yba.ntmps40
    go_wp2_with fail
    refine hk.mono ?_
    rintro e w1 ⟨rfl, hb1⟩
    have d2 := cell_later hb1 hpa
    have hcl := clone_any w1 (.slice pa (cn F 4) ca) (CA F 4) (rA.below hb1) (by rw [CA_len]; have := NA_len F 4; omega)
    clear hk c12 hpa rA
    go_wp2_with fail
    refine hcl.mono ?_
    rintro e w2 ⟨v, rfl, hown, hb2⟩
    rcases own_block hown with ⟨rfl, hx⟩ | ⟨g, cap, post, rfl, hg1, hg2, hg3, hg4⟩
    · rw [hx] at lca; simp at lca; omega
    have hb12 := hb1.trans (hb2.mono hb1.size)
    have c12 : w2.cell? ⟨m, 12, none⟩ = some (.int .i64 rs.length) := by rw [cell_of_block (cs := mrec s ib aA bA L rs.length) (e := 86) (fr := (0, 0))]; rfl; rw [hb12.block _ hmlt]; exact HM.out
    rw [lca] at hg3 ⊢
    clear hcl d2 hown
    go_upto_region 5 with fail
    have hn2' : (rs.length : Int) ≤ 2 := by omega
    go_quiet (fail)
    have hgb0 : g ≠ m := by have := hb1.size; omega
    have hwlt : m < w2.heap.size := Nat.lt_of_lt_of_le hmlt hb12.size
    have hglt := block_lt hg2
    have hg2' : (w2.drewN nq).heap[g]? = some (.cells (ints (VL F D 0 0) ++ post).toArray 34) := by rw [VL_self, ← CA_seg]; exact hg2
    have HM2 : Hid (w2.heap[m]? = some (.cells (mrec s ib aA bA L rs.length) 86)) := by unfold Hid; rw [hb12.block _ hmlt]; exact HM.out
    have HBW := hid hb12
    have HCP := hid (And.intro hg3 hg4)
    have HN2 := hid hn2
    have HG1 := hid (show w.heap.size ≤ g from Nat.le_trans hb1.size hg1)
    clear hg2 c12 lca hb1 hb2 hb12 hg3 hg4 hg1
    go_wp2_with fail
    go_loopw [10, 11, 39] (fun vi vj vk wr => ∃ k t : Nat, k ≤ rs.length ∧ t ≤ 4 ∧ vi = .int .i64 (cn F t : Nat) ∧ vj = .int .i64 (cn D t : Nat) ∧ vk = .int .i64 k ∧ Runs F D t (rs.drop k) 4 ∧ wr.heap[g]? = some (.cells (ints (VL F D 0 t) ++ post).toArray 34) ∧ Kept w2.heap.size g w2 wr) (fun vi vj vk wr => rs.length - (intOf vk).toNat)
    case atStart => exact ⟨0, 0, by omega, by omega, by rw [cn_zero]; rfl, by rw [cn_zero]; rfl, rfl, HR.out, hg2', ⟨rfl, rfl, rfl, Nat.le_refl _, fun _ _ _ => rfl⟩⟩
    case round =>
      clear hg2'
      obtain ⟨k, t, hk1, ht, rfl, rfl, rfl, hrn, hgr, hkr⟩ := hrel
      have HRN := hid hrn
      have cft := cn_mono F ht
      have cdt := cn_mono D ht
      have cf4 := cn_le F 4
      have cd4 := cn_le D 4
      clear hrn
      by_cases hlt : k < rs.length
      · have hlt' : (k : Int) < (rs.length : Int) := by omega
        obtain ⟨pq, hpq⟩ : ∃ pq, rs[k]? = some pq := ⟨_, List.getElem?_eq_getElem hlt⟩
        have hdrop : rs.drop k = pq :: rs.drop (k + 1) := by
          rw [List.drop_eq_getElem_cons hlt]
          congr 1
          rw [List.getElem?_eq_getElem hlt] at hpq
          exact Option.some.inj hpq
        obtain ⟨p, q⟩ := pq
        have hr1 := HRN.out
        rw [hdrop] at hr1
        obtain ⟨r1, r2, r3, r4, r5⟩ := hr1
        have hq4 := r5.le
        have hlk : Lack D p q := by
          rcases r4 with h | h
          · exact h
          · intro x x1 x2
            cases hh : has D x
            · rfl
            · have := HS.out x (by omega) (by omega) hh
              rw [h x x1 x2] at this; cases this
        obtain ⟨x0, x1, x2, x3, e0, e1, e2, e3, b0, b1, b2, b3, esF, esT⟩ := HL.out HN2.out k (p, q) hpq
        have hbm : wr.heap[m]? = some (.cells (mrec s ib aA bA L rs.length) 86) := by rw [hkr.block _ hwlt (fun h => hgb0 h.symm)]; exact HM2.out
        have hcm : wr.cell? ⟨m, 4 + k * 4, none⟩ = some (.int .u32 x0) ∧ wr.cell? ⟨m, 4 + k * 4 + 1, none⟩ = some (.int .u32 x1) ∧ wr.cell? ⟨m, 4 + k * 4 + 2, none⟩ = some (.int .u32 x2) ∧ wr.cell? ⟨m, 4 + k * 4 + 3, none⟩ = some (.int .u32 x3) := by
          rw [cell_of_block hbm, cell_of_block hbm, cell_of_block hbm, cell_of_block hbm]
          match k, (show k < 2 by omega) with
          | 0, _ => simp at e0 e1 e2 e3; rw [← e0, ← e1, ← e2, ← e3]; exact ⟨rfl, rfl, rfl, rfl⟩
          | 1, _ => simp at e0 e1 e2 e3; rw [← e0, ← e1, ← e2, ← e3]; exact ⟨rfl, rfl, rfl, rfl⟩
        obtain ⟨m0, m1, m2, m3⟩ := hcm
        have HR5 := hid r5
        have HLK := hid hlk
        have HR3 := hid r3
        have HSF := hid (And.intro esF esT)
        clear r4 r5 hlk r3 esF esT e0 e1 e2 e3 hbm hdrop hpq
        go_upto_region 8 with fail
        have n0 : (wr.alloc (.cells #[.int .u32 x0, .int .u32 x1, .int .u32 x2, .int .u32 x3] 83)).heap[wr.heap.size]? = some (.cells #[.int .u32 x0, .int .u32 x1, .int .u32 x2, .int .u32 x3] 83) := heap_new_at _ _ rfl
        have hgr3 : (wr.alloc (.cells #[.int .u32 x0, .int .u32 x1, .int .u32 x2, .int .u32 x3] 83)).heap[g]? = some (.cells (ints (VL F D 0 t) ++ post).toArray 34) := by rw [Go.heap_alloc_old _ _ (block_lt hgr)]; exact hgr
        have hkr3 : Kept w2.heap.size g w2 (wr.alloc (.cells #[.int .u32 x0, .int .u32 x1, .int .u32 x2, .int .u32 x3] 83)) := hkr.trans (Kept.of (below_alloc _ _ _ hkr.size))
        generalize wr.alloc (.cells #[.int .u32 x0, .int .u32 x1, .int .u32 x2, .int .u32 x3] 83) = w3 at n0 hgr3 hkr3 ⊢
        have y0 : w3.cell? ⟨wr.heap.size, 0, none⟩ = some (.int .u32 x0) := by rw [cell_of_block n0]; rfl
        have y1 : w3.cell? ⟨wr.heap.size, 1, none⟩ = some (.int .u32 x1) := by rw [cell_of_block n0]; rfl
        have y2 : w3.cell? ⟨wr.heap.size, 2, none⟩ = some (.int .u32 x2) := by rw [cell_of_block n0]; rfl
        have y3 : w3.cell? ⟨wr.heap.size, 3, none⟩ = some (.int .u32 x3) := by rw [cell_of_block n0]; rfl
        clear m0 m1 m2 m3 n0 hgr hkr
        go_quiet (fail)
        go_upto_if 52 with fail
        have y0' : (w3.drewN nq).cell? ⟨wr.heap.size, 0, none⟩ = some (.int .u32 x0) := y0
        have y1' : (w3.drewN nq).cell? ⟨wr.heap.size, 1, none⟩ = some (.int .u32 x1) := y1
        have y3' : (w3.drewN nq).cell? ⟨wr.heap.size, 3, none⟩ = some (.int .u32 x3) := y3
        have hgr3' : (w3.drewN nq).heap[g]? = some (.cells (ints (VL F D 0 t) ++ post).toArray 34) := hgr3
        have hkr3' : Kept w2.heap.size g w2 (w3.drewN nq) := hkr3.trans ⟨rfl, rfl, rfl, Nat.le_refl _, fun _ _ _ => rfl⟩
        clear y0 y1 y2 y3 hgr3 hkr3
        generalize w3.drewN nq = w3 at y0' y1' y3' hgr3' hkr3' ⊢
        go_cut [14, 15, 16] from 52 to 61 (fun v14 v15 v16 ws => v14 = .int .i64 (cn F p : Nat) ∧ v15 = .int .i64 (cn D p : Nat) ∧ v16 = .int .i64 (cn F q - cn F p : Nat) ∧ ∃ q, ws = w3.drewN q)
        case first =>
          cases sw
          · obtain ⟨e0, e1, e2⟩ := HSF.out.1 rfl
            have HE := hid (And.intro e0 (And.intro e1 e2))
            clear e0 e1 e2
            go_wp2_with fail
            go_meet
            exact ⟨by rw [HE.out.1], by rw [HE.out.2.1], by rw [HE.out.2.2], 0, rfl⟩
          · obtain ⟨e0, e1, e2⟩ := HSF.out.2 rfl
            have HE := hid (And.intro e0 (And.intro e1 e2))
            clear e0 e1 e2
            go_wp2_with fail
            go_quiet (fail)
            go_wp2_with fail
            go_meet
            exact ⟨by rw [HE.out.1], by rw [HE.out.2.1], by rw [HE.out.2.2], _, by first | rfl | exact World.drewN_drewN _ _ _⟩
        case rest =>
          obtain ⟨rfl, rfl, rfl, qz, rfl⟩ := hcut
          have hgr4 : (w3.drewN qz).heap[g]? = some (.cells (ints (VL F D 0 t) ++ post).toArray 34) := hgr3'
          have hkr4 : Kept w2.heap.size g w2 (w3.drewN qz) := hkr3'.trans ⟨rfl, rfl, rfl, Nat.le_refl _, fun _ _ _ => rfl⟩
          clear y0' y1' y3' hgr3' hkr3' HSF b0 b1 b2 b3
          generalize w3.drewN qz = w4 at hgr4 hkr4 ⊢
          have hbw4 : Below w.heap.size w w4 := HBW.out.trans ⟨hkr4.os, hkr4.tape, hkr4.output, hkr4.size, fun k hk => hkr4.block k (Nat.lt_of_lt_of_le hk HBW.out.size) (by have := HG1.out; omega)⟩
          have dpb : w4.cell? ⟨bb, bo + 2, none⟩ = some (.slice (some ⟨gb, ob, none⟩) (cn D 4) cb) := cell_later hbw4 HPBC.out
          have cpt := cn_mono D r1
          have cp4 := cn_mono D (show p ≤ 4 by omega)
          have q1 : (cn F t : Int) ≤ (cn F 4 : Int) := by omega
          have q2 : (cn D t : Int) ≤ (cn D p : Int) := by omega
          have q3 : (cn D p : Int) ≤ (cb : Int) := by have := HCB.out; omega
          go_upto_region 11 with fail
          refine wp_region_D [0, 1, 2, 3, 4, 5, 6, 7, 8, 9] [10] 30 (fun w' => w' = w4.drew) (by kernel_rfl) (by kernel_rfl) rfl (by kernel_rfl) (fun _ _ _ dd _ h => by cases dd <;> exact h) rfl ?_
          repeat
            refine wpHeadD_step rfl rfl w4 (fun K' hK' => ⟨?_, fun w' hw' => ?_, ?_⟩)
            rotate_left
            · obtain rfl := hw'
              go_simp
              first
                | done
                | rfl
            go_simp
            try go_bits
            refine hK' _ _ ?_
            clear hK' K'
          refine wpHeadD_nil ?_
          refine wpTailD_lone (by kernel_rfl) rfl rfl (fun K' hK' => ?_)
          go_simp
          refine (raise_part w4.drew g cap gb ob cb t p F D post hgr4 (fun k hk => cell_later hbw4.drew (HCE.out k hk)) (Nat.lt_of_lt_of_le HGB.out hbw4.size) (by have := HG1.out; have := HGB.out; omega) HCB.out HMB.out r1 (by omega) HR3.out HCP.out.1).mono ?_
          rintro e w5 ⟨rfl, t1, t2⟩
          dsimp only
          refine hK' _ _ ?_
          clear hK' K'
          refine wpTailD_nil ?_
          have hkr5 : Kept w2.heap.size g w2 w5 := (hkr4.trans ⟨rfl, rfl, rfl, Nat.le_refl _, fun _ _ _ => rfl⟩ : Kept w2.heap.size g w2 w4.drew).trans ⟨t2.os, t2.tape, t2.output, t2.size, fun k h1 h2 => t2.block k (Nat.lt_of_lt_of_le h1 hkr4.size) h2⟩
          have HT1 := hid t1
          have cfq := cn_mono F r2
          have cfq4 := cn_mono F hq4
          have hz : (cn F p : Int) + ((cn F q - cn F p : Nat) : Int) = (cn F q : Int) := by omega
          have HZ := hid hz
          have hzd := cn_flat D (HLK.out) r2
          have HZD := hid hzd
          clear hz hzd t1 t2 hgr4 hkr4 hbw4 dpb
          go_wp2_with fail
          refine ⟨⟨k + 1, q, by omega, hq4, congrArg (Value.int .i64) HZ.out, by rw [HZD.out], by go_num, HR5.out, ?_, hkr5⟩, by simp [intOf]; omega⟩
          rw [HT1.out, VL_lone (Nat.zero_le p) r2 hq4 (mx_lack HLK.out)]
      · have hlt' : ¬ (k : Int) < (rs.length : Int) := by omega
        have hr1 := HRN.out
        rw [List.drop_eq_nil_of_le (by omega)] at hr1
        obtain ⟨r1, r3⟩ := hr1
        have hbw4 : Below w.heap.size w wr := HBW.out.trans ⟨hkr.os, hkr.tape, hkr.output, hkr.size, fun k hk => hkr.block k (Nat.lt_of_lt_of_le hk HBW.out.size) (by have := HG1.out; omega)⟩
        have dpb : wr.cell? ⟨bb, bo + 2, none⟩ = some (.slice (some ⟨gb, ob, none⟩) (cn D 4) cb) := cell_later hbw4 HPBC.out
        have q1 : (cn F t : Int) ≤ (cn F 4 : Int) := by omega
        have q2 : (cn D t : Int) ≤ (cn D 4 : Int) := by omega
        have HR3 := hid r3
        clear r3
        go_upto_region 14 with fail
        refine wp_region_D [0, 1, 2, 3, 4, 5, 6, 7, 8] [9] 30 (fun w' => w' = wr.drew) (by kernel_rfl) (by kernel_rfl) rfl (by kernel_rfl) (fun _ _ _ dd _ h => by cases dd <;> exact h) rfl ?_
        repeat
          refine wpHeadD_step rfl rfl wr (fun K' hK' => ⟨?_, fun w' hw' => ?_, ?_⟩)
          rotate_left
          · obtain rfl := hw'
            go_simp
            first
              | done
              | rfl
          go_simp
          try go_bits
          refine hK' _ _ ?_
          clear hK' K'
        refine wpHeadD_nil ?_
        refine wpTailD_lone (by kernel_rfl) rfl rfl (fun K' hK' => ?_)
        go_simp
        refine (raise_part wr.drew g cap gb ob cb t 4 F D post hgr (fun k hk => cell_later hbw4.drew (HCE.out k hk)) (Nat.lt_of_lt_of_le HGB.out hbw4.size) (by have := HG1.out; have := HGB.out; omega) HCB.out HMB.out ht (Nat.le_refl _) HR3.out HCP.out.1).mono ?_
        rintro e w5 ⟨rfl, t1, t2⟩
        dsimp only
        refine hK' _ _ ?_
        clear hK' K'
        refine wpTailD_nil ?_
        have hvl : (VL F D 0 4).length = cn F 4 := by rw [VL_len F D (by omega) (by omega), cn_zero]; rfl
        have hrow : Row w5 (.slice (some ⟨g, 0, none⟩) (cn F 4) cap) (ints (VL F D 0 4)) := by
          have := row_block (xs := VL F D 0 4) (cap := cap) t1 (by rw [hvl]; exact HCP.out.1) HCP.out.2
          rw [hvl] at this
          exact this
        have hbel : Below w.heap.size w w5 := hbw4.trans ⟨t2.os, t2.tape, t2.output, t2.size, fun k hk => t2.block k (Nat.lt_of_lt_of_le hk hbw4.size) (by have := HG1.out; omega)⟩
        have HROW := hid hrow
        clear hrow hvl t1 t2
        go_wp2_with fail
        all_goals
          go_ret
          exact ⟨⟨_, _, _, rfl, by first | exact HROW.out | (rw [← ‹cap = cn F t›]; exact HROW.out)⟩, hbel⟩
  · rw [decide_eq_false hn2] at hk
    go_enter Yba.func40, Yba.ntmps40
    go_wp2_with fail
    refine hk.mono ?_
    rintro e w1 ⟨rfl, hb1⟩
    have h63 := raised63_any w1 ab ao bb bo F D (HA.out.below hb1) (HB.out.below hb1) HS.out
    clear hk c12 hpa rA
    go_wp2_with fail
    refine h63.mono ?_
    rintro e w2 ⟨⟨p, q, c, rfl, hrow⟩, hb2⟩
    go_wp2_with fail
    go_ret
    exact ⟨⟨p, q, c, rfl, hrow⟩, hb1.trans (hb2.mono hb1.size)⟩
end Go.Proofs.Ybulkgey
