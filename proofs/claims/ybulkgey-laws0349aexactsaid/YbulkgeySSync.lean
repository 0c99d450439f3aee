/- Sync: the walk. -/
import Derived.Test.YbulkgeySSort
import Derived.Test.YbulkgeyMMerge
namespace Go.Proofs.Ybulkgey
open Go.RowKit
set_option linter.unusedVariables false

/-- A Siblings value: the clock f, the writes P. -/
def Sib (w : World) (v : Value) (f : Nat → Int) (P : Nat → Bool) : Prop := ∃ p1 n1 c1 p2 n2 c2 a cap, v = .agg #[.string (cat (NA f 4)), .slice p1 n1 c1, .slice p2 n2 c2, .slice a (codes P).length cap] ∧ Clk w (.slice p1 n1 c1) (.slice p2 n2 c2) (NA f 4) (CA f 4) ∧ WRow w a ((codes P).map mkW)
theorem Sib.below {w w' : World} {v : Value} {f : Nat → Int} {P : Nat → Bool} (h : Sib w v f P) (hb : Below w.heap.size w w') : Sib w' v f P := by
  obtain ⟨p1, n1, c1, p2, n2, c2, a, cap, e, h1, h2⟩ := h
  exact ⟨p1, n1, c1, p2, n2, c2, a, cap, e, h1.below hb, h2.below hb⟩

/-- A row of counters does not lie in the result's block. -/
theorem Row.setRes4 {w w' : World} {v : Value} {xs : List Value} {R : Nat} {a : ByteArray} {p q r : Option Addr} {n1 c1 n2 c2 n3 c3 : Nat} (h : Row w v xs) (hx : ∀ x ∈ xs, ∃ n, x = .int .u64 n) (hR : w.heap[R]? = some (.cells #[.string a, .slice p n1 c1, .slice q n2 c2, .slice r n3 c3] 30))
    (hs : w.heap.size ≤ w'.heap.size) (hk : ∀ k, k ≠ R → w'.heap[k]? = w.heap[k]?) : Row w' v xs := by
  rcases h with ⟨rfl, h⟩ | ⟨g, o, cap, rfl, hg, hc, hm, hcell⟩
  · exact .inl ⟨rfl, h⟩
  · refine .inr ⟨g, o, cap, rfl, by omega, hc, hm, fun j hj => ?_⟩
    have hne : g ≠ R := by
      rintro rfl
      have e := hcell j hj
      rw [cell_of_block hR] at e
      obtain ⟨n, hn⟩ := hx _ (List.getElem_mem hj)
      rw [List.getElem?_eq_getElem hj, hn] at e
      match o + j, e with
      | 0, e => simp at e
      | 1, e => simp at e
      | 2, e => simp at e
      | 3, e => simp at e
      | k + 4, e => simp at e
    rw [← hcell j hj]
    exact World.cell?_of_block (hk g hne)
theorem Clk.setRes4 {w w' : World} {offs ctrs : Value} {N : List ByteArray} {C : List Int} {R : Nat} {a : ByteArray} {p q r : Option Addr} {n1 c1 n2 c2 n3 c3 : Nat} (h : Clk w offs ctrs N C) (hR : w.heap[R]? = some (.cells #[.string a, .slice p n1 c1, .slice q n2 c2, .slice r n3 c3] 30))
    (hs : w.heap.size ≤ w'.heap.size) (hk : ∀ k, k ≠ R → w'.heap[k]? = w.heap[k]?) : Clk w' offs ctrs N C :=
  ⟨h.1.setRes4 (by intro x hx; simp only [ints, List.mem_map] at hx; obtain ⟨n, _, rfl⟩ := hx; exact ⟨n, rfl⟩) hR hs hk, h.2.1, h.2.2.imp id fun k => ⟨k.1, k.2.setRes4 (by intro x hx; simp only [u64s, List.mem_map] at hx; obtain ⟨n, _, rfl⟩ := hx; exact ⟨n, rfl⟩) hR hs hk⟩⟩

/-- The blocks that Sync lays first. -/
def SY (B : Nat) (x y : Array Value) (wr : World) : Prop := wr.heap[B]? = some (.cells x 30) ∧ wr.heap[B + 1]? = some (.cells y 30) ∧ wr.heap[B + 2]? = some (.cells #[.string ⟨#[]⟩, .slice none 0 0, .slice none 0 0, .slice none 0 0] 30)
theorem SY.below {B : Nat} {x y : Array Value} {w w' : World} (h : SY B x y w) (hb : Below (B + 3) w w') : SY B x y w' :=
  ⟨(hb.block _ (by omega)).trans h.1, (hb.block _ (by omega)).trans h.2.1, (hb.block _ (by omega)).trans h.2.2⟩
theorem sy_start (w : World) (x y : Array Value) : SY w.heap.size x y (((w.alloc (.cells x 30)).alloc (.cells y 30)).alloc (.cells #[.string ⟨#[]⟩, .slice none 0 0, .slice none 0 0, .slice none 0 0] 30)) := by
  refine ⟨?_, ?_, ?_⟩
  · rw [Go.heap_alloc_old _ _ (by simp; omega), Go.heap_alloc_old _ _ (by simp), Go.heap_alloc_new]
  · rw [Go.heap_alloc_old _ _ (by simp)]; exact heap_new_at _ _ (by simp)
  · exact heap_new_at _ _ (by simp)
theorem take_step {P K : Nat → Bool} {i : Nat} (h : i < (codes P).length) : ((codes P).take (i + 1)).filter K = ((codes P).take i).filter K ++ if K (codes P)[i] = true then [(codes P)[i]] else [] := by
  rw [List.take_add_one, List.getElem?_eq_getElem h, List.filter_append]
  simp [List.filter_cons]

set_option maxRecDepth 100000 in
set_option maxHeartbeats 4000000 in
theorem sync_any (w : World) (v u : Value) (f d : Nat → Int) (P Q : Nat → Bool) (hv : Sib w v f P) (hu : Sib w u d Q) (hf : Cov f P) (hWA : WApart f d) :
    Calls Yba.prog 9 #[v, u] w fun e w' => ∃ r, e = .returned r ∧ Sib w' r (mx f d) (syncP f d P Q) ∧ Below w.heap.size w w' := by
  obtain ⟨p1, n1, c1, p2, n2, c2, a, cap, rfl, hck, hrow⟩ := hv
  obtain ⟨q1, m1, k1, q2, m2, k2, b, bcap, rfl, hck', hrow'⟩ := hu
  have hlP := codes_len P
  have hlQ := codes_len Q
  have HSD : Hid (∀ W c, Below w.heap.size w W → c ∈ cds → Calls Yba.prog 20 #[.agg #[.string (mkW c).s, .int .u64 (mkW c).c], .agg #[.string (cat (NA d 4)), .slice q1 m1 k1, .slice q2 m2 k2]] W fun e w' => e = .returned (.bool (decide (((c % 16 : Nat) : Int) ≤ d (c / 16) % 9))) ∧ Below W.heap.size W w') := fun W c hb hc => by
    have hk := (cds_mem c hc).1
    have := seenBy_any W (mkW c).s (mkW c).c q1 q2 m1 k1 m2 k2 (NA d 4) (CA d 4) (hck'.below hb) (by have := NA_cat d 4 (Nat.le_refl _); omega) (by have := NA_len d 4; omega) (NA_order d (show c / 16 < 4 by omega))
    rw [show getC (NA d 4) (CA d 4) (mkW c).s = d (c / 16) % 9 from NA_get d (show c / 16 < 4 by omega)] at this
    exact this
  have HSF : Hid (∀ W c, Below w.heap.size w W → c ∈ cds → Calls Yba.prog 20 #[.agg #[.string (mkW c).s, .int .u64 (mkW c).c], .agg #[.string (cat (NA f 4)), .slice p1 n1 c1, .slice p2 n2 c2]] W fun e w' => e = .returned (.bool (decide (((c % 16 : Nat) : Int) ≤ f (c / 16) % 9))) ∧ Below W.heap.size W w') := fun W c hb hc => by
    have hk := (cds_mem c hc).1
    have := seenBy_any W (mkW c).s (mkW c).c p1 p2 n1 c1 n2 c2 (NA f 4) (CA f 4) (hck.below hb) (by have := NA_cat f 4 (Nat.le_refl _); omega) (by have := NA_len f 4; omega) (NA_order f (show c / 16 < 4 by omega))
    rw [show getC (NA f 4) (CA f 4) (mkW c).s = f (c / 16) % 9 from NA_get f (show c / 16 < 4 by omega)] at this
    exact this
  have HH : Hid (∀ W c, Below w.heap.size w W → c ∈ cds → Calls Yba.prog 21 #[.agg #[.string (cat (NA d 4)), .slice q1 m1 k1, .slice q2 m2 k2, .slice b (codes Q).length bcap], .agg #[.string (mkW c).s, .int .u64 (mkW c).c]] W fun e w' => e = .returned (.bool (Q c)) ∧ Below W.heap.size W w') := fun W c hb hc => by
    have := holds_any W (cat (NA d 4)) q1 q2 m1 k1 m2 k2 b ((codes Q).map mkW) bcap (mkW c).s (mkW c).c (place Q c) (hrow'.below hb) (by simp; omega) (by simpa using place_le Q c) (place_lt Q (cds_mem c hc).1)
    rw [place_found Q hc, List.length_map] at this
    exact this
  have HCK := hid hck
  have HCK' := hid hck'
  have HR := hid hrow
  have HR' := hid hrow'
  have HF := hid hf
  have HWA := hid hWA
  clear hck hck' hrow hrow' hf hWA
  go_enter Yba.func9, Yba.ntmps9
  go_wp2_with fail
  have hsy0 := hid (sy_start w #[.string (cat (NA f 4)), .slice p1 n1 c1, .slice p2 n2 c2, .slice a (codes P).length cap] #[.string (cat (NA d 4)), .slice q1 m1 k1, .slice q2 m2 k2, .slice b (codes Q).length bcap])
  go_loopw [5, 13] (fun v5 v13 wr => ∃ i : Nat, i ≤ (codes P).length ∧ v13 = .int .i64 i ∧ OwnW wr (w.heap.size + 3) v5 ((((codes P).take i).filter (keep1 Q d)).map mkW) ∧ SY w.heap.size #[.string (cat (NA f 4)), .slice p1 n1 c1, .slice p2 n2 c2, .slice a (codes P).length cap] #[.string (cat (NA d 4)), .slice q1 m1 k1, .slice q2 m2 k2, .slice b (codes Q).length bcap] wr ∧ Below w.heap.size w wr ∧ w.heap.size + 3 ≤ wr.heap.size) (fun _ v13 wr => (codes P).length - (intOf v13).toNat)
  case atStart => exact ⟨0, by omega, rfl, ⟨rfl, .inl ⟨rfl, rfl⟩⟩, hsy0.out, by go_grown, by simp⟩
  case round =>
    clear hsy0
    obtain ⟨i, hi, rfl, h5, hsy, hb, hsz⟩ := hrel
    have HS := hid hsy
    clear hsy
    by_cases hlt : i < (codes P).length
    · have hlt' : (i : Int) < ((codes P).length : Int) := by omega
      have hcm := List.getElem_mem hlt
      have hcds : (codes P)[i] ∈ cds := (List.mem_filter.1 hcm).1
      have HT := hid (take_step (K := keep1 Q d) hlt)
      rcases HR.out.below hb with hnil | ⟨g, o, rfl, hcell⟩
      · rw [List.map_eq_nil_iff.1 hnil] at hlt; simp at hlt
      obtain ⟨x0, x1, x2⟩ := hcell i (by simpa using hlt)
      rw [List.getElem_map] at x0 x1 x2
      clear hcell hcm
      generalize (codes P)[i] = c at *
      obtain ⟨xs, xc, xv, hx⟩ : ∃ xs xc xv, mkW c = ⟨xs, xc, xv⟩ := ⟨_, _, _, rfl⟩
      have hll : ((((codes P).take i).filter (keep1 Q d)).map mkW).length ≤ 32 := by
        rw [List.length_map]
        exact Nat.le_trans (List.length_filter_le _ _) (by rw [List.length_take]; omega)
      have HX := hid hx
      rw [hx] at x0 x1 x2
      dsimp only at x0 x1 x2
      clear hx
      go_upto_region 5 with fail
      have n0 : (wr.alloc (.cells #[.string xs, .int .u64 xc, .int .i64 xv] 38)).heap[wr.heap.size]? = some (.cells #[.string xs, .int .u64 xc, .int .i64 xv] 38) := heap_new_at _ _ rfl
      have hb1 : Below wr.heap.size wr (wr.alloc (.cells #[.string xs, .int .u64 xc, .int .i64 xv] 38)) := below_alloc _ _ _ (Nat.le_refl _)
      generalize wr.alloc (.cells #[.string xs, .int .u64 xc, .int .i64 xv] 38) = w1 at n0 hb1 ⊢
      have hbw1 : Below w.heap.size w w1 := hb.trans (hb1.mono hb.size)
      have hs1 : SY w.heap.size _ _ w1 := HS.out.below (hb1.mono hsz)
      have h51 := h5.later hb1
      have e0 : w1.cell? ⟨wr.heap.size, 0, none⟩ = some (.string xs) := cell_of_block n0 0
      have e1 : w1.cell? ⟨wr.heap.size, 1, none⟩ = some (.int .u64 xc) := cell_of_block n0 1
      have e2 : w1.cell? ⟨wr.heap.size, 2, none⟩ = some (.int .i64 xv) := cell_of_block n0 2
      have o0 : w1.cell? ⟨w.heap.size + 1, 0, none⟩ = some (.string (cat (NA d 4))) := cell_of_block hs1.2.1 0
      have o1 : w1.cell? ⟨w.heap.size + 1, 1, none⟩ = some (.slice q1 m1 k1) := cell_of_block hs1.2.1 1
      have o2 : w1.cell? ⟨w.heap.size + 1, 2, none⟩ = some (.slice q2 m2 k2) := cell_of_block hs1.2.1 2
      have hse := HSD.out w1 c hbw1 hcds
      rw [HX.out] at hse
      dsimp only at hse
      have h1s := hb1.size
      have HS1 := hid hs1
      clear x0 x1 x2 h5 hs1 HS
      go_cut [28] from 17 to 28 (fun v ws => v = .bool (keep1 Q d c) ∧ Below w1.heap.size w1 ws)
      case first =>
        go_wp2_with fail
        refine hse.mono ?_
        rintro e w2 ⟨rfl, b2⟩
        by_cases hsn : ((c % 16 : Nat) : Int) ≤ d (c / 16) % 9
        · rw [decide_eq_true hsn]
          have hk : keep1 Q d c = Q c := by unfold keep1; rw [decide_eq_false (by omega), Bool.false_or]
          have hs2 : SY w.heap.size _ _ w2 := HS1.out.below (b2.mono (by omega))
          have n2 := (b2.block _ (block_lt n0)).trans n0
          have f0 : w2.cell? ⟨wr.heap.size, 0, none⟩ = some (.string xs) := cell_of_block n2 0
          have f1 : w2.cell? ⟨wr.heap.size, 1, none⟩ = some (.int .u64 xc) := cell_of_block n2 1
          have r0 : w2.cell? ⟨w.heap.size + 1, 0, none⟩ = some (.string (cat (NA d 4))) := cell_of_block hs2.2.1 0
          have r1 : w2.cell? ⟨w.heap.size + 1, 1, none⟩ = some (.slice q1 m1 k1) := cell_of_block hs2.2.1 1
          have r2 : w2.cell? ⟨w.heap.size + 1, 2, none⟩ = some (.slice q2 m2 k2) := cell_of_block hs2.2.1 2
          have r3 : w2.cell? ⟨w.heap.size + 1, 3, none⟩ = some (.slice b (codes Q).length bcap) := cell_of_block hs2.2.1 3
          have hho := HH.out w2 c (hbw1.trans (b2.mono hbw1.size)) hcds
          rw [HX.out] at hho
          dsimp only at hho
          have HK := hid hk
          clear e0 e1 e2 o0 o1 o2 hse hk hs2 n2 hsn
          go_wp2_with fail
          refine hho.mono ?_
          rintro e w3 ⟨rfl, b3⟩
          go_wp2_with fail
          go_meet
          exact ⟨by rw [HK.out], b2.trans (b3.mono b2.size)⟩
        · rw [decide_eq_false hsn]
          have HK := hid (show keep1 Q d c = true by unfold keep1; rw [decide_eq_true (by omega), Bool.true_or])
          clear hsn
          go_wp2_with fail
          go_meet
          exact ⟨by rw [HK.out], b2⟩
      case rest =>
        obtain ⟨rfl, bel⟩ := hcut
        have hs2 : SY w.heap.size _ _ wc := HS1.out.below (bel.mono (by omega))
        have hb2 := hbw1.trans (bel.mono hbw1.size)
        have h52 := h51.later bel
        have hsz2 : w.heap.size + 3 ≤ wc.heap.size := by have := bel.size; omega
        have n2 := (bel.block _ (block_lt n0)).trans n0
        have f0 : wc.cell? ⟨wr.heap.size, 0, none⟩ = some (.string xs) := cell_of_block n2 0
        have f1 : wc.cell? ⟨wr.heap.size, 1, none⟩ = some (.int .u64 xc) := cell_of_block n2 1
        have f2 : wc.cell? ⟨wr.heap.size, 2, none⟩ = some (.int .i64 xv) := cell_of_block n2 2
        have HS2 := hid hs2
        have wrl := block_lt n2
        clear e0 e1 e2 o0 o1 o2 hse hs2 n2 n0 h51 HS1 bel hb1 hbw1 h1s
        cases hkp : keep1 Q d c
        · rw [hkp] at HT
          go_wp2_with fail
          refine ⟨⟨i + 1, by omega, by go_num, by rw [HT.out]; simpa using h52, HS2.out, hb2, hsz2⟩, by simp [intOf]; omega⟩
        · rw [hkp] at HT
          go_wp2_with (at_builtin; refine Stand.out ?_)
          refine app_wr rfl _ _ rfl (w.heap.size + 3) u5 ((((codes P).take i).filter (keep1 Q d)).map mkW) rfl (h52.later (below_alloc _ _ _ (Nat.le_refl _))) wc.heap.size _ ⟨xs, xc, xv⟩ rfl (by simp) (by simp) (by simp) (by omega) (by simp; omega) ?_
          intro v5 w3 o5 g5
          have bw : Below (w.heap.size + 3) (wc.alloc _) w3 := OwnW.below (h52.later (below_alloc _ _ _ (Nat.le_refl _))) g5 (by simp; omega)
          have bw2 := (below_alloc wc _ (w.heap.size + 3) hsz2).trans bw
          have hs3 := HS2.out.below bw2
          have HS3 := hid hs3
          have hb3 := hb2.trans (bw2.mono (by omega))
          have hsz3 : w.heap.size + 3 ≤ w3.heap.size := Nat.le_trans hsz2 bw2.size
          clear hs3 bw bw2 g5 HS2 h52 f0 f1 f2
          go_wp2_with fail
          refine ⟨⟨i + 1, by omega, by go_num, ?_, HS3.out, hb3, hsz3⟩, by simp [intOf]; omega⟩
          rw [HT.out, List.map_append, if_pos trivial, List.map_cons, List.map_nil, HX.out]
          exact o5
    · obtain rfl : i = (codes P).length := by omega
      rw [List.take_length] at h5
      have s3 : wr.cell? ⟨w.heap.size + 1, 3, none⟩ = some (.slice b (codes Q).length bcap) := cell_of_block HS.out.2.1 3
      have hAl : ∀ c ∈ (codes P).filter (keep1 Q d), c < 64 := fun c hc => (codes_mem (List.mem_filter.1 hc).1).1
      have hAlen : ((codes P).filter (keep1 Q d)).length ≤ 32 := Nat.le_trans (List.length_filter_le _ _) hlP
      have HAL := hid hAl
      clear hAl hlt
      go_wp2_with fail
      go_loopw [5, 37] (fun v5 v13 ws => ∃ i : Nat, i ≤ (codes Q).length ∧ v13 = .int .i64 i ∧ OwnW ws (w.heap.size + 3) v5 (((codes P).filter (keep1 Q d) ++ ((codes Q).take i).filter (keep2 f)).map mkW) ∧ SY w.heap.size #[.string (cat (NA f 4)), .slice p1 n1 c1, .slice p2 n2 c2, .slice a (codes P).length cap] #[.string (cat (NA d 4)), .slice q1 m1 k1, .slice q2 m2 k2, .slice b (codes Q).length bcap] ws ∧ Below w.heap.size w ws ∧ w.heap.size + 3 ≤ ws.heap.size) (fun _ v13 ws => (codes Q).length - (intOf v13).toNat)
      case atStart => exact ⟨0, by omega, rfl, by simpa using h5, HS.out, hb, hsz⟩
      case round =>
        clear HS h5 s3 hb hsz
        obtain ⟨j, hj, rfl, h5, hsy, hb, hsz⟩ := hrel
        have HS := hid hsy
        clear hsy
        by_cases hlt : j < (codes Q).length
        · have hlt' : (j : Int) < ((codes Q).length : Int) := by omega
          have hcm := List.getElem_mem hlt
          have hcds : (codes Q)[j] ∈ cds := (List.mem_filter.1 hcm).1
          have HT := hid (take_step (K := keep2 f) hlt)
          rcases HR'.out.below hb with hnil | ⟨g, o, rfl, hcell⟩
          · rw [List.map_eq_nil_iff.1 hnil] at hlt; simp at hlt
          obtain ⟨x0, x1, x2⟩ := hcell j (by simpa using hlt)
          rw [List.getElem_map] at x0 x1 x2
          clear hcell hcm
          generalize (codes Q)[j] = c at *
          obtain ⟨xs, xc, xv, hx⟩ : ∃ xs xc xv, mkW c = ⟨xs, xc, xv⟩ := ⟨_, _, _, rfl⟩
          have hll : (((codes P).filter (keep1 Q d) ++ ((codes Q).take j).filter (keep2 f)).map mkW).length ≤ 64 := by
            rw [List.length_map, List.length_append]
            have := List.length_filter_le (keep2 f) ((codes Q).take j)
            rw [List.length_take] at this
            omega
          have HX := hid hx
          rw [hx] at x0 x1 x2
          dsimp only at x0 x1 x2
          clear hx
          go_upto_region 11 with fail
          have n0 : (wr.alloc (.cells #[.string xs, .int .u64 xc, .int .i64 xv] 38)).heap[wr.heap.size]? = some (.cells #[.string xs, .int .u64 xc, .int .i64 xv] 38) := heap_new_at _ _ rfl
          have hb1 : Below wr.heap.size wr (wr.alloc (.cells #[.string xs, .int .u64 xc, .int .i64 xv] 38)) := below_alloc _ _ _ (Nat.le_refl _)
          generalize wr.alloc (.cells #[.string xs, .int .u64 xc, .int .i64 xv] 38) = w1 at n0 hb1 ⊢
          have hbw1 : Below w.heap.size w w1 := hb.trans (hb1.mono hb.size)
          have hs1 : SY w.heap.size _ _ w1 := HS.out.below (hb1.mono hsz)
          have h51 := h5.later hb1
          have e0 : w1.cell? ⟨wr.heap.size, 0, none⟩ = some (.string xs) := cell_of_block n0 0
          have e1 : w1.cell? ⟨wr.heap.size, 1, none⟩ = some (.int .u64 xc) := cell_of_block n0 1
          have o0 : w1.cell? ⟨w.heap.size, 0, none⟩ = some (.string (cat (NA f 4))) := cell_of_block hs1.1 0
          have o1 : w1.cell? ⟨w.heap.size, 1, none⟩ = some (.slice p1 n1 c1) := cell_of_block hs1.1 1
          have o2 : w1.cell? ⟨w.heap.size, 2, none⟩ = some (.slice p2 n2 c2) := cell_of_block hs1.1 2
          have hse := HSF.out w1 c hbw1 hcds
          rw [HX.out] at hse
          dsimp only at hse
          have h1s := hb1.size
          have HS1 := hid hs1
          clear x0 x1 x2 h5 hs1 HS
          go_wp2_with fail
          refine hse.mono ?_
          rintro e w2 ⟨rfl, bel⟩
          have hs2 : SY w.heap.size _ _ w2 := HS1.out.below (bel.mono (by omega))
          have hb2 := hbw1.trans (bel.mono hbw1.size)
          have h52 := h51.later bel
          have hsz2 : w.heap.size + 3 ≤ w2.heap.size := by have := bel.size; omega
          have n2 := (bel.block _ (block_lt n0)).trans n0
          have f0 : w2.cell? ⟨wr.heap.size, 0, none⟩ = some (.string xs) := cell_of_block n2 0
          have f1 : w2.cell? ⟨wr.heap.size, 1, none⟩ = some (.int .u64 xc) := cell_of_block n2 1
          have f2 : w2.cell? ⟨wr.heap.size, 2, none⟩ = some (.int .i64 xv) := cell_of_block n2 2
          have HS2 := hid hs2
          have wrl := block_lt n2
          clear e0 e1 o0 o1 o2 hse hs2 n2 n0 h51 HS1 bel hb1 hbw1 h1s
          by_cases hsn : ((c % 16 : Nat) : Int) ≤ f (c / 16) % 9
          · rw [decide_eq_true hsn]
            have hkp : keep2 f c = false := by unfold keep2; rw [decide_eq_false (by omega)]
            rw [hkp] at HT
            clear hsn
            go_wp2_with fail
            refine ⟨⟨j + 1, by omega, by go_num, by rw [HT.out]; simpa using h52, HS2.out, hb2, hsz2⟩, by simp [intOf]; omega⟩
          · rw [decide_eq_false hsn]
            have hkp : keep2 f c = true := by unfold keep2; rw [decide_eq_true (by omega)]
            rw [hkp] at HT
            clear hsn
            go_wp2_with (at_builtin; refine Stand.out ?_)
            refine app_wr rfl _ _ rfl (w.heap.size + 3) u5 (((codes P).filter (keep1 Q d) ++ ((codes Q).take j).filter (keep2 f)).map mkW) rfl (h52.later (below_alloc _ _ _ (Nat.le_refl _))) w2.heap.size _ ⟨xs, xc, xv⟩ rfl (by simp) (by simp) (by simp) (by omega) (by simp; omega) ?_
            intro v5 w3 o5 g5
            have bw : Below (w.heap.size + 3) (w2.alloc _) w3 := OwnW.below (h52.later (below_alloc _ _ _ (Nat.le_refl _))) g5 (by simp; omega)
            have bw2 := (below_alloc w2 _ (w.heap.size + 3) hsz2).trans bw
            have hs3 := HS2.out.below bw2
            have HS3 := hid hs3
            have hb3 := hb2.trans (bw2.mono (by omega))
            have hsz3 : w.heap.size + 3 ≤ w3.heap.size := Nat.le_trans hsz2 bw2.size
            clear hs3 bw bw2 g5 HS2 h52 f0 f1 f2
            go_wp2_with fail
            refine ⟨⟨j + 1, by omega, by go_num, ?_, HS3.out, hb3, hsz3⟩, by simp [intOf]; omega⟩
            rw [HT.out, if_pos trivial, ← List.append_assoc, List.map_append, List.map_cons, List.map_nil, HX.out]
            exact o5
        · obtain rfl : j = (codes Q).length := by omega
          rw [List.take_length] at h5
          have hperm := sync_perm (f := f) (d := d) (P := P) (Q := Q) HF.out
          have hLs : ∀ c ∈ (codes P).filter (keep1 Q d) ++ (codes Q).filter (keep2 f), c < 64 := fun c hc => by
            rw [List.mem_append] at hc
            rcases hc with hc | hc
            · exact HAL.out c hc
            · exact (codes_mem (List.mem_filter.1 hc).1).1
          generalize (codes P).filter (keep1 Q d) ++ (codes Q).filter (keep2 f) = LL at h5 hperm hLs
          have hlen := hperm.length_eq
          obtain ⟨a5, c5, rfl, -⟩ := h5.shape
          rw [List.length_map] at h5 ⊢
          have hso := sort_any wr (w.heap.size + 3) a5 c5 LL (syncP f d P Q) hLs hperm h5 hsz
          rw [hlen] at hso ⊢
          have HP := hid hperm
          clear h5 hlt hperm hLs hlen
          go_wp2_with fail
          refine hso.mono ?_
          rintro e w2 ⟨rfl, hin, bel⟩
          have hs2 : SY w.heap.size _ _ w2 := HS.out.below bel
          have hb2 := hb.trans (bel.mono (by omega))
          have r0 : w2.cell? ⟨w.heap.size, 0, none⟩ = some (.string (cat (NA f 4))) := cell_of_block hs2.1 0
          have r1 : w2.cell? ⟨w.heap.size, 1, none⟩ = some (.slice p1 n1 c1) := cell_of_block hs2.1 1
          have r2 : w2.cell? ⟨w.heap.size, 2, none⟩ = some (.slice p2 n2 c2) := cell_of_block hs2.1 2
          have o0 : w2.cell? ⟨w.heap.size + 1, 0, none⟩ = some (.string (cat (NA d 4))) := cell_of_block hs2.2.1 0
          have o1 : w2.cell? ⟨w.heap.size + 1, 1, none⟩ = some (.slice q1 m1 k1) := cell_of_block hs2.2.1 1
          have o2 : w2.cell? ⟨w.heap.size + 1, 2, none⟩ = some (.slice q2 m2 k2) := cell_of_block hs2.2.1 2
          have hme := merge_any w2 f d HWA.out p1 p2 q1 q2 n1 c1 n2 c2 m1 k1 m2 k2 (HCK.out.below hb2) (HCK'.out.below hb2)
          have HIN := hid hin
          have HS2 := hid hs2
          have h2s := bel.size
          have hsz2 : w.heap.size + 3 ≤ w2.heap.size := by omega
          clear hso hin bel hs2 hb hsz HS
          go_wp2_with fail
          refine hme.mono ?_
          rintro e w3 ⟨⟨g1, g2, g3, g4, g5, g6, rfl, hclk⟩, bel⟩
          have hs3 : SY w.heap.size _ _ w3 := HS2.out.below (bel.mono (by omega))
          have hb3 := hb2.trans (bel.mono hb2.size)
          have hin3 : WIn w3 (w.heap.size + 3) a5 _ := HIN.out.keep bel.size (fun k _ hk => bel.block k hk)
          have t0 : w3.cell? ⟨w.heap.size + 1 + 1, 0, none⟩ = some (.string ⟨#[]⟩) := cell_of_block hs3.2.2 0
          have t1 : w3.cell? ⟨w.heap.size + 1 + 1, 1, none⟩ = some (.slice none 0 0) := cell_of_block hs3.2.2 1
          have t2 : w3.cell? ⟨w.heap.size + 1 + 1, 2, none⟩ = some (.slice none 0 0) := cell_of_block hs3.2.2 2
          have t3 : w3.cell? ⟨w.heap.size + 1 + 1, 3, none⟩ = some (.slice none 0 0) := cell_of_block hs3.2.2 3
          have z0 : w3.frozen? ⟨w.heap.size + 1 + 1, 0, none⟩ = false := frozen_of_block hs3.2.2 0
          have z1 : w3.frozen? ⟨w.heap.size + 1 + 1, 1, none⟩ = false := frozen_of_block hs3.2.2 1
          have z2 : w3.frozen? ⟨w.heap.size + 1 + 1, 2, none⟩ = false := frozen_of_block hs3.2.2 2
          have z3 : w3.frozen? ⟨w.heap.size + 1 + 1, 3, none⟩ = false := frozen_of_block hs3.2.2 3
          have HK := hid hclk
          have HS3 := hid hs3.2.2
          have HI3 := hid hin3
          have HB3 := hid hb3
          clear hme hclk hs3 hin3 hb3 r0 r1 r2 o0 o1 o2 bel hb2 HIN HS2
          go_wp2_with fail
          have hoth : ∀ k, k ≠ w.heap.size + 1 + 1 → ((((w3.setCell ⟨w.heap.size + 1 + 1, 0, none⟩ (.string (cat (NA (mx f d) 4)))).setCell ⟨w.heap.size + 1 + 1, 1, none⟩ (.slice g1 g2 g3)).setCell ⟨w.heap.size + 1 + 1, 2, none⟩ (.slice g4 g5 g6)).setCell ⟨w.heap.size + 1 + 1, 3, none⟩ (.slice a5 (codes (syncP f d P Q)).length c5)).heap[k]? = w3.heap[k]? := by
            intro k hk
            rw [Below.heap_setCell _ _ _ _ hk, Below.heap_setCell _ _ _ _ hk, Below.heap_setCell _ _ _ _ hk, Below.heap_setCell _ _ _ _ hk]
          refine bodyPost_ret (v := .agg #[.string (cat (NA (mx f d) 4)), .slice g1 g2 g3, .slice g4 g5 g6, .slice a5 (codes (syncP f d P Q)).length c5]) (by simp [results, Yba.results9, go_sem, t0, t1, t2, t3]) rfl ?_
          refine ⟨_, rfl, ⟨_, _, _, _, _, _, _, _, rfl, HK.out.setRes4 HS3.out (by simp) (fun k hk => hoth k hk), (HI3.out.keep (by simp) (fun k hk _ => hoth k (by omega))).row⟩, ?_⟩
          exact (((HB3.out.setCell (p := ⟨w.heap.size + 1 + 1, 0, none⟩) (by show w.heap.size ≤ w.heap.size + 1 + 1; omega) _).setCell (p := ⟨w.heap.size + 1 + 1, 1, none⟩) (by show w.heap.size ≤ w.heap.size + 1 + 1; omega) _).setCell (p := ⟨w.heap.size + 1 + 1, 2, none⟩) (by show w.heap.size ≤ w.heap.size + 1 + 1; omega) _).setCell (p := ⟨w.heap.size + 1 + 1, 3, none⟩) (by show w.heap.size ≤ w.heap.size + 1 + 1; omega) _
end Go.Proofs.Ybulkgey
