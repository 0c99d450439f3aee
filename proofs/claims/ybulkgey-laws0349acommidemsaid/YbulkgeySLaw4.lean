/- LawS0349ACommIdem (4): the walk. -/
import Derived.Test.YbulkgeySEq
import Derived.Test.YbulkgeyMWA
namespace Go.Proofs.Ybulkgey
open Go.RowKit
set_option linter.unusedVariables false

theorem sibS_any (w : World) (f m : Nat → Int) (hf : ∀ k, k < 4 → 0 ≤ f k ∧ f k ≤ 255) (hm : ∀ k, k < 4 → 0 ≤ m k ∧ m k ≤ 255) :
    Calls Yba.prog 8 #[arr f, arr m] w fun e w' => ∃ r, e = .returned r ∧ Sib w' r f (holdP f m) ∧ Below w.heap.size w w' := by
  refine (sib_any w f m hf hm).mono ?_
  rintro e w' ⟨offs, ctrs, a, cap, rfl, hck, hrow, hb⟩
  rw [wrs_codes] at hrow
  obtain ⟨ao, on, oc, rfl⟩ : ∃ ao on oc, offs = .slice ao on oc := by
    rcases hck.2.2 with ⟨_, rfl⟩ | ⟨_, hr⟩
    · exact ⟨none, 0, 0, rfl⟩
    · obtain ⟨x, y, rfl⟩ := hr.shape; exact ⟨x, _, y, rfl⟩
  obtain ⟨ac, cc, rfl⟩ := hck.1.shape
  refine ⟨_, rfl, ⟨ao, on, oc, ac, _, cc, a, cap, ?_, hck, hrow⟩, hb⟩
  rw [wrs_codes, List.length_map]
theorem syncS_any (w : World) (v u : Value) (f d : Nat → Int) (P Q : Nat → Bool) (hv : Sib w v f P) (hu : Sib w u d Q) (hf : Cov f P) :
    Calls Yba.prog 9 #[v, u] w fun e w' => ∃ r, e = .returned r ∧ Sib w' r (mx f d) (syncP f d P Q) ∧ Below w.heap.size w w' := sync_any w v u f d P Q hv hu hf (walkApart_any f d)

theorem sync_comm (f d : Nat → Int) (P Q : Nat → Bool) : codes (syncP f d P Q) = codes (syncP d f Q P) := by
  apply codes_congr
  intro c _
  unfold syncP keep1 keep2
  cases P c <;> cases Q c <;> simp
theorem sync_idem (f : Nat → Int) (P : Nat → Bool) : codes (syncP f f P P) = codes P := by
  apply codes_congr
  intro c _
  unfold syncP keep1 keep2
  cases P c <;> simp
theorem mx_idem (f : Nat → Int) (k : Nat) : mx f f k % 9 = f k % 9 := by rw [mx_mod]; omega

set_option maxRecDepth 100000 in
set_option maxHeartbeats 4000000 in
theorem law4_any (w : World) (f m g n : Nat → Int) (hf : ∀ k, k < 4 → 0 ≤ f k ∧ f k ≤ 255) (hm : ∀ k, k < 4 → 0 ≤ m k ∧ m k ≤ 255) (hg : ∀ k, k < 4 → 0 ≤ g k ∧ g k ≤ 255) (hn : ∀ k, k < 4 → 0 ≤ n k ∧ n k ≤ 255) :
    Calls Yba.prog 4 #[arr f, arr m, arr g, arr n] w fun e w' => e = .returned (.bool true) ∧ Below w.heap.size w w' := by
  have HS := hid (fun W => sibS_any W f m hf hm)
  have HO := hid (fun W => sibS_any W g n hg hn)
  clear hf hm hg hn
  unfold arr at *
  go_enter Yba.func4, Yba.ntmps4
  go_wp2_with fail
  obtain ⟨W4, hW4⟩ : ∃ W4, W4 = (((w.alloc (.cells (arrCells f) 22)).alloc (.cells (arrCells m) 22)).alloc (.cells (arrCells g) 22)).alloc (.cells (arrCells n) 22) := ⟨_, rfl⟩
  obtain ⟨q0, q1, q2, q3⟩ := four_heap w (.cells (arrCells f) 22) (.cells (arrCells m) 22) (.cells (arrCells g) 22) (.cells (arrCells n) 22)
  have hb4 : Below w.heap.size w ((((w.alloc (.cells (arrCells f) 22)).alloc (.cells (arrCells m) 22)).alloc (.cells (arrCells g) 22)).alloc (.cells (arrCells n) 22)) := by go_grown
  rw [← hW4] at q0 q1 q2 q3 hb4
  unfold arrCells at hW4 q0 q1 q2 q3
  rw [← hW4]
  clear hW4
  refine (HS.out W4).mono ?_
  rintro e w1 ⟨r, rfl, hs1, hb1⟩
  obtain ⟨sp1, sn1, sc1, sp2, sn2, sc2, sa, scap, rfl, sck, srow⟩ := hs1
  have hs1 : Sib w1 (.agg #[.string (cat (NA f 4)), .slice sp1 sn1 sc1, .slice sp2 sn2 sc2, .slice sa (codes (holdP f m)).length scap]) f (holdP f m) := ⟨_, _, _, _, _, _, _, _, rfl, sck, srow⟩
  have HS1 := hid hs1
  clear hs1 sck srow
  go_upto_region 2 with fail
  have ns : (w1.alloc (.cells #[.string (cat (NA f 4)), .slice sp1 sn1 sc1, .slice sp2 sn2 sc2, .slice sa (codes (holdP f m)).length scap] 30)).heap[w1.heap.size]? = some (.cells #[.string (cat (NA f 4)), .slice sp1 sn1 sc1, .slice sp2 sn2 sc2, .slice sa (codes (holdP f m)).length scap] 30) := heap_new_at _ _ rfl
  have bw2 : Below w1.heap.size w1 (w1.alloc (.cells #[.string (cat (NA f 4)), .slice sp1 sn1 sc1, .slice sp2 sn2 sc2, .slice sa (codes (holdP f m)).length scap] 30)) := below_alloc _ _ _ (Nat.le_refl _)
  generalize w1.alloc (.cells #[.string (cat (NA f 4)), .slice sp1 sn1 sc1, .slice sp2 sn2 sc2, .slice sa (codes (holdP f m)).length scap] 30) = w2 at ns bw2 ⊢
  have hb42 := hb1.trans (bw2.mono hb1.size)
  have G2 := (hb42.block _ (block_lt q2)).trans q2
  have G3 := (hb42.block _ (block_lt q3)).trans q3
  have x0 : w2.cell? ⟨w.heap.size + 1 + 1, 0, none⟩ = some (.int .u8 (g 0)) := cell_of_block G2 0
  have x1 : w2.cell? ⟨w.heap.size + 1 + 1, 1, none⟩ = some (.int .u8 (g 1)) := cell_of_block G2 1
  have x2 : w2.cell? ⟨w.heap.size + 1 + 1, 2, none⟩ = some (.int .u8 (g 2)) := cell_of_block G2 2
  have x3 : w2.cell? ⟨w.heap.size + 1 + 1, 3, none⟩ = some (.int .u8 (g 3)) := cell_of_block G2 3
  have y0 : w2.cell? ⟨w.heap.size + 1 + 1 + 1, 0, none⟩ = some (.int .u8 (n 0)) := cell_of_block G3 0
  have y1 : w2.cell? ⟨w.heap.size + 1 + 1 + 1, 1, none⟩ = some (.int .u8 (n 1)) := cell_of_block G3 1
  have y2 : w2.cell? ⟨w.heap.size + 1 + 1 + 1, 2, none⟩ = some (.int .u8 (n 2)) := cell_of_block G3 2
  have y3 : w2.cell? ⟨w.heap.size + 1 + 1 + 1, 3, none⟩ = some (.int .u8 (n 3)) := cell_of_block G3 3
  have hbw2 := hb4.trans (hb42.mono hb4.size)
  have HS2 := hid (HS1.out.below bw2)
  clear HS1 q0 q1 q2 q3 hb1 G2 G3 hb4 hb42 bw2
  go_wp2_with fail
  refine (HO.out w2).mono ?_
  rintro e w3 ⟨r, rfl, ho3, hb3⟩
  obtain ⟨op1, on1, oc1, op2, on2, oc2, oa, ocap, rfl, ock, orow⟩ := ho3
  have ho3 : Sib w3 (.agg #[.string (cat (NA g 4)), .slice op1 on1 oc1, .slice op2 on2 oc2, .slice oa (codes (holdP g n)).length ocap]) g (holdP g n) := ⟨_, _, _, _, _, _, _, _, rfl, ock, orow⟩
  have HO3 := hid ho3
  clear ho3 ock orow x0 x1 x2 x3 y0 y1 y2 y3
  go_upto_region 3 with fail
  have no : (w3.alloc (.cells #[.string (cat (NA g 4)), .slice op1 on1 oc1, .slice op2 on2 oc2, .slice oa (codes (holdP g n)).length ocap] 30)).heap[w3.heap.size]? = some (.cells #[.string (cat (NA g 4)), .slice op1 on1 oc1, .slice op2 on2 oc2, .slice oa (codes (holdP g n)).length ocap] 30) := heap_new_at _ _ rfl
  have bw4 : Below w3.heap.size w3 (w3.alloc (.cells #[.string (cat (NA g 4)), .slice op1 on1 oc1, .slice op2 on2 oc2, .slice oa (codes (holdP g n)).length ocap] 30)) := below_alloc _ _ _ (Nat.le_refl _)
  generalize w3.alloc (.cells #[.string (cat (NA g 4)), .slice op1 on1 oc1, .slice op2 on2 oc2, .slice oa (codes (holdP g n)).length ocap] 30) = w4 at no bw4 ⊢
  have hb24 := hb3.trans (bw4.mono hb3.size)
  have ns4 := (hb24.block _ (block_lt ns)).trans ns
  have hbw4 := hbw2.trans (hb24.mono hbw2.size)
  have HS4 := hid (HS2.out.below hb24)
  have HO4 := hid (HO3.out.below bw4)
  have lso : w1.heap.size < w3.heap.size := Nat.lt_of_lt_of_le (block_lt ns) hb3.size
  have x0 : w4.cell? ⟨w1.heap.size, 0, none⟩ = some (.string (cat (NA f 4))) := cell_of_block ns4 0
  have x1 : w4.cell? ⟨w1.heap.size, 1, none⟩ = some (.slice sp1 sn1 sc1) := cell_of_block ns4 1
  have x2 : w4.cell? ⟨w1.heap.size, 2, none⟩ = some (.slice sp2 sn2 sc2) := cell_of_block ns4 2
  have x3 : w4.cell? ⟨w1.heap.size, 3, none⟩ = some (.slice sa (codes (holdP f m)).length scap) := cell_of_block ns4 3
  have y0 : w4.cell? ⟨w3.heap.size, 0, none⟩ = some (.string (cat (NA g 4))) := cell_of_block no 0
  have y1 : w4.cell? ⟨w3.heap.size, 1, none⟩ = some (.slice op1 on1 oc1) := cell_of_block no 1
  have y2 : w4.cell? ⟨w3.heap.size, 2, none⟩ = some (.slice op2 on2 oc2) := cell_of_block no 2
  have y3 : w4.cell? ⟨w3.heap.size, 3, none⟩ = some (.slice oa (codes (holdP g n)).length ocap) := cell_of_block no 3
  clear HS2 HO3 hb3 bw4 ns hbw2 hb24
  go_wp2_with fail
  refine (syncS_any w4 _ _ f g _ _ HS4.out HO4.out (hold_cov f m)).mono ?_
  rintro e w5 ⟨r, rfl, ha5, hb5⟩
  obtain ⟨ap1, an1, ac1, ap2, an2, ac2, aa, acap, rfl, ack, arow⟩ := ha5
  have ha5 : Sib w5 (.agg #[.string (cat (NA (mx f g) 4)), .slice ap1 an1 ac1, .slice ap2 an2 ac2, .slice aa (codes (syncP f g (holdP f m) (holdP g n))).length acap]) (mx f g) (syncP f g (holdP f m) (holdP g n)) := ⟨_, _, _, _, _, _, _, _, rfl, ack, arow⟩
  have HA5 := hid ha5
  clear ha5 ack arow x0 x1 x2 x3 y0 y1 y2 y3
  go_upto_region 4 with fail
  have na : (w5.alloc (.cells #[.string (cat (NA (mx f g) 4)), .slice ap1 an1 ac1, .slice ap2 an2 ac2, .slice aa (codes (syncP f g (holdP f m) (holdP g n))).length acap] 30)).heap[w5.heap.size]? = some (.cells #[.string (cat (NA (mx f g) 4)), .slice ap1 an1 ac1, .slice ap2 an2 ac2, .slice aa (codes (syncP f g (holdP f m) (holdP g n))).length acap] 30) := heap_new_at _ _ rfl
  have bw6 : Below w5.heap.size w5 (w5.alloc (.cells #[.string (cat (NA (mx f g) 4)), .slice ap1 an1 ac1, .slice ap2 an2 ac2, .slice aa (codes (syncP f g (holdP f m) (holdP g n))).length acap] 30)) := below_alloc _ _ _ (Nat.le_refl _)
  generalize w5.alloc (.cells #[.string (cat (NA (mx f g) 4)), .slice ap1 an1 ac1, .slice ap2 an2 ac2, .slice aa (codes (syncP f g (holdP f m) (holdP g n))).length acap] 30) = w6 at na bw6 ⊢
  have hb46 := hb5.trans (bw6.mono hb5.size)
  have ns6 := (hb46.block _ (block_lt ns4)).trans ns4
  have no6 := (hb46.block _ (block_lt no)).trans no
  have hbw6 := hbw4.trans (hb46.mono hbw4.size)
  have HS6 := hid (HS4.out.below hb46)
  have HO6 := hid (HO4.out.below hb46)
  have HA6 := hid (HA5.out.below bw6)
  have x0 : w6.cell? ⟨w1.heap.size, 0, none⟩ = some (.string (cat (NA f 4))) := cell_of_block ns6 0
  have x1 : w6.cell? ⟨w1.heap.size, 1, none⟩ = some (.slice sp1 sn1 sc1) := cell_of_block ns6 1
  have x2 : w6.cell? ⟨w1.heap.size, 2, none⟩ = some (.slice sp2 sn2 sc2) := cell_of_block ns6 2
  have x3 : w6.cell? ⟨w1.heap.size, 3, none⟩ = some (.slice sa (codes (holdP f m)).length scap) := cell_of_block ns6 3
  have y0 : w6.cell? ⟨w3.heap.size, 0, none⟩ = some (.string (cat (NA g 4))) := cell_of_block no6 0
  have y1 : w6.cell? ⟨w3.heap.size, 1, none⟩ = some (.slice op1 on1 oc1) := cell_of_block no6 1
  have y2 : w6.cell? ⟨w3.heap.size, 2, none⟩ = some (.slice op2 on2 oc2) := cell_of_block no6 2
  have y3 : w6.cell? ⟨w3.heap.size, 3, none⟩ = some (.slice oa (codes (holdP g n)).length ocap) := cell_of_block no6 3
  clear HS4 HO4 HA5 hb5 bw6 ns4 no hbw4 hb46
  go_wp2_with fail
  refine (syncS_any w6 _ _ g f _ _ HO6.out HS6.out (hold_cov g n)).mono ?_
  rintro e w7 ⟨r, rfl, hh7, hb7⟩
  obtain ⟨bp1, bn1, bc1, bp2, bn2, bc2, ba, bcap, rfl, bck, brow⟩ := hh7
  have hh7 : Sib w7 (.agg #[.string (cat (NA (mx g f) 4)), .slice bp1 bn1 bc1, .slice bp2 bn2 bc2, .slice ba (codes (syncP g f (holdP g n) (holdP f m))).length bcap]) (mx g f) (syncP g f (holdP g n) (holdP f m)) := ⟨_, _, _, _, _, _, _, _, rfl, bck, brow⟩
  have HH7 := hid hh7
  clear hh7 bck brow x0 x1 x2 x3 y0 y1 y2 y3
  go_upto_region 5 with fail
  have nb : (w7.alloc (.cells #[.string (cat (NA (mx g f) 4)), .slice bp1 bn1 bc1, .slice bp2 bn2 bc2, .slice ba (codes (syncP g f (holdP g n) (holdP f m))).length bcap] 30)).heap[w7.heap.size]? = some (.cells #[.string (cat (NA (mx g f) 4)), .slice bp1 bn1 bc1, .slice bp2 bn2 bc2, .slice ba (codes (syncP g f (holdP g n) (holdP f m))).length bcap] 30) := heap_new_at _ _ rfl
  have bw8 : Below w7.heap.size w7 (w7.alloc (.cells #[.string (cat (NA (mx g f) 4)), .slice bp1 bn1 bc1, .slice bp2 bn2 bc2, .slice ba (codes (syncP g f (holdP g n) (holdP f m))).length bcap] 30)) := below_alloc _ _ _ (Nat.le_refl _)
  generalize w7.alloc (.cells #[.string (cat (NA (mx g f) 4)), .slice bp1 bn1 bc1, .slice bp2 bn2 bc2, .slice ba (codes (syncP g f (holdP g n) (holdP f m))).length bcap] 30) = w8 at nb bw8 ⊢
  have hb68 := hb7.trans (bw8.mono hb7.size)
  have ns8 := (hb68.block _ (block_lt ns6)).trans ns6
  have na8 := (hb68.block _ (block_lt na)).trans na
  have hbw8 := hbw6.trans (hb68.mono hbw6.size)
  have HS8 := hid (HS6.out.below hb68)
  have HA8 := hid (HA6.out.below hb68)
  have HB8 := hid (HH7.out.below bw8)
  have x0 : w8.cell? ⟨w5.heap.size, 0, none⟩ = some (.string (cat (NA (mx f g) 4))) := cell_of_block na8 0
  have x1 : w8.cell? ⟨w5.heap.size, 1, none⟩ = some (.slice ap1 an1 ac1) := cell_of_block na8 1
  have x2 : w8.cell? ⟨w5.heap.size, 2, none⟩ = some (.slice ap2 an2 ac2) := cell_of_block na8 2
  have x3 : w8.cell? ⟨w5.heap.size, 3, none⟩ = some (.slice aa (codes (syncP f g (holdP f m) (holdP g n))).length acap) := cell_of_block na8 3
  have y0 : w8.cell? ⟨w7.heap.size, 0, none⟩ = some (.string (cat (NA (mx g f) 4))) := cell_of_block nb 0
  have y1 : w8.cell? ⟨w7.heap.size, 1, none⟩ = some (.slice bp1 bn1 bc1) := cell_of_block nb 1
  have y2 : w8.cell? ⟨w7.heap.size, 2, none⟩ = some (.slice bp2 bn2 bc2) := cell_of_block nb 2
  have y3 : w8.cell? ⟨w7.heap.size, 3, none⟩ = some (.slice ba (codes (syncP g f (holdP g n) (holdP f m))).length bcap) := cell_of_block nb 3
  clear HS6 HO6 HA6 HH7 hb7 bw8 ns6 no6 na hbw6 hb68
  go_wp2_with fail
  refine (eq_any w8 _ _ _ _ _ _ HA8.out HB8.out (sync_comm f g _ _) (fun k _ => by rw [mx_comm])).mono ?_
  rintro e w9 ⟨rfl, hb9⟩
  have ns9 := (hb9.block _ (block_lt ns8)).trans ns8
  have na9 := (hb9.block _ (block_lt na8)).trans na8
  have hbw9 := hbw8.trans (hb9.mono hbw8.size)
  have HS9 := hid (HS8.out.below hb9)
  have HA9 := hid (HA8.out.below hb9)
  clear HS8 HA8 HB8 hb9 ns8 na8 hbw8 x0 x1 x2 x3 y0 y1 y2 y3
  have x0 : w9.cell? ⟨w5.heap.size, 0, none⟩ = some (.string (cat (NA (mx f g) 4))) := cell_of_block na9 0
  have x1 : w9.cell? ⟨w5.heap.size, 1, none⟩ = some (.slice ap1 an1 ac1) := cell_of_block na9 1
  have x2 : w9.cell? ⟨w5.heap.size, 2, none⟩ = some (.slice ap2 an2 ac2) := cell_of_block na9 2
  have x3 : w9.cell? ⟨w5.heap.size, 3, none⟩ = some (.slice aa (codes (syncP f g (holdP f m) (holdP g n))).length acap) := cell_of_block na9 3
  go_upto_region 7 with fail
  refine wp_region_D [0, 1, 3] [2, 4, 5] 30 (fun w' => Below w9.heap.size w9 w') (by kernel_rfl) (by kernel_rfl) rfl (by kernel_rfl) (fun _ _ _ dd _ h => by cases dd <;> exact h) ((Below.refl _ w9).drew) ?_
  repeat
    refine wpHeadD_step rfl rfl w9 (fun K' hK' => ⟨?_, fun w' hw' => ?_, ?_⟩)
    rotate_left
    · have e0 := cell_later hw' x0
      have e1 := cell_later hw' x1
      have e2 := cell_later hw' x2
      have e3 := cell_later hw' x3
      go_simp
      first
        | done
        | rfl
    go_simp
    try go_bits
    refine hK' _ _ ?_
    clear hK' K'
  refine wpHeadD_nil ?_
  refine wpTailD_cons rfl rfl (fun K' hK' => ?_)
  go_simp
  refine (syncS_any w9.drew _ _ (mx f g) (mx f g) _ _ (HA9.out.below ((Below.refl _ w9).drew)) (HA9.out.below ((Below.refl _ w9).drew)) (sync_cov (hold_cov f m) (hold_cov g n))).mono ?_
  rintro e w10 ⟨r, rfl, hr10, hb10'⟩
  obtain ⟨rp1, rn1, rc1, rp2, rn2, rc2, ra, rcap, rfl, rck, rrow⟩ := hr10
  have hr10 : Sib w10 (.agg #[.string (cat (NA (mx (mx f g) (mx f g)) 4)), .slice rp1 rn1 rc1, .slice rp2 rn2 rc2, .slice ra (codes (syncP (mx f g) (mx f g) (syncP f g (holdP f m) (holdP g n)) (syncP f g (holdP f m) (holdP g n)))).length rcap]) (mx (mx f g) (mx f g)) (syncP (mx f g) (mx f g) (syncP f g (holdP f m) (holdP g n)) (syncP f g (holdP f m) (holdP g n))) := ⟨_, _, _, _, _, _, _, _, rfl, rck, rrow⟩
  have hb10 : Below w9.heap.size w9 w10 := ((Below.refl _ w9).drew).trans hb10'
  have heq := eq_any w10 _ _ _ _ _ _ hr10 (HA9.out.below hb10) (sync_idem _ _) (fun k _ => mx_idem _ k)
  dsimp only
  refine hK' _ _ (fun _ => hb10) ?_
  clear hK' K' rck rrow hr10 hb10'
  refine wpTailD_lone (by kernel_rfl) rfl rfl (fun K' hK' => ?_)
  go_simp
  refine heq.mono ?_
  rintro e w11 ⟨rfl, hb11⟩
  dsimp only
  refine hK' _ _ ?_
  clear hK' K' heq
  refine wpTailD_lone (by kernel_rfl) rfl rfl (fun K' hK' => ?_)
  go_simp
  refine hK' _ _ ?_
  clear hK' K'
  refine wpTailD_nil ?_
  have hb911 := hb10.trans (hb11.mono hb10.size)
  have ns11 := (hb911.block _ (block_lt ns9)).trans ns9
  have hbw11 := hbw9.trans (hb911.mono hbw9.size)
  have HS11 := hid (HS9.out.below hb911)
  clear HS9 HA9 hb10 hb11 hb911 ns9 na9 hbw9 x0 x1 x2 x3
  have x0 : w11.cell? ⟨w1.heap.size, 0, none⟩ = some (.string (cat (NA f 4))) := cell_of_block ns11 0
  have x1 : w11.cell? ⟨w1.heap.size, 1, none⟩ = some (.slice sp1 sn1 sc1) := cell_of_block ns11 1
  have x2 : w11.cell? ⟨w1.heap.size, 2, none⟩ = some (.slice sp2 sn2 sc2) := cell_of_block ns11 2
  have x3 : w11.cell? ⟨w1.heap.size, 3, none⟩ = some (.slice sa (codes (holdP f m)).length scap) := cell_of_block ns11 3
  go_upto_region 9 with fail
  refine wp_region_D [0, 1, 3] [2, 4, 5] 30 (fun w' => Below w11.heap.size w11 w') (by kernel_rfl) (by kernel_rfl) rfl (by kernel_rfl) (fun _ _ _ dd _ h => by cases dd <;> exact h) ((Below.refl _ w11).drew) ?_
  repeat
    refine wpHeadD_step rfl rfl w11 (fun K' hK' => ⟨?_, fun w' hw' => ?_, ?_⟩)
    rotate_left
    · have e0 := cell_later hw' x0
      have e1 := cell_later hw' x1
      have e2 := cell_later hw' x2
      have e3 := cell_later hw' x3
      go_simp
      first
        | done
        | rfl
    go_simp
    try go_bits
    refine hK' _ _ ?_
    clear hK' K'
  refine wpHeadD_nil ?_
  refine wpTailD_cons rfl rfl (fun K' hK' => ?_)
  go_simp
  refine (syncS_any w11.drew _ _ f f _ _ (HS11.out.below ((Below.refl _ w11).drew)) (HS11.out.below ((Below.refl _ w11).drew)) (hold_cov f m)).mono ?_
  rintro e w12 ⟨r, rfl, hr12, hb12'⟩
  obtain ⟨tp1, tn1, tc1, tp2, tn2, tc2, ta, tcap, rfl, tck, trow⟩ := hr12
  have hr12 : Sib w12 (.agg #[.string (cat (NA (mx f f) 4)), .slice tp1 tn1 tc1, .slice tp2 tn2 tc2, .slice ta (codes (syncP f f (holdP f m) (holdP f m))).length tcap]) (mx f f) (syncP f f (holdP f m) (holdP f m)) := ⟨_, _, _, _, _, _, _, _, rfl, tck, trow⟩
  have hb12 : Below w11.heap.size w11 w12 := ((Below.refl _ w11).drew).trans hb12'
  have heq := eq_any w12 _ _ _ _ _ _ hr12 (HS11.out.below hb12) (sync_idem _ _) (fun k _ => mx_idem _ k)
  dsimp only
  refine hK' _ _ (fun _ => hb12) ?_
  clear hK' K' tck trow hr12 hb12'
  refine wpTailD_lone (by kernel_rfl) rfl rfl (fun K' hK' => ?_)
  go_simp
  refine heq.mono ?_
  rintro e w13 ⟨rfl, hb13⟩
  dsimp only
  refine hK' _ _ ?_
  clear hK' K' heq
  refine wpTailD_lone (by kernel_rfl) rfl rfl (fun K' hK' => ?_)
  go_simp
  refine hK' _ _ ?_
  clear hK' K'
  refine wpTailD_nil ?_
  have hbw13 := hbw11.trans ((hb12.trans (hb13.mono hb12.size)).mono hbw11.size)
  clear x0 x1 x2 x3
  go_wp2_with fail
  go_ret
  exact ⟨rfl, hbw13⟩
end Go.Proofs.Ybulkgey
