/- LawS0349AExact (3): the walk. -/
import Derived.Test.YbulkgeySEq
import Derived.Test.YbulkgeyMWA
namespace Go.Proofs.Ybulkgey
open Go.RowKit
set_option linter.unusedVariables false

theorem sibT_any (w : World) (f m : Nat → Int) (hf : ∀ k, k < 4 → 0 ≤ f k ∧ f k ≤ 255) (hm : ∀ k, k < 4 → 0 ≤ m k ∧ m k ≤ 255) :
    Calls Yba.prog 8 #[arr f, arr m] w fun e w' => ∃ r, e = .returned r ∧ Sib w' r f (holdP f m) ∧ Below w.heap.size w w' := by
  refine (sib_any w f m hf hm).mono ?_
  rintro e w' ⟨offs, ctrs, a, cap, rfl, hck, hrow, hb⟩
  rw [wrs_codes] at hrow
  obtain ⟨ao, on, oc, rfl⟩ : ∃ ao on oc, offs = .slice ao on oc := by
    rcases hck.2.2 with ⟨_, rfl⟩ | ⟨_, hr⟩
    · exact ⟨none, 0, 0, rfl⟩
    · obtain ⟨x, y, rfl⟩ := hr.shape; exact ⟨x, _, y, rfl⟩
  obtain ⟨ac, cc, rfl⟩ := hck.1.shape
  refine ⟨_, rfl, ⟨ao, on, oc, ac, _, cc, a, cap, ?_, hck, hrow⟩, hb⟩
  rw [wrs_codes, List.length_map]
theorem syncT_any (w : World) (v u : Value) (f d : Nat → Int) (P Q : Nat → Bool) (hv : Sib w v f P) (hu : Sib w u d Q) (hf : Cov f P) :
    Calls Yba.prog 9 #[v, u] w fun e w' => ∃ r, e = .returned r ∧ Sib w' r (mx f d) (syncP f d P Q) ∧ Below w.heap.size w w' := sync_any w v u f d P Q hv hu hf (walkApart_any f d)

theorem code_split {k j : Nat} (hj : j < 8) : (k * 16 + (j + 1)) / 16 = k ∧ (k * 16 + (j + 1)) % 16 = j + 1 := ⟨by omega, by omega⟩
/-- What the law's own test says of a code. -/
theorem keep_code (f m g n : Nat → Int) {k j : Nat} (hj : j < 8) : syncP f g (holdP f m) (holdP g n) (k * 16 + (j + 1)) = ((hold (f k) (m k) (j + 1) && (decide (g k % 9 < (j : Int) + 1) || hold (g k) (n k) (j + 1))) || (hold (g k) (n k) (j + 1) && decide (f k % 9 < (j : Int) + 1))) := by
  obtain ⟨e1, e2⟩ := code_split (k := k) hj
  unfold syncP keep1 keep2 holdP
  rw [e1, e2]
  rfl
/-- The write that the law looks for is the next of the list. -/
theorem next_write {R : Nat → Bool} {k j : Nat} (hk : k < 4) (hj : j < 8) (h : R (k * 16 + (j + 1)) = true) {i : Nat} (hi : i = (wl R k ++ wlK R k j).length) : ∃ hl : i < (codes R).length, ((codes R).map mkW)[i]'(by simpa using hl) = ⟨an k, (j : Int) + 1, (k : Int) * 16 + ((j : Int) + 1)⟩ := by
  have h1 := wl_next hk hj h
  rw [← hi] at h1
  obtain ⟨hl, h2⟩ := List.getElem?_eq_some_iff.1 h1
  refine ⟨hl, ?_⟩
  rw [List.getElem_map, h2]
  obtain ⟨e1, e2⟩ := code_split (k := k) hj
  unfold mkW
  rw [e1, e2]
  congr 1 <;> omega
theorem row_at {w : World} {a : Option Addr} {L : List Wr} (h : WRow w a L) {i : Nat} (hi : i < L.length) : ∃ g o, a = some ⟨g, o, none⟩ ∧ w.cell? ⟨g, o + i * 3, none⟩ = some (.string L[i].s) ∧ w.cell? ⟨g, o + i * 3 + 1, none⟩ = some (.int .u64 L[i].c) ∧ w.cell? ⟨g, o + i * 3 + 2, none⟩ = some (.int .i64 L[i].v) := by
  rcases h with rfl | ⟨g, o, e, h⟩
  · simp at hi
  · exact ⟨g, o, e, h i hi⟩
theorem cn_mx_yes {f g : Nat → Int} {k : Nat} (h : 0 < max (f k % 9) (g k % 9)) : cn (mx f g) (k + 1) = cn (mx f g) k + 1 := by
  rw [cn_succ, if_pos]
  unfold has
  rw [mx_mod]
  simp; omega
theorem cn_mx_no {f g : Nat → Int} {k : Nat} (h : ¬ 0 < max (f k % 9) (g k % 9)) : cn (mx f g) (k + 1) = cn (mx f g) k := by
  rw [cn_succ, if_neg]
  · rfl
  unfold has
  rw [mx_mod]
  have := mod9 (f k)
  have := mod9 (g k)
  simp; omega

set_option maxRecDepth 100000 in
set_option maxHeartbeats 4000000 in
theorem law3_any (w : World) (f m g n : Nat → Int) (hf : ∀ k, k < 4 → 0 ≤ f k ∧ f k ≤ 255) (hm : ∀ k, k < 4 → 0 ≤ m k ∧ m k ≤ 255) (hg : ∀ k, k < 4 → 0 ≤ g k ∧ g k ≤ 255) (hn : ∀ k, k < 4 → 0 ≤ n k ∧ n k ≤ 255) :
    Calls Yba.prog 3 #[arr f, arr m, arr g, arr n] w fun e w' => e = .returned (.bool true) ∧ Below w.heap.size w w' := by
  have HS := hid (fun W => sibT_any W f m hf hm)
  have HO := hid (fun W => sibT_any W g n hg hn)
  have HHS := hid (fun W k j hk h1 h8 => aholds_any W f m k j hk h1 h8 (hf k hk) (hm k hk))
  have HHO := hid (fun W k j hk h1 h8 => aholds_any W g n k j hk h1 h8 (hg k hk) (hn k hk))
  have HF := hid hf
  have HG := hid hg
  clear hf hm hg hn
  unfold arr at *
  go_enter Yba.func3, Yba.ntmps3
  go_wp2_with fail
  obtain ⟨W4, hW4⟩ : ∃ W4, W4 = (((w.alloc (.cells (arrCells f) 22)).alloc (.cells (arrCells m) 22)).alloc (.cells (arrCells g) 22)).alloc (.cells (arrCells n) 22) := ⟨_, rfl⟩
  obtain ⟨q0, q1, q2, q3⟩ := four_heap w (.cells (arrCells f) 22) (.cells (arrCells m) 22) (.cells (arrCells g) 22) (.cells (arrCells n) 22)
  have hb4 : Below w.heap.size w ((((w.alloc (.cells (arrCells f) 22)).alloc (.cells (arrCells m) 22)).alloc (.cells (arrCells g) 22)).alloc (.cells (arrCells n) 22)) := by go_grown
  rw [← hW4] at q0 q1 q2 q3 hb4
  unfold arrCells at hW4
  rw [← hW4]
  clear hW4
  refine (names_any W4).mono ?_
  rintro e w1 ⟨rfl, hb1⟩
  unfold anCells
  go_upto_region 2 with fail
  have nn : (w1.alloc (.cells anCells 23)).heap[w1.heap.size]? = some (.cells anCells 23) := heap_new_at _ _ rfl
  have bw2 : Below w1.heap.size w1 (w1.alloc (.cells anCells 23)) := below_alloc _ _ _ (Nat.le_refl _)
  obtain ⟨w2, hw2⟩ : ∃ w2, w2 = w1.alloc (.cells anCells 23) := ⟨_, rfl⟩
  rw [← hw2] at nn bw2
  unfold anCells at hw2
  rw [← hw2]
  clear hw2
  have hb42 := hb1.trans (bw2.mono hb1.size)
  have G0 := (hb42.block _ (block_lt q0)).trans q0
  have G1 := (hb42.block _ (block_lt q1)).trans q1
  have G2 := (hb42.block _ (block_lt q2)).trans q2
  have G3 := (hb42.block _ (block_lt q3)).trans q3
  have hbw2 := hb4.trans (hb42.mono hb4.size)
  have x0 : w2.cell? ⟨w.heap.size, 0, none⟩ = some (.int .u8 (f 0)) := cell_of_block G0 0
  have x1 : w2.cell? ⟨w.heap.size, 1, none⟩ = some (.int .u8 (f 1)) := cell_of_block G0 1
  have x2 : w2.cell? ⟨w.heap.size, 2, none⟩ = some (.int .u8 (f 2)) := cell_of_block G0 2
  have x3 : w2.cell? ⟨w.heap.size, 3, none⟩ = some (.int .u8 (f 3)) := cell_of_block G0 3
  have y0 : w2.cell? ⟨w.heap.size + 1, 0, none⟩ = some (.int .u8 (m 0)) := cell_of_block G1 0
  have y1 : w2.cell? ⟨w.heap.size + 1, 1, none⟩ = some (.int .u8 (m 1)) := cell_of_block G1 1
  have y2 : w2.cell? ⟨w.heap.size + 1, 2, none⟩ = some (.int .u8 (m 2)) := cell_of_block G1 2
  have y3 : w2.cell? ⟨w.heap.size + 1, 3, none⟩ = some (.int .u8 (m 3)) := cell_of_block G1 3
  clear q0 q1 q2 q3 hb1 bw2 hb4 hb42
  go_wp2_with fail
  refine (HS.out w2).mono ?_
  rintro e w3 ⟨r, rfl, hs3, hb3⟩
  obtain ⟨sp1, sn1, sc1, sp2, sn2, sc2, sa, scap, rfl, sck, srow⟩ := hs3
  have hs3 : Sib w3 (.agg #[.string (cat (NA f 4)), .slice sp1 sn1 sc1, .slice sp2 sn2 sc2, .slice sa (codes (holdP f m)).length scap]) f (holdP f m) := ⟨_, _, _, _, _, _, _, _, rfl, sck, srow⟩
  have HS3 := hid hs3
  clear hs3 sck srow x0 x1 x2 x3 y0 y1 y2 y3
  go_upto_region 3 with fail
  have ns : (w3.alloc (.cells #[.string (cat (NA f 4)), .slice sp1 sn1 sc1, .slice sp2 sn2 sc2, .slice sa (codes (holdP f m)).length scap] 30)).heap[w3.heap.size]? = some (.cells #[.string (cat (NA f 4)), .slice sp1 sn1 sc1, .slice sp2 sn2 sc2, .slice sa (codes (holdP f m)).length scap] 30) := heap_new_at _ _ rfl
  have bw4 : Below w3.heap.size w3 (w3.alloc (.cells #[.string (cat (NA f 4)), .slice sp1 sn1 sc1, .slice sp2 sn2 sc2, .slice sa (codes (holdP f m)).length scap] 30)) := below_alloc _ _ _ (Nat.le_refl _)
  generalize w3.alloc (.cells #[.string (cat (NA f 4)), .slice sp1 sn1 sc1, .slice sp2 sn2 sc2, .slice sa (codes (holdP f m)).length scap] 30) = w4 at ns bw4 ⊢
  have hb24 := hb3.trans (bw4.mono hb3.size)
  have hbw4 := hbw2.trans (hb24.mono hbw2.size)
  have K0 := (hb24.block _ (block_lt G0)).trans G0
  have K1 := (hb24.block _ (block_lt G1)).trans G1
  have K2 := (hb24.block _ (block_lt G2)).trans G2
  have K3 := (hb24.block _ (block_lt G3)).trans G3
  have nn4 := (hb24.block _ (block_lt nn)).trans nn
  have HS4 := hid (HS3.out.below bw4)
  have x0 : w4.cell? ⟨w.heap.size + 1 + 1, 0, none⟩ = some (.int .u8 (g 0)) := cell_of_block K2 0
  have x1 : w4.cell? ⟨w.heap.size + 1 + 1, 1, none⟩ = some (.int .u8 (g 1)) := cell_of_block K2 1
  have x2 : w4.cell? ⟨w.heap.size + 1 + 1, 2, none⟩ = some (.int .u8 (g 2)) := cell_of_block K2 2
  have x3 : w4.cell? ⟨w.heap.size + 1 + 1, 3, none⟩ = some (.int .u8 (g 3)) := cell_of_block K2 3
  have y0 : w4.cell? ⟨w.heap.size + 1 + 1 + 1, 0, none⟩ = some (.int .u8 (n 0)) := cell_of_block K3 0
  have y1 : w4.cell? ⟨w.heap.size + 1 + 1 + 1, 1, none⟩ = some (.int .u8 (n 1)) := cell_of_block K3 1
  have y2 : w4.cell? ⟨w.heap.size + 1 + 1 + 1, 2, none⟩ = some (.int .u8 (n 2)) := cell_of_block K3 2
  have y3 : w4.cell? ⟨w.heap.size + 1 + 1 + 1, 3, none⟩ = some (.int .u8 (n 3)) := cell_of_block K3 3
  clear HS3 hb3 bw4 hb24 hbw2 nn G0 G1 G2 G3
  go_wp2_with fail
  refine (HO.out w4).mono ?_
  rintro e w5 ⟨r, rfl, ho5, hb5⟩
  obtain ⟨op1, on1, oc1, op2, on2, oc2, oa, ocap, rfl, ock, orow⟩ := ho5
  have ho5 : Sib w5 (.agg #[.string (cat (NA g 4)), .slice op1 on1 oc1, .slice op2 on2 oc2, .slice oa (codes (holdP g n)).length ocap]) g (holdP g n) := ⟨_, _, _, _, _, _, _, _, rfl, ock, orow⟩
  have HO5 := hid ho5
  clear ho5 ock orow x0 x1 x2 x3 y0 y1 y2 y3
  go_upto_region 4 with fail
  have no : (w5.alloc (.cells #[.string (cat (NA g 4)), .slice op1 on1 oc1, .slice op2 on2 oc2, .slice oa (codes (holdP g n)).length ocap] 30)).heap[w5.heap.size]? = some (.cells #[.string (cat (NA g 4)), .slice op1 on1 oc1, .slice op2 on2 oc2, .slice oa (codes (holdP g n)).length ocap] 30) := heap_new_at _ _ rfl
  have bw6 : Below w5.heap.size w5 (w5.alloc (.cells #[.string (cat (NA g 4)), .slice op1 on1 oc1, .slice op2 on2 oc2, .slice oa (codes (holdP g n)).length ocap] 30)) := below_alloc _ _ _ (Nat.le_refl _)
  generalize w5.alloc (.cells #[.string (cat (NA g 4)), .slice op1 on1 oc1, .slice op2 on2 oc2, .slice oa (codes (holdP g n)).length ocap] 30) = w6 at no bw6 ⊢
  have hb46 := hb5.trans (bw6.mono hb5.size)
  have ns6 := (hb46.block _ (block_lt ns)).trans ns
  have hbw6 := hbw4.trans (hb46.mono hbw4.size)
  have L0 := (hb46.block _ (block_lt K0)).trans K0
  have L1 := (hb46.block _ (block_lt K1)).trans K1
  have L2 := (hb46.block _ (block_lt K2)).trans K2
  have L3 := (hb46.block _ (block_lt K3)).trans K3
  have nn6 := (hb46.block _ (block_lt nn4)).trans nn4
  have HS6 := hid (HS4.out.below hb46)
  have HO6 := hid (HO5.out.below bw6)
  have x0 : w6.cell? ⟨w3.heap.size, 0, none⟩ = some (.string (cat (NA f 4))) := cell_of_block ns6 0
  have x1 : w6.cell? ⟨w3.heap.size, 1, none⟩ = some (.slice sp1 sn1 sc1) := cell_of_block ns6 1
  have x2 : w6.cell? ⟨w3.heap.size, 2, none⟩ = some (.slice sp2 sn2 sc2) := cell_of_block ns6 2
  have x3 : w6.cell? ⟨w3.heap.size, 3, none⟩ = some (.slice sa (codes (holdP f m)).length scap) := cell_of_block ns6 3
  have y0 : w6.cell? ⟨w5.heap.size, 0, none⟩ = some (.string (cat (NA g 4))) := cell_of_block no 0
  have y1 : w6.cell? ⟨w5.heap.size, 1, none⟩ = some (.slice op1 on1 oc1) := cell_of_block no 1
  have y2 : w6.cell? ⟨w5.heap.size, 2, none⟩ = some (.slice op2 on2 oc2) := cell_of_block no 2
  have y3 : w6.cell? ⟨w5.heap.size, 3, none⟩ = some (.slice oa (codes (holdP g n)).length ocap) := cell_of_block no 3
  clear HS4 HO5 hb5 bw6 ns hbw4 hb46 nn4 K0 K1 K2 K3
  go_wp2_with fail
  refine (syncT_any w6 _ _ f g _ _ HS6.out HO6.out (hold_cov f m)).mono ?_
  rintro e w7 ⟨r, rfl, ha7, hb7⟩
  obtain ⟨ap1, an1, ac1, ap2, an2, ac2, aa, acap, rfl, ack, arow⟩ := ha7
  have lq := ack.len
  rw [cn_len] at lq
  subst lq
  have HKP := hid (fun k j (hj : j < 8) => keep_code f m g n (k := k) (j := j) hj)
  generalize syncP f g (holdP f m) (holdP g n) = R at HKP arow ⊢
  have ACK := hid ack
  have AROW := hid arow
  clear ack arow x0 x1 x2 x3 y0 y1 y2 y3 HS6 HO6 ns6 no
  go_upto_region 5 with fail
  have na : (w7.alloc (.cells #[.string (cat (NA (mx f g) 4)), .slice ap1 an1 ac1, .slice ap2 (cn (mx f g) 4) ac2, .slice aa (codes R).length acap] 30)).heap[w7.heap.size]? = some (.cells #[.string (cat (NA (mx f g) 4)), .slice ap1 an1 ac1, .slice ap2 (cn (mx f g) 4) ac2, .slice aa (codes R).length acap] 30) := heap_new_at _ _ rfl
  have bw8 : Below w7.heap.size w7 (w7.alloc (.cells #[.string (cat (NA (mx f g) 4)), .slice ap1 an1 ac1, .slice ap2 (cn (mx f g) 4) ac2, .slice aa (codes R).length acap] 30)) := below_alloc _ _ _ (Nat.le_refl _)
  generalize w7.alloc (.cells #[.string (cat (NA (mx f g) 4)), .slice ap1 an1 ac1, .slice ap2 (cn (mx f g) 4) ac2, .slice aa (codes R).length acap] 30) = W0 at na bw8 ⊢
  have hb68 := hb7.trans (bw8.mono hb7.size)
  have hbw := hbw6.trans (hb68.mono hbw6.size)
  have M0 := hid ((hb68.block _ (block_lt L0)).trans L0)
  have M1 := hid ((hb68.block _ (block_lt L1)).trans L1)
  have M2 := hid ((hb68.block _ (block_lt L2)).trans L2)
  have M3 := hid ((hb68.block _ (block_lt L3)).trans L3)
  have NN := hid ((hb68.block _ (block_lt nn6)).trans nn6)
  have NA0 := hid na
  have CK := hid (ACK.out.below bw8)
  have RW := hid (AROW.out.below bw8)
  have hlR := hid (codes_len R)
  have HBW := hid hbw
  clear hb68 hb7 bw8 hbw6 hbw L0 L1 L2 L3 nn6 na ACK AROW HS HO
  go_wp2_with fail
  go_loopw [13, 14] (fun v13 v14 wr => ∃ k i : Nat, k ≤ 4 ∧ v14 = .int .i64 k ∧ v13 = .int .i64 i ∧ Hid (i = (wl R k).length) ∧ Below W0.heap.size W0 wr) (fun _ v14 wr => 4 - (intOf v14).toNat)
  case atStart => exact ⟨0, 0, by omega, rfl, rfl, hid rfl, Below.refl _ _⟩
  case round =>
    obtain ⟨k, i, hk, rfl, rfl, hi, hbr⟩ := hrel
    by_cases hlt : k < 4
    · have hlt' : (k : Int) < 4 := by omega
      have s0 : wr.cell? ⟨w.heap.size, k, none⟩ = some (.int .u8 (f k)) := cell_later hbr ((cell_of_block M0.out k).trans (arrCells_at f k hlt))
      have o0 : wr.cell? ⟨w.heap.size + 1 + 1, k, none⟩ = some (.int .u8 (g k)) := cell_later hbr ((cell_of_block M2.out k).trans (arrCells_at g k hlt))
      obtain ⟨f0, f1⟩ := HF.out k hlt
      obtain ⟨g0, g1⟩ := HG.out k hlt
      go_wp2_with fail
      go_loopw [13, 17] (fun v13 v17 ws => ∃ j i : Nat, j ≤ 8 ∧ v17 = .int .i64 ((j : Int) + 1) ∧ v13 = .int .i64 i ∧ Hid (i = (wl R k ++ wlK R k j).length) ∧ Below W0.heap.size W0 ws) (fun _ v17 ws => 9 - (intOf v17).toNat)
      case atStart => exact ⟨0, i, by omega, rfl, rfl, hid (by rw [hi.out]; simp [wlK]), hbr⟩
      case round =>
        clear hbr hi s0 o0
        obtain ⟨j, p, hj, rfl, rfl, hi, hbr⟩ := hrel
        by_cases hj8 : j < 8
        · have hj8' : (j : Int) + 1 ≤ 8 := by omega
          have HC := hid (HHS.out wr k (j + 1) hlt (by omega) (by omega))
          have a0 : wr.cell? ⟨w.heap.size, 0, none⟩ = some (.int .u8 (f 0)) := cell_later hbr (cell_of_block M0.out 0)
          have a1 : wr.cell? ⟨w.heap.size, 1, none⟩ = some (.int .u8 (f 1)) := cell_later hbr (cell_of_block M0.out 1)
          have a2 : wr.cell? ⟨w.heap.size, 2, none⟩ = some (.int .u8 (f 2)) := cell_later hbr (cell_of_block M0.out 2)
          have a3 : wr.cell? ⟨w.heap.size, 3, none⟩ = some (.int .u8 (f 3)) := cell_later hbr (cell_of_block M0.out 3)
          have b0 : wr.cell? ⟨w.heap.size + 1, 0, none⟩ = some (.int .u8 (m 0)) := cell_later hbr (cell_of_block M1.out 0)
          have b1 : wr.cell? ⟨w.heap.size + 1, 1, none⟩ = some (.int .u8 (m 1)) := cell_later hbr (cell_of_block M1.out 1)
          have b2 : wr.cell? ⟨w.heap.size + 1, 2, none⟩ = some (.int .u8 (m 2)) := cell_later hbr (cell_of_block M1.out 2)
          have b3 : wr.cell? ⟨w.heap.size + 1, 3, none⟩ = some (.int .u8 (m 3)) := cell_later hbr (cell_of_block M1.out 3)
          go_wp2_with fail
          rw [show ((j : Int) + 1) = ((j + 1 : Nat) : Int) by omega]
          refine HC.out.mono ?_
          rintro e v1 ⟨rfl, bel1⟩
          rw [show ((j + 1 : Nat) : Int) = ((j : Int) + 1) by omega]
          have hb1 := hbr.trans (bel1.mono hbr.size)
          clear a0 a1 a2 a3 b0 b1 b2 b3 HC bel1 hbr
          have HC := hid (HHO.out v1 k (j + 1) hlt (by omega) (by omega))
          have a0 : v1.cell? ⟨w.heap.size + 1 + 1, 0, none⟩ = some (.int .u8 (g 0)) := cell_later hb1 (cell_of_block M2.out 0)
          have a1 : v1.cell? ⟨w.heap.size + 1 + 1, 1, none⟩ = some (.int .u8 (g 1)) := cell_later hb1 (cell_of_block M2.out 1)
          have a2 : v1.cell? ⟨w.heap.size + 1 + 1, 2, none⟩ = some (.int .u8 (g 2)) := cell_later hb1 (cell_of_block M2.out 2)
          have a3 : v1.cell? ⟨w.heap.size + 1 + 1, 3, none⟩ = some (.int .u8 (g 3)) := cell_later hb1 (cell_of_block M2.out 3)
          have b0 : v1.cell? ⟨w.heap.size + 1 + 1 + 1, 0, none⟩ = some (.int .u8 (n 0)) := cell_later hb1 (cell_of_block M3.out 0)
          have b1 : v1.cell? ⟨w.heap.size + 1 + 1 + 1, 1, none⟩ = some (.int .u8 (n 1)) := cell_later hb1 (cell_of_block M3.out 1)
          have b2 : v1.cell? ⟨w.heap.size + 1 + 1 + 1, 2, none⟩ = some (.int .u8 (n 2)) := cell_later hb1 (cell_of_block M3.out 2)
          have b3 : v1.cell? ⟨w.heap.size + 1 + 1 + 1, 3, none⟩ = some (.int .u8 (n 3)) := cell_later hb1 (cell_of_block M3.out 3)
          go_wp2_with fail
          rw [show ((j : Int) + 1) = ((j + 1 : Nat) : Int) by omega]
          refine HC.out.mono ?_
          rintro e v2 ⟨rfl, bel2⟩
          rw [show ((j + 1 : Nat) : Int) = ((j : Int) + 1) by omega]
          have hb2 := hb1.trans (bel2.mono hb1.size)
          clear a0 a1 a2 a3 b0 b1 b2 b3 HC bel2 hb1
          have KP := hid (HKP.out k j hj8)
          generalize hold (f k) (m k) (j + 1) = bS at KP ⊢
          generalize hold (g k) (n k) (j + 1) = bO at KP ⊢
          go_upto_region 16 with fail
          go_cut [20] from 49 to 117 (fun v ws => v = .bool (R (k * 16 + (j + 1))) ∧ ws = v2)
          case first =>
            cases bS <;> cases bO <;> by_cases h1 : g k % 9 < (j : Int) + 1 <;> by_cases h2 : f k % 9 < (j : Int) + 1
            all_goals
              go_wp2_with fail
              go_meet
              refine ⟨?_, rfl⟩
              rw [KP.out]
              simp [h1, h2]
          case rest =>
            obtain ⟨rfl, rfl⟩ := hcut
            have hpl : p ≤ 32 := by
              have h1 := hi.out
              have h2 := List.IsPrefix.length_le (wl_pre R (show k + 1 ≤ 4 by omega))
              have h3 := List.IsPrefix.length_le (wlK_pre R k (show j ≤ 8 by omega))
              rw [wl_four] at h2
              rw [wl_succ, List.length_append] at h2
              rw [List.length_append] at h1
              have h4 := hlR.out
              omega
            cases hr : R (k * 16 + (j + 1))
            · go_wp2_with fail
              exact ⟨⟨j + 1, p, by omega, by go_num, rfl, hid (by rw [hi.out, wlK_no hr]), hb2⟩, by simp [intOf]; omega⟩
            · obtain ⟨hl, hw⟩ := next_write hlt hj8 hr hi.out
              obtain ⟨G, O, rfl, r0, r1, r2⟩ := row_at RW.out (i := p) (by simpa using hl)
              rw [hw] at r0 r1 r2
              dsimp only at r0 r1 r2
              have HI := hid (show p + 1 = (wl R k ++ wlK R k (j + 1)).length by rw [wlK_yes hr, ← List.append_assoc, List.length_append, ← hi.out]; rfl)
              have hl' : (p : Int) < ((codes R).length : Int) := by omega
              have c3 : wc.cell? ⟨w7.heap.size, 3, none⟩ = some (.slice (some ⟨G, O, none⟩) (codes R).length acap) := cell_later hb2 (cell_of_block NA0.out 3)
              have nm : wc.cell? ⟨w1.heap.size, k, none⟩ = some (.string (an k)) := cell_later hb2 ((cell_of_block NN.out k).trans (anCells_at k hlt))
              replace r0 := cell_later hb2 r0
              replace r1 := cell_later hb2 r1
              replace r2 := cell_later hb2 r2
              clear hw hl hi
              go_upto_region 21 with fail
              have n0 : (wc.alloc (.cells #[.string (an k), .int .u64 ((j : Int) + 1), .int .i64 ((k : Int) * 16 + ((j : Int) + 1))] 38)).heap[wc.heap.size]? = some (.cells #[.string (an k), .int .u64 ((j : Int) + 1), .int .i64 ((k : Int) * 16 + ((j : Int) + 1))] 38) := heap_new_at _ _ rfl
              have bel : Below wc.heap.size wc (wc.alloc (.cells #[.string (an k), .int .u64 ((j : Int) + 1), .int .i64 ((k : Int) * 16 + ((j : Int) + 1))] 38)) := below_alloc _ _ _ (Nat.le_refl _)
              generalize wc.alloc (.cells #[.string (an k), .int .u64 ((j : Int) + 1), .int .i64 ((k : Int) * 16 + ((j : Int) + 1))] 38) = v3 at n0 bel ⊢
              have e0 : v3.cell? ⟨wc.heap.size, 0, none⟩ = some (.string (an k)) := cell_of_block n0 0
              have e1 : v3.cell? ⟨wc.heap.size, 1, none⟩ = some (.int .u64 ((j : Int) + 1)) := cell_of_block n0 1
              have e2 : v3.cell? ⟨wc.heap.size, 2, none⟩ = some (.int .i64 ((k : Int) * 16 + ((j : Int) + 1))) := cell_of_block n0 2
              replace nm := cell_later bel nm
              have hb3 := hb2.trans (bel.mono hb2.size)
              clear r0 r1 r2 c3 n0 bel
              go_quiet (fail)
              go_wp2_with fail
              exact ⟨⟨j + 1, p + 1, by omega, by go_num, by go_num, HI, below_drewN hb3 _⟩, by simp [intOf]; omega⟩
        · obtain rfl : j = 8 := by omega
          go_wp2_with fail
          exact ⟨⟨k + 1, p, by omega, by go_num, rfl, hid (by rw [hi.out, wl_succ]), hbr⟩, by simp [intOf]; omega⟩
    · have hie := hi.out
      rw [show k = 4 by omega, wl_four] at hie
      subst hie
      have hge : ¬ (k : Int) < 4 := by omega
      have c3 : wr.cell? ⟨w7.heap.size, 3, none⟩ = some (.slice aa (codes R).length acap) := cell_later hbr (cell_of_block NA0.out 3)
      clear hi
      go_wp2_with fail
      go_loopw [22, 23] (fun v22 v23 ws => ∃ q c : Nat, q ≤ 4 ∧ v23 = .int .i64 q ∧ v22 = .int .i64 c ∧ Hid (c = cn (mx f g) q) ∧ Below W0.heap.size W0 ws) (fun _ v23 ws => 4 - (intOf v23).toNat)
      case atStart => exact ⟨0, 0, by omega, rfl, rfl, hid rfl, hbr⟩
      case round =>
        clear hbr c3
        obtain ⟨q, c, hq, rfl, rfl, hc, hbr⟩ := hrel
        have hc4 : (c : Int) ≤ 4 := by have := hc.out; have := cn_le (mx f g) q; omega
        by_cases hql : q < 4
        · have hql' : (q : Int) < 4 := by omega
          have s0 : wr.cell? ⟨w.heap.size, q, none⟩ = some (.int .u8 (f q)) := cell_later hbr ((cell_of_block M0.out q).trans (arrCells_at f q hql))
          have o0 : wr.cell? ⟨w.heap.size + 1 + 1, q, none⟩ = some (.int .u8 (g q)) := cell_later hbr ((cell_of_block M2.out q).trans (arrCells_at g q hql))
          obtain ⟨f0, f1⟩ := HF.out q hql
          obtain ⟨g0, g1⟩ := HG.out q hql
          go_upto_region 30 with fail
          go_quiet (fail)
          have m9 := mod9 (f q)
          have n9 := mod9 (g q)
          have HMX := hid (mx_mod f g q)
          have HCY := hid (fun h => cn_mx_yes (f := f) (g := g) (k := q) h)
          have HCN := hid (fun h => cn_mx_no (f := f) (g := g) (k := q) h)
          have M8 : 0 ≤ max (f q % 9) (g q % 9) ∧ max (f q % 9) (g q % 9) ≤ 8 := by omega
          generalize max (f q % 9) (g q % 9) = M at HMX HCY HCN M8 ⊢
          obtain ⟨M0', M1'⟩ := M8
          clear m9 n9 s0 o0
          have hbq := below_drewN hbr nq
          generalize wr.drewN nq = v1 at hbq ⊢
          clear hbr
          go_upto_if 138 with fail
          go_cut [22] from 123 to 148 (fun v ws => ∃ c' : Nat, v = .int .i64 c' ∧ (c' : Int) ≤ 5 ∧ Hid (c' = cn (mx f g) (q + 1)) ∧ ws = v1)
          case first =>
            by_cases hp : 0 < M
            · have HE := hid (HCY.out hp)
              go_wp2_with fail
              go_meet
              exact ⟨c + 1, by go_num, by omega, hid (by rw [HE.out, hc.out]), rfl⟩
            · have HE := hid (HCN.out hp)
              go_wp2_with fail
              go_meet
              exact ⟨c, rfl, by omega, hid (by rw [HE.out, hc.out]), rfl⟩
          case rest =>
            obtain ⟨c', rfl, hc5, hc', rfl⟩ := hcut
            have HGT : Hid (∀ W, Below W0.heap.size W0 W → Calls Yba.prog 11 #[.agg #[.string (cat (NA (mx f g) 4)), .slice ap1 an1 ac1, .slice ap2 (cn (mx f g) 4) ac2], .string (an q)] W fun e w' => e = .returned (.int .u64 M) ∧ Below W.heap.size W w') := fun W hb => by
              have := get_any W ap1 ap2 an1 ac1 (cn (mx f g) 4) ac2 (NA (mx f g) 4) (CA (mx f g) 4) (CK.out.below hb) (an q) (by have := NA_cat (mx f g) 4 (Nat.le_refl _); omega) (by have := NA_len (mx f g) 4; omega) (NA_order (mx f g) hql)
              rw [NA_get (mx f g) hql, HMX.out] at this
              exact this
            have X0 : W0.cell? ⟨w7.heap.size, 0, none⟩ = some (.string (cat (NA (mx f g) 4))) := cell_of_block NA0.out 0
            have X1 : W0.cell? ⟨w7.heap.size, 1, none⟩ = some (.slice ap1 an1 ac1) := cell_of_block NA0.out 1
            have X2 : W0.cell? ⟨w7.heap.size, 2, none⟩ = some (.slice ap2 (cn (mx f g) 4) ac2) := cell_of_block NA0.out 2
            have N0 : W0.cell? ⟨w1.heap.size, q, none⟩ = some (.string (an q)) := (cell_of_block NN.out q).trans (anCells_at q hql)
            go_upto_region 33 with fail
            refine wp_region_D [0, 1, 2, 3, 4, 6] [5, 7] 30 (fun w' => Below W0.heap.size W0 w') (by kernel_rfl) (by kernel_rfl) rfl (by kernel_rfl) (fun _ _ _ dd _ h => by cases dd <;> exact h) hbq.drew ?_
            repeat
              refine wpHeadD_step rfl rfl W0 (fun K' hK' => ⟨?_, fun w' hw' => ?_, ?_⟩)
              rotate_left
              · have e0 := cell_later hw' X0
                have e1 := cell_later hw' X1
                have e2 := cell_later hw' X2
                have e3 := cell_later hw' N0
                go_simp
                first
                  | done
                  | rfl
              go_simp
              try go_bits
              refine hK' _ _ ?_
              clear hK' K'
            refine wpHeadD_nil ?_
            refine wpTailD_cons rfl rfl (fun K' hK' => ?_)
            go_simp
            refine (HGT.out _ hbq.drew).mono ?_
            rintro e va ⟨rfl, hba⟩
            have hba' : Below W0.heap.size W0 va := hbq.drew.trans (hba.mono hbq.drew.size)
            dsimp only
            refine hK' _ _ (fun _ => hba') ?_
            clear hK' K'
            refine wpTailD_lone (by kernel_rfl) rfl rfl (fun K' hK' => ?_)
            go_simp
            refine hK' _ _ ?_
            clear hK' K'
            refine wpTailD_nil ?_
            clear hba X0 X1 X2 N0 HGT
            go_wp2_with fail
            exact ⟨⟨q + 1, c', by omega, by go_num, rfl, hc', hba'⟩, by simp [intOf]; omega⟩
        · have hge' : ¬ (q : Int) < 4 := by omega
          have hce := hc.out
          rw [show q = 4 by omega] at hce
          subst hce
          have X0 : wr.cell? ⟨w7.heap.size, 0, none⟩ = some (.string (cat (NA (mx f g) 4))) := cell_later hbr (cell_of_block NA0.out 0)
          have X1 : wr.cell? ⟨w7.heap.size, 1, none⟩ = some (.slice ap1 an1 ac1) := cell_later hbr (cell_of_block NA0.out 1)
          have X2 : wr.cell? ⟨w7.heap.size, 2, none⟩ = some (.slice ap2 (cn (mx f g) 4) ac2) := cell_later hbr (cell_of_block NA0.out 2)
          clear hc hc4
          go_wp2_with fail
          refine (len_any _ _ _ _ _ _ _ _).mono ?_
          rintro e v1 ⟨rfl, hb1⟩
          have hbw1 := HBW.out.trans ((hbr.trans (hb1.mono hbr.size)).mono HBW.out.size)
          clear X0 X1 X2 hb1 hbr
          go_wp2_with fail
          go_ret
          exact ⟨rfl, hbw1⟩
end Go.Proofs.Ybulkgey
