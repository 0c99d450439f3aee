/- raise and raised: the walks. -/
import Derived.Test.YbulkgeyMAl
import Derived.Test.YbulkgeyARaise2
namespace Go.Proofs.Ybulkgey
open Go.RowKit
set_option linter.unusedVariables false

/-- The counters of f's nodes from rank t on, raised to d's below the rank s. -/
def VL (f d : Nat → Int) (t s : Nat) : List Int := (seg f t s).map (mx f d) ++ (seg f s 4).map fun k => f k % 9
theorem VL_self (f d : Nat → Int) (t : Nat) : VL f d t t = (seg f t 4).map fun k => f k % 9 := by simp [VL, seg_self]
theorem VL_four (f d : Nat → Int) (t : Nat) : VL f d t 4 = (seg f t 4).map (mx f d) := by simp [VL, seg_self]
theorem VL_len (f d : Nat → Int) {t s : Nat} (h1 : t ≤ s) (h2 : s ≤ 4) : (VL f d t s).length = cn f 4 - cn f t := by
  have a := seg_len f h1
  have b := seg_len f h2
  simp [VL]; omega
theorem VL_pos (f d : Nat → Int) (t s : Nat) : ∀ x ∈ VL f d t s, 0 ≤ x := by
  intro x hx
  simp only [VL, List.mem_append, List.mem_map] at hx
  rcases hx with ⟨k, _, rfl⟩ | ⟨k, _, rfl⟩
  · have := mod9 (f k); have := mod9 (d k); unfold mx; omega
  · have := mod9 (f k); omega
theorem VL_lone {f d : Nat → Int} {t p q : Nat} (h0 : t ≤ p) (h1 : p ≤ q) (h2 : q ≤ 4) (h : ∀ k, p ≤ k → k < q → mx f d k = f k % 9) : VL f d t p = VL f d t q := by
  unfold VL
  rw [← seg_append f h0 h1, ← seg_append f h1 h2, List.map_append, List.map_append, List.append_assoc]
  congr 2
  apply List.map_congr_left
  intro k hk
  unfold seg at hk
  rw [List.mem_filter, List.mem_range'_1] at hk
  exact (h k hk.1.1 (by omega)).symm
theorem mx_lack {f d : Nat → Int} {p q : Nat} (h : Lack d p q) : ∀ k, p ≤ k → k < q → mx f d k = f k % 9 := by
  intro k h1 h2
  have := not_has (h k h1 h2)
  have := mod9 (f k)
  unfold mx
  omega
theorem VL_parts {f d : Nat → Int} {t s p : Nat} (h0 : t ≤ s) (h1 : s ≤ p) (h2 : p ≤ 4) (h : Same f d s p) :
    VL f d t s = (seg f t s).map (mx f d) ++ ((seg f s p).map fun k => f k % 9) ++ ((seg f p 4).map fun k => f k % 9) ∧
    VL f d t p = (seg f t s).map (mx f d) ++ RA ((seg f s p).map fun k => f k % 9) ((seg d s p).map fun k => d k % 9) ((seg d s p).map fun k => d k % 9).length ++ ((seg f p 4).map fun k => f k % 9) := by
  constructor
  · unfold VL
    rw [← seg_append f h1 h2, List.map_append, List.append_assoc]
  · unfold VL
    rw [← seg_congr (f := f) (g := d) h, List.length_map, RA_map, ← seg_append f h0 h1, List.map_append]
    rfl
theorem ints_app (a b : List Int) : ints (a ++ b) = ints a ++ ints b := by simp [ints]

/-- A part of the counters, as a slice. -/
theorem row_part (W : World) (gb ob cb : Nat) (d : Nat → Int) {s u r : Nat} (hcell : ∀ k, k < cn d 4 → W.cell? ⟨gb, ob + k, none⟩ = some (.int .u64 ((CA d 4).getD k 0))) (h1 : s ≤ u) (h2 : u ≤ 4) (hr : cn d u = cn d s + r)
    (hg : gb < W.heap.size) (hc : cn d 4 ≤ cb) (hm : cb ≤ maxLen) : Row W (.slice (some ⟨gb, ob + cn d s, none⟩) r (cb - cn d s)) (ints ((seg d s u).map fun k => d k % 9)) := by
  have hl := seg_len d h1
  have hle := cn_mono d h2
  have hlen : (ints ((seg d s u).map fun k => d k % 9)).length = r := by rw [ints_len, List.length_map]; omega
  refine .inr ⟨gb, ob + cn d s, cb - cn d s, by rw [hlen], hg, by rw [hlen]; omega, by omega, fun j hj => ?_⟩
  rw [hlen] at hj
  rw [Nat.add_assoc, hcell (cn d s + j) (by omega)]
  have e := CA_drop d h1 h2
  rw [← e]
  have hl2 : cn d s + j < (CA d 4).length := by rw [CA_len, cn_len]; omega
  simp [ints, List.getD_eq_getElem?_getD, List.getElem?_eq_getElem hl2, List.getElem?_take, List.getElem?_drop]
  omega

set_option maxRecDepth 100000 in
theorem raiseTo_nil (w : World) (a b : Option Addr) (n cap c : Nat) (h1 : n ≤ cap) :
    Calls Yba.prog 64 #[.slice a n cap, .slice b 0 c] w fun e w' => e = .returned (.tuple #[]) ∧ w' = w := by
  go_enter Yba.func64, Yba.ntmps64
  go_wp2_with fail
  go_loopw [12] (fun v wr => v = .int .i64 0 ∧ wr = w) (fun v wr => 0)
  case atStart => exact ⟨rfl, rfl⟩
  case round =>
    obtain ⟨rfl, rfl⟩ := hrel
    go_wp2_with fail
    go_end0
    exact ⟨rfl, rfl⟩
theorem getD_of_lt' {N M : List ByteArray} {i j : Nat} (h1 : i < N.length) (h2 : j < M.length) (h : N.getD i ByteArray.empty = M.getD j ByteArray.empty) : N[i]? = M[j]? := by
  rw [List.getElem?_eq_getElem h1, List.getElem?_eq_getElem h2]
  simpa [List.getD_eq_getElem?_getD, List.getElem?_eq_getElem h1, List.getElem?_eq_getElem h2] using h
theorem id_dr (w : World) (b o : Nat) (f : Nat → Int) (h : ClkAt w b o (NA f 4) (CA f 4)) (W : World) (hb : Below w.heap.size w W) (k : Nat) (hk : k < cn f 4) :
    Calls Yba.prog 42 #[.pointer (some ⟨b, o, none⟩), .int .i64 k] W fun r w' => r = .returned (.string ((NA f 4).getD k ByteArray.empty)) ∧ ∃ q, w' = W.drewN q := by
  have hk' : k < (NA f 4).length := by rw [cn_len]; exact hk
  refine (id_any W b o (NA f 4) (CA f 4) (h.below hb) k hk' (by have := NA_cat f 4 (Nat.le_refl _); omega) (by have := NA_len f 4; omega)).mono ?_
  rintro e w' ⟨rfl, q, rfl⟩
  refine ⟨?_, q, rfl⟩
  simp [List.getD_eq_getElem?_getD, List.getElem?_eq_getElem hk']

/-- A stretch in step: the counters raised. -/
theorem raise_step (W : World) (g n cap gb ob cb t s u r : Nat) (f d : Nat → Int) (pre post : List Value) (hg : W.heap[g]? = some (.cells (pre ++ ints (VL f d t s) ++ post).toArray 34))
    (hcell : ∀ k, k < cn d 4 → W.cell? ⟨gb, ob + k, none⟩ = some (.int .u64 ((CA d 4).getD k 0))) (hgb : gb < W.heap.size) (hne : gb ≠ g) (hc : cn d 4 ≤ cb) (hm : cb ≤ maxLen)
    (h0 : t ≤ s) (h1 : s ≤ u) (h2 : u ≤ 4) (hs : Same f d s u) (hrf : cn f u = cn f s + r) (hrd : cn d u = cn d s + r) (hr : r ≤ n) (hn : n ≤ cap) :
    Calls Yba.prog 64 #[.slice (some ⟨g, pre.length + (cn f s - cn f t), none⟩) n cap, .slice (some ⟨gb, ob + cn d s, none⟩) r (cb - cn d s)] W fun e w' => e = .returned (.tuple #[]) ∧
      w'.heap[g]? = some (.cells (pre ++ ints (VL f d t u) ++ post).toArray 34) ∧ Kept W.heap.size g W w' ∧ w'.heap.size = W.heap.size := by
  obtain ⟨e1, e2⟩ := VL_parts h0 h1 h2 hs
  have l0 := seg_len f h0
  have l1 := seg_len f h1
  have l2 := seg_len d h1
  have hp : (pre ++ ints ((seg f t s).map (mx f d))).length = pre.length + (cn f s - cn f t) := by rw [List.length_append, ints_len, List.length_map]; omega
  have hg' : W.heap[g]? = some (.cells ((pre ++ ints ((seg f t s).map (mx f d))) ++ ints ((seg f s u).map fun k => f k % 9) ++ (ints ((seg f u 4).map fun k => f k % 9) ++ post)).toArray 34) := by
    rw [hg, e1, ints_app, ints_app]
    simp only [List.append_assoc]
  have := raiseTo2_any W g n cap _ _ _ _ _ hg' (row_part W gb ob cb d hcell h1 h2 hrd hgb hc hm) (fun k hk => by cases hk; exact hne) (by simp; omega) (by simp; omega) hn (by simp; have := cn_le d 4; have := cn_mono d h2; omega) (by
    intro x hx
    rw [List.mem_map] at hx
    obtain ⟨k, _, rfl⟩ := hx
    have := mod9 (f k); omega)
  rw [hp] at this
  refine this.mono ?_
  rintro e w' ⟨rfl, h3, h4, h5⟩
  refine ⟨rfl, ?_, h4, h5⟩
  rw [h3, e2, ints_app, ints_app]
  simp only [List.append_assoc]

set_option maxRecDepth 100000 in
set_option maxHeartbeats 4000000 in
theorem raise_any (w W0 : World) (g n cap ab ao bb bo t : Nat) (f d : Nat → Int) (pre post : List Value) (hA : ClkAt W0 ab ao (NA f 4) (CA f 4)) (hB : ClkAt W0 bb bo (NA d 4) (CA d 4)) (hW : Below W0.heap.size W0 w) (hg0 : W0.heap.size ≤ g)
    (hg : w.heap[g]? = some (.cells (pre ++ ints (VL f d t t) ++ post).toArray 34)) (ht : t ≤ 4) (hsub : Sub f d t) (hn : cn f 4 - cn f t ≤ n) (hnc : n ≤ cap) (hpl : pre.length ≤ 100000) :
    Calls Yba.prog 76 #[.slice (some ⟨g, pre.length, none⟩) n cap, .pointer (some ⟨ab, ao, none⟩), .int .i64 (cn f t), .pointer (some ⟨bb, bo, none⟩), .int .i64 (cn d t)] w fun e w' => e = .returned (.tuple #[]) ∧
      w'.heap[g]? = some (.cells (pre ++ ints (VL f d t 4) ++ post).toArray 34) ∧ Kept w.heap.size g w w' := by
  have hglt := block_lt hg
  have hle := Sub.cn_le (s := t) (u := 4) (fun k k1 k2 => hsub k k1 k2) ht
  obtain ⟨pb, cb, hpb⟩ := ctr_cell hB
  have rB := ctr_at hB hpb
  rw [cn_len] at rB hpb
  obtain ⟨capB, posB⟩ := rB.2.2
  have HB0 : Hid (∀ W, Below W0.heap.size W0 W → ∃ xo xn xc, W.cell? ⟨bb, bo, none⟩ = some (.string (cat (NA d 4))) ∧ W.cell? ⟨bb, bo + 1, none⟩ = some (.slice xo xn xc) ∧ W.cell? ⟨bb, bo + 2, none⟩ = some (.slice pb (cn d 4) cb)) := fun W hbW => by
    obtain ⟨xo, xn, xc, yo, yn, yc, h0, h1, h2, h3⟩ := hB
    exact ⟨xo, xn, xc, cell_later hbW h0, cell_later hbW h1, cell_later hbW hpb⟩
  have HIA := hid (id_dr W0 ab ao f hA)
  have HIB := hid (id_dr W0 bb bo d hB)
  have HAL : Hid (∀ W s, Below W0.heap.size W0 W → s ≤ 4 → Sub f d s → AG f d s 1 → Calls Yba.prog 80 #[.pointer (some ⟨ab, ao, none⟩), .int .i64 (cn f s), .pointer (some ⟨bb, bo, none⟩), .int .i64 (cn d s)] W fun e w' => (∃ r : Nat, 1 ≤ r ∧ AG f d s r ∧ e = .returned (.int .i64 r)) ∧ Below W.heap.size W w') :=
    fun W s hbW h1 h2 h3 => alignedRun_any W ab ao bb bo f d (hA.below hbW) (hB.below hbW) s h1 h2 h3
  have HPB := hid posB
  have HSUB := hid hsub
  have HG := hid hg
  have HW := hid hW
  have HCAPB := hid capB
  clear hA hB rB hpb posB hsub hg hW capB
  have cf4 := cn_le f 4
  have cd4 := cn_le d 4
  have cft := cn_mono f ht
  have cdt := cn_mono d ht
  obtain ⟨xo, xn, xc, x0, x1, x2⟩ := HB0.out w HW.out
  go_enter Yba.func76, Yba.ntmps76
  go_wp2_with fail
  refine (len_any _ _ _ _ _ _ _ _).mono ?_
  rintro e w1 ⟨rfl, hb1⟩
  clear x0 x1 x2
  go_upto_region 1 with fail
  go_cut [34] from 20 to 34 (fun v ws => ∃ bv, v = .bool bv ∧ (bv = true → cn d t < cn d 4 ∧ AG f d t (cn d 4 - cn d t)) ∧ Below w.heap.size w ws)
  case first =>
    have hbw1 := HW.out.trans (hb1.mono HW.out.size)
    by_cases hj : cn d t < cn d 4
    · have hl : (0 : Int) ≤ (cn d 4 : Int) - (cn d t : Int) - 1 := by omega
      go_wp2_with fail
      rw [show (cn f t : Int) + ((cn d 4 : Int) - (cn d t : Int) - 1) = ((cn f t + (cn d 4 - cn d t - 1) : Nat) : Int) by omega]
      refine (HIA.out w1 hbw1 (cn f t + (cn d 4 - cn d t - 1)) (by omega)).mono ?_
      rintro e w2 ⟨rfl, q2, rfl⟩
      generalize hx : (NA f 4).getD (cn f t + (cn d 4 - cn d t - 1)) ByteArray.empty = x
      have HX := hid hx
      clear hx
      have hbw2 := below_drewN hbw1 q2
      have hb2 := below_drewN hb1 q2
      clear hbw1 hb1
      generalize w1.drewN q2 = w2 at hbw2 hb2 ⊢
      go_wp2_with fail
      rw [show (cn d t : Int) + ((cn d 4 : Int) - (cn d t : Int) - 1) = ((cn d t + (cn d 4 - cn d t - 1) : Nat) : Int) by omega]
      refine (HIB.out w2 hbw2 (cn d t + (cn d 4 - cn d t - 1)) (by omega)).mono ?_
      rintro e w3 ⟨rfl, q3, rfl⟩
      generalize hy : (NA d 4).getD (cn d t + (cn d 4 - cn d t - 1)) ByteArray.empty = y
      have HY := hid hy
      clear hy
      have hb3 := below_drewN hb2 q3
      clear hbw2 hb2
      by_cases hxy : x = y
      · have hq : (x.toList == y.toList) = true := by rw [toList_beq]; exact decide_eq_true hxy
        have HAG := hid (Sub.agree (e := cn d 4 - cn d t - 1) HSUB.out ht (by omega) (by omega) (getD_of_lt' (by rw [cn_len]; omega) (by rw [cn_len]; omega) (by rw [HX.out, HY.out]; exact hxy)))
        have HJ := hid hj
        clear hxy
        go_wp2_with fail
        go_meet
        refine ⟨true, rfl, fun _ => ⟨HJ.out, ?_⟩, hb3⟩
        have := HAG.out
        rw [show cn d 4 - cn d t - 1 + 1 = cn d 4 - cn d t by have := HJ.out; omega] at this
        exact this
      · have hq : (x.toList == y.toList) = false := by rw [toList_beq]; exact decide_eq_false hxy
        clear hxy
        go_wp2_with fail
        go_meet
        exact ⟨false, rfl, fun h => (by cases h), hb3⟩
    · have hl : ¬ (0 : Int) ≤ (cn d 4 : Int) - (cn d t : Int) - 1 := by omega
      go_wp2_with fail
      go_meet
      exact ⟨false, rfl, fun h => (by cases h), hb1⟩
  case rest =>
    obtain ⟨bv, rfl, hbv, hbc⟩ := hcut
    have hbwc := HW.out.trans (hbc.mono HW.out.size)
    have hgc : wc.heap[g]? = some (.cells (pre ++ ints (VL f d t t) ++ post).toArray 34) := by rw [hbc.block _ hglt]; exact HG.out
    have HBV := hid hbv
    clear hbv hb1
    cases bv
    · clear HBV
      go_wp2_with fail
      go_loopw [2, 4, 11] (fun vi vj vk wr => ∃ s : Nat, t ≤ s ∧ s ≤ 4 ∧ vi = .int .i64 (cn f s : Nat) ∧ vj = .int .i64 (cn d s : Nat) ∧ vk = .int .i64 (cn f s - cn f t : Nat) ∧ wr.heap[g]? = some (.cells (pre ++ ints (VL f d t s) ++ post).toArray 34) ∧ Kept w.heap.size g w wr) (fun vi vj vk wr => cn f 4 - (intOf vi).toNat)
      case atStart => exact ⟨t, Nat.le_refl _, ht, rfl, rfl, by rw [Nat.sub_self]; rfl, hgc, Kept.of hbc⟩
      case round =>
        obtain ⟨s, s1, s2, rfl, rfl, rfl, hgr, hkr⟩ := hrel
        clear hgc hbc hbwc
        have hbr : Below W0.heap.size W0 wr := HW.out.trans ((hkr.below (by omega)).mono hg0)
        obtain ⟨yo, yn, yc, y0, y1, y2⟩ := HB0.out wr hbr
        have csf := cn_mono f s2
        have csd := cn_mono d s2
        have ctf := cn_mono f s1
        have hsubs : Sub f d s := fun k k1 k2 => HSUB.out k (by omega) k2
        have hles := Sub.cn_le (s := s) (u := 4) (fun k k1 k2 => hsubs k k1 k2) s2
        have HSS := hid hsubs
        clear hsubs
        by_cases hj : cn d s < cn d 4
        · have hj' : (cn d s : Int) < (cn d 4 : Int) := by omega
          go_wp2_with fail
          refine (len_any _ _ _ _ _ _ _ _).mono ?_
          rintro e w2 ⟨rfl, hb2⟩
          have hgr2 : w2.heap[g]? = some (.cells (pre ++ ints (VL f d t s) ++ post).toArray 34) := by rw [hb2.block _ (block_lt hgr)]; exact hgr
          have hkr2 := hkr.trans (Kept.of (hb2.mono hkr.size))
          have hbr2 := hbr.trans (hb2.mono hbr.size)
          clear hgr hkr hbr hb2 y0 y1 y2
          go_wp2_with fail
          refine (HIA.out w2 hbr2 (cn f s) (by omega)).mono ?_
          rintro e w3 ⟨rfl, q3, rfl⟩
          generalize hx : (NA f 4).getD (cn f s) ByteArray.empty = x
          have HX := hid hx
          clear hx
          go_wp2_with fail
          refine (HIB.out (w2.drewN q3) (below_drewN hbr2 q3) (cn d s) hj).mono ?_
          rintro e w4 ⟨rfl, q4, rfl⟩
          generalize hy : (NA d 4).getD (cn d s) ByteArray.empty = y
          have HY := hid hy
          clear hy
          have hgr4 : ((w2.drewN q3).drewN q4).heap[g]? = some (.cells (pre ++ ints (VL f d t s) ++ post).toArray 34) := hgr2
          have hkr4 : Kept w.heap.size g w ((w2.drewN q3).drewN q4) := hkr2.trans ⟨rfl, rfl, rfl, Nat.le_refl _, fun _ _ _ => rfl⟩
          have hbr4 := below_drewN (below_drewN hbr2 q3) q4
          clear hgr2 hkr2 hbr2
          generalize (w2.drewN q3).drewN q4 = w4 at hgr4 hkr4 hbr4 ⊢
          by_cases hxy : x = y
          · have hq : (x.toList == y.toList) = true := by rw [toList_beq]; exact decide_eq_true hxy
            have hag1 : AG f d s 1 := Sub.agree (e := 0) HSS.out s2 (by omega) (by omega) (getD_of_lt' (by rw [cn_len]; omega) (by rw [cn_len]; omega) (by rw [Nat.add_zero, Nat.add_zero, HX.out, HY.out]; exact hxy))
            have hal := HAL.out w4 s hbr4 s2 HSS.out hag1
            clear hxy hag1
            go_wp2_with fail
            refine hal.mono ?_
            clear hal
            rintro e w5 ⟨⟨r, r1, ⟨u, u1, u2, u3, u4, u5⟩, rfl⟩, hb5⟩
            have hgr5 : w5.heap[g]? = some (.cells (pre ++ ints (VL f d t s) ++ post).toArray 34) := by rw [hb5.block _ (block_lt hgr4)]; exact hgr4
            have hkr5 := hkr4.trans (Kept.of (hb5.mono hkr4.size))
            have hbr5 := hbr4.trans (hb5.mono hbr4.size)
            clear hgr4 hkr4 hbr4 hb5
            have cu1 := cn_mono f u2
            have cu2 := cn_mono d u2
            have HU := hid (And.intro u3 u4)
            obtain ⟨gb, ob, rfl, mb, gb0, cellb⟩ := HPB.out (by omega)
            obtain ⟨yo, yn, yc, y0, y1, y2⟩ := HB0.out w5 hbr5
            have hcb := HCAPB.out
            have hrs := raise_step w5.drew g (n - (cn f s - cn f t)) (cap - (cn f s - cn f t)) gb ob cb t s u r f d pre post hgr5 (fun k hk => cell_later hbr5.drew (cellb k hk)) (Nat.lt_of_lt_of_le gb0 hbr5.size) (by omega) hcb mb s1 u1 u2 u5 u3 u4 (by omega) (by omega)
            have q1 : (cn d s : Int) + (r : Int) ≤ (cb : Int) := by omega
            have q2 : ((cn f s - cn f t : Nat) : Int) ≤ (n : Int) := by omega
            have q3 : (cn d s : Int) ≤ (cn d s : Int) + (r : Int) := by omega
            have S := hid (show ¬ cap = cn f s - cn f t ∧ (0 : Int) ≤ (cn d s : Int) + (r : Int) ∧ cn d s ≤ ((cn d s : Int) + (r : Int)).toNat ∧ ¬ cb = cn d s ∧ ((cn d s : Int) + (r : Int)).toNat = cn d s + r by omega)
            have b0 : (cn f s : Int) ≤ 4 := by omega
            have b1 : (cn d s : Int) ≤ 4 := by omega
            have b2 : (r : Int) ≤ 4 := by omega
            clear u3 u4 u5 cellb cu1 cu2 mb gb0
            go_wp2_with fail
            refine wp_region_D [0, 1, 2, 3, 4, 5, 6, 7, 8, 9, 10, 11] [12] 30 (fun w' => w' = w5.drew) (by kernel_rfl) (by kernel_rfl) rfl (by kernel_rfl) (fun _ _ _ dd _ h => by cases dd <;> exact h) rfl ?_
            repeat
              refine wpHeadD_step rfl rfl w5 (fun K' hK' => ⟨?_, fun w' hw' => ?_, ?_⟩)
              rotate_left
              · obtain rfl := hw'
                go_simp
                first
                  | done
                  | (obtain ⟨s0, _⟩ := S.out; rw [if_neg s0])
                  | (obtain ⟨_, s1, s2, s3, s4⟩ := S.out; rw [if_pos s1, if_pos s2, if_neg s3, s4])
                  | rfl
              go_simp
              try go_bits
              refine hK' _ _ ?_
              clear hK' K'
            refine wpHeadD_nil ?_
            refine wpTailD_lone (by kernel_rfl) rfl rfl (fun K' hK' => ?_)
            go_simp
            rw [if_neg S.out.2.2.2.1]
            refine hrs.mono ?_
            rintro e w6 ⟨rfl, t1, t2, t3⟩
            dsimp only
            refine hK' _ _ ?_
            clear hK' K'
            refine wpTailD_nil ?_
            have hkr6 : Kept w.heap.size g w w6 := (hkr5.trans ⟨rfl, rfl, rfl, Nat.le_refl _, fun _ _ _ => rfl⟩ : Kept w.heap.size g w w5.drew).trans ⟨t2.os, t2.tape, t2.output, t2.size, fun k h1 h2 => t2.block k (Nat.lt_of_lt_of_le h1 hkr5.size) h2⟩
            have HT1 := hid t1
            have hz : ((cn f s - cn f t : Nat) : Int) + (r : Int) = ((cn f s + r - cn f t : Nat) : Int) := by omega
            have HZ := hid hz
            clear hrs t1 t2 t3 hgr5 hkr5 hbr5 y0 y1 y2 hz S
            go_wp2_with fail
            refine ⟨⟨u, by omega, u2, by rw [HU.out.1]; rfl, by rw [HU.out.2]; rfl, by rw [HU.out.1]; exact congrArg (Value.int .i64) HZ.out, HT1.out, hkr6⟩, ?_⟩
            have := HU.out.1
            have := cn_mono f u2
            simp [intOf]
            omega
          · have hq : (x.toList == y.toList) = false := by rw [toList_beq]; exact decide_eq_false hxy
            obtain ⟨u, u1, u2, u3, u4, u5⟩ := Sub.alone HSS.out s2 hj (getD_ne (by rw [cn_len]; omega) (by rw [cn_len]; omega) (by rw [HX.out, HY.out]; exact hxy))
            have HU := hid (And.intro u3 u4)
            have HL := hid u5
            have cu1 := cn_mono f u2
            have hz : ((cn f s - cn f t : Nat) : Int) + 1 = ((cn f s + 1 - cn f t : Nat) : Int) := by omega
            have HZ := hid hz
            clear hxy u3 u4 u5 hz
            go_wp2_with fail
            refine ⟨⟨u, by omega, u2, by rw [HU.out.1]; rfl, by rw [HU.out.2], by rw [HU.out.1]; exact congrArg (Value.int .i64) HZ.out, ?_, hkr4⟩, ?_⟩
            · rw [hgr4, VL_lone s1 u1 u2 (mx_lack HL.out)]
            · have := HU.out.1
              simp [intOf]
              omega
        · have hj' : ¬ (cn d s : Int) < (cn d 4 : Int) := by omega
          have hl4 : Lack d s 4 := lack_of_flat s2 (by omega)
          have HL4 := hid hl4
          clear hl4
          go_wp2_with fail
          refine (len_any _ _ _ _ _ _ _ _).mono ?_
          rintro e w2 ⟨rfl, hb2⟩
          have hgr2 : w2.heap[g]? = some (.cells (pre ++ ints (VL f d t s) ++ post).toArray 34) := by rw [hb2.block _ (block_lt hgr)]; exact hgr
          have hkr2 := hkr.trans (Kept.of (hb2.mono hkr.size))
          clear hgr hkr hbr hb2 y0 y1 y2
          go_wp2_with fail
          go_end0
          refine ⟨rfl, ?_, hkr2⟩
          rw [hgr2, VL_lone s1 s2 (Nat.le_refl _) (mx_lack HL4.out)]
    · obtain ⟨b1, u, u1, u2, u3, u4, u5⟩ := HBV.out rfl
      obtain ⟨gb, ob, rfl, mb, gb0, cellb⟩ := HPB.out (by omega)
      have hrs := raise_step wc g n cap gb ob cb t t u (cn d 4 - cn d t) f d pre post hgc (fun k hk => cell_later hbwc (cellb k hk)) (Nat.lt_of_lt_of_le gb0 hbwc.size) (by omega) HCAPB.out mb (Nat.le_refl _) u1 u2 u5 u3 u4 (by omega) hnc
      rw [Nat.sub_self, Nat.add_zero] at hrs
      obtain ⟨yo, yn, yc, y0, y1, y2⟩ := HB0.out wc hbwc
      have HU := hid (And.intro u3 u4)
      have q1 : (cn d t : Int) ≤ (cn d 4 : Int) := by omega
      have q2 : ¬ cb = cn d t := by have := HCAPB.out; omega
      clear u3 u4 cellb mb gb0
      go_wp2_with fail
      refine hrs.mono ?_
      rintro e w3 ⟨rfl, r1, r2, r3⟩
      have hl4 : Lack d u 4 := lack_of_flat u2 (by rw [HU.out.2]; omega)
      go_wp2_with fail
      refine bodyPost_ret (results_none rfl _ _ _) rfl ?_
      refine ⟨rfl, ?_, ?_⟩
      · rw [r1, VL_lone u1 u2 (Nat.le_refl _) (mx_lack hl4)]
      · exact (Kept.of hbc).trans ⟨r2.os, r2.tape, r2.output, r2.size, fun k h1 h2 => r2.block k (Nat.lt_of_lt_of_le h1 hbc.size) h2⟩
end Go.Proofs.Ybulkgey
