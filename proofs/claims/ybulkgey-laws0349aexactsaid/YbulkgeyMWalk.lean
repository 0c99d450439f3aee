/- walk$1: the iterator over two clocks, walked. -/
import Derived.Test.YbulkgeyMRuns
import Derived.Test.YbulkgeyMReg
namespace Go.Proofs.Ybulkgey
open Go.RowKit
set_option linter.unusedVariables false

theorem getD_of_lt {N M : List ByteArray} {i j : Nat} (h1 : i < N.length) (h2 : j < M.length) (h : N.getD i ByteArray.empty = M.getD j ByteArray.empty) : N[i]? = M[j]? := by
  rw [List.getElem?_eq_getElem h1, List.getElem?_eq_getElem h2]
  simpa [List.getD_eq_getElem?_getD, List.getElem?_eq_getElem h1, List.getElem?_eq_getElem h2] using h

theorem sl_zero (a : Option Addr) (c m : Nat) : sl a c 0 m = .slice a m c := by cases a <;> simp [sl]
theorem same_of_eq {f d : Nat → Int} (h : NA f 4 = NA d 4) : cn f 4 = cn d 4 ∧ Same f d 0 4 := by
  have hl : cn f 4 = cn d 4 := by rw [← cn_len f, ← cn_len d, h]
  refine ⟨hl, ?_⟩
  obtain ⟨u, u1, u2, u3, u4, u5⟩ := same_run f d (cn f 4) 0 (by omega) (by rw [cn_zero]; omega) (by rw [cn_zero]; omega) (fun k _ => by rw [h, cn_zero, cn_zero])
  rw [cn_zero, Nat.zero_add] at u3 u4
  intro k k1 k2
  by_cases e : k < u
  · exact u5 k k1 e
  · rw [lack_of_flat u2 u3 k (by omega) k2, lack_of_flat u2 (u4.trans hl) k (by omega) k2]

set_option maxRecDepth 100000 in
set_option maxHeartbeats 4000000 in
theorem walk1_in (n l : Nat) (W0 W : World) (B ab ao bb bo : Nat) (f d : Nat → Int) (hA : ClkAt W0 ab ao (NA f 4) (CA f 4)) (hB : ClkAt W0 bb bo (NA d 4) (CA d 4))
    (pa pb : Option Addr) (ca cb : Nat) (hpa : W0.cell? ⟨ab, ao + 2, none⟩ = some (.slice pa (cn f 4) ca)) (hpb : W0.cell? ⟨bb, bo + 2, none⟩ = some (.slice pb (cn d 4) cb))
    (J Jx : Nat → World → Prop) (hJg : ∀ s A B, J s A → A.grownBy B none → J s B) (hok : OKW W0 B ab ao bb bo W)
    (hY : ∀ s x s' W1, J s W1 → Stp f d pa ca pb cb s x s' → YieldAt Fence.wide (n - 1) Yba.prog l #[x.1, x.2] W1 fun e W' => (e = .returned (.bool true) ∧ J s' W' ∧ KeepB W0.heap.size B W1 W') ∨ (e = .returned (.bool false) ∧ Jx s' W'))
    (h0 : J 0 W) : CallsIn Fence.wide n Yba.prog 74 #[.func (.yield l) #[] #[], .pointer (some ⟨B, 0, none⟩), .pointer (some ⟨B + 1, 0, none⟩)] W fun e W' => (∃ v, e = .returned v) ∧ ((∃ s, (s ≤ 4 ∧ cn f s = cn f 4 ∧ cn d s = cn d 4) ∧ J s W') ∨ ∃ s, Jx s W') := by
  have hJd : ∀ s A q, J s A → J s (A.drewN q) := fun s A q hs => hJg s A _ hs ⟨rfl, rfl, rfl, Nat.le_refl _, fun _ _ _ => rfl⟩
  have lf4 : (NA f 4).length = cn f 4 := cn_len f
  have ld4 : (NA d 4).length = cn d 4 := cn_len d
  have cf4 := cn_le f 4
  have cd4 := cn_le d 4
  have zf := NA_cat f 4 (Nat.le_refl _)
  have zd := NA_cat d 4 (Nat.le_refl _)
  have rA := ctr_at hA (by rw [cn_len]; exact hpa)
  have rB := ctr_at hB (by rw [cn_len]; exact hpb)
  rw [lf4] at rA
  rw [ld4] at rB
  have HCELL := hid (show ∀ W', OKW W0 B ab ao bb bo W' → W'.cell? ⟨B, 0, none⟩ = some (.pointer (some ⟨ab, ao, none⟩)) ∧ W'.cell? ⟨B + 1, 0, none⟩ = some (.pointer (some ⟨bb, bo, none⟩)) ∧ W'.cell? ⟨ab, ao + 2, none⟩ = some (.slice pa (cn f 4) ca) ∧ W'.cell? ⟨bb, bo + 2, none⟩ = some (.slice pb (cn d 4) cb) ∧ ClkAt W' ab ao (NA f 4) (CA f 4) ∧ ClkAt W' bb bo (NA d 4) (CA d 4) from
    fun W' hk => ⟨by rw [cell_of_block hk.2.1]; rfl, by rw [cell_of_block hk.2.2]; rfl, cell_later hk.1 hpa, cell_later hk.1 hpb, hA.below hk.1, hB.below hk.1⟩)
  obtain ⟨capA, posA⟩ := rA.2.2
  obtain ⟨capB, posB⟩ := rB.2.2
  have HPA := hid posA
  have HPB := hid posB
  have HY := hid hY
  have HJg := hid hJg
  have HJd := hid hJd
  clear rA rB hA hB hpa hpb posA posB hY hJg hJd
  have HLF := hid lf4
  have HLD := hid ld4
  clear lf4 ld4
  obtain ⟨b0, b1, b2, b3, clA, clB⟩ := HCELL.out W hok
  have HCA := hid clA
  have HCB := hid clB
  have HOK := hid hok
  have H0 := hid h0
  clear clA clB hok h0
  refine callsIn_of_wp Yba.func74 rfl trivial ?_ rfl
  simp only [Yba.ntmps74, List.size_toArray, List.length_cons, List.length_nil, Nat.reduceAdd, Nat.reduceSub, Array.replicate_succ, Array.replicate_zero, List.push_toArray, List.append_toArray, List.nil_append, List.cons_append]
  refine wpIn_wide.2 ?_
  go_wp2_with fail
  go_quiet (fail)
  go_upto_region 2 with fail
  go_cut [56] from 23 to 56 (fun v ws => ∃ bv, v = .bool bv ∧ (bv = true → 0 < cn f 4 ∧ NA f 4 = NA d 4) ∧ ∃ q, ws = W.drewN q)
  case first =>
    by_cases c1 : 0 < cn f 4
    · by_cases c2 : cn f 4 = cn d 4
      · by_cases c3 : cat (NA f 4) = cat (NA d 4)
        · have HC1 := hid c1
          have HC2 := hid c2
          have HC3 := hid c3
          have hNe : NA f 4 ≠ [] := fun e => by have := HLF.out; rw [e] at this; simp at this; omega
          have hMe : NA d 4 ≠ [] := fun e => by have := HLD.out; rw [e] at this; simp at this; omega
          have oA := HCA.out
          have oB := HCB.out
          obtain ⟨xo, xn, xc, yo, yn, yc, x0, x1, x2, x3⟩ := oA
          obtain ⟨zo, zn, zc, vo, vn, vc, z0, z1, z2, z3⟩ := oB
          have rX := (x3.2.2.resolve_left fun h => hNe h.1).2
          have rZ := (z3.2.2.resolve_left fun h => hMe h.1).2
          have hE := equal_any W _ _ _ _ rX rZ (by simp [offsL]; have := HLD.out; omega)
          have hE' : ∀ q, Calls Yba.prog 18 #[.slice xo xn xc, .slice zo zn zc] (W.drewN q) fun e w' => e = .returned (.bool (decide (offsL (NA f 4) = offsL (NA d 4)))) ∧ ∃ r, w' = (W.drewN q).drewN r :=
            fun q => equal_any (W.drewN q) _ _ _ _ (rX.below (below_drewN (Below.refl _ _) q)) (rZ.below (below_drewN (Below.refl _ _) q)) (by simp [offsL]; have := HLD.out; omega)
          have c4 : ((cat (NA f 4)).toList == (cat (NA d 4)).toList) = true := by rw [toList_beq]; exact decide_eq_true c3
          have c5 : ((cn f 4 : Int) == (cn d 4 : Int)) = true := by simp; omega
          have c6 : (cn f 4 : Int) ≤ 8 := by omega
          clear x2 z2 x3 z3 hE rX rZ c3 c2 hNe hMe
          generalize hdv : decide (offsL (NA f 4) = offsL (NA d 4)) = dv at *
          have HDV := hid hdv
          clear hdv
          go_quiet ((go_at_call 18; refine (hE' _).mono ?_; rintro e w'' ⟨rfl, r, rfl⟩; exact ⟨rfl, _, (World.drewN_drewN _ _ _).trans (congrArg _ (Nat.add_assoc _ _ _))⟩))
          go_wp2_with fail
          go_meet
          exact ⟨dv, rfl, fun h => ⟨HC1.out, cat_offs_inj HC3.out (of_decide_eq_true (HDV.out.trans h))⟩, _, by first | rfl | exact World.drewN_drewN _ _ _⟩
        · have oA := HCA.out
          have oB := HCB.out
          obtain ⟨xo, xn, xc, yo, yn, yc, x0, x1, x2, x3⟩ := oA
          obtain ⟨zo, zn, zc, vo, vn, vc, z0, z1, z2, z3⟩ := oB
          have c4 : ((cat (NA f 4)).toList == (cat (NA d 4)).toList) = false := by rw [toList_beq]; exact decide_eq_false c3
          have c5 : ((cn f 4 : Int) == (cn d 4 : Int)) = true := by simp; omega
          have c6 : (cn f 4 : Int) ≤ 8 := by omega
          clear x1 x2 z1 z2 x3 z3 c3 c2
          go_quiet (fail)
          go_wp2_with fail
          go_meet
          exact ⟨false, rfl, fun h => (by cases h), _, by first | rfl | exact World.drewN_drewN _ _ _⟩
      · have c5 : ((cn f 4 : Int) == (cn d 4 : Int)) = false := by simp; omega
        have c6 : (cn f 4 : Int) ≤ 8 := by omega
        clear c2
        go_quiet (fail)
        go_wp2_with fail
        go_meet
        exact ⟨false, rfl, fun h => (by cases h), _, by first | rfl | exact World.drewN_drewN _ _ _⟩
    · have c2 : cn f 4 = 0 := by omega
      go_quiet (fail)
      go_wp2_with fail
      go_meet
      exact ⟨false, rfl, fun h => (by cases h), _, by first | rfl | exact World.drewN_drewN _ _ _⟩
  case rest =>
    obtain ⟨bv, rfl, hbv, q, rfl⟩ := hcut
    have HBV := hid hbv
    clear hbv b0 b1 b2 b3
    cases bv
    · have hok2 := HOK.out.drewN q
      have hj2 := HJd.out 0 W q H0.out
      generalize W.drewN q = w1 at hok2 hj2 ⊢
      have HOK2 := hid hok2
      have HJ2 := hid hj2
      clear hok2 hj2 HCA HCB HBV HOK H0
      go_wp2_with fail
      go_loopw [7, 8, 9] (fun vi vj vr ws => ∃ t r : Nat, t ≤ 4 ∧ vi = .int .i64 (cn f t : Nat) ∧ vj = .int .i64 (cn d t : Nat) ∧ vr = .int .i64 r ∧ (r = 8 ∨ (r = 16 ∧ (cn f t = cn f 4 ∨ cn d t = cn d 4))) ∧ J t ws ∧ OKW W0 B ab ao bb bo ws) (fun vi vj vr ws => (cn f 4 - (intOf vi).toNat) + (cn d 4 - (intOf vj).toNat))
      case atStart => exact ⟨0, 8, by omega, by rw [cn_zero]; rfl, by rw [cn_zero]; rfl, rfl, .inl rfl, HJ2.out, HOK2.out⟩
      case round =>
        clear HJ2 HOK2
        obtain ⟨t, r, ht, rfl, rfl, rfl, hr, hJ, hok⟩ := hrel
        have HJ := hid hJ
        have HOK := hid hok
        clear hJ hok
        have ti := cn_mono f ht
        have tj := cn_mono d ht
        generalize hgi : cn f t = i at *
        generalize hgj : cn d t = j at *
        have HI := hid hgi
        have HJJ := hid hgj
        have HR := hid hr
        clear hgi hgj hr
        by_cases hlt : i < cn f 4 ∧ j < cn d 4
        · obtain ⟨l1, l2⟩ := hlt
          obtain rfl : r = 8 := by have := HR.out; omega
          clear HR
          have l1' : (i : Int) < (cn f 4 : Int) := by omega
          have l2' : (j : Int) < (cn d 4 : Int) := by omega
          obtain ⟨ga, oa, rfl, ma, _, _⟩ := HPA.out (by omega)
          obtain ⟨gb, ob, rfl, mb, _, _⟩ := HPB.out (by omega)
          obtain ⟨b0, b1, b2, b3, clA, clB⟩ := HCELL.out wr HOK.out
          obtain ⟨wd, hwd⟩ : ∃ wd, wd = min (cn f 4 - i) (cn d 4 - j) := ⟨_, rfl⟩
          have hS := sameRun_any wr ab ao bb bo i j wd (NA f 4) (NA d 4) (CA f 4) (CA d 4) clA clB (by omega) (by rw [HLF.out]; omega) (by rw [HLD.out]; omega) (by rw [HLF.out]; omega) (by rw [HLD.out]; omega) (by omega) (by omega)
          have HAG := hid (agree_spec (NA f 4) (NA d 4) i j wd)
          have HW := hid hwd
          clear hwd clA clB b2 b3
          go_upto_region 6 with fail
          go_cut [10] from 71 to 80 (fun v ws => v = .int .i64 wd ∧ ws = wr)
          case first =>
            have m1 : min 8 (min ((cn f 4 : Int) - (i : Int)) ((cn d 4 : Int) - (j : Int))) = (wd : Int) := by have := HW.out; omega
            go_wp2_with fail
            all_goals go_meet
            all_goals exact ⟨congrArg (Value.int .i64) (by have := HW.out; omega), rfl⟩
          case rest =>
            obtain ⟨rfl, rfl⟩ := hcut
            generalize hnn : agree (NA f 4) (NA d 4) i j wd = nn at *
            generalize hbv : (decide (nn < wd) && lessB ((NA f 4).getD (i + nn) ByteArray.empty) ((NA d 4).getD (j + nn) ByteArray.empty)) = bv at *
            have HNN := hid hnn
            have HBV2 := hid hbv
            clear hnn hbv
            go_upto_if 91 with (go_at_call 75; refine hS.mono ?_; clear hS; rintro e w1 ⟨rfl, q, rfl⟩)
            have hok1 := HOK.out.drewN q
            have hj1 := HJ.out
            have hj1' := HJd.out t wc q hj1
            generalize wc.drewN q = w1 at hok1 hj1' ⊢
            have HOK1 := hid hok1
            have HJ1 := hid hj1'
            have HW' := HW.out
            have hnw : nn ≤ wd := by exact HAG.out.1
            have hw1 : nn ≤ cn f 4 - i := by omega
            have hw2 : nn ≤ cn d 4 - j := by omega
            clear hok1 hj1 hj1' HOK HJ b0 b1 HW'
            go_cut [7, 8] from 91 to 112 (fun vi vj ws => ∃ t' : Nat, t' ≤ 4 ∧ t ≤ t' ∧ vi = .int .i64 (cn f t' : Nat) ∧ vj = .int .i64 (cn d t' : Nat) ∧ cn f t' = i + nn ∧ cn d t' = j + nn ∧ J t' ws ∧ OKW W0 B ab ao bb bo ws)
            case first =>
              by_cases hnn : 0 < nn
              · have hnn' : (0 : Int) < (nn : Int) := by omega
                obtain ⟨u, u1, u2, u3, u4, u5⟩ := same_run f d nn t ht (by rw [HI.out]; omega) (by rw [HJJ.out]; omega) (fun k hk => by
                  rw [HI.out, HJJ.out]
                  exact getD_of_lt (by rw [HLF.out]; omega) (by rw [HLD.out]; omega) (HAG.out.2.1 k hk))
                rw [HI.out] at u3
                rw [HJJ.out] at u4
                have HU := hid (And.intro u3 u4)
                obtain ⟨fn, tmps, assign, body, hy, hR⟩ := HY.out t (.slice (some ⟨ga, oa + i, none⟩) nn (ca - i), .slice (some ⟨gb, ob + j, none⟩) nn (cb - j)) u w1.drew (HJd.out t w1 1 HJ1.out)
                  ⟨u1, u2, .inl ⟨nn, hnn, u5, by rw [HI.out]; exact u3, by rw [HJJ.out]; exact u4, by rw [HI.out, HJJ.out]; rfl⟩⟩
                dsimp only at hy
                clear u3 u4 u5
                have q1 : (i : Int) + (nn : Int) ≤ (ca : Int) := by omega
                have q2 : (j : Int) + (nn : Int) ≤ (cb : Int) := by omega
                go_upto_region 9 with fail
                refine (wpIn_wide (n := n)).1 ?_
                refine region_pureIn rfl [0, 1, 2, 3, 4, 5, 6, 7, 8, 9, 10, 11, 12] [13, 14] (by kernel_rfl) (by kernel_rfl) rfl (by kernel_rfl) (fun _ _ _ dd _ h => by cases dd <;> exact h) ?_
                have s0 : (0 : Int) ≤ (i : Int) + (nn : Int) := by omega
                have s1 : i ≤ ((i : Int) + (nn : Int)).toNat := by omega
                have s2 : ¬ ca = i := by omega
                have s3 : ((i : Int) + (nn : Int)).toNat = i + nn := by omega
                have s4 : (0 : Int) ≤ (j : Int) + (nn : Int) := by omega
                have s5 : j ≤ ((j : Int) + (nn : Int)).toNat := by omega
                have s6 : ¬ cb = j := by omega
                have s7 : ((j : Int) + (nn : Int)).toNat = j + nn := by omega
                have S := hid (And.intro s0 (And.intro s1 (And.intro s2 (And.intro s3 (And.intro s4 (And.intro s5 (And.intro s6 s7)))))))
                clear s0 s1 s2 s3 s4 s5 s6 s7
                repeat
                  refine headP_step rfl rfl (fun _ => rfl) w1 (fun K' hK' => ⟨?_, fun w' => ?_, ?_⟩)
                  rotate_left
                  · go_simp
                    first
                      | done
                      | rfl
                      | (obtain ⟨s0, s1, s2, s3, _⟩ := S.out; rw [if_pos s0, if_pos s1, if_neg s2, s3])
                      | (obtain ⟨_, _, _, _, s4, s5, s6, s7⟩ := S.out; rw [if_pos s4, if_pos s5, if_neg s6, s7])
                  go_simp
                  try go_bits
                  refine hK' _ _ ?_
                  clear hK' K'
                refine headP_nil ?_
                refine opsIn_step rfl rfl (fun K' hK' => ?_)
                go_simp
                refine ⟨fun hx => (by cases hx), hR.mono ?_⟩
                rintro e W3 (⟨rfl, hJ3, hk3⟩ | ⟨rfl, hJx3⟩)
                · have hok3 := (HOK1.out.drewN 1).keep hk3
                  have HOK3 := hid hok3
                  have HJ3 := hid hJ3
                  clear hk3 hok3 hJ3 hR hy
                  dsimp only
                  refine hK' _ _ ?_
                  clear hK' K'
                  refine opsIn_step rfl rfl (fun K' hK' => ?_)
                  go_simp
                  refine hK' _ _ ?_
                  clear hK' K'
                  refine opsIn_nil ?_
                  go_wp2_with fail
                  go_meet
                  exact ⟨u, u2, u1, by rw [HU.out.1]; rfl, by rw [HU.out.2]; rfl, HU.out.1, HU.out.2, HJ3.out, HOK3.out⟩
                · have HJX3 := hid hJx3
                  clear hJx3 hR hy
                  dsimp only
                  refine hK' _ _ ?_
                  clear hK' K'
                  refine opsIn_step rfl rfl (fun K' hK' => ?_)
                  go_simp
                  refine hK' _ _ ?_
                  clear hK' K'
                  refine opsIn_nil ?_
                  go_wp2_with fail
                  refine bodyPost_ret (results_none rfl _ _ _) rfl ?_
                  exact ⟨⟨_, rfl⟩, .inr ⟨u, HJX3.out⟩⟩
              · have hnn' : nn = 0 := by omega
                go_wp2_with fail
                go_meet
                exact ⟨t, ht, Nat.le_refl _, by rw [HI.out], by rw [HJJ.out], by rw [HI.out]; omega, by rw [HJJ.out]; omega, HJ1.out, HOK1.out⟩
            case rest =>
              obtain ⟨t', ht', htt, rfl, rfl, e1, e2, hJ', hok'⟩ := hcut
              have HJ' := hid hJ'
              have HOK' := hid hok'
              have ti' := cn_mono f ht'
              have tj' := cn_mono d ht'
              generalize hgi' : cn f t' = i' at *
              generalize hgj' : cn d t' = j' at *
              have HI' := hid hgi'
              have HJJ' := hid hgj'
              have E1 := hid e1
              have E2 := hid e2
              clear hgi' hgj' e1 e2 hJ' hok' HJ1 HOK1
              by_cases hnw2 : nn = wd
              · have c1 : ((nn : Int) == (wd : Int)) = true := by simp; omega
                have HNW := hid hnw2
                clear hnw2
                go_wp2_with fail
                refine ⟨⟨t', 16, ht', by rw [HI'.out], by rw [HJJ'.out], rfl, .inr ⟨rfl, ?_⟩, HJ'.out, HOK'.out⟩, ?_⟩
                · have := HW.out
                  have := HNW.out
                  have := E1.out
                  have := E2.out
                  rw [HI'.out, HJJ'.out]
                  omega
                · have := HW.out
                  have := HNW.out
                  have := E1.out
                  have := E2.out
                  simp [intOf]
                  omega
              · have c1 : ((nn : Int) == (wd : Int)) = false := by simp; omega
                have hlt2 : nn < wd := by omega
                have hW2 := HW.out
                have hE1 := E1.out
                have hE2 := E2.out
                have k1 : i' < cn f 4 := by omega
                have k2 : j' < cn d 4 := by omega
                have hnx := names_next f d t' ht' (by rw [HI'.out]; exact k1) (by rw [HJJ'.out]; exact k2) (by
                  rw [HI'.out, HJJ'.out, hE1, hE2]
                  exact HAG.out.2.2 hlt2)
                rw [HI'.out, HJJ'.out, hE1, hE2] at hnx
                have hbv2 := HBV2.out
                rw [decide_eq_true hlt2, Bool.true_and] at hbv2
                rw [hbv2] at hnx
                rw [← hE1, ← hE2] at hnx
                clear hbv2 hW2 hE1 hE2 hnw2 hnw hw1 hw2
                rcases hnx with ⟨rfl, u, u1, u2, u3, u4, u5⟩ | ⟨rfl, u, u1, u2, u3, u4, u5⟩
                · have HU := hid (And.intro u3 u4)
                  obtain ⟨fn, tmps, assign, body, hy, hR⟩ := HY.out t' (.slice (some ⟨ga, oa + i', none⟩) 1 (ca - i'), .slice none 0 0) u wc (HJ'.out)
                    ⟨u1, u2, .inr (.inl ⟨1, by omega, u5, by rw [HI'.out]; exact u3, by rw [HJJ'.out]; exact u4, by rw [HI'.out]; rfl⟩)⟩
                  dsimp only at hy
                  clear u3 u4 u5
                  have q1 : (i' : Int) + 1 ≤ (ca : Int) := by omega
                  go_upto_region 15 with fail
                  refine (wpIn_wide (n := n)).1 ?_
                  gi_wp2_with fail
                  refine ⟨fun hx => (by cases hx), hR.mono ?_⟩
                  rintro e W3 (⟨rfl, hJ3, hk3⟩ | ⟨rfl, hJx3⟩)
                  · have hok3 := HOK'.out.keep hk3
                    have HOK3 := hid hok3
                    have HJ3 := hid hJ3
                    clear hk3 hok3 hJ3 hR hy
                    gi_wp2_with fail
                    go_wp2_with fail
                    refine ⟨⟨u, 8, u2, by rw [HU.out.1]; rfl, by rw [HU.out.2], rfl, .inl rfl, HJ3.out, HOK3.out⟩, ?_⟩
                    have := E1.out
                    have := E2.out
                    simp [intOf]
                    omega
                  · have HJX3 := hid hJx3
                    clear hJx3 hR hy
                    gi_wp2_with fail
                    go_wp2_with fail
                    refine bodyPost_ret (results_none rfl _ _ _) rfl ?_
                    exact ⟨⟨_, rfl⟩, .inr ⟨u, HJX3.out⟩⟩
                · have HU := hid (And.intro u3 u4)
                  obtain ⟨fn, tmps, assign, body, hy, hR⟩ := HY.out t' (.slice none 0 0, .slice (some ⟨gb, ob + j', none⟩) 1 (cb - j')) u wc (HJ'.out)
                    ⟨u1, u2, .inr (.inr ⟨1, by omega, u5, by rw [HI'.out]; exact u3, by rw [HJJ'.out]; exact u4, by rw [HJJ'.out]; rfl⟩)⟩
                  dsimp only at hy
                  clear u3 u4 u5
                  have q1 : (j' : Int) + 1 ≤ (cb : Int) := by omega
                  go_upto_region 17 with fail
                  refine (wpIn_wide (n := n)).1 ?_
                  gi_wp2_with fail
                  refine ⟨fun hx => (by cases hx), hR.mono ?_⟩
                  rintro e W3 (⟨rfl, hJ3, hk3⟩ | ⟨rfl, hJx3⟩)
                  · have hok3 := HOK'.out.keep hk3
                    have HOK3 := hid hok3
                    have HJ3 := hid hJ3
                    clear hk3 hok3 hJ3 hR hy
                    gi_wp2_with fail
                    go_wp2_with fail
                    refine ⟨⟨u, 8, u2, by rw [HU.out.1], by rw [HU.out.2]; rfl, rfl, .inl rfl, HJ3.out, HOK3.out⟩, ?_⟩
                    have := E1.out
                    have := E2.out
                    simp [intOf]
                    omega
                  · have HJX3 := hid hJx3
                    clear hJx3 hR hy
                    gi_wp2_with fail
                    go_wp2_with fail
                    refine bodyPost_ret (results_none rfl _ _ _) rfl ?_
                    exact ⟨⟨_, rfl⟩, .inr ⟨u, HJX3.out⟩⟩
        · clear HR
          by_cases l1 : i < cn f 4
          · have l2 : j = cn d 4 := by omega
            have l1' : (i : Int) < (cn f 4 : Int) := by omega
            have l2' : ¬ (j : Int) < (cn d 4 : Int) := by omega
            obtain ⟨ga, oa, rfl, ma, _, _⟩ := HPA.out (by omega)
            obtain ⟨fn, tmps, assign, body, hy, hR⟩ := HY.out t (.slice (some ⟨ga, oa + i, none⟩) (cn f 4 - i) (ca - i), .slice none 0 0) 4 wr HJ.out
              ⟨ht, by omega, .inr (.inl ⟨cn f 4 - i, by omega, lack_of_flat ht (by rw [HJJ.out]; exact l2), by rw [HI.out]; omega, by rw [HJJ.out]; exact l2.symm, by rw [HI.out]; rfl⟩)⟩
            dsimp only at hy
            clear l2 hlt
            go_upto_region 20 with fail
            refine (wpIn_wide (n := n)).1 ?_
            gi_wp2_with fail
            refine ⟨fun hx => (by cases hx), hR.mono ?_⟩
            rintro e W3 (⟨rfl, hJ3, hk3⟩ | ⟨rfl, hJx3⟩)
            · gi_wp2_with fail
              go_wp2_with fail
              go_end0
              exact ⟨⟨_, rfl⟩, .inl ⟨4, ⟨by omega, rfl, rfl⟩, hJ3⟩⟩
            · gi_wp2_with fail
              go_wp2_with fail
              go_end0
              exact ⟨⟨_, rfl⟩, .inr ⟨4, hJx3⟩⟩
          · have l1' : ¬ (i : Int) < (cn f 4 : Int) := by omega
            by_cases l2 : j < cn d 4
            · have l2' : (j : Int) < (cn d 4 : Int) := by omega
              obtain ⟨gb, ob, rfl, mb, _, _⟩ := HPB.out (by omega)
              obtain ⟨fn, tmps, assign, body, hy, hR⟩ := HY.out t (.slice none 0 0, .slice (some ⟨gb, ob + j, none⟩) (cn d 4 - j) (cb - j)) 4 wr HJ.out
                ⟨ht, by omega, .inr (.inr ⟨cn d 4 - j, by omega, lack_of_flat ht (by rw [HI.out]; omega), by rw [HI.out]; omega, by rw [HJJ.out]; omega, by rw [HJJ.out]; rfl⟩)⟩
              dsimp only at hy
              clear hlt
              go_upto_region 22 with fail
              refine (wpIn_wide (n := n)).1 ?_
              gi_wp2_with fail
              refine ⟨fun hx => (by cases hx), hR.mono ?_⟩
              rintro e W3 (⟨rfl, hJ3, hk3⟩ | ⟨rfl, hJx3⟩)
              · gi_wp2_with fail
                go_wp2_with fail
                go_end0
                exact ⟨⟨_, rfl⟩, .inl ⟨4, ⟨by omega, rfl, rfl⟩, hJ3⟩⟩
              · gi_wp2_with fail
                go_wp2_with fail
                go_end0
                exact ⟨⟨_, rfl⟩, .inr ⟨4, hJx3⟩⟩
            · have l2' : ¬ (j : Int) < (cn d 4 : Int) := by omega
              have HE := hid (show i = cn f 4 ∧ j = cn d 4 by omega)
              clear l1 l2 hlt ti tj
              go_wp2_with fail
              go_end0
              exact ⟨⟨_, rfl⟩, .inl ⟨t, ⟨ht, by rw [HI.out]; exact HE.out.1, by rw [HJJ.out]; exact HE.out.2⟩, HJ.out⟩⟩
    · obtain ⟨e1, e2⟩ := HBV.out rfl
      obtain ⟨e3, e4⟩ := same_of_eq e2
      have E3 := hid e3
      obtain ⟨fn, tmps, assign, body, hy, hR⟩ := HY.out 0 (.slice pa (cn f 4) ca, .slice pb (cn d 4) cb) 4 (W.drewN q) (HJd.out 0 W q H0.out)
        ⟨by omega, by omega, .inl ⟨cn f 4, e1, e4, by rw [cn_zero, Nat.zero_add], by rw [cn_zero, Nat.zero_add]; exact e3.symm, by rw [cn_zero, cn_zero, sl_zero, sl_zero, e3]⟩⟩
      clear e1 e2 e3 e4 HBV
      dsimp only at hy
      go_upto_region 3 with fail
      refine (wpIn_wide (n := n)).1 ?_
      gi_wp2_with fail
      refine ⟨fun hx => (by cases hx), hR.mono ?_⟩
      rintro e W3 (⟨rfl, hJ3, hk3⟩ | ⟨rfl, hJx3⟩)
      · gi_wp2_with fail
        go_wp2_with fail
        refine bodyPost_ret (results_none rfl _ _ _) rfl ?_
        exact ⟨⟨_, rfl⟩, .inl ⟨4, ⟨by omega, rfl, rfl⟩, hJ3⟩⟩
      · gi_wp2_with fail
        go_wp2_with fail
        refine bodyPost_ret (results_none rfl _ _ _) rfl ?_
        exact ⟨⟨_, rfl⟩, .inr ⟨4, hJx3⟩⟩
end Go.Proofs.Ybulkgey
