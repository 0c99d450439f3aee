/- copyNodes, clock, with. -/
import Derived.Test.YbulkgeyBBld
namespace Go.Proofs.Ybulkgey
open Go.RowKit
set_option linter.unusedVariables false

/-- The array while nodes are copied: the counters Cs, the offsets of A. -/
def laid2 (n : Nat) (Cs : List Int) (A : List ByteArray) : List Value := ints Cs ++ zs (n - Cs.length) ++ u64s (offsL A) ++ zs (n - A.length)
theorem laid_laid2 (n : Nat) (Ns : List ByteArray) (Cs : List Int) (h : Cs.length = Ns.length) : laid n Ns Cs = laid2 n Cs Ns := by simp [laid, laid2, h]
theorem laid2_length (n : Nat) (Cs : List Int) (A : List ByteArray) (h : Cs.length ≤ n) (ha : A.length ≤ n) : (laid2 n Cs A).length = 2 * n + 1 := by
  simp [laid2, ints, zs, u64s, offsL]
  omega
theorem laid2_off (n : Nat) (Cs : List Int) (A : List ByteArray) (x : ByteArray) (h : Cs.length ≤ n) (hn : A.length < n) :
    (laid2 n Cs A).set (n + (A.length + 1)) (.int .u64 ((cat (A ++ [x])).size : Nat)) = laid2 n Cs (A ++ [x]) := by
  obtain ⟨m, hm⟩ : ∃ m, n - A.length = m + 1 := ⟨n - A.length - 1, by omega⟩
  have hm' : n - (A ++ [x]).length = m := by simp; omega
  have hz : zs (m + 1) = .int .u64 0 :: zs m := by simp [zs, List.replicate_succ]
  have e1 : laid2 n Cs A = (ints Cs ++ zs (n - Cs.length) ++ u64s (offsL A)) ++ .int .u64 0 :: zs m := by simp [laid2, hm, hz]
  rw [e1, set_mid _ _ _ _ _ (by simp [ints, zs, u64s, offsL]; omega)]
  unfold laid2
  rw [hm', offs_snoc]
  simp [u64s]
theorem laid2_copy (n : Nat) (Cs Cm : List Int) (A : List ByteArray) (h : Cs.length + Cm.length ≤ n) :
    (laid2 n Cs A).take Cs.length ++ ints Cm ++ (laid2 n Cs A).drop (Cs.length + (ints Cm).length) = laid2 n (Cs ++ Cm) A := by
  have e0 : (ints Cs).length = Cs.length := by simp [ints]
  have e1 : zs (n - Cs.length) = zs Cm.length ++ zs (n - (Cs ++ Cm).length) := by
    simp only [zs, List.replicate_append_replicate, List.length_append]
    congr 1
    omega
  have e2 : laid2 n Cs A = ints Cs ++ (zs Cm.length ++ (zs (n - (Cs ++ Cm).length) ++ (u64s (offsL A) ++ zs (n - A.length)))) := by simp [laid2, e1]
  rw [e2, List.take_left' e0, ← List.drop_drop, List.drop_left' e0, List.drop_left' (by simp [zs, ints])]
  simp [laid2, ints]

theorem ints_len (l : List Int) : (ints l).length = l.length := by simp [ints]

set_option maxHeartbeats 400000 in
set_option maxRecDepth 100000 in
theorem copyNodes_none (b : Nat) (p : Value) (i : Int) (w : World) : Calls Yba.prog 29 #[.pointer (some ⟨b, 0, none⟩), p, .int .i64 i, .int .i64 0] w fun e w' => e = .returned (.tuple #[]) ∧ w' = w := by
  go_enter Yba.func29, Yba.ntmps29
  go_wp2
  go_returns
  exact ⟨rfl, rfl⟩

set_option maxHeartbeats 400000 in
set_option maxRecDepth 100000 in
theorem copyNodes_some (b g n idb cb co i m : Nat) (w W0 : World) (Ns N : List ByteArray) (Cs C : List Int) (h : CB w b g n idb Ns Cs) (hA : ClkAt W0 cb co N C) (hW : W0.heap.size ≤ b) (hbW : Below W0.heap.size W0 w)
    (him : i + m ≤ N.length) (hm : 0 < m) (hkn : Ns.length + m ≤ n) (hn : n ≤ 100000) (hN : N.length ≤ 100000) (hsN : (cat N).size ≤ 400000) (hsz : (cat Ns).size ≤ 400000) :
    Calls Yba.prog 29 #[.pointer (some ⟨b, 0, none⟩), .pointer (some ⟨cb, co, none⟩), .int .i64 i, .int .i64 m] w fun e w' => e = .returned (.tuple #[]) ∧ Below b w w' ∧
      CB w' b g n idb (Ns ++ (N.drop i).take m) (Cs ++ (C.drop i).take m) := by
  obtain ⟨ao, on, oc, ac, cn, cc, h0, h1, h2, h3⟩ := hA
  obtain ⟨hcr, hCN, hor⟩ := h3
  rcases hor with ⟨rfl, _⟩ | ⟨hNe, hor⟩
  · simp at him; omega
  rcases hor with ⟨_, hx⟩ | ⟨og, oo, ocap, e, hog, hoc, hom, hocell⟩
  · exact absurd (congrArg List.length hx) (by simp [u64s, offsL])
  rcases hcr with ⟨_, hx⟩ | ⟨cg, cgo, ccap, e', hcg, hcc, hcm, hccell⟩
  · exact absurd (congrArg List.length hx) (by simp [ints]; intro hC; rw [hC] at hCN; simp at hCN; omega)
  simp only [Value.slice.injEq] at e e'
  obtain ⟨rfl, rfl, rfl⟩ := e
  obtain ⟨rfl, rfl, rfl⟩ := e'
  have hlo : (u64s (offsL N)).length = N.length + 1 := by simp [u64s, offsL]
  have hlc : (ints C).length = N.length := by simp [ints, hCN]
  rw [hlo] at h1 hoc hocell
  rw [hlc] at h2 hcc hccell
  have HK : Hid (∀ w', Below W0.heap.size W0 w' → w'.cell? ⟨cb, co, none⟩ = some (.string (cat N)) ∧ w'.cell? ⟨cb, co + 1, none⟩ = some (.slice (some ⟨og, oo, none⟩) (N.length + 1) oc) ∧ w'.cell? ⟨cb, co + 2, none⟩ = some (.slice (some ⟨cg, cgo, none⟩) N.length cc) ∧
      (∀ j, j ≤ N.length → w'.cell? ⟨og, oo + j, none⟩ = some (.int .u64 ((cat (N.take j)).size : Nat))) ∧ (∀ j, j < N.length → w'.cell? ⟨cg, cgo + j, none⟩ = (ints C)[j]?)) := fun w' hb =>
    ⟨cell_later hb h0, cell_later hb h1, cell_later hb h2, fun j hj => (hb.cell (p := ⟨og, oo + j, none⟩) hog).trans ((hocell j (by omega)).trans (offsL_at N j hj)), fun j hj => (hb.cell (p := ⟨cg, cgo + j, none⟩) hcg).trans (hccell j hj)⟩
  have hcb : cb < W0.heap.size := block_lt_of_cell h0
  have n1 : ¬ b = cb := by omega
  have n2 : ¬ cb = b := by omega
  have n3 : ¬ b = og := by omega
  have n4 : ¬ og = b := by omega
  have n5 : ¬ b = cg := by omega
  have n6 : ¬ cg = b := by omega
  have HL : Hid (C.length = N.length) := hCN
  clear h0 h1 h2 hocell hccell hNe hCN hlo hlc
  have part := cat_part N i (i + m) (by omega) him
  rw [show i + m - i = m from by omega] at part
  have sle := cat_take_le N i (i + m) (by omega)
  have sN1 := cat_take_size N i
  have sN2 := cat_take_size N (i + m)
  obtain ⟨p, buf, hp, hbg, hb, hg, ho, hc, hl⟩ := id h
  have hbl : (Lib.strCells (cat Ns)).length = (cat Ns).size := Lib.strCells_length _
  obtain ⟨ab, cbuf, rfl⟩ : ∃ ab cb, buf = .slice ab (cat Ns).size cb := by
    rcases ho.shape with ⟨rfl, hx⟩ | ⟨gb, cap, rfl, _⟩
    · rw [hx] at hbl; exact ⟨none, 0, by rw [← hbl]; rfl⟩
    · exact ⟨_, _, by rw [hbl]⟩
  have c1 : w.cell? ⟨b, 1, none⟩ = some (.slice ab (cat Ns).size cbuf) := by rw [cell_of_block hb]; rfl
  have c2 : w.cell? ⟨b, 2, none⟩ = some (.slice (some ⟨g, n, none⟩) (Ns.length + 1) (n + 1)) := by rw [cell_of_block hb]; rfl
  obtain ⟨h0, h1, h2, ho', hc'⟩ := HK.out w hbW
  have oi := ho' i (by omega)
  have oim := ho' (i + m) him
  have hm0 : ((m : Int) == 0) = false := by simp; omega
  have HCB : Hid (CB w b g n idb Ns Cs) := h
  have HP := (show Hid _ from part)
  generalize hSi : (cat (N.take i)).size = Si at *
  generalize hSim : (cat (N.take (i + m))).size = Sim at *
  generalize hSNs : (cat Ns).size = SNs at *
  have HSi := (show Hid _ from hSi)
  have HSim := (show Hid _ from hSim)
  have HSNs := (show Hid _ from hSNs)
  have hpos1 : (0 : Int) ≤ i := by omega
  have hpos0 : (0 : Int) ≤ (i : Int) + m := by omega
  have hpos2 : (i : Int) < (N.length : Int) + 1 := by omega
  have hpos3 : (i : Int) + m < (N.length : Int) + 1 := by omega
  have hsl1 : (Si : Int) ≤ Sim := by omega
  have hsl2 : (Sim : Int) ≤ (cat N).size := by omega
  clear h hb hg part hbl hSi hSim hSNs ho' hc' ho
  go_enter Yba.func29, Yba.ntmps29
  go_wp2_with fail
  go_quiet ((go_at_call 44; exact Calls.quiet_of_same (bldLen_any b _ ab SNs cbuf (by go_simp))))
  go_wp2_with fail
  refine wp_region_D [0, 1, 2, 3, 4, 5, 6, 7, 8, 9, 10, 11, 12, 13, 14, 15, 16, 17] [18] 8 (fun w' => w'.cell? ⟨cb, co, none⟩ = some (.string (cat N)) ∧ w'.cell? ⟨cb, co + 1, none⟩ = some (.slice (some ⟨og, oo, none⟩) (N.length + 1) oc) ∧ w'.cell? ⟨og, oo + (i + m), none⟩ = some (.int .u64 Sim))
    (by kernel_rfl) (by kernel_rfl) rfl (by kernel_rfl) (by intro c a w d v h; cases d <;> exact h) (by refine ⟨?_, ?_, ?_⟩ <;> go_simp) ?_
  repeat (refine wpHeadD_step rfl rfl w (fun K' hK' => ⟨?_, fun w' hw' => ?_, ?_⟩); rotate_left; (obtain ⟨d0, d1, d2⟩ := hw'; go_simp; try rfl); (go_simp; try go_bits); (refine hK' _ _ ?_; clear hK' K'))
  refine wpHeadD_nil ?_
  refine wpTailD_lone (by kernel_rfl) rfl rfl (fun K hK => ?_)
  go_simp
  rw [HP.out]
  have hMs : (cat ((N.drop i).take m)).size ≤ 400000 := by rw [← HP.out, ByteArray.size_extract]; omega
  refine (write_CB b g n idb (w.drewN (nq + 1)) Ns Cs (cat Ns) (cat ((N.drop i).take m)) HCB.out (by rw [HSNs.out]; omega)).mono ?_
  rintro e w1 ⟨rfl, b1, q1⟩
  have b1' : Below b w w1 := (below_drewN (Below.refl b w) _).trans b1
  obtain ⟨h0', h1', h2', ho', hc'⟩ := HK.out w1 (hbW.trans (b1'.mono hW))
  clear h0 h1 h2 oi oim c1 c2 HCB b1 hm0
  obtain ⟨p1, buf1, hp1, -, hb1, hg1, ho1, -, -⟩ := q1
  have c2 : w1.cell? ⟨b, 2, none⟩ = some (.slice (some ⟨g, n, none⟩) (Ns.length + 1) (n + 1)) := by rw [cell_of_block hb1]; rfl
  have z2 := frozen_of_block hb1 2
  have HB1 := (show Hid _ from hb1)
  have HG1 := (show Hid _ from hg1)
  have HO' := (show Hid _ from ho')
  have HC' := (show Hid _ from hc')
  clear hb1 hg1 ho' hc'
  go_simp
  refine hK _ _ ?_
  clear hK K
  refine wpTailD_nil ?_
  go_wp2_with fail
  have hMl : ((N.drop i).take m).length = m := by simp; omega
  have seg : ∀ j, j ≤ m → (cat (N.take (i + j))).size = Si + (cat (((N.drop i).take m).take j)).size := by
    intro j hj
    rw [← HSi.out, List.take_add, cat_append, ByteArray.size_append, List.take_take, Nat.min_eq_left hj]
  generalize hM : (N.drop i).take m = M at *
  have HM := (show Hid _ from hM)
  have HSeg := (show Hid _ from seg)
  clear hM seg
  go_loopw [76] (fun v wr => ∃ j : Nat, j ≤ m ∧ v = .int .i64 j ∧ wr.heap[b]? = some (.cells #[p1, buf1, .slice (some ⟨g, n, none⟩) (Ns.length + 1 + m) (n + 1), .slice (some ⟨g, 0, none⟩) n n, .int .i64 idb] 68) ∧
    wr.heap[g]? = some (.cells (laid2 n Cs (Ns ++ M.take j)).toArray 34) ∧ Own wr (g + 1) 5 buf1 (Lib.strCells (cat Ns ++ cat M)) ∧ Below b w wr) (fun v wr => m - (intOf v).toNat)
  case atStart =>
    refine ⟨0, Nat.zero_le _, rfl, ?_, ?_, ?_, ?_⟩
    · exact set_block HB1.out _
    · rw [set_other _ (by omega), HG1.out, laid_laid2 _ _ _ hc]; simp
    · exact ho1.setBelow (by omega) _
    · exact b1'.setCell (Nat.le_refl b) _
  case round =>
    obtain ⟨j, hj, rfl, hb2, hg2, ho2, bw2⟩ := hrel
    obtain ⟨h0r, h1r, h2r, hor, hcr⟩ := HK.out wr (hbW.trans (bw2.mono hW))
    have c2r : wr.cell? ⟨b, 2, none⟩ = some (.slice (some ⟨g, n, none⟩) (Ns.length + 1 + m) (n + 1)) := by rw [cell_of_block hb2]; rfl
    have HB2 := (show Hid _ from hb2)
    have HG2 := (show Hid _ from hg2)
    by_cases hlt : j < m
    · have hend := hor (i + (j + 1)) (by omega)
      have hsg := HSeg.out (j + 1) (by omega)
      generalize hE : (cat (N.take (i + (j + 1)))).size = E at *
      have HE := (show Hid _ from hE)
      have hEle : E ≤ 400000 := by rw [← hE]; exact Nat.le_trans (cat_take_size N _) hsN
      have hEge : Si ≤ E := by omega
      have HSg := (show Hid _ from hsg)
      rw [show oo + (i + (j + 1)) = oo + (i + 1) + j from by omega] at hend
      have hl2 := laid2_length n Cs (Ns ++ M.take j) (by omega) (by simp [hMl]; omega)
      obtain ⟨x2, hx2⟩ : ∃ x, wr.cell? ⟨g, n + (Ns.length + 1 + j), none⟩ = some x := ⟨_, (cell_of_block hg2 _).trans (Array.getElem?_eq_getElem (by simp; omega))⟩
      have zg2 := frozen_of_block hg2 (n + (Ns.length + 1 + j))
      clear hE hb2 hg2 hor hcr hsg hl2
      have hMj : M.take (j + 1) = M.take j ++ [M[j]] := List.take_succ_eq_append_getElem (by omega)
      have HMj := (show Hid _ from hMj)
      clear hMj
      go_wp2_with fail
      have hA1 : (Ns ++ M.take j).length = Ns.length + j := by simp [hMl]; omega
      have hval : (SNs : Int) + ((E : Int) - Si) = ((cat ((Ns ++ M.take j) ++ [M[j]])).size : Nat) := by
        rw [List.append_assoc, ← HMj.out, cat_append, ByteArray.size_append, HSNs.out, HSg.out]
        omega
      refine ⟨⟨j + 1, by omega, by go_num, (set_other _ (by omega)).trans HB2.out, ?_, ho2.setBelow (by omega) _, bw2.setCell (by show b ≤ g; omega) _⟩, by simp [intOf]; omega⟩
      have hof := laid2_off n Cs (Ns ++ M.take j) M[j] (by omega) (by omega)
      rw [set_block HG2.out, hval, HMj.out, ← List.append_assoc, ← hof, hA1, show Ns.length + 1 + j = Ns.length + j + 1 from by omega]
      simp
    · obtain rfl : j = m := by omega
      have c3r : wr.cell? ⟨b, 3, none⟩ = some (.slice (some ⟨g, 0, none⟩) n n) := by rw [cell_of_block hb2]; rfl
      have i1 : (0 : Int) ≤ Ns.length := by omega
      have i2 : (Ns.length : Int) ≤ Ns.length + j := by omega
      have i3 : (Ns.length : Int) + j ≤ n := by omega
      have i4 : ¬ n = Ns.length := by omega
      have i5 : (i : Int) ≤ i + j := by omega
      have i6 : (i : Int) + j ≤ cc := by omega
      have i7 : ¬ cc = i := by omega
      have hCl0 : ((C.drop i).take j).length = j := by simp [HL.out]; omega
      have hget0 : ∀ t, t < j → (ints ((C.drop i).take j))[t]? = (ints C)[i + t]? := by
        intro t ht
        simp [ints, ht]
      obtain ⟨Cm, hCm⟩ : ∃ x, x = (C.drop i).take j := ⟨_, rfl⟩
      rw [← hCm] at hCl0 hget0
      have HCm := (show Hid _ from hCm)
      have hil := ints_len Cm
      clear hCm
      have hcs : ∀ t v, (ints Cm)[t]? = some v → wr.drew.cell? ((⟨cg, cgo + i, none⟩ : Addr).add t) = some v := by
        intro t v hv
        have ht : t < j := by
          have := (List.getElem?_eq_some_iff.1 hv).1
          omega
        rw [Addr.add_lit, Nat.add_assoc]
        show wr.cell? ⟨cg, cgo + (i + t), none⟩ = some v
        rw [hcr (i + t) (by omega), ← hv, hget0 t ht]
      have hl2 := laid2_length n Cs (Ns ++ M.take j) (by omega) (by simp [hMl]; omega)
      have hcp := run_copy_row (P := Yba.prog) wr.drew 25 25 3 34 g Ns.length j (n - Ns.length) ⟨cg, cgo + i, none⟩ j (cc - i) (laid2 n Cs (Ns ++ M.take j)).toArray 34 (ints Cm) Yba.underlying25 (by kernel_rfl) hg2
        (by rw [hil, hCl0]; exact (Nat.min_self j).symm) hcs (by rw [hil, hCl0, List.size_toArray, hl2]; omega) (ints_oneCell .u64 _)
      clear hget0 hl2
      have HCP := (show Hid _ from hcp)
      clear hor hcr hb2 hg2 hcp hcs
      go_wp2_with fail
      refine wp_region_D [0, 1, 2, 3, 4, 5, 6, 7, 8, 9, 10, 11, 12, 13, 14, 15, 16, 17] [18] 8 (fun w' => w'.cell? ⟨b, 3, none⟩ = some (.slice (some ⟨g, 0, none⟩) n n) ∧ w'.cell? ⟨cb, co + 2, none⟩ = some (.slice (some ⟨cg, cgo, none⟩) N.length cc))
        (by kernel_rfl) (by kernel_rfl) rfl (by kernel_rfl) (by intro c a w d v h; cases d <;> exact h) (by refine ⟨?_, ?_⟩ <;> go_simp) ?_
      repeat (refine wpHeadD_step rfl rfl w (fun K' hK' => ⟨?_, fun w' hw' => ?_, ?_⟩); rotate_left; (obtain ⟨d0, d1⟩ := hw'; go_simp; try rfl); (go_simp; try go_bits); (refine hK' _ _ ?_; clear hK' K'))
      refine wpHeadD_nil ?_
      refine wpTailD_lone (by kernel_rfl) rfl rfl (fun K hK => ?_)
      go_simp
      rw [HCP.out]
      simp only [Result.andThen]
      rw [Oper.upon_value]
      refine hK _ _ ?_
      clear hK K
      refine wpTailD_nil ?_
      go_wp2
      go_end0
      have hMt : M.take j = M := List.take_of_length_le (by omega)
      refine ⟨rfl, below_setRow (bw2.drew) (by omega) _, p1, buf1, hp1, hbg, ?_, ?_, ?_, ?_, ?_⟩
      · rw [setRow_other _ _ _ _ (by omega), show wr.drew.heap[b]? = _ from HB2.out, HM.out]
        simp [hMl]
        omega
      · rw [setRow_heap _ _ _ _ _ _ (show wr.drew.heap[g]? = _ from HG2.out), HM.out, ← HCm.out, laid_laid2 _ _ _ (by simp [hc, hMl, hCl0]), ← hc]
        have := laid2_copy n Cs Cm (Ns ++ M.take j) (by omega)
        rw [hMt] at this ⊢
        rw [← this, hil, hCl0, List.append_assoc]
      · rw [HM.out, cat_append]
        exact ho2.keptIn (b := b) (B := 0) (by omega) (fun k hk _ => (setRow_other _ _ _ _ (by omega)))
      · rw [HM.out, ← HCm.out]; simp [hc, hCl0, hMl]
      · rw [HM.out]; simp [hMl]; omega

theorem copyNodes_any (b g n idb cb co i m : Nat) (w W0 : World) (Ns N : List ByteArray) (Cs C : List Int) (h : CB w b g n idb Ns Cs) (hA : ClkAt W0 cb co N C) (hW : W0.heap.size ≤ b) (hbW : Below W0.heap.size W0 w)
    (him : i + m ≤ N.length) (hkn : Ns.length + m ≤ n) (hn : n ≤ 100000) (hN : N.length ≤ 100000) (hsN : (cat N).size ≤ 400000) (hsz : (cat Ns).size ≤ 400000) :
    Calls Yba.prog 29 #[.pointer (some ⟨b, 0, none⟩), .pointer (some ⟨cb, co, none⟩), .int .i64 i, .int .i64 m] w fun e w' => e = .returned (.tuple #[]) ∧ Below b w w' ∧
      CB w' b g n idb (Ns ++ (N.drop i).take m) (Cs ++ (C.drop i).take m) := by
  by_cases hm : 0 < m
  · exact copyNodes_some b g n idb cb co i m w W0 Ns N Cs C h hA hW hbW him hm hkn hn hN hsN hsz
  · obtain rfl : m = 0 := by omega
    refine (copyNodes_none b _ i w).mono ?_
    rintro e w' ⟨rfl, rfl⟩
    exact ⟨rfl, Below.refl _ _, by simpa using h⟩

theorem freeze_other (w : World) (p : Addr) (n k : Nat) (h : k ≠ p.block) : (w.freeze p n).heap[k]? = w.heap[k]? := by
  unfold World.freeze
  split
  · rfl
  · simp only [Array.getElem?_modify]
    rw [if_neg (fun e => h e.symm)]
theorem Yba.cells5 : Yba.prog.cellsOf 5 = 1 := by kernel_rfl

set_option maxHeartbeats 400000 in
set_option maxRecDepth 100000 in
theorem bString_any (b B : Nat) (w : World) (p buf f2 f3 f4 : Value) (s : ByteArray) (hbk : w.heap[b]? = some (.cells #[p, buf, f2, f3, f4] 68)) (hown : Own w B 5 buf (Lib.strCells s)) (hB : b < B) (hBs : B ≤ w.heap.size) (hs : s.size ≤ 1000000) :
    Calls Yba.prog 47 #[.pointer (some ⟨b, 0, none⟩)] w fun e w' => e = .returned (.string s) ∧ w.grownBy w' buf.ownBlock := by
  have c1 : w.cell? ⟨b, 1, none⟩ = some buf := by rw [cell_of_block hbk]; rfl
  have hlt := block_lt hbk
  clear hbk
  have hl := Lib.strCells_length s
  rcases hown.2 with ⟨rfl, h0⟩ | ⟨g, cap, cur, rfl, hg1, hg2, hc1, hc2, hc3, hc4⟩
  · have hs0 : s.size = 0 := by omega
    have hse : s = ByteArray.empty := by
      apply ByteArray.ext; apply Array.eq_empty_of_size_eq_zero; exact hs0
    subst hse
    have e1 := fun W : World => Lib.run_unsafeSliceData_nil (P := Yba.prog) W #[64] 120 0 0
    have e2 := fun W : World => Lib.run_unsafeString_none (P := Yba.prog) W 120 3 9 none
    go_enter Yba.func47, Yba.ntmps47
    go_wp2
    go_region
    all_goals
      go_wp2
      go_ret
      exact ⟨rfl, rfl, rfl, rfl, Nat.le_refl _, fun _ _ _ => rfl⟩
  · have hsh : w.shape? g = some (5, cur.size) := by simp [World.shape?, hg2]
    rw [hl] at *
    have hcz : cur.size = cap := by simpa using hc3
    by_cases hs0 : s.size = 0
    · have hse : s = ByteArray.empty := by
        apply ByteArray.ext; apply Array.eq_empty_of_size_eq_zero; exact hs0
      subst hse
      clear hown hl hc4 hg2
      by_cases hcap : cap = 0
      · subst hcap
        have e1 := Lib.run_unsafeSliceData_zero (P := Yba.prog) w.drew #[64] 120 5 Yba.underlying120 ⟨g, 0, none⟩ 0 (5, cur.size) hsh
        have e2 := fun (W : World) (p : Option Addr) => Lib.run_unsafeString_none (P := Yba.prog) W 120 3 9 p
        have c1' : (w.alloc (.view ⟨g, 0, none⟩ 5)).cell? ⟨b, 1, none⟩ = some (.slice (some ⟨g, 0, none⟩) 0 0) := (Below.cell (below_alloc w _ _ (Nat.le_refl _)) (p := ⟨b, 1, none⟩) hlt).trans c1
        clear hsh hcz hc3
        simp only [ByteArray.size_empty] at *
        go_enter Yba.func47, Yba.ntmps47
        go_wp2
        go_region
        all_goals
          go_wp2
          go_ret
          exact ⟨rfl, rfl, rfl, rfl, by simp, fun k hk _ => Go.heap_alloc_old _ _ hk⟩
      · have e1 := fun W : World => Lib.run_unsafeSliceData_row (P := Yba.prog) W #[64] 120 ⟨g, 0, none⟩ 0 cap hcap
        have e2 := fun (W : World) (p : Option Addr) => Lib.run_unsafeString_none (P := Yba.prog) W 120 3 9 p
        clear hsh hcz hc3
        simp only [ByteArray.size_empty] at *
        go_enter Yba.func47, Yba.ntmps47
        go_wp2
        go_region
        all_goals
          go_wp2
          go_ret
          exact ⟨rfl, rfl, rfl, rfl, Nat.le_refl _, fun _ _ _ => rfl⟩
    · have hcap : cap ≠ 0 := by omega
      have e1 := fun W : World => Lib.run_unsafeSliceData_row (P := Yba.prog) W #[64] 120 ⟨g, 0, none⟩ s.size cap hcap
      have e2 := Lib.run_unsafeString_row (P := Yba.prog) w.drew 120 3 9 5 Yba.underlying120 Yba.cells5 g cur.size hsh s.data.toList (by intro h; apply hs0; show s.data.size = 0; rw [← Array.length_toList, h]; rfl) (by rw [Array.length_toList]; show s.size ≤ cur.size; omega) (by rw [Array.length_toList]; show s.size ≤ _; omega)
        (by
          intro j x hx
          show w.cell? _ = _
          have := World.ownsRow.cells hown (g := g) rfl j (.int .u8 x.toNat)
          apply this
          simp [Lib.strCells, hx])
      rw [Array.length_toList, show s.data.size = s.size from rfl, show (⟨s.data.toList.toArray⟩ : ByteArray) = s from by simp] at e2
      clear hsh hcz hc3 hown hc4 hg2 hl
      go_enter Yba.func47, Yba.ntmps47
      go_wp2
      go_region
      all_goals
        go_wp2
        go_ret
        refine ⟨rfl, ?_, ?_, ?_, ?_, fun k hk hne => freeze_other _ _ _ _ (fun e => hne (by rw [e]; rfl))⟩
        all_goals (unfold World.freeze; split <;> first | rfl | simp)
end Go.Proofs.Ybulkgey
