/- copyNodes once more: all blocks of other types are kept. -/
import Derived.Test.YbulkgeyBCopy
namespace Go.Proofs.Ybulkgey
open Go.RowKit
set_option linter.unusedVariables false

/-- Blocks that are no bytes, no counters, no builder lie as they lay. -/
def Tf (w w' : World) : Prop := ∀ (k : Nat) (o : Obj), w.heap[k]? = some o → (∀ cs e fr, o = .cells cs e fr → e ≠ 5 ∧ e ≠ 34 ∧ e ≠ 68) → w'.heap[k]? = some o
theorem Tf.refl (w : World) : Tf w w := fun _ _ h _ => h
theorem Tf.trans {x y z : World} (h : Tf x y) (k : Tf y z) : Tf x z := fun i o hi ho => k i o (h i o hi ho) ho
theorem Tf.drewN (w : World) (q : Nat) : Tf w (w.drewN q) := fun _ _ h _ => h
theorem Tf.not {e : TypeId} (he : e = 5 ∨ e = 34 ∨ e = 68) {cs : Array Value} {fr : Nat × Nat} (h : ∀ cs' e' fr', Obj.cells cs e fr = .cells cs' e' fr' → e' ≠ 5 ∧ e' ≠ 34 ∧ e' ≠ 68) : False := by
  obtain ⟨h1, h2, h3⟩ := h cs e fr rfl
  rcases he with rfl | rfl | rfl
  · exact h1 rfl
  · exact h2 rfl
  · exact h3 rfl
theorem Tf.kept {w w' : World} {b : Nat} {cs : Array Value} {e : TypeId} {fr : Nat × Nat} (h : Kept w.heap.size b w w') (hb : w.heap[b]? = some (.cells cs e fr)) (he : e = 5 ∨ e = 34 ∨ e = 68) : Tf w w' := by
  intro k o hk ho
  by_cases hkb : k = b
  · subst hkb
    rw [hb] at hk
    cases hk
    exact (Tf.not he ho).elim
  · rw [h.block k (block_lt hk) hkb]; exact hk
theorem Tf.set {w : World} {b : Nat} {cs : Array Value} {e : TypeId} {fr : Nat × Nat} (hb : w.heap[b]? = some (.cells cs e fr)) (he : e = 5 ∨ e = 34 ∨ e = 68) (j : Nat) (v : Value) : Tf w (w.setCell ⟨b, j, none⟩ v) :=
  Tf.kept (Kept.set _ b j w v) hb he
theorem Tf.own {w w' : World} {B : Nat} {v : Value} {xs : List Value} (h : Own w B 5 v xs) (hg : w.grownBy w' v.ownBlock) : Tf w w' := by
  intro k o hk ho
  rw [hg.block k (block_lt hk) ?_]
  · exact hk
  · intro e
    rcases h.2 with ⟨rfl, _⟩ | ⟨g, cap, cur, rfl, _, h4, _⟩
    · simp [Value.ownBlock] at e
    · simp only [Value.ownBlock, Option.some.injEq] at e
      subst e
      rw [h4] at hk
      cases hk
      exact Tf.not (.inl rfl) ho
theorem Tf.setRow {w : World} {b : Nat} {cs : Array Value} {e : TypeId} {fr : Nat × Nat} (hb : w.heap[b]? = some (.cells cs e fr)) (he : e = 5 ∨ e = 34 ∨ e = 68) (xs : Array Value) : Tf w (w.setRow b xs) := by
  intro k ob hk ho
  by_cases hkb : k = b
  · subst hkb
    rw [hb] at hk
    cases hk
    exact (Tf.not he ho).elim
  · rw [setRow_other _ _ _ _ hkb]; exact hk

set_option maxHeartbeats 400000 in
set_option maxRecDepth 100000 in
theorem writeString2_any (b B : Nat) (w : World) (p buf f2 f3 f4 : Value) (s0 s : ByteArray) (hbk : w.heap[b]? = some (.cells #[p, buf, f2, f3, f4] 68)) (hp : p = .pointer none ∨ p = .pointer (some ⟨b, 0, none⟩))
    (hown : Own w B 5 buf (Lib.strCells s0)) (hB : b < B) (hBs : B ≤ w.heap.size) (hbd : s0.size + s.size ≤ 1000000) :
    Calls Yba.prog 45 #[.pointer (some ⟨b, 0, none⟩), .string s] w fun e w' => e = .returned (.tuple #[.int .i64 s.size, .nilIface]) ∧ ∃ buf', w'.heap[b]? = some (.cells #[.pointer (some ⟨b, 0, none⟩), buf', f2, f3, f4] 68) ∧
      Own w' B 5 buf' (Lib.strCells (s0 ++ s)) ∧ Kept B b w w' ∧ Tf w w' := by
  obtain ⟨i, hi, hz0, hz1, hz2⟩ := info_parts Yba.info5
  have hl0 := Lib.strCells_length s0
  have hl1 := Lib.strCells_length s
  have hcc := copyCheck_any b w p buf f2 f3 f4 hbk hp
  have HBK := (show Hid _ from hbk)
  clear hbk hp
  go_enter Yba.func45, Yba.ntmps45
  go_wp2_with fail
  refine hcc.mono ?_
  rintro e w1 ⟨rfl, hbk1, hk⟩
  have tf1 : Tf w w1 := Tf.kept (hk w.heap.size).1 HBK.out (.inr (.inr rfl))
  obtain ⟨k1, ko⟩ := hk B
  have own1 := ko B 5 buf _ hB hown
  clear ko hk hown
  have c1 : w1.cell? ⟨b, 1, none⟩ = some buf := by rw [cell_of_block hbk1]; rfl
  have HB := (show Hid _ from hbk1)
  have hs1 := Nat.le_trans hBs k1.size
  clear hbk1
  go_wp2_with (at_builtin; refine Stand.out ?_)
  refine Lib.wpList_append_own_string _ rfl _ _ 64 9 rfl B 5 i Yba.underlying64 Yba.underlying9 hi hz0 hz1 hz2 buf (Lib.strCells s0).length (Lib.strCells s0) rfl own1 s rfl (by unfold maxLen; omega) (by omega) hs1 ?_
  intro v2 w2 o2 g2 _
  have bl2 : Below B w1 w2 := own1.below g2 hs1
  have tf2 : Tf w w2 := tf1.trans (Tf.own own1 g2)
  have hb2 : w2.heap[b]? = _ := (bl2.block b hB).trans HB.out
  have o2' : Own w2 B 5 v2 (Lib.strCells (s0 ++ s)) := by
    unfold Own
    rw [strCells_append]
    simpa [hl1] using o2
  have c2 : w2.cell? ⟨b, 1, none⟩ = some buf := by rw [cell_of_block hb2]; rfl
  have z2 := frozen_of_block hb2 1
  have HB2 := (show Hid _ from hb2)
  clear hb2 o2 g2 own1 HB
  rcases o2'.shape with ⟨rfl, -⟩ | ⟨g, cap, rfl, -⟩
  all_goals
    go_wp2
    go_ret2
    refine ⟨rfl, _, set_block HB2.out _, o2'.setBelow hB _, k1.trans ((Kept.of bl2).trans (Kept.set _ _ _ _ _)), tf2.trans (Tf.set HB2.out (.inr (.inr rfl)) _ _)⟩

theorem write_CB2 (b g n idb : Nat) (w : World) (Ns : List ByteArray) (Cs : List Int) (s0 s : ByteArray) (h : CBs w b g n idb Ns Cs s0) (hbd : s0.size + s.size ≤ 1000000) :
    Calls Yba.prog 45 #[.pointer (some ⟨b, 0, none⟩), .string s] w fun e w' => e = .returned (.tuple #[.int .i64 s.size, .nilIface]) ∧ Below b w w' ∧ CBs w' b g n idb Ns Cs (s0 ++ s) ∧ Tf w w' := by
  obtain ⟨p, buf, hp, hbg, hb, hg, ho, hc, hl⟩ := h
  refine (writeString2_any b (g + 1) w p buf _ _ _ s0 s hb hp ho (by omega) (block_lt hg) hbd).mono ?_
  rintro e w' ⟨rfl, buf', hb', ho', hk, htf⟩
  exact ⟨rfl, hk.below (by omega), ⟨_, buf', .inr rfl, hbg, hb', (hk.block g (by omega) (by omega)).trans hg, ho', hc, hl⟩, htf⟩

set_option maxHeartbeats 400000 in
set_option maxRecDepth 100000 in
theorem copyNodes2_some (b g n idb cb co i m : Nat) (w W0 : World) (Ns N : List ByteArray) (Cs C : List Int) (h : CB w b g n idb Ns Cs) (hA : ClkAt W0 cb co N C) (hW : W0.heap.size ≤ b) (hbW : Below W0.heap.size W0 w)
    (him : i + m ≤ N.length) (hm : 0 < m) (hkn : Ns.length + m ≤ n) (hn : n ≤ 100000) (hN : N.length ≤ 100000) (hsN : (cat N).size ≤ 400000) (hsz : (cat Ns).size ≤ 400000) :
    Calls Yba.prog 29 #[.pointer (some ⟨b, 0, none⟩), .pointer (some ⟨cb, co, none⟩), .int .i64 i, .int .i64 m] w fun e w' => e = .returned (.tuple #[]) ∧ Below b w w' ∧
      CB w' b g n idb (Ns ++ (N.drop i).take m) (Cs ++ (C.drop i).take m) ∧ Tf w w' := by
  obtain ⟨ao, on, oc, ac, cn, cc, h0, h1, h2, h3⟩ := hA
  obtain ⟨hcr, hCN, hor⟩ := h3
  rcases hor with ⟨rfl, _⟩ | ⟨hNe, hor⟩
  · simp at him; omega
  rcases hor with ⟨_, hx⟩ | ⟨og, oo, ocap, e, hog, hoc, hom, hocell⟩
  · exact absurd (congrArg List.length hx) (by simp [u64s, offsL])
  rcases hcr with ⟨_, hx⟩ | ⟨cg, cgo, ccap, e', hcg, hcc, hcm, hccell⟩
  · exact absurd (congrArg List.length hx) (by simp [ints]; intro hC; rw [hC] at hCN; simp at hCN; omega)
  simp only [Value.slice.injEq] at e e'
  obtain ⟨rfl, rfl, rfl⟩ := e
  obtain ⟨rfl, rfl, rfl⟩ := e'
  have hlo : (u64s (offsL N)).length = N.length + 1 := by simp [u64s, offsL]
  have hlc : (ints C).length = N.length := by simp [ints, hCN]
  rw [hlo] at h1 hoc hocell
  rw [hlc] at h2 hcc hccell
  have HK : Hid (∀ w', Below W0.heap.size W0 w' → w'.cell? ⟨cb, co, none⟩ = some (.string (cat N)) ∧ w'.cell? ⟨cb, co + 1, none⟩ = some (.slice (some ⟨og, oo, none⟩) (N.length + 1) oc) ∧ w'.cell? ⟨cb, co + 2, none⟩ = some (.slice (some ⟨cg, cgo, none⟩) N.length cc) ∧
      (∀ j, j ≤ N.length → w'.cell? ⟨og, oo + j, none⟩ = some (.int .u64 ((cat (N.take j)).size : Nat))) ∧ (∀ j, j < N.length → w'.cell? ⟨cg, cgo + j, none⟩ = (ints C)[j]?)) := fun w' hb =>
    ⟨cell_later hb h0, cell_later hb h1, cell_later hb h2, fun j hj => (hb.cell (p := ⟨og, oo + j, none⟩) hog).trans ((hocell j (by omega)).trans (offsL_at N j hj)), fun j hj => (hb.cell (p := ⟨cg, cgo + j, none⟩) hcg).trans (hccell j hj)⟩
  have hcb : cb < W0.heap.size := block_lt_of_cell h0
  have n1 : ¬ b = cb := by omega
  have n2 : ¬ cb = b := by omega
  have n3 : ¬ b = og := by omega
  have n4 : ¬ og = b := by omega
  have n5 : ¬ b = cg := by omega
  have n6 : ¬ cg = b := by omega
  have HL : Hid (C.length = N.length) := hCN
  clear h0 h1 h2 hocell hccell hNe hCN hlo hlc
  have part := cat_part N i (i + m) (by omega) him
  rw [show i + m - i = m from by omega] at part
  have sle := cat_take_le N i (i + m) (by omega)
  have sN1 := cat_take_size N i
  have sN2 := cat_take_size N (i + m)
  obtain ⟨p, buf, hp, hbg, hb, hg, ho, hc, hl⟩ := id h
  have hbl : (Lib.strCells (cat Ns)).length = (cat Ns).size := Lib.strCells_length _
  obtain ⟨ab, cbuf, rfl⟩ : ∃ ab cb, buf = .slice ab (cat Ns).size cb := by
    rcases ho.shape with ⟨rfl, hx⟩ | ⟨gb, cap, rfl, _⟩
    · rw [hx] at hbl; exact ⟨none, 0, by rw [← hbl]; rfl⟩
    · exact ⟨_, _, by rw [hbl]⟩
  have c1 : w.cell? ⟨b, 1, none⟩ = some (.slice ab (cat Ns).size cbuf) := by rw [cell_of_block hb]; rfl
  have c2 : w.cell? ⟨b, 2, none⟩ = some (.slice (some ⟨g, n, none⟩) (Ns.length + 1) (n + 1)) := by rw [cell_of_block hb]; rfl
  obtain ⟨h0, h1, h2, ho', hc'⟩ := HK.out w hbW
  have oi := ho' i (by omega)
  have oim := ho' (i + m) him
  have hm0 : ((m : Int) == 0) = false := by simp; omega
  have HCB : Hid (CB w b g n idb Ns Cs) := h
  have HP := (show Hid _ from part)
  generalize hSi : (cat (N.take i)).size = Si at *
  generalize hSim : (cat (N.take (i + m))).size = Sim at *
  generalize hSNs : (cat Ns).size = SNs at *
  have HSi := (show Hid _ from hSi)
  have HSim := (show Hid _ from hSim)
  have HSNs := (show Hid _ from hSNs)
  have hpos1 : (0 : Int) ≤ i := by omega
  have hpos0 : (0 : Int) ≤ (i : Int) + m := by omega
  have hpos2 : (i : Int) < (N.length : Int) + 1 := by omega
  have hpos3 : (i : Int) + m < (N.length : Int) + 1 := by omega
  have hsl1 : (Si : Int) ≤ Sim := by omega
  have hsl2 : (Sim : Int) ≤ (cat N).size := by omega
  clear h hb hg part hbl hSi hSim hSNs ho' hc' ho
  go_enter Yba.func29, Yba.ntmps29
  go_wp2_with fail
  go_quiet ((go_at_call 44; exact Calls.quiet_of_same (bldLen_any b _ ab SNs cbuf (by go_simp))))
  go_wp2_with fail
  refine wp_region_D [0, 1, 2, 3, 4, 5, 6, 7, 8, 9, 10, 11, 12, 13, 14, 15, 16, 17] [18] 8 (fun w' => w'.cell? ⟨cb, co, none⟩ = some (.string (cat N)) ∧ w'.cell? ⟨cb, co + 1, none⟩ = some (.slice (some ⟨og, oo, none⟩) (N.length + 1) oc) ∧ w'.cell? ⟨og, oo + (i + m), none⟩ = some (.int .u64 Sim))
    (by kernel_rfl) (by kernel_rfl) rfl (by kernel_rfl) (by intro c a w d v h; cases d <;> exact h) (by refine ⟨?_, ?_, ?_⟩ <;> go_simp) ?_
  repeat (refine wpHeadD_step rfl rfl w (fun K' hK' => ⟨?_, fun w' hw' => ?_, ?_⟩); rotate_left; (obtain ⟨d0, d1, d2⟩ := hw'; go_simp; try rfl); (go_simp; try go_bits); (refine hK' _ _ ?_; clear hK' K'))
  refine wpHeadD_nil ?_
  refine wpTailD_lone (by kernel_rfl) rfl rfl (fun K hK => ?_)
  go_simp
  rw [HP.out]
  have hMs : (cat ((N.drop i).take m)).size ≤ 400000 := by rw [← HP.out, ByteArray.size_extract]; omega
  refine (write_CB2 b g n idb (w.drewN (nq + 1)) Ns Cs (cat Ns) (cat ((N.drop i).take m)) HCB.out (by rw [HSNs.out]; omega)).mono ?_
  rintro e w1 ⟨rfl, b1, q1, tf0⟩
  have tf1 : Tf w w1 := (Tf.drewN w _).trans tf0
  clear tf0
  have b1' : Below b w w1 := (below_drewN (Below.refl b w) _).trans b1
  obtain ⟨h0', h1', h2', ho', hc'⟩ := HK.out w1 (hbW.trans (b1'.mono hW))
  clear h0 h1 h2 oi oim c1 c2 HCB b1 hm0
  obtain ⟨p1, buf1, hp1, -, hb1, hg1, ho1, -, -⟩ := q1
  have c2 : w1.cell? ⟨b, 2, none⟩ = some (.slice (some ⟨g, n, none⟩) (Ns.length + 1) (n + 1)) := by rw [cell_of_block hb1]; rfl
  have z2 := frozen_of_block hb1 2
  have HB1 := (show Hid _ from hb1)
  have HG1 := (show Hid _ from hg1)
  have HO' := (show Hid _ from ho')
  have HC' := (show Hid _ from hc')
  clear hb1 hg1 ho' hc'
  go_simp
  refine hK _ _ ?_
  clear hK K
  refine wpTailD_nil ?_
  go_wp2_with fail
  have hMl : ((N.drop i).take m).length = m := by simp; omega
  have seg : ∀ j, j ≤ m → (cat (N.take (i + j))).size = Si + (cat (((N.drop i).take m).take j)).size := by
    intro j hj
    rw [← HSi.out, List.take_add, cat_append, ByteArray.size_append, List.take_take, Nat.min_eq_left hj]
  generalize hM : (N.drop i).take m = M at *
  have HM := (show Hid _ from hM)
  have HSeg := (show Hid _ from seg)
  clear hM seg
  go_loopw [76] (fun v wr => ∃ j : Nat, j ≤ m ∧ v = .int .i64 j ∧ wr.heap[b]? = some (.cells #[p1, buf1, .slice (some ⟨g, n, none⟩) (Ns.length + 1 + m) (n + 1), .slice (some ⟨g, 0, none⟩) n n, .int .i64 idb] 68) ∧
    wr.heap[g]? = some (.cells (laid2 n Cs (Ns ++ M.take j)).toArray 34) ∧ Own wr (g + 1) 5 buf1 (Lib.strCells (cat Ns ++ cat M)) ∧ Below b w wr ∧ Tf w wr) (fun v wr => m - (intOf v).toNat)
  case atStart =>
    refine ⟨0, Nat.zero_le _, rfl, ?_, ?_, ?_, ?_, tf1.trans (Tf.set HB1.out (.inr (.inr rfl)) _ _)⟩
    · exact set_block HB1.out _
    · rw [set_other _ (by omega), HG1.out, laid_laid2 _ _ _ hc]; simp
    · exact ho1.setBelow (by omega) _
    · exact b1'.setCell (Nat.le_refl b) _
  case round =>
    obtain ⟨j, hj, rfl, hb2, hg2, ho2, bw2, tf2⟩ := hrel
    obtain ⟨h0r, h1r, h2r, hor, hcr⟩ := HK.out wr (hbW.trans (bw2.mono hW))
    have c2r : wr.cell? ⟨b, 2, none⟩ = some (.slice (some ⟨g, n, none⟩) (Ns.length + 1 + m) (n + 1)) := by rw [cell_of_block hb2]; rfl
    have HB2 := (show Hid _ from hb2)
    have HG2 := (show Hid _ from hg2)
    by_cases hlt : j < m
    · have hend := hor (i + (j + 1)) (by omega)
      have hsg := HSeg.out (j + 1) (by omega)
      generalize hE : (cat (N.take (i + (j + 1)))).size = E at *
      have HE := (show Hid _ from hE)
      have hEle : E ≤ 400000 := by rw [← hE]; exact Nat.le_trans (cat_take_size N _) hsN
      have hEge : Si ≤ E := by omega
      have HSg := (show Hid _ from hsg)
      rw [show oo + (i + (j + 1)) = oo + (i + 1) + j from by omega] at hend
      have hl2 := laid2_length n Cs (Ns ++ M.take j) (by omega) (by simp [hMl]; omega)
      obtain ⟨x2, hx2⟩ : ∃ x, wr.cell? ⟨g, n + (Ns.length + 1 + j), none⟩ = some x := ⟨_, (cell_of_block hg2 _).trans (Array.getElem?_eq_getElem (by simp; omega))⟩
      have zg2 := frozen_of_block hg2 (n + (Ns.length + 1 + j))
      clear hE hb2 hg2 hor hcr hsg hl2
      have hMj : M.take (j + 1) = M.take j ++ [M[j]] := List.take_succ_eq_append_getElem (by omega)
      have HMj := (show Hid _ from hMj)
      clear hMj
      go_wp2_with fail
      have hA1 : (Ns ++ M.take j).length = Ns.length + j := by simp [hMl]; omega
      have hval : (SNs : Int) + ((E : Int) - Si) = ((cat ((Ns ++ M.take j) ++ [M[j]])).size : Nat) := by
        rw [List.append_assoc, ← HMj.out, cat_append, ByteArray.size_append, HSNs.out, HSg.out]
        omega
      refine ⟨⟨j + 1, by omega, by go_num, (set_other _ (by omega)).trans HB2.out, ?_, ho2.setBelow (by omega) _, bw2.setCell (by show b ≤ g; omega) _, tf2.trans (Tf.set HG2.out (.inr (.inl rfl)) _ _)⟩, by simp [intOf]; omega⟩
      have hof := laid2_off n Cs (Ns ++ M.take j) M[j] (by omega) (by omega)
      rw [set_block HG2.out, hval, HMj.out, ← List.append_assoc, ← hof, hA1, show Ns.length + 1 + j = Ns.length + j + 1 from by omega]
      simp
    · obtain rfl : j = m := by omega
      have c3r : wr.cell? ⟨b, 3, none⟩ = some (.slice (some ⟨g, 0, none⟩) n n) := by rw [cell_of_block hb2]; rfl
      have i1 : (0 : Int) ≤ Ns.length := by omega
      have i2 : (Ns.length : Int) ≤ Ns.length + j := by omega
      have i3 : (Ns.length : Int) + j ≤ n := by omega
      have i4 : ¬ n = Ns.length := by omega
      have i5 : (i : Int) ≤ i + j := by omega
      have i6 : (i : Int) + j ≤ cc := by omega
      have i7 : ¬ cc = i := by omega
      have hCl0 : ((C.drop i).take j).length = j := by simp [HL.out]; omega
      have hget0 : ∀ t, t < j → (ints ((C.drop i).take j))[t]? = (ints C)[i + t]? := by
        intro t ht
        simp [ints, ht]
      obtain ⟨Cm, hCm⟩ : ∃ x, x = (C.drop i).take j := ⟨_, rfl⟩
      rw [← hCm] at hCl0 hget0
      have HCm := (show Hid _ from hCm)
      have hil := ints_len Cm
      clear hCm
      have hcs : ∀ t v, (ints Cm)[t]? = some v → wr.drew.cell? ((⟨cg, cgo + i, none⟩ : Addr).add t) = some v := by
        intro t v hv
        have ht : t < j := by
          have := (List.getElem?_eq_some_iff.1 hv).1
          omega
        rw [Addr.add_lit, Nat.add_assoc]
        show wr.cell? ⟨cg, cgo + (i + t), none⟩ = some v
        rw [hcr (i + t) (by omega), ← hv, hget0 t ht]
      have hl2 := laid2_length n Cs (Ns ++ M.take j) (by omega) (by simp [hMl]; omega)
      have hcp := run_copy_row (P := Yba.prog) wr.drew 25 25 3 34 g Ns.length j (n - Ns.length) ⟨cg, cgo + i, none⟩ j (cc - i) (laid2 n Cs (Ns ++ M.take j)).toArray 34 (ints Cm) Yba.underlying25 (by kernel_rfl) hg2
        (by rw [hil, hCl0]; exact (Nat.min_self j).symm) hcs (by rw [hil, hCl0, List.size_toArray, hl2]; omega) (ints_oneCell .u64 _)
      clear hget0 hl2
      have HCP := (show Hid _ from hcp)
      clear hor hcr hb2 hg2 hcp hcs
      go_wp2_with fail
      refine wp_region_D [0, 1, 2, 3, 4, 5, 6, 7, 8, 9, 10, 11, 12, 13, 14, 15, 16, 17] [18] 8 (fun w' => w'.cell? ⟨b, 3, none⟩ = some (.slice (some ⟨g, 0, none⟩) n n) ∧ w'.cell? ⟨cb, co + 2, none⟩ = some (.slice (some ⟨cg, cgo, none⟩) N.length cc))
        (by kernel_rfl) (by kernel_rfl) rfl (by kernel_rfl) (by intro c a w d v h; cases d <;> exact h) (by refine ⟨?_, ?_⟩ <;> go_simp) ?_
      repeat (refine wpHeadD_step rfl rfl w (fun K' hK' => ⟨?_, fun w' hw' => ?_, ?_⟩); rotate_left; (obtain ⟨d0, d1⟩ := hw'; go_simp; try rfl); (go_simp; try go_bits); (refine hK' _ _ ?_; clear hK' K'))
      refine wpHeadD_nil ?_
      refine wpTailD_lone (by kernel_rfl) rfl rfl (fun K hK => ?_)
      go_simp
      rw [HCP.out]
      simp only [Result.andThen]
      rw [Oper.upon_value]
      refine hK _ _ ?_
      clear hK K
      refine wpTailD_nil ?_
      go_wp2
      go_end0
      have hMt : M.take j = M := List.take_of_length_le (by omega)
      refine ⟨rfl, below_setRow (bw2.drew) (by omega) _, ⟨p1, buf1, hp1, hbg, ?_, ?_, ?_, ?_, ?_⟩, (tf2.trans (Tf.drewN wr 1)).trans (Tf.setRow (show wr.drew.heap[g]? = _ from HG2.out) (.inr (.inl rfl)) _)⟩
      · rw [setRow_other _ _ _ _ (by omega), show wr.drew.heap[b]? = _ from HB2.out, HM.out]
        simp [hMl]
        omega
      · rw [setRow_heap _ _ _ _ _ _ (show wr.drew.heap[g]? = _ from HG2.out), HM.out, ← HCm.out, laid_laid2 _ _ _ (by simp [hc, hMl, hCl0]), ← hc]
        have := laid2_copy n Cs Cm (Ns ++ M.take j) (by omega)
        rw [hMt] at this ⊢
        rw [← this, hil, hCl0, List.append_assoc]
      · rw [HM.out, cat_append]
        exact ho2.keptIn (b := b) (B := 0) (by omega) (fun k hk _ => (setRow_other _ _ _ _ (by omega)))
      · rw [HM.out, ← HCm.out]; simp [hc, hCl0, hMl]
      · rw [HM.out]; simp [hMl]; omega

theorem copyNodes2_any (b g n idb cb co i m : Nat) (w W0 : World) (Ns N : List ByteArray) (Cs C : List Int) (h : CB w b g n idb Ns Cs) (hA : ClkAt W0 cb co N C) (hW : W0.heap.size ≤ b) (hbW : Below W0.heap.size W0 w)
    (him : i + m ≤ N.length) (hkn : Ns.length + m ≤ n) (hn : n ≤ 100000) (hN : N.length ≤ 100000) (hsN : (cat N).size ≤ 400000) (hsz : (cat Ns).size ≤ 400000) :
    Calls Yba.prog 29 #[.pointer (some ⟨b, 0, none⟩), .pointer (some ⟨cb, co, none⟩), .int .i64 i, .int .i64 m] w fun e w' => e = .returned (.tuple #[]) ∧ Below b w w' ∧
      CB w' b g n idb (Ns ++ (N.drop i).take m) (Cs ++ (C.drop i).take m) ∧ Tf w w' := by
  by_cases hm : 0 < m
  · exact copyNodes2_some b g n idb cb co i m w W0 Ns N Cs C h hA hW hbW him hm hkn hn hN hsN hsz
  · obtain rfl : m = 0 := by omega
    refine (copyNodes_none b _ i w).mono ?_
    rintro e w' ⟨rfl, rfl⟩
    exact ⟨rfl, Below.refl _ _, by simpa using h, Tf.refl _⟩
end Go.Proofs.Ybulkgey
