/- clock, with. -/
import Derived.Test.YbulkgeyBCopy
namespace Go.Proofs.Ybulkgey
open Go.RowKit
set_option linter.unusedVariables false
set_option linter.unusedSimpArgs false

set_option maxHeartbeats 400000 in
set_option maxRecDepth 100000 in
theorem clock_any (b g n : Nat) (w : World) (Ns : List ByteArray) (Cs : List Int) (h : CB w b g n (cat Ns).size Ns Cs) (hn0 : 1 ≤ n) (hn : n ≤ 100000) (hNs : Ns.length = n) (hsz : (cat Ns).size ≤ 1000000) :
    Calls Yba.prog 31 #[.pointer (some ⟨b, 0, none⟩)] w fun e w' => e = .returned (.agg #[.string (cat Ns), .slice (some ⟨g, n, none⟩) (n + 1) (n + 1), .slice (some ⟨g, 0, none⟩) n n]) ∧ Below b w w' ∧
      w'.heap[g]? = some (.cells (laid n Ns Cs).toArray 34) := by
  obtain ⟨p, buf, hp, hbg, hb, hg, ho, hc, hl⟩ := h
  rw [hNs] at hb
  have hbl : (Lib.strCells (cat Ns)).length = (cat Ns).size := Lib.strCells_length _
  obtain ⟨ab, cbuf, rfl⟩ : ∃ ab cb, buf = .slice ab (cat Ns).size cb := by
    rcases ho.shape with ⟨rfl, hx⟩ | ⟨gb, cap, rfl, _⟩
    · rw [hx] at hbl; exact ⟨none, 0, by rw [← hbl]; rfl⟩
    · exact ⟨_, _, by rw [hbl]⟩
  have c1 : w.cell? ⟨b, 1, none⟩ = some (.slice ab (cat Ns).size cbuf) := by rw [cell_of_block hb]; rfl
  have c2 : w.cell? ⟨b, 2, none⟩ = some (.slice (some ⟨g, n, none⟩) (n + 1) (n + 1)) := by rw [cell_of_block hb]; rfl
  have c3 : w.cell? ⟨b, 3, none⟩ = some (.slice (some ⟨g, 0, none⟩) n n) := by rw [cell_of_block hb]; rfl
  have c4 : w.cell? ⟨b, 4, none⟩ = some (.int .i64 (cat Ns).size) := by rw [cell_of_block hb]; rfl
  have hlt : b < w.heap.size := block_lt hb
  have hgt : g < w.heap.size := block_lt hg
  have HS : Hid (∀ W : World, W.heap[b]? = w.heap[b]? → Own W (g + 1) 5 (.slice ab (cat Ns).size cbuf) (Lib.strCells (cat Ns)) → g + 1 ≤ W.heap.size → Calls Yba.prog 47 #[.pointer (some ⟨b, 0, none⟩)] W fun e w' => e = .returned (.string (cat Ns)) ∧ W.grownBy w' (Value.ownBlock (.slice ab (cat Ns).size cbuf))) :=
    fun W h1 h2 h3 => bString_any b (g + 1) W p _ _ _ _ (cat Ns) (h1.trans hb) h2 (by omega) h3 hsz
  have HG := (show Hid _ from hg)
  have HB := (show Hid _ from hb)
  have hn1 : ((n : Int) == 0) = false := by simp; omega
  generalize hS : cat Ns = S at *
  clear hb hg hbl hS
  go_enter Yba.func31, Yba.ntmps31
  go_wp2_with fail
  go_quiet ((go_at_call 44; exact Calls.quiet_of_same (bldLen_any b _ ab S.size cbuf (by go_simp))))
  go_wp2_with fail
  refine wp_region_D [0, 1, 2, 4, 5, 6, 7, 8, 9, 10, 11] [3, 12, 13] 8 (fun w' => w'.cell? ⟨b, 2, none⟩ = some (.slice (some ⟨g, n, none⟩) (n + 1) (n + 1)) ∧ w'.cell? ⟨b, 3, none⟩ = some (.slice (some ⟨g, 0, none⟩) n n))
    (by kernel_rfl) (by kernel_rfl) rfl (by kernel_rfl) (by intro c a w d v h; cases d <;> exact h) (by refine ⟨?_, ?_⟩ <;> go_simp) ?_
  repeat (refine wpHeadD_step rfl rfl w (fun K' hK' => ⟨?_, fun w' hw' => ?_, ?_⟩); rotate_left; (obtain ⟨d0, d1⟩ := hw'; go_simp; try rfl); (go_simp; try go_bits); (refine hK' _ _ ?_; clear hK' K'))
  refine wpHeadD_nil ?_
  refine wpTailD_cons rfl rfl (fun K hK => ?_)
  go_simp
  have hbl1 : Below w.heap.size w ((w.alloc (.cells #[.string ⟨#[]⟩, .slice none 0 0, .slice none 0 0] 27)).drewN (nq + 1)) := below_drewN (below_alloc w _ _ (Nat.le_refl _)) _
  have hres : ((w.alloc (.cells #[.string ⟨#[]⟩, .slice none 0 0, .slice none 0 0] 27)).drewN (nq + 1)).heap[w.heap.size]? = some (.cells #[.string ⟨#[]⟩, .slice none 0 0, .slice none 0 0] 27) := Go.heap_alloc_new w _
  have hs1 : w.heap.size + 1 ≤ ((w.alloc (.cells #[.string ⟨#[]⟩, .slice none 0 0, .slice none 0 0] 27)).drewN (nq + 1)).heap.size := by simp
  generalize ((w.alloc (.cells #[.string ⟨#[]⟩, .slice none 0 0, .slice none 0 0] 27)).drewN (nq + 1)) = W at *
  refine (HS.out W (hbl1.block b hlt) ?_ (by omega)).mono ?_
  · exact ho.keptIn (b := b) (B := 0) (by omega) (fun k _ hk => hbl1.block k hk)
  rintro e w1 ⟨rfl, gr2⟩
  have hobk : ∀ k, Value.ownBlock (.slice ab S.size cbuf) = some k → g + 1 ≤ k ∧ k < w.heap.size := fun k hk => World.ownsRow.lt ho k hk
  have bl2 : Below (g + 1) W w1 := (Below.refl _ W).grown gr2 (by omega) (fun k hk => (hobk k hk).1)
  have hres1 : w1.heap[w.heap.size]? = _ := (gr2.block w.heap.size (by omega) (fun e => by have := hobk _ e.symm; omega)).trans hres
  have d2 : w1.cell? ⟨b, 2, none⟩ = _ := later bl2 (by show b < g + 1; omega) (later hbl1 hlt c2)
  have d3 : w1.cell? ⟨b, 3, none⟩ = _ := later bl2 (by show b < g + 1; omega) (later hbl1 hlt c3)
  have r0 : w1.cell? ⟨w.heap.size, 0, none⟩ = some (.string ⟨#[]⟩) := cell_of_block hres1 0
  have r1 : w1.cell? ⟨w.heap.size, 1, none⟩ = some (.slice none 0 0) := cell_of_block hres1 1
  have r2 : w1.cell? ⟨w.heap.size, 2, none⟩ = some (.slice none 0 0) := cell_of_block hres1 2
  have z0 := frozen_of_block hres1 0
  have z1 := frozen_of_block hres1 1
  have z2 := frozen_of_block hres1 2
  have hg1 := (bl2.block g (by omega)).trans ((hbl1.block g hgt).trans HG.out)
  have HG1 := (show Hid _ from hg1)
  have hb1 : Below b w w1 := (hbl1.mono (by omega)).trans (bl2.mono (by omega))
  clear hg1 hres hres1 hobk gr2 hs1 c1 c2 c3 c4
  go_simp
  refine hK _ _ (fun _ => ⟨d2, d3⟩) ?_
  clear hK K
  refine wpTailD_lone (by kernel_rfl) rfl rfl (fun K hK => ?_)
  go_simp
  refine hK _ _ ?_
  clear hK K
  refine wpTailD_lone (by kernel_rfl) rfl rfl (fun K hK => ?_)
  go_simp
  refine hK _ _ ?_
  clear hK K
  refine wpTailD_nil ?_
  go_wp2
  refine bodyPost_ret (v := .agg #[.string S, .slice (some ⟨g, n, none⟩) (n + 1) (n + 1), .slice (some ⟨g, 0, none⟩) n n]) (by simp [results, Yba.results31, go_sem, r0, r1, r2]) rfl ?_
  refine ⟨rfl, ?_, ?_⟩
  · exact ((hb1.setCell (by show b ≤ w.heap.size; omega) _).setCell (by show b ≤ w.heap.size; omega) _).setCell (by show b ≤ w.heap.size; omega) _
  · rw [set_other _ (by omega), set_other _ (by omega), set_other _ (by omega)]
    exact HG1.out

theorem hid {p : Prop} (h : p) : Hid p := h
theorem clk_of_laid (w : World) (g n : Nat) (Ns : List ByteArray) (Cs : List Int) (hg : w.heap[g]? = some (.cells (laid n Ns Cs).toArray 34)) (hn : Ns.length = n) (hc : Cs.length = Ns.length) (h1 : 1 ≤ n) (h2 : n ≤ 100000) :
    Clk w (.slice (some ⟨g, n, none⟩) (n + 1) (n + 1)) (.slice (some ⟨g, 0, none⟩) n n) Ns Cs := by
  have e : laid n Ns Cs = ints Cs ++ u64s (offsL Ns) := by simp [laid, hn, zs]
  have l1 : (ints Cs).length = n := by rw [ints_len]; omega
  have l2 : (u64s (offsL Ns)).length = n + 1 := by simp [u64s, offsL, hn]
  rw [e] at hg
  refine ⟨.inr ⟨g, 0, n, by rw [l1], block_lt hg, by omega, by unfold maxLen; omega, fun j hj => ?_⟩, hc, .inr ⟨by intro h; rw [h] at hn; simp at hn; omega, .inr ⟨g, n, n + 1, by rw [l2], block_lt hg, by omega, by unfold maxLen; omega, fun j hj => ?_⟩⟩⟩
  · rw [cell_of_block hg]
    simp only [Nat.zero_add, List.getElem?_toArray]
    rw [List.getElem?_append_left hj]
  · rw [cell_of_block hg]
    simp only [List.getElem?_toArray]
    rw [List.getElem?_append_right (by omega), l1]
    congr 1
    omega

def withN (N : List ByteArray) (node : ByteArray) : List ByteArray := if N[idx N node]? = some node then N else N.take (idx N node) ++ [node] ++ N.drop (idx N node)
def withC (N : List ByteArray) (C : List Int) (node : ByteArray) (n : Int) : List Int := if N[idx N node]? = some node then C.set (idx N node) n else C.take (idx N node) ++ [n] ++ C.drop (idx N node)

theorem idx_le (N : List ByteArray) (node : ByteArray) : idx N node ≤ N.length := by unfold idx; exact (List.takeWhile_sublist _).length_le

set_option maxHeartbeats 400000 in
set_option maxRecDepth 100000 in
theorem with_any (w : World) (ao ac : Option Addr) (on oc cn cc : Nat) (N : List ByteArray) (C : List Int) (h : Clk w (.slice ao on oc) (.slice ac cn cc) N C) (node : ByteArray) (n : Int) (hs : (cat N).size ≤ 100000) (hN : N.length ≤ 10000) (hnode : node.size ≤ 100000)
    (hso : ∀ j (hj : j < N.length), lessB N[j] node = decide (j < idx N node)) :
    Calls Yba.prog 16 #[.agg #[.string (cat N), .slice ao on oc, .slice ac cn cc], .string node, .int .u64 n] w fun e w' => ∃ offs ctrs, e = .returned (.agg #[.string (cat (withN N node)), offs, ctrs]) ∧ Clk w' offs ctrs (withN N node) (withC N C node n) ∧ Below w.heap.size w w' := by
  have hcn := h.len
  have hCN := h.2.1
  have hA : ClkAt (w.alloc (.cells #[.string (cat N), .slice ao on oc, .slice ac cn cc] 27)) w.heap.size 0 N C :=
    ⟨ao, on, oc, ac, cn, cc, by simp, by simp, by simp, h.below (below_alloc w _ _ (Nat.le_refl _))⟩
  have hidx := idx_le N node
  have hF := find_any ((w.alloc (.cells #[.string (cat N), .slice ao on oc, .slice ac cn cc] 27)).alloc (.cells #[.string ⟨#[]⟩, .slice none 0 0, .slice none 0 0] 27)) w.heap.size 0 N C (hA.below (below_alloc _ _ _ (Nat.le_refl _))) node (by omega) (by omega) hso
  have hbx : ((w.alloc (.cells #[.string (cat N), .slice ao on oc, .slice ac cn cc] 27)).alloc (.cells #[.string ⟨#[]⟩, .slice none 0 0, .slice none 0 0] 27)).heap[w.heap.size]? = some (.cells #[.string (cat N), .slice ao on oc, .slice ac cn cc] 27) := (Go.heap_alloc_old _ _ (by simp)).trans (Go.heap_alloc_new _ _)
  have hrs : ((w.alloc (.cells #[.string (cat N), .slice ao on oc, .slice ac cn cc] 27)).alloc (.cells #[.string ⟨#[]⟩, .slice none 0 0, .slice none 0 0] 27)).heap[w.heap.size + 1]? = some (.cells #[.string ⟨#[]⟩, .slice none 0 0, .slice none 0 0] 27) := heap_new_at _ _ (by simp)
  have hsz2 : ((w.alloc (.cells #[.string (cat N), .slice ao on oc, .slice ac cn cc] 27)).alloc (.cells #[.string ⟨#[]⟩, .slice none 0 0, .slice none 0 0] 27)).heap.size = w.heap.size + 2 := by simp
  have hb2 : Below w.heap.size w ((w.alloc (.cells #[.string (cat N), .slice ao on oc, .slice ac cn cc] 27)).alloc (.cells #[.string ⟨#[]⟩, .slice none 0 0, .slice none 0 0] 27)) := by go_grown
  have hA2 := hA.below (below_alloc _ (.cells #[.string ⟨#[]⟩, .slice none 0 0, .slice none 0 0] 27) _ (Nat.le_refl _))
  have HA := hid hA2
  have H := hid h
  have HCN := hid hCN
  subst hcn
  clear h hso hCN hA hA2
  go_enter Yba.func16, Yba.ntmps16
  go_wp2_with fail
  generalize ((w.alloc (.cells #[.string (cat N), .slice ao on oc, .slice ac N.length cc] 27)).alloc (.cells #[.string ⟨#[]⟩, .slice none 0 0, .slice none 0 0] 27)) = W2 at *
  refine Calls.mono hF ?_
  rintro e w1 ⟨rfl, b1⟩
  have x0 : w1.cell? ⟨w.heap.size, 0, none⟩ = some (.string (cat N)) := (cell_of_block ((b1.block _ (by omega)).trans hbx) 0)
  have x1 : w1.cell? ⟨w.heap.size, 1, none⟩ = some (.slice ao on oc) := (cell_of_block ((b1.block _ (by omega)).trans hbx) 1)
  have x2 : w1.cell? ⟨w.heap.size, 2, none⟩ = some (.slice ac N.length cc) := (cell_of_block ((b1.block _ (by omega)).trans hbx) 2)
  have hrs1 := (b1.block _ (by omega)).trans hrs
  have hb1 : Below w.heap.size w w1 := hb2.trans (b1.mono (by omega))
  have hA1 := HA.out.below b1
  have HA1 := hid hA1
  have hs1 : w.heap.size + 2 ≤ w1.heap.size := by have := b1.size; omega
  have HR1 := hid hrs1
  clear hF hrs hrs1 hbx HA hA1 hb2
  by_cases hfound : N[idx N node]? = some node
  · have hd : decide (N[idx N node]? = some node) = true := by simpa using hfound
    have hlt : idx N node < N.length := by
      rcases Nat.lt_or_ge (idx N node) N.length with h' | h'
      · exact h'
      · rw [List.getElem?_eq_none h'] at hfound; cases hfound
    have HFD := hid hfound
    rw [hd]
    clear hfound hd
    have hcl := clone_any w1 (.slice ac N.length cc) C (H.out.1.below hb1) (by rw [HCN.out]; omega)
    go_wp2_with fail
    refine hcl.mono ?_
    rintro e w2 ⟨v2, rfl, o2, b2⟩
    clear hcl
    have hlC : (ints C).length = N.length := by rw [ints_len]; exact HCN.out
    rcases o2.shape with ⟨rfl, hx⟩ | ⟨g2, cap2, rfl, hg1, hg2, hc1, hc2, hcell⟩
    · exact absurd (congrArg List.length hx) (by rw [hlC]; show ¬ N.length = 0; omega)
    have o3 := (World.ownsRow.stored o2 (idx N node) (.int .u64 n)).1
    have zf := World.ownsRow.frozenAt o2 (idx N node)
    have hxs : (ints C).set (idx N node) (.int .u64 n) = ints (C.set (idx N node) n) := by simp [ints, List.map_set]
    rw [hxs] at o3
    rw [hlC] at o3 hcell ⊢
    obtain ⟨y, hy⟩ : ∃ y, w2.cell? ⟨g2, idx N node, none⟩ = some y := ⟨_, (hcell _ hlt).trans (List.getElem?_eq_getElem (by omega))⟩
    have y0 := later b2 (by show w.heap.size < _; omega) x0
    have y1 := later b2 (by show w.heap.size < _; omega) x1
    have hrs2 := (b2.block _ (by omega)).trans HR1.out
    have r0 : w2.cell? ⟨w.heap.size + 1, 0, none⟩ = some (.string ⟨#[]⟩) := cell_of_block hrs2 0
    have r1 : w2.cell? ⟨w.heap.size + 1, 1, none⟩ = some (.slice none 0 0) := cell_of_block hrs2 1
    have r2 : w2.cell? ⟨w.heap.size + 1, 2, none⟩ = some (.slice none 0 0) := cell_of_block hrs2 2
    have z0 := frozen_of_block hrs2 0
    have z1 := frozen_of_block hrs2 1
    have z2 := frozen_of_block hrs2 2
    have n1 : ¬ g2 = w.heap.size := by omega
    have n2 : ¬ w.heap.size = g2 := by omega
    have n3 : ¬ g2 = w.heap.size + 1 := by omega
    have n4 : ¬ w.heap.size + 1 = g2 := by omega
    have O3 := hid o3
    clear o3 o2 hcell hxs hrs2 x0 x1 x2
    go_wp2_with fail
    refine bodyPost_ret (v := .agg #[.string (cat N), .slice ao on oc, .slice (some ⟨g2, 0, none⟩) N.length cap2]) (by simp [results, Yba.results16, go_sem, r0, r1, r2]) rfl ?_
    have hwN : withN N node = N := by unfold withN; rw [if_pos HFD.out]
    have hwC : withC N C node n = C.set (idx N node) n := by unfold withC; rw [if_pos HFD.out]
    rw [hwN, hwC]
    have bl : Below w.heap.size w (w2.setCell ⟨g2, idx N node, none⟩ (.int .u64 n)) := (hb1.trans (b2.mono (by omega))).setCell (by show w.heap.size ≤ g2; omega) _
    refine ⟨_, _, rfl, ?_, ((bl.setCell (by show _ ≤ w.heap.size + 1; omega) _).setCell (by show _ ≤ w.heap.size + 1; omega) _).setCell (by show _ ≤ w.heap.size + 1; omega) _⟩
    have o4 : Own (w2.setCell ⟨g2, idx N node, none⟩ (.int .u64 n)) w1.heap.size 34 (.slice (some ⟨g2, 0, none⟩) N.length cap2) (ints (C.set (idx N node) n)) := by
      unfold Own
      rw [ints_len, List.length_set, HCN.out]
      exact O3.out
    refine ⟨?_, by rw [List.length_set]; exact HCN.out, ?_⟩
    · refine o4.row_keep (by simp) (fun k k1 _ => ?_)
      rw [set_other _ (by omega), set_other _ (by omega), set_other _ (by omega)]
    · rcases H.out.2.2 with hh | ⟨h1, h2⟩
      · exact .inl hh
      · refine .inr ⟨h1, (h2.below (((bl.setCell (by show _ ≤ w.heap.size + 1; omega) _).setCell (by show _ ≤ w.heap.size + 1; omega) _).setCell (by show _ ≤ w.heap.size + 1; omega) _))⟩
  · have hd : decide (N[idx N node]? = some node) = false := by simpa using hfound
    have HFD := hid hfound
    rw [hd]
    clear hfound hd
    go_wp2_with fail
    have hbb : (w1.alloc (.cells #[.pointer none, .slice none 0 0, .slice none 0 0, .slice none 0 0, .int .i64 0] 68)).heap[w1.heap.size]? = some (.cells #[.pointer none, .slice none 0 0, .slice none 0 0, .slice none 0 0, .int .i64 0] 68) := Go.heap_alloc_new _ _
    have bA : Below w1.heap.size w1 (w1.alloc (.cells #[.pointer none, .slice none 0 0, .slice none 0 0, .slice none 0 0, .int .i64 0] 68)) := below_alloc _ _ _ (Nat.le_refl _)
    have hsA : (w1.alloc (.cells #[.pointer none, .slice none 0 0, .slice none 0 0, .slice none 0 0, .int .i64 0] 68)).heap.size = w1.heap.size + 1 := by simp
    generalize (w1.alloc (.cells #[.pointer none, .slice none 0 0, .slice none 0 0, .slice none 0 0, .int .i64 0] 68)) = wA at *
    have t0 := later bA (by show w.heap.size < _; omega) x0
    have t1 := later bA (by show w.heap.size < _; omega) x1
    have t2 := later bA (by show w.heap.size < _; omega) x2
    refine wp_region_D [0, 3, 4, 5, 6, 7, 8] [1, 2, 9] 8 (fun w' => w'.cell? ⟨w.heap.size, 0, none⟩ = some (.string (cat N)) ∧ w'.cell? ⟨w.heap.size, 1, none⟩ = some (.slice ao on oc) ∧ w'.cell? ⟨w.heap.size, 2, none⟩ = some (.slice ac N.length cc))
      (by kernel_rfl) (by kernel_rfl) rfl (by kernel_rfl) (by intro c a w d v h; cases d <;> exact h) (by refine ⟨?_, ?_, ?_⟩ <;> go_simp) ?_
    repeat (refine wpHeadD_step rfl rfl w (fun K' hK' => ⟨?_, fun w' hw' => ?_, ?_⟩); rotate_left; (obtain ⟨d0, d1, d2⟩ := hw'; go_simp; try rfl); (go_simp; try go_bits); (refine hK' _ _ ?_; clear hK' K'))
    refine wpHeadD_nil ?_
    refine wpTailD_cons rfl rfl (fun K hK => ?_)
    go_simp
    refine (len_any _ _ _ _ _ _ _ _).mono ?_
    rintro e w3 ⟨rfl, b3⟩
    have b3' : Below (w1.heap.size + 1) wA w3 := (below_drewN (Below.refl _ wA) 1).trans (b3.mono (by show _ ≤ wA.heap.size; omega))
    have u0 := later b3' (by show w.heap.size < _; omega) t0
    have u1 := later b3' (by show w.heap.size < _; omega) t1
    have u2 := later b3' (by show w.heap.size < _; omega) t2
    have hbb3 := (b3'.block _ (by omega)).trans hbb
    have bl3 : Below w1.heap.size w1 w3 := bA.trans (b3'.mono (by omega))
    clear t0 t1 t2 hbb b3 b3' bA hsA
    go_simp
    refine hK _ _ (fun _ => ⟨u0, u1, u2⟩) ?_
    clear hK K
    refine wpTailD_cons rfl rfl (fun K hK => ?_)
    go_simp
    try go_bits
    refine hK _ _ (fun _ => ⟨u0, u1, u2⟩) ?_
    clear hK K
    refine wpTailD_lone (by kernel_rfl) rfl rfl (fun K hK => ?_)
    go_simp
    have hg4 := grow_any w1.heap.size (N.length + 1) ((cat N).size + node.size) w3 hbb3 (by omega) (by omega) (by omega)
    rw [show ((N.length + 1 : Nat) : Int) = (N.length : Int) + 1 from by omega, show (((cat N).size + node.size : Nat) : Int) = ((cat N).size : Int) + (node.size : Int) from by omega] at hg4
    refine hg4.mono ?_
    rintro e w4 ⟨rfl, b4, g, hg, cb4⟩
    have bl4 := bl3.trans b4
    clear hg4 hbb3 u0 u1 u2 b4
    go_simp
    refine hK _ _ ?_
    clear hK K
    refine wpTailD_nil ?_
    go_wp2_with fail
    have hc5 := copyNodes_any w1.heap.size g (N.length + 1) _ w.heap.size 0 0 (idx N node) w4 w1 [] N [] C cb4 HA1.out (Nat.le_refl _) bl4 (by omega) (by simp; omega) (by omega) (by omega) (by omega) (by simp [cat])
    refine hc5.mono ?_
    rintro e w5 ⟨rfl, b5, cb5⟩
    have bl5 := bl4.trans b5
    clear hc5 cb4 b5 bl4
    simp only [List.drop_zero, List.nil_append] at cb5
    have hstk := cat_take_size N (idx N node)
    go_wp2_with fail
    have hc6 := add_any w1.heap.size g (N.length + 1) _ w5 _ _ node n cb5 (by simp; omega) (by omega) (by rw [cat_snoc, ByteArray.size_append]; omega)
    refine hc6.mono ?_
    rintro e w6 ⟨rfl, b6, cb6⟩
    have bl6 := bl5.trans b6
    clear hc6 cb5 b6 bl5
    have q0 := later bl6 (by show w.heap.size < _; omega) x0
    have q1 := later bl6 (by show w.heap.size < _; omega) x1
    have q2 := later bl6 (by show w.heap.size < _; omega) x2
    go_wp2_with fail
    refine (len_any _ _ _ _ _ _ _ _).mono ?_
    rintro e w7 ⟨rfl, b7⟩
    have cb7 : CB w7 w1.heap.size g (N.length + 1) ((cat N).size + node.size) (N.take (idx N node) ++ [node]) (C.take (idx N node) ++ [n]) := by
      obtain ⟨p, buf, hp, hbg, hb, hgg, ho, hc, hl⟩ := cb6
      exact ⟨p, buf, hp, hbg, (b7.block _ (block_lt hb)).trans hb, (b7.block _ (block_lt hgg)).trans hgg, ho.keptIn (b := 0) (B := 0) (by omega) (fun k _ hk => b7.block k hk), hc, hl⟩
    have bl7 : Below w1.heap.size w1 w7 := bl6.trans (b7.mono bl6.size)
    clear cb6 b7 q0 q1 q2 bl6
    go_wp2_with fail
    have hc8 := copyNodes_any w1.heap.size g (N.length + 1) _ w.heap.size 0 (idx N node) (N.length - idx N node) w7 w1 _ N _ C cb7 HA1.out (Nat.le_refl _) bl7 (by omega) (by simp; omega) (by omega) (by omega) (by omega) (by rw [cat_snoc, ByteArray.size_append]; omega)
    rw [show ((N.length - idx N node : Nat) : Int) = (N.length : Int) - (idx N node : Int) from by omega] at hc8
    refine hc8.mono ?_
    rintro e w8 ⟨rfl, b8, cb8⟩
    have bl8 := bl7.trans b8
    clear hc8 cb7 b8 bl7
    have hN' : N.take (idx N node) ++ [node] ++ (N.drop (idx N node)).take (N.length - idx N node) = withN N node := by
      unfold withN
      rw [if_neg HFD.out, List.take_of_length_le (l := N.drop (idx N node)) (by simp)]
    have hC' : C.take (idx N node) ++ [n] ++ (C.drop (idx N node)).take (N.length - idx N node) = withC N C node n := by
      unfold withC
      rw [if_neg HFD.out, List.take_of_length_le (l := C.drop (idx N node)) (by simp [HCN.out])]
    rw [hN', hC'] at cb8
    have hsz8 : (cat (withN N node)).size = (cat N).size + node.size := by
      have := congrArg (fun l => (cat l).size) (List.take_append_drop (idx N node) N)
      simp only [cat_append, ByteArray.size_append] at this
      unfold withN
      rw [if_neg HFD.out, cat_append, cat_append, ByteArray.size_append, ByteArray.size_append, cat_one]
      omega
    have hl8 : (withN N node).length = N.length + 1 := by
      unfold withN
      rw [if_neg HFD.out]
      simp
      omega
    have hlc8 : (withC N C node n).length = (withN N node).length := by
      rw [hl8]
      unfold withC
      rw [if_neg HFD.out]
      have := HCN.out
      simp
      omega
    rw [← hsz8] at cb8
    generalize hNe : withN N node = N' at *
    generalize hCe : withC N C node n = C' at *
    have HNe := hid hNe
    have HCe := hid hCe
    clear hNe hCe
    have h9 := clock_any w1.heap.size g (N.length + 1) w8 N' C' cb8 (by omega) (by omega) hl8 (by omega)
    have Hsz8 := hid hsz8
    have HN' := hid hN'
    have HC' := hid hC'
    have Hl8 := hid hl8
    have Hlc8 := hid hlc8
    clear hsz8 hN' hC' hl8 hlc8 cb8
    go_wp2_with fail
    refine h9.mono ?_
    rintro e w9 ⟨rfl, b9, hg9⟩
    have bl9 := bl8.trans b9
    have hrs9 := (bl9.block _ (by omega)).trans HR1.out
    have r0 : w9.cell? ⟨w.heap.size + 1, 0, none⟩ = some (.string ⟨#[]⟩) := cell_of_block hrs9 0
    have r1 : w9.cell? ⟨w.heap.size + 1, 1, none⟩ = some (.slice none 0 0) := cell_of_block hrs9 1
    have r2 : w9.cell? ⟨w.heap.size + 1, 2, none⟩ = some (.slice none 0 0) := cell_of_block hrs9 2
    have z0 := frozen_of_block hrs9 0
    have z1 := frozen_of_block hrs9 1
    have z2 := frozen_of_block hrs9 2
    have HG9 := hid hg9
    clear hg9 hrs9 h9 b9 bl8
    go_wp2_with fail
    refine bodyPost_ret (v := .agg #[.string (cat N'), .slice (some ⟨g, N.length + 1, none⟩) (N.length + 1 + 1) (N.length + 1 + 1), .slice (some ⟨g, 0, none⟩) (N.length + 1) (N.length + 1)]) (by simp [results, Yba.results16, go_sem, r0, r1, r2]) rfl ?_
    have bl : Below w.heap.size w w9 := hb1.trans (bl9.mono (by omega))
    rw [HNe.out, HCe.out]
    refine ⟨_, _, rfl, clk_of_laid _ g (N.length + 1) N' C' ?_ Hl8.out Hlc8.out (by omega) (by omega), ((bl.setCell (by show _ ≤ w.heap.size + 1; omega) _).setCell (by show _ ≤ w.heap.size + 1; omega) _).setCell (by show _ ≤ w.heap.size + 1; omega) _⟩
    have hgb : w1.heap.size ≤ g := by have := bl3.size; omega
    rw [set_other _ (by omega), set_other _ (by omega), set_other _ (by omega)]
    exact HG9.out
end Go.Proofs.Ybulkgey
