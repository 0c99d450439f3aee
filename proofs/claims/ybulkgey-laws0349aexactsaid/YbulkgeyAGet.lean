/- Clock.Get, dot.seenBy; cmp.Compare, cmp.Or, dot.compare, byDot, Sync's closure: the walks. -/
import Derived.Test.YbulkgeyBWith
import Derived.Test.YbulkgeyBPlain
import Derived.Test.YbulkgeyRegion
import Derived.Test.YbulkgeyShelf
namespace Go.Proofs.Ybulkgey
open Go.RowKit
set_option linter.unusedVariables false

/-- The counter of a node; 0 where the clock has it not. -/
def getC (N : List ByteArray) (C : List Int) (node : ByteArray) : Int := if N[idx N node]? = some node then C.getD (idx N node) 0 else 0

set_option maxHeartbeats 400000 in
set_option maxRecDepth 100000 in
theorem get_any (w : World) (ao ac : Option Addr) (on oc cn cc : Nat) (N : List ByteArray) (C : List Int) (h : Clk w (.slice ao on oc) (.slice ac cn cc) N C) (node : ByteArray) (hs : (cat N).size ≤ 100000) (hN : N.length ≤ 10000)
    (hso : ∀ j (hj : j < N.length), lessB N[j] node = decide (j < idx N node)) :
    Calls Yba.prog 11 #[.agg #[.string (cat N), .slice ao on oc, .slice ac cn cc], .string node] w fun e w' => e = .returned (.int .u64 (getC N C node)) ∧ Below w.heap.size w w' := by
  have hcn := h.len
  have hCN := h.2.1
  have hA : ClkAt (w.alloc (.cells #[.string (cat N), .slice ao on oc, .slice ac cn cc] 27)) w.heap.size 0 N C :=
    ⟨ao, on, oc, ac, cn, cc, by simp, by simp, by simp, h.below (below_alloc w _ _ (Nat.le_refl _))⟩
  have hidx := idx_le N node
  have hF := find_any (w.alloc (.cells #[.string (cat N), .slice ao on oc, .slice ac cn cc] 27)) w.heap.size 0 N C hA node (by omega) (by omega) hso
  have hbx : (w.alloc (.cells #[.string (cat N), .slice ao on oc, .slice ac cn cc] 27)).heap[w.heap.size]? = some (.cells #[.string (cat N), .slice ao on oc, .slice ac cn cc] 27) := heap_new_at _ _ rfl
  have hsz2 : (w.alloc (.cells #[.string (cat N), .slice ao on oc, .slice ac cn cc] 27)).heap.size = w.heap.size + 1 := by simp
  have hb2 : Below w.heap.size w (w.alloc (.cells #[.string (cat N), .slice ao on oc, .slice ac cn cc] 27)) := by go_grown
  have H := hid h
  have HCN := hid hCN
  subst hcn
  clear h hso hCN hA
  go_enter Yba.func11, Yba.ntmps11
  go_wp2_with fail
  generalize (w.alloc (.cells #[.string (cat N), .slice ao on oc, .slice ac N.length cc] 27)) = W2 at *
  refine Calls.mono hF ?_
  rintro e w1 ⟨rfl, b1⟩
  have x2 : w1.cell? ⟨w.heap.size, 2, none⟩ = some (.slice ac N.length cc) := (cell_of_block ((b1.block _ (by omega)).trans hbx) 2)
  have hb1 : Below w.heap.size w w1 := hb2.trans (b1.mono (by omega))
  clear hF hbx hb2
  by_cases hfound : N[idx N node]? = some node
  · have hd : decide (N[idx N node]? = some node) = true := by simpa using hfound
    have hlt : idx N node < N.length := by
      rcases Nat.lt_or_ge (idx N node) N.length with h' | h'
      · exact h'
      · rw [List.getElem?_eq_none h'] at hfound; cases hfound
    have HG := hid (show getC N C node = C.getD (idx N node) 0 by unfold getC; rw [if_pos hfound])
    rw [hd]
    clear hfound hd
    have hrow := H.out.1.below hb1
    rcases hrow with ⟨hnil, hx⟩ | ⟨g, o, cap, e, hg, hcap, hm, hcell⟩
    · have : C.length = 0 := by simpa [ints] using congrArg List.length hx
      have := HCN.out
      omega
    · simp only [Value.slice.injEq] at e
      obtain ⟨rfl, e2, rfl⟩ := e
      have hil : (ints C).length = C.length := ints_len C
      have hv := hcell (idx N node) (by have := HCN.out; omega)
      have hC : (ints C)[idx N node]? = some (.int .u64 (C.getD (idx N node) 0)) := by
        have : idx N node < C.length := by have := HCN.out; omega
        simp [ints, List.getElem?_map, List.getElem?_eq_getElem this, List.getD_eq_getElem?_getD]
      rw [hC] at hv
      have hlt' : ((idx N node : Nat) : Int) < (N.length : Int) := by omega
      clear hcell hC e2 hil
      generalize C.getD (idx N node) 0 = x at *
      generalize idx N node = i at *
      go_wp2_with fail
      go_ret
      rw [HG.out]
      exact ⟨rfl, hb1⟩
  · have hd : decide (N[idx N node]? = some node) = false := by simpa using hfound
    have HG := hid (show getC N C node = 0 by unfold getC; rw [if_neg hfound])
    rw [hd]
    clear hfound hd
    generalize idx N node = i at *
    go_wp2_with fail
    go_ret
    rw [HG.out]
    exact ⟨rfl, hb1⟩

/-- cmp.Compare at uint64. -/
def cmpI (x y : Int) : Int := if x < y then -1 else if y < x then 1 else 0
theorem isNaN_any (x : Int) (w : World) : Calls Yba.prog 59 #[.int .u64 x] w fun e w' => e = .returned (.bool false) ∧ w' = w := by
  go_enter Yba.func59, Yba.ntmps59
  go_wp2
  go_ret
  simp
theorem cmpCompare_any (x y : Int) (w : World) : Calls Yba.prog 38 #[.int .u64 x, .int .u64 y] w fun e w' => e = .returned (.int .i64 (cmpI x y)) ∧ w' = w := by
  go_enter Yba.func38, Yba.ntmps38
  go_wp2_with fail
  refine (isNaN_any x _).mono ?_
  rintro e w' ⟨rfl, rfl⟩
  go_wp2_with fail
  refine (isNaN_any y _).mono ?_
  rintro e w' ⟨rfl, rfl⟩
  by_cases h1 : x < y
  · go_wp2_with fail
    go_ret
    exact ⟨by simp [cmpI, h1], rfl⟩
  · by_cases h2 : y < x
    · have h1' : y ≤ x := by omega
      go_wp2_with fail
      go_ret
      exact ⟨by simp [cmpI, h1, h2], rfl⟩
    · have h3 : x = y := by omega
      subst h3
      go_wp2_with fail
      go_ret
      exact ⟨by simp [cmpI], rfl⟩

theorem or_any (x y : Int) (g cap : Nat) (w : World) (h0 : w.cell? ⟨g, 0, none⟩ = some (.int .i64 x)) (h1 : w.cell? ⟨g, 1, none⟩ = some (.int .i64 y)) :
    Calls Yba.prog 36 #[.slice (some ⟨g, 0, none⟩) 2 cap] w fun e w' => e = .returned (.int .i64 (if x ≠ 0 then x else y)) ∧ w' = w := by
  go_enter Yba.func36, Yba.ntmps36
  go_wp2_with fail
  go_loop [8] (fun v => v = .int .i64 0 ∨ v = .int .i64 1 ∧ x = 0 ∨ v = .int .i64 2 ∧ x = 0 ∧ y = 0) (fun v => 2 - (intOf v).toNat)
  case atStart => exact .inl rfl
  case round =>
    rcases hrel with rfl | ⟨rfl, rfl⟩ | ⟨rfl, rfl, rfl⟩
    · by_cases hx : x = 0
      · subst hx
        go_wp2_with fail
        exact ⟨by simp, by simp [intOf]⟩
      · have hx' : (x == 0) = false := by simpa using hx
        go_wp2_with fail
        go_ret
        exact ⟨by simp_all, rfl⟩
    · by_cases hy : y = 0
      · subst hy
        go_wp2_with fail
        exact ⟨by simp, by simp [intOf]⟩
      · have hy' : (y == 0) = false := by simpa using hy
        go_wp2_with fail
        go_ret
        exact ⟨by simp, rfl⟩
    · go_wp2_with fail
      go_ret
      exact ⟨by simp, rfl⟩

/-- The order of two dots. -/
def dotCmp (s : ByteArray) (c : Int) (t : ByteArray) (d : Int) : Int := if Lib.compareBytes s.data.toList t.data.toList ≠ 0 then Lib.compareBytes s.data.toList t.data.toList else cmpI c d

set_option maxHeartbeats 400000 in
set_option maxRecDepth 100000 in
theorem compare_any (s t : ByteArray) (c d : Int) (w : World) : Calls Yba.prog 24 #[.agg #[.string s, .int .u64 c], .agg #[.string t, .int .u64 d]] w fun e w' => e = .returned (.int .i64 (dotCmp s c t d)) ∧ Below w.heap.size w w' := by
  have hb2 : Below w.heap.size w ((w.alloc (.cells #[.string s, .int .u64 c] 36)).alloc (.cells #[.string t, .int .u64 d] 36)) := by go_grown
  have hk0 : ((w.alloc (.cells #[.string s, .int .u64 c] 36)).alloc (.cells #[.string t, .int .u64 d] 36)).heap[w.heap.size]? = some (.cells #[.string s, .int .u64 c] 36) := (Go.heap_alloc_old _ _ (by simp)).trans (Go.heap_alloc_new _ _)
  have hk1 : ((w.alloc (.cells #[.string s, .int .u64 c] 36)).alloc (.cells #[.string t, .int .u64 d] 36)).heap[w.heap.size + 1]? = some (.cells #[.string t, .int .u64 d] 36) := heap_new_at _ _ (by simp)
  go_enter Yba.func24, Yba.ntmps24
  go_wp2_with fail
  generalize ((w.alloc (.cells #[.string s, .int .u64 c] 36)).alloc (.cells #[.string t, .int .u64 d] 36)) = W at *
  generalize hB2 : w.heap.size + 1 = B2 at *
  have a0 : W.cell? ⟨w.heap.size, 0, none⟩ = some (.string s) := cell_of_block hk0 0
  have a1 : W.cell? ⟨w.heap.size, 1, none⟩ = some (.int .u64 c) := cell_of_block hk0 1
  have b0 : W.cell? ⟨B2, 0, none⟩ = some (.string t) := cell_of_block hk1 0
  have b1 : W.cell? ⟨B2, 1, none⟩ = some (.int .u64 d) := cell_of_block hk1 1
  clear hk0 hk1
  refine wp_region_D [0, 1, 2, 3, 5, 6, 7, 8] [4, 9, 10, 11, 12] 8 (fun w' => w'.cell? ⟨w.heap.size, 0, none⟩ = some (.string s) ∧ w'.cell? ⟨w.heap.size, 1, none⟩ = some (.int .u64 c) ∧ w'.cell? ⟨B2, 0, none⟩ = some (.string t) ∧ w'.cell? ⟨B2, 1, none⟩ = some (.int .u64 d))
    (by kernel_rfl) (by kernel_rfl) rfl (by kernel_rfl) (by intro c a w d v h; cases d <;> exact h) (by refine ⟨?_, ?_, ?_, ?_⟩ <;> go_simp) ?_
  repeat (refine wpHeadD_step rfl rfl w (fun K' hK' => ⟨?_, fun w' hw' => ?_, ?_⟩); rotate_left; (obtain ⟨d0, d1, d2, d3⟩ := hw'; go_simp; try rfl); (go_simp; try go_bits); (refine hK' _ _ ?_; clear hK' K'))
  refine wpHeadD_nil ?_
  refine wpTailD_cons rfl rfl (fun K hK => ?_)
  go_simp
  refine (Yba.strings_Compare s t _).mono ?_
  rintro e w' ⟨rfl, rfl⟩
  generalize hr : Lib.compareBytes s.data.toList t.data.toList = r
  go_simp
  refine hK _ _ (fun _ => ⟨a0, a1, b0, b1⟩) ?_
  clear hK K
  refine wpTailD_lone (by kernel_rfl) rfl rfl (fun K hK => ?_)
  go_simp
  refine (cmpCompare_any c d _).mono ?_
  rintro e w' ⟨rfl, rfl⟩
  generalize hq : cmpI c d = q
  go_simp
  refine hK _ _ ?_
  clear hK K
  refine wpTailD_lone (by kernel_rfl) rfl rfl (fun K hK => ?_)
  go_simp
  refine hK _ _ ?_
  clear hK K
  refine wpTailD_lone (by kernel_rfl) rfl rfl (fun K hK => ?_)
  go_simp
  refine (or_any r q W.heap.size 2 _ (by simp) (by simp)).mono ?_
  rintro e w' ⟨rfl, rfl⟩
  have hz := hid (show (if r ≠ 0 then r else q) = dotCmp s c t d by unfold dotCmp; rw [hr, hq])
  generalize (if r ≠ 0 then r else q) = z at *
  go_simp
  refine hK _ _ ?_
  clear hK K
  refine wpTailD_lone (by kernel_rfl) rfl rfl (fun K hK => ?_)
  go_simp
  refine hK _ _ ?_
  clear hK K
  refine wpTailD_nil ?_
  go_wp2_with fail
  go_ret
  have hsz := hb2.size
  refine ⟨?_, ?_⟩
  · rw [← hz.out]; rfl
  · exact (hb2.alloc (by omega) _).drew

/-- byDot, and the closure that Sync hands to SortFunc. -/
theorem byDot_any (s t : ByteArray) (c d v : Int) (w : World) : Calls Yba.prog 33 #[.agg #[.string s, .int .u64 c, .int .i64 v], .agg #[.string t, .int .u64 d]] w fun e w' => e = .returned (.int .i64 (dotCmp s c t d)) ∧ Below w.heap.size w w' := by
  have hb2 : Below w.heap.size w ((w.alloc (.cells #[.string s, .int .u64 c, .int .i64 v] 38)).alloc (.cells #[.string t, .int .u64 d] 36)) := by go_grown
  have hc := compare_any s t c d ((w.alloc (.cells #[.string s, .int .u64 c, .int .i64 v] 38)).alloc (.cells #[.string t, .int .u64 d] 36))
  go_enter Yba.func33, Yba.ntmps33
  go_wp2_with fail
  refine hc.mono ?_
  rintro e w' ⟨rfl, b1⟩
  go_wp2_with fail
  go_ret
  exact ⟨rfl, hb2.trans (b1.mono hb2.size)⟩
theorem sortCmp_any (s t : ByteArray) (c d v u : Int) (w : World) : Calls Yba.prog 23 #[.agg #[.string s, .int .u64 c, .int .i64 v], .agg #[.string t, .int .u64 d, .int .i64 u]] w fun e w' => e = .returned (.int .i64 (dotCmp s c t d)) ∧ Below w.heap.size w w' := by
  have hb2 : Below w.heap.size w ((w.alloc (.cells #[.string s, .int .u64 c, .int .i64 v] 38)).alloc (.cells #[.string t, .int .u64 d, .int .i64 u] 38)) := by go_grown
  have hc := compare_any s t c d ((w.alloc (.cells #[.string s, .int .u64 c, .int .i64 v] 38)).alloc (.cells #[.string t, .int .u64 d, .int .i64 u] 38))
  go_enter Yba.func23, Yba.ntmps23
  go_wp2_with fail
  refine hc.mono ?_
  rintro e w' ⟨rfl, b1⟩
  go_wp2_with fail
  go_ret
  exact ⟨rfl, hb2.trans (b1.mono hb2.size)⟩

set_option maxHeartbeats 400000 in
set_option maxRecDepth 100000 in
theorem seenBy_any (w : World) (s : ByteArray) (c : Int) (ao ac : Option Addr) (on oc cn cc : Nat) (N : List ByteArray) (C : List Int) (h : Clk w (.slice ao on oc) (.slice ac cn cc) N C) (hs : (cat N).size ≤ 100000) (hN : N.length ≤ 10000)
    (hso : ∀ j (hj : j < N.length), lessB N[j] s = decide (j < idx N s)) :
    Calls Yba.prog 20 #[.agg #[.string s, .int .u64 c], .agg #[.string (cat N), .slice ao on oc, .slice ac cn cc]] w fun e w' => e = .returned (.bool (decide (c ≤ getC N C s))) ∧ Below w.heap.size w w' := by
  have hb2 : Below w.heap.size w ((w.alloc (.cells #[.string s, .int .u64 c] 36)).alloc (.cells #[.string (cat N), .slice ao on oc, .slice ac cn cc] 27)) := by go_grown
  have hk0 : ((w.alloc (.cells #[.string s, .int .u64 c] 36)).alloc (.cells #[.string (cat N), .slice ao on oc, .slice ac cn cc] 27)).heap[w.heap.size]? = some (.cells #[.string s, .int .u64 c] 36) := (Go.heap_alloc_old _ _ (by simp)).trans (Go.heap_alloc_new _ _)
  have hk1 : ((w.alloc (.cells #[.string s, .int .u64 c] 36)).alloc (.cells #[.string (cat N), .slice ao on oc, .slice ac cn cc] 27)).heap[w.heap.size + 1]? = some (.cells #[.string (cat N), .slice ao on oc, .slice ac cn cc] 27) := heap_new_at _ _ (by simp)
  have hG : ∀ W, Below w.heap.size w W → Calls Yba.prog 11 #[.agg #[.string (cat N), .slice ao on oc, .slice ac cn cc], .string s] W fun e w' => e = .returned (.int .u64 (getC N C s)) ∧ Below W.heap.size W w' :=
    fun W hW => get_any W ao ac on oc cn cc N C (h.below hW) s hs hN hso
  clear h hso
  go_enter Yba.func20, Yba.ntmps20
  go_wp2_with fail
  generalize ((w.alloc (.cells #[.string s, .int .u64 c] 36)).alloc (.cells #[.string (cat N), .slice ao on oc, .slice ac cn cc] 27)) = W at *
  generalize hB2 : w.heap.size + 1 = B2 at *
  have a0 : W.cell? ⟨w.heap.size, 0, none⟩ = some (.string s) := cell_of_block hk0 0
  have a1 : W.cell? ⟨w.heap.size, 1, none⟩ = some (.int .u64 c) := cell_of_block hk0 1
  have b0 : W.cell? ⟨B2, 0, none⟩ = some (.string (cat N)) := cell_of_block hk1 0
  have b1 : W.cell? ⟨B2, 1, none⟩ = some (.slice ao on oc) := cell_of_block hk1 1
  have b2 : W.cell? ⟨B2, 2, none⟩ = some (.slice ac cn cc) := cell_of_block hk1 2
  clear hk0 hk1
  refine wp_region_D [0, 1, 2, 4, 5] [3, 6, 7] 8 (fun w' => w'.cell? ⟨w.heap.size, 0, none⟩ = some (.string s) ∧ w'.cell? ⟨w.heap.size, 1, none⟩ = some (.int .u64 c) ∧ w'.cell? ⟨B2, 0, none⟩ = some (.string (cat N)) ∧ w'.cell? ⟨B2, 1, none⟩ = some (.slice ao on oc) ∧ w'.cell? ⟨B2, 2, none⟩ = some (.slice ac cn cc))
    (by kernel_rfl) (by kernel_rfl) rfl (by kernel_rfl) (by intro c a w d v h; cases d <;> exact h) (by refine ⟨?_, ?_, ?_, ?_, ?_⟩ <;> go_simp) ?_
  repeat (refine wpHeadD_step rfl rfl w (fun K' hK' => ⟨?_, fun w' hw' => ?_, ?_⟩); rotate_left; (obtain ⟨d0, d1, d2, d3, d4⟩ := hw'; go_simp; try rfl); (go_simp; try go_bits); (refine hK' _ _ ?_; clear hK' K'))
  refine wpHeadD_nil ?_
  refine wpTailD_cons rfl rfl (fun K hK => ?_)
  go_simp
  refine (hG _ hb2.drew).mono ?_
  rintro e w1 ⟨rfl, bel⟩
  have bel' : Below W.heap.size W w1 := (Below.refl _ W).drew.trans bel
  go_simp
  refine hK _ _ (fun _ => ⟨cell_later bel' a0, cell_later bel' a1, cell_later bel' b0, cell_later bel' b1, cell_later bel' b2⟩) ?_
  clear hK K
  refine wpTailD_lone (by kernel_rfl) rfl rfl (fun K hK => ?_)
  go_simp
  refine hK _ _ ?_
  clear hK K
  refine wpTailD_lone (by kernel_rfl) rfl rfl (fun K hK => ?_)
  go_simp
  refine hK _ _ ?_
  clear hK K
  refine wpTailD_nil ?_
  go_wp2_with fail
  go_ret
  exact ⟨rfl, hb2.trans (bel'.mono hb2.size)⟩
end Go.Proofs.Ybulkgey
