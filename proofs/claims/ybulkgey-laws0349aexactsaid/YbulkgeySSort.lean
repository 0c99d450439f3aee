/- slices.SortFunc over the writes (22), off the shelf; the closure that Sync hands to it. -/
import Derived.Test.YbulkgeySPlain
import Derived.Test.YbulkgeySLay
namespace Go.Proofs.Ybulkgey
open Go.RowKit Go.Sort Go.Shelf Go.Lib
set_option linter.unusedVariables false

/-- Draws and new blocks, nothing else. -/
def Lays (w w' : World) : Prop := ∃ q os, w' = grow (w.drewN q) os
theorem Lays.refl (w : World) : Lays w w := ⟨0, #[], by rw [grow_empty]; rfl⟩
theorem Lays.trans {x y z : World} (h : Lays x y) (k : Lays y z) : Lays x z := by
  obtain ⟨q, os, rfl⟩ := h
  obtain ⟨q', os', rfl⟩ := k
  refine ⟨q + q', os ++ os', ?_⟩
  rw [show (grow (x.drewN q) os).drewN q' = grow ((x.drewN q).drewN q') os from rfl, grow_grow, World.drewN_drewN]
theorem Lays.alloc {x y : World} (h : Lays x y) (o : Obj) : Lays x (y.alloc o) := h.trans ⟨0, #[o], by rw [alloc_eq_grow]; rfl⟩
theorem Lays.drew {x y : World} (h : Lays x y) : Lays x y.drew := h.trans ⟨1, #[], by rw [grow_empty]; rfl⟩

set_option maxHeartbeats 400000 in
set_option maxRecDepth 100000 in
theorem compareL_any (s t : ByteArray) (c d : Int) (w : World) : Calls Yba.prog 24 #[.agg #[.string s, .int .u64 c], .agg #[.string t, .int .u64 d]] w fun e w' => e = .returned (.int .i64 (dotCmp s c t d)) ∧ Lays w w' := by
  have hl2 : Lays w ((w.alloc (.cells #[.string s, .int .u64 c] 36)).alloc (.cells #[.string t, .int .u64 d] 36)) := ((Lays.refl w).alloc _).alloc _
  have hk0 : ((w.alloc (.cells #[.string s, .int .u64 c] 36)).alloc (.cells #[.string t, .int .u64 d] 36)).heap[w.heap.size]? = some (.cells #[.string s, .int .u64 c] 36) := (Go.heap_alloc_old _ _ (by simp)).trans (Go.heap_alloc_new _ _)
  have hk1 : ((w.alloc (.cells #[.string s, .int .u64 c] 36)).alloc (.cells #[.string t, .int .u64 d] 36)).heap[w.heap.size + 1]? = some (.cells #[.string t, .int .u64 d] 36) := heap_new_at _ _ (by simp)
  have HL2 := hid hl2
  go_enter Yba.func24, Yba.ntmps24
  go_wp2_with fail
  clear hl2
  generalize ((w.alloc (.cells #[.string s, .int .u64 c] 36)).alloc (.cells #[.string t, .int .u64 d] 36)) = W at *
  generalize hB2 : w.heap.size + 1 = B2 at *
  have a0 : W.cell? ⟨w.heap.size, 0, none⟩ = some (.string s) := cell_of_block hk0 0
  have a1 : W.cell? ⟨w.heap.size, 1, none⟩ = some (.int .u64 c) := cell_of_block hk0 1
  have b0 : W.cell? ⟨B2, 0, none⟩ = some (.string t) := cell_of_block hk1 0
  have b1 : W.cell? ⟨B2, 1, none⟩ = some (.int .u64 d) := cell_of_block hk1 1
  clear hk0 hk1
  refine wp_region_D [0, 1, 2, 3, 5, 6, 7, 8] [4, 9, 10, 11, 12] 8 (fun w' => w'.cell? ⟨w.heap.size, 0, none⟩ = some (.string s) ∧ w'.cell? ⟨w.heap.size, 1, none⟩ = some (.int .u64 c) ∧ w'.cell? ⟨B2, 0, none⟩ = some (.string t) ∧ w'.cell? ⟨B2, 1, none⟩ = some (.int .u64 d))
    (by kernel_rfl) (by kernel_rfl) rfl (by kernel_rfl) (by intro c a w d v h; cases d <;> exact h) (by refine ⟨?_, ?_, ?_, ?_⟩ <;> go_simp) ?_
  repeat (refine wpHeadD_step rfl rfl w (fun K' hK' => ⟨?_, fun w' hw' => ?_, ?_⟩); rotate_left; (obtain ⟨d0, d1, d2, d3⟩ := hw'; go_simp; try rfl); (go_simp; try go_bits); (refine hK' _ _ ?_; clear hK' K'))
  refine wpHeadD_nil ?_
  refine wpTailD_cons rfl rfl (fun K hK => ?_)
  go_simp
  refine (Yba.strings_Compare s t _).mono ?_
  rintro e w' ⟨rfl, rfl⟩
  generalize hr : Lib.compareBytes s.data.toList t.data.toList = r
  go_simp
  refine hK _ _ (fun _ => ⟨a0, a1, b0, b1⟩) ?_
  clear hK K
  refine wpTailD_lone (by kernel_rfl) rfl rfl (fun K hK => ?_)
  go_simp
  refine (cmpCompare_any c d _).mono ?_
  rintro e w' ⟨rfl, rfl⟩
  generalize hq : cmpI c d = q
  go_simp
  refine hK _ _ ?_
  clear hK K
  refine wpTailD_lone (by kernel_rfl) rfl rfl (fun K hK => ?_)
  go_simp
  refine hK _ _ ?_
  clear hK K
  refine wpTailD_lone (by kernel_rfl) rfl rfl (fun K hK => ?_)
  go_simp
  refine (or_any r q W.heap.size 2 _ (by simp) (by simp)).mono ?_
  rintro e w' ⟨rfl, rfl⟩
  have hz := hid (show (if r ≠ 0 then r else q) = dotCmp s c t d by unfold dotCmp; rw [hr, hq])
  generalize (if r ≠ 0 then r else q) = z at *
  go_simp
  refine hK _ _ ?_
  clear hK K
  refine wpTailD_lone (by kernel_rfl) rfl rfl (fun K hK => ?_)
  go_simp
  refine hK _ _ ?_
  clear hK K
  refine wpTailD_nil ?_
  go_wp2_with fail
  go_ret
  refine ⟨?_, ?_⟩
  · rw [← hz.out]; rfl
  · exact (HL2.out.alloc _).drew
theorem sortCmpL_any (s t : ByteArray) (c d v u : Int) (w : World) : Calls Yba.prog 23 #[.agg #[.string s, .int .u64 c, .int .i64 v], .agg #[.string t, .int .u64 d, .int .i64 u]] w fun e w' => e = .returned (.int .i64 (dotCmp s c t d)) ∧ Lays w w' := by
  have hl2 : Hid (Lays w ((w.alloc (.cells #[.string s, .int .u64 c, .int .i64 v] 38)).alloc (.cells #[.string t, .int .u64 d, .int .i64 u] 38))) := ((Lays.refl w).alloc _).alloc _
  have hc := compareL_any s t c d ((w.alloc (.cells #[.string s, .int .u64 c, .int .i64 v] 38)).alloc (.cells #[.string t, .int .u64 d, .int .i64 u] 38))
  go_enter Yba.func23, Yba.ntmps23
  go_wp2_with fail
  refine hc.mono ?_
  rintro e w' ⟨rfl, b1⟩
  have B1 := hid b1
  clear b1
  go_wp2_with fail
  go_ret
  exact ⟨rfl, hl2.out.trans B1.out⟩

def encF (c : Fin 64) : List Value := [.string (mkW c.val).s, .int .u64 (mkW c.val).c, .int .i64 (mkW c.val).v]
def cfF (x y : Fin 64) : Int := dotCmp (mkW x.val).s (mkW x.val).c (mkW y.val).s (mkW y.val).c
theorem ltF (x y : Fin 64) : ltOf cfF x y = decide (x.val < y.val) := by
  unfold ltOf cfF
  rw [dot_code x.isLt y.isLt]
  split
  · simp [*]
  · split <;> simp [*]
theorem swoF : SWO (ltOf cfF) := ⟨fun x => by rw [ltF]; simp, fun x y z h1 h2 => by rw [ltF] at *; simp at *; omega, fun x y z h1 h2 => by rw [ltF] at *; simp at *; omega⟩
theorem totF (x y : Fin 64) (h1 : ltOf cfF x y = false) (h2 : ltOf cfF y x = false) : x = y := by
  rw [ltF] at *
  simp at h1 h2
  omega
theorem cmpF (blk off size : Nat) (w : World) : CmpLays Yba.prog 23 #[] encF 3 cfF blk off size w := fun m os dk _ x y => sortCmpL_any _ _ _ _ _ _ _

def toF (c : Nat) : Fin 64 := ⟨c % 64, Nat.mod_lt _ (by decide)⟩
theorem toF_val {c : Nat} (h : c < 64) : (toF c).val = c := Nat.mod_eq_of_lt h
theorem sort_list (L : List Nat) (R : Nat → Bool) (hL : ∀ c ∈ L, c < 64) (hp : L.Perm (codes R)) : (L.map toF).mergeSort (fun x y => !ltOf cfF y x) = (codes R).map toF := by
  have le : ∀ x y : Fin 64, (!ltOf cfF y x) = decide (x.val ≤ y.val) := fun x y => by
    rw [ltF]
    by_cases h : x.val ≤ y.val
    · rw [decide_eq_false (by omega), decide_eq_true h]; rfl
    · rw [decide_eq_true (by omega), decide_eq_false h]; rfl
  refine List.Perm.eq_of_pairwise (le := fun a b => (!ltOf cfF b a) = true) (fun a b _ _ h1 h2 => ?_) (List.pairwise_mergeSort (fun a b c h1 h2 => ?_) (fun a b => ?_) _) ?_ ((List.mergeSort_perm _ _).trans (hp.map toF))
  · rw [le] at h1 h2; simp at h1 h2; omega
  · rw [le] at *; simp at *; omega
  · rw [le, le]; simp; omega
  · rw [List.pairwise_map]
    refine (codes_lt R).imp_of_mem (fun {a b} ha hb h => ?_)
    rw [le, toF_val (codes_mem ha).1, toF_val (codes_mem hb).1]
    simp; omega

/-- The writes lie in a block from base on. -/
def WIn (w : World) (base : Nat) (a : Option Addr) (L : List Wr) : Prop := L = [] ∨ ∃ g, base ≤ g ∧ g < w.heap.size ∧ a = some ⟨g, 0, none⟩ ∧ ∀ i (h : i < L.length), w.cell? ⟨g, 0 + i * 3, none⟩ = some (.string L[i].s) ∧ w.cell? ⟨g, 0 + i * 3 + 1, none⟩ = some (.int .u64 L[i].c) ∧ w.cell? ⟨g, 0 + i * 3 + 2, none⟩ = some (.int .i64 L[i].v)
theorem WIn.row {w : World} {base : Nat} {a : Option Addr} {L : List Wr} (h : WIn w base a L) : WRow w a L := h.imp id fun ⟨g, _, _, e, h⟩ => ⟨g, 0, e, h⟩
theorem WIn.keep {w w' : World} {base : Nat} {a : Option Addr} {L : List Wr} (h : WIn w base a L) (hs : w.heap.size ≤ w'.heap.size) (hk : ∀ k, base ≤ k → k < w.heap.size → w'.heap[k]? = w.heap[k]?) : WIn w' base a L := by
  refine h.imp id ?_
  rintro ⟨g, h1, h2, e, h3⟩
  have hc : ∀ j, w'.cell? ⟨g, j, none⟩ = w.cell? ⟨g, j, none⟩ := fun j => World.cell?_of_block (hk g h1 h2)
  exact ⟨g, h1, by omega, e, fun i hi => by rw [hc, hc, hc]; exact h3 i hi⟩

theorem sort_any (w : World) (base : Nat) (a : Option Addr) (cap : Nat) (L : List Nat) (R : Nat → Bool) (hL : ∀ c ∈ L, c < 64) (hp : L.Perm (codes R)) (h : OwnW w base (.slice a L.length cap) (L.map mkW)) (hb : base ≤ w.heap.size) :
    Calls Yba.prog 22 #[.slice a L.length cap, .func (.func 23) #[] #[]] w fun e w' => e = .returned (.tuple #[]) ∧ WIn w' base a ((codes R).map mkW) ∧ Below base w w' := by
  have hlen := hp.length_eq
  by_cases h0 : L = []
  · subst h0
    have hn : codes R = [] := List.eq_nil_of_length_eq_zero hlen.symm
    have := AnyF.slices_SortFunc_none Yba.sortW a cap (.func (.func 23) #[] #[]) w
    change Calls Yba.prog 22 _ _ _ at this
    refine this.mono ?_
    rintro e w' ⟨rfl, rfl⟩
    exact ⟨rfl, .inl (by rw [hn]; rfl), Below.refl _ _⟩
  · rcases h.2 with ⟨h1, h2⟩ | ⟨g, cp, cur, e, hbg, hg, hcp, hm, hs, ht⟩
    · rw [List.length_map] at h2; exact absurd (List.eq_nil_of_length_eq_zero h2) h0
    · simp only [Value.slice.injEq] at e
      obtain ⟨rfl, -, -⟩ := e
      have hcell : ∀ i (hi : i < L.length), w.cell? ⟨g, i * 3, none⟩ = some (.string (mkW L[i]).s) ∧ w.cell? ⟨g, i * 3 + 1, none⟩ = some (.int .u64 (mkW L[i]).c) ∧ w.cell? ⟨g, i * 3 + 2, none⟩ = some (.int .i64 (mkW L[i]).v) := by
        obtain ⟨a', cap', e, hrow⟩ := h.shape
        simp only [Value.slice.injEq] at e
        obtain ⟨rfl, -, -⟩ := e
        intro i hi
        rcases hrow with hn | ⟨g', o', e', hc⟩
        · exact absurd (List.map_eq_nil_iff.1 hn) h0
        · simp only [Option.some.injEq, Addr.mk.injEq] at e'
          obtain ⟨rfl, rfl, -⟩ := e'
          have := hc i (by simpa using hi)
          simpa using this
      have hfr : ∀ j, w.frozen? ⟨g, j, none⟩ = false := fun j => frozen_of_block hg j
      have hgl := block_lt hg
      have hsz : (L.map toF).toArray.size = L.length := by simp
      have hat : ∀ (M : List Nat), (∀ c ∈ M, c < 64) → ∀ i (hi : i < M.length), encF (M.map toF).toArray[i]! = [.string (mkW M[i]).s, .int .u64 (mkW M[i]).c, .int .i64 (mkW M[i]).v] := by
        intro M hM i hi
        have e : (M.map toF).toArray[i]! = toF M[i] := by
          rw [getElem!_pos _ i (by simpa using hi)]
          simp
        rw [e]
        unfold encF
        rw [toF_val (hM _ (List.getElem_mem hi))]
      have hH : HoldsK encF 3 w g 0 (L.map toF).toArray := by
        intro j hj
        rw [size_flatK, hsz] at hj
        refine ⟨?_, hfr _⟩
        have hq : j / 3 < L.length := by omega
        rw [get_flatK _ _ _ _ (by rw [hsz]; exact hj), hat L hL (j / 3) hq, id]
        obtain ⟨c0, c1, c2⟩ := hcell (j / 3) hq
        rcases (show j % 3 = 0 ∨ j % 3 = 1 ∨ j % 3 = 2 by omega) with hr | hr | hr
        · rw [hr, show 0 + j = j / 3 * 3 by omega]; exact c0
        · rw [hr, show 0 + j = j / 3 * 3 + 1 by omega]; exact c1
        · rw [hr, show 0 + j = j / 3 * 3 + 2 by omega]; exact c2
      have eg : ∀ args w, (callFunc 23 args).run Yba.prog w = .ok (.enter 23 args) w := enters_of Yba.func23 (by kernel_rfl) rfl
      have hcon := AnyQ.slices_SortFunc_total Yba.sortW 3 Yba.isAgg38 Yba.sizeOf38 encF (fun _ => rfl) (fun x v hv => by simp [encF] at hv; rcases hv with rfl | rfl | rfl <;> rfl) cfF swoF 23 #[] g 0 cap (L.map toF).toArray w eg (cmpF _ _ _ _) hH hgl (by rw [hsz, hlen]; have := codes_len R; omega) totF
      change Calls Yba.prog 22 _ _ _ at hcon
      rw [hsz] at hcon
      refine hcon.mono ?_
      rintro e w' ⟨rfl, n, os, rfl⟩
      rw [show (L.map toF).toArray.toList = L.map toF from rfl, sort_list L R hL hp]
      have hsz2 : ((codes R).map toF).toArray.size = (L.map toF).toArray.size := by simp [hlen]
      have hH2 : HoldsK encF 3 (sortWorldK encF 3 w g 0 n ((codes R).map toF).toArray os) g 0 ((codes R).map toF).toArray :=
        holdsK_grow encF 3 _ os g 0 _ (by unfold putRowK; rw [size_putRow]; exact hgl) (holdsK_putRowK encF 3 (Sort.ahead w n) g 0 _ _ hH hsz2)
      have hsw : (sortWorldK encF 3 w g 0 n ((codes R).map toF).toArray os).heap.size = w.heap.size + os.size := by
        unfold sortWorldK putRowK
        rw [size_grow, size_putRow]; rfl
      refine ⟨rfl, .inr ⟨g, hbg, by rw [hsw]; omega, rfl, fun i hi => ?_⟩, ?_⟩
      · have hi' : i < (codes R).length := by simpa using hi
        have hs' : i < ((codes R).map toF).toArray.size := by simpa using hi'
        have ha := hat (codes R) (fun c hc => (codes_mem hc).1) i hi'
        have k0 := (HoldsK.cell hH2 hs' (show 0 < 3 by omega)).1
        have k1 := (HoldsK.cell hH2 hs' (show 1 < 3 by omega)).1
        have k2 := (HoldsK.cell hH2 hs' (show 2 < 3 by omega)).1
        rw [ha] at k0 k1 k2
        rw [List.getElem_map]
        exact ⟨k0, k1, k2⟩
      · refine ⟨rfl, rfl, rfl, by rw [hsw]; omega, fun k hk => ?_⟩
        unfold sortWorldK
        rw [heap_grow_old _ _ (by unfold putRowK; rw [size_putRow]; show k < w.heap.size; omega)]
        unfold putRowK putRow mapBlock
        simp only [Array.getElem?_modify]
        rw [if_neg (by omega)]; rfl
end Go.Proofs.Ybulkgey
