/- slices.BinarySearchFunc over writes, Siblings.holds: the walks. -/
import Derived.Test.YbulkgeyAGet
import Derived.Test.YbulkgeyAnyOrder
namespace Go.Proofs.Ybulkgey
open Go.RowKit
set_option linter.unusedVariables false

structure Wr where
  s : ByteArray
  c : Int
  v : Int
/-- A slice of writes that can be read: three cells an element. -/
def WRow (w : World) (a : Option Addr) (L : List Wr) : Prop := L = [] ∨ ∃ g o, a = some ⟨g, o, none⟩ ∧ ∀ i (h : i < L.length), w.cell? ⟨g, o + i * 3, none⟩ = some (.string L[i].s) ∧ w.cell? ⟨g, o + i * 3 + 1, none⟩ = some (.int .u64 L[i].c) ∧ w.cell? ⟨g, o + i * 3 + 2, none⟩ = some (.int .i64 L[i].v)
theorem WRow.below {w w' : World} {a : Option Addr} {L : List Wr} (h : WRow w a L) (hb : Below w.heap.size w w') : WRow w' a L := by
  rcases h with h | ⟨g, o, e, h⟩
  · exact .inl h
  · exact .inr ⟨g, o, e, fun i hi => ⟨cell_later hb (h i hi).1, cell_later hb (h i hi).2.1, cell_later hb (h i hi).2.2⟩⟩


/-- The order of a write and a dot. -/
def wc (x : Wr) (s : ByteArray) (c : Int) : Int := dotCmp x.s x.c s c

set_option maxHeartbeats 1000000 in
set_option maxRecDepth 100000 in
theorem search_any (w : World) (a : Option Addr) (L : List Wr) (cap : Nat) (s : ByteArray) (c : Int) (p : Nat) (hL : WRow w a L) (hn : L.length ≤ 100000) (hp : p ≤ L.length)
    (hm : ∀ j (hj : j < L.length), (wc L[j] s c < 0) ↔ j < p) :
    Calls Yba.prog 32 #[.slice a L.length cap, .agg #[.string s, .int .u64 c], .func (.func 33) #[] #[]] w fun e w' => e = .returned (.tuple #[.int .i64 (p : Nat), .bool (decide (∃ h : p < L.length, wc L[p] s c = 0))]) ∧ Below w.heap.size w w' := by
  have hb0 : Below w.heap.size w (w.alloc (.cells #[.string s, .int .u64 c] 36)) := by go_grown
  have hk0 : (w.alloc (.cells #[.string s, .int .u64 c] 36)).heap[w.heap.size]? = some (.cells #[.string s, .int .u64 c] 36) := heap_new_at _ _ rfl
  have HL := hid hL
  have HM := hid hm
  clear hL hm
  have hs1 : (w.alloc (.cells #[.string s, .int .u64 c] 36)).heap.size = w.heap.size + 1 := by simp
  go_enter Yba.func32, Yba.ntmps32
  go_wp2_with fail
  generalize (w.alloc (.cells #[.string s, .int .u64 c] 36)) = W0 at *
  have e0 : W0.cell? ⟨w.heap.size, 0, none⟩ = some (.string s) := cell_of_block hk0 0
  have e1 : W0.cell? ⟨w.heap.size, 1, none⟩ = some (.int .u64 c) := cell_of_block hk0 1
  clear hk0
  go_loopw [9, 10] (fun lo hi wr => ∃ l r : Nat, lo = .int .i64 l ∧ hi = .int .i64 r ∧ l ≤ p ∧ p ≤ r ∧ r ≤ L.length ∧ Below W0.heap.size W0 wr) (fun lo hi wr => (intOf hi - intOf lo).toNat)
  case atStart => exact ⟨0, L.length, rfl, rfl, Nat.zero_le _, hp, Nat.le_refl _, Below.refl _ _⟩
  case round =>
    obtain ⟨l, r, rfl, rfl, h5, h6, h7, hb⟩ := hrel
    have hbw : Below w.heap.size w wr := hb0.trans (hb.mono (by omega))
    have f0 := cell_later hb e0
    have f1 := cell_later hb e1
    by_cases hlt : l < r
    · have hml : (l + r) / 2 < L.length := by omega
      have hcm := HM.out ((l + r) / 2) hml
      rcases HL.out.below hbw with hnil | ⟨g, o, rfl, hcell⟩
      · rw [hnil] at hml; simp at hml
      obtain ⟨k0, k1, k2⟩ := hcell ((l + r) / 2) hml
      have hcl := fun W => byDot_any L[(l + r) / 2].s s L[(l + r) / 2].c c L[(l + r) / 2].v W
      have hwc : dotCmp L[(l + r) / 2].s L[(l + r) / 2].c s c = wc L[(l + r) / 2] s c := rfl
      clear hcell
      have hlt' : (l : Int) < (r : Int) := by omega
      go_wp2_with fail
      rw [show ((l : Int) + r) / 2 = (((l + r) / 2 : Nat) : Int) from by omega]
      generalize hmid : (l + r) / 2 = m at *
      generalize L[m] = x at *
      obtain ⟨xs, xc, xv⟩ := x
      dsimp only at k0 k1 k2 hcl hwc hcm
      have hmn : (m : Int) < (L.length : Int) := by omega
      refine wp_region_D [0, 1, 2, 3, 4, 5] [6, 7] 8 (fun w' => w'.cell? ⟨g, o + m * 3, none⟩ = some (.string xs) ∧ w'.cell? ⟨g, o + m * 3 + 1, none⟩ = some (.int .u64 xc) ∧ w'.cell? ⟨g, o + m * 3 + 2, none⟩ = some (.int .i64 xv) ∧ w'.cell? ⟨w.heap.size, 0, none⟩ = some (.string s) ∧ w'.cell? ⟨w.heap.size, 1, none⟩ = some (.int .u64 c))
        (by kernel_rfl) (by kernel_rfl) rfl (by kernel_rfl) (by intro c a w d v h; cases d <;> exact h) ⟨k0, k1, k2, f0, f1⟩ ?_
      repeat (refine wpHeadD_step rfl rfl w (fun K' hK' => ⟨?_, fun w' hw' => ?_, ?_⟩); rotate_left; (obtain ⟨d0, d1, d2, d3, d4⟩ := hw'; go_simp; try rfl); (go_simp; try go_bits); (refine hK' _ _ ?_; clear hK' K'))
      refine wpHeadD_nil ?_
      refine wpTailD_lone (by kernel_rfl) rfl rfl (fun K hK => ?_)
      go_simp
      refine (hcl _).mono ?_
      rintro e w1 ⟨rfl, bel⟩
      have bel' : Below W0.heap.size W0 w1 := hb.drew.trans (bel.mono (by have := hb.size; simpa using this))
      rw [hwc]
      generalize wc ⟨xs, xc, xv⟩ s c = z at *
      clear hcl hwc k0 k1 k2
      go_simp
      refine hK _ _ ?_
      clear hK K
      refine wpTailD_lone (by kernel_rfl) rfl rfl (fun K hK => ?_)
      by_cases hz : z < 0
      · have hmp := hcm.1 hz
        go_simp
        refine hK _ _ ?_
        clear hK K
        refine wpTailD_nil ?_
        go_wp2_with fail
        exact ⟨⟨m + 1, r, by go_num, rfl, by omega, h6, h7, bel'⟩, by simp [intOf]; omega⟩
      · have hmp : ¬ m < p := fun h => hz (hcm.2 h)
        have hz' : decide (z < 0) = false := by simpa using hz
        go_simp
        refine hK _ _ ?_
        clear hK K
        refine wpTailD_nil ?_
        go_wp2_with fail
        exact ⟨⟨l, m, rfl, rfl, h5, by omega, by omega, bel'⟩, by simp [intOf]; omega⟩
    · obtain rfl : l = p := by omega
      obtain rfl : r = l := by omega
      by_cases hin : r < L.length
      · rcases HL.out.below hbw with hnil | ⟨g, o, rfl, hcell⟩
        · rw [hnil] at hin; simp at hin
        obtain ⟨k0, k1, k2⟩ := hcell r hin
        have hcl := fun W => byDot_any L[r].s s L[r].c c L[r].v W
        have hwc : dotCmp L[r].s L[r].c s c = wc L[r] s c := rfl
        have hres := hid (show decide (∃ h : r < L.length, wc L[r] s c = 0) = decide (wc L[r] s c = 0) by simp [hin])
        clear hcell
        generalize L[r] = x at *
        obtain ⟨xs, xc, xv⟩ := x
        dsimp only at k0 k1 k2 hcl hwc
        have hmn : (r : Int) < (L.length : Int) := by omega
        go_wp2_with fail
        rw [hwc] at hcl
        generalize wc ⟨xs, xc, xv⟩ s c = z at *
        have hC0 : Below wr.heap.size wr wr.drew := (Below.refl _ _).drew
        have hcells : ∀ w', Below wr.heap.size wr w' → w'.cell? ⟨g, o + r * 3, none⟩ = some (.string xs) ∧ w'.cell? ⟨g, o + r * 3 + 1, none⟩ = some (.int .u64 xc) ∧ w'.cell? ⟨g, o + r * 3 + 2, none⟩ = some (.int .i64 xv) ∧ w'.cell? ⟨w.heap.size, 0, none⟩ = some (.string s) ∧ w'.cell? ⟨w.heap.size, 1, none⟩ = some (.int .u64 c) :=
          fun w' hw' => ⟨cell_later hw' k0, cell_later hw' k1, cell_later hw' k2, cell_later hw' f0, cell_later hw' f1⟩
        refine wp_region_tame (fun w' => Below wr.heap.size wr w') (fun f args v => v = .int .i64 z) (by kernel_rfl) (by kernel_rfl) hC0 ?_
        (refine tame_one hC0 (.int .i64 (r : Int)) rfl (fun w' hw' => by obtain ⟨d0, d1, d2, d3, d4⟩ := hcells w' hw'; go_simp) (fun K hK => ?_); go_simp; refine hK _ ?_; clear hK K)
        (refine tame_one hC0 (.int .i64 (r : Int)) rfl (fun w' hw' => by obtain ⟨d0, d1, d2, d3, d4⟩ := hcells w' hw'; go_simp) (fun K hK => ?_); go_simp; refine hK _ ?_; clear hK K)
        (refine tame_one hC0 (.int .i64 (L.length : Int)) rfl (fun w' hw' => by obtain ⟨d0, d1, d2, d3, d4⟩ := hcells w' hw'; go_simp) (fun K hK => ?_); go_simp; refine hK _ ?_; clear hK K)
        (refine tame_one hC0 (.bool true) rfl (fun w' hw' => by obtain ⟨d0, d1, d2, d3, d4⟩ := hcells w' hw'; go_simp) (fun K hK => ?_); go_simp; refine hK _ ?_; clear hK K)
        (refine tame_one hC0 (.bool true) rfl (fun w' hw' => by obtain ⟨d0, d1, d2, d3, d4⟩ := hcells w' hw'; go_simp) (fun K hK => ?_); go_simp; refine hK _ ?_; clear hK K)
        (refine tame_one hC0 (.func (.func 33) #[] #[]) rfl (fun w' hw' => by obtain ⟨d0, d1, d2, d3, d4⟩ := hcells w' hw'; go_simp) (fun K hK => ?_); go_simp; refine hK _ ?_; clear hK K)
        (refine tame_one hC0 (.slice (some ⟨g, o, none⟩) L.length cap) rfl (fun w' hw' => by obtain ⟨d0, d1, d2, d3, d4⟩ := hcells w' hw'; go_simp) (fun K hK => ?_); go_simp; refine hK _ ?_; clear hK K)
        (refine tame_one hC0 (.int .i64 (r : Int)) rfl (fun w' hw' => by obtain ⟨d0, d1, d2, d3, d4⟩ := hcells w' hw'; go_simp) (fun K hK => ?_); go_simp; refine hK _ ?_; clear hK K)
        (refine tame_one hC0 (.pointer (some ⟨g, o + r * 3, none⟩)) rfl (fun w' hw' => by obtain ⟨d0, d1, d2, d3, d4⟩ := hcells w' hw'; go_simp) (fun K hK => ?_); go_simp; refine hK _ ?_; clear hK K)
        (refine tame_one hC0 (.agg #[.string xs, .int .u64 xc, .int .i64 xv]) rfl (fun w' hw' => by obtain ⟨d0, d1, d2, d3, d4⟩ := hcells w' hw'; go_simp) (fun K hK => ?_); go_simp; refine hK _ ?_; clear hK K)
        (refine tame_one hC0 (.agg #[.string s, .int .u64 c]) rfl (fun w' hw' => by obtain ⟨d0, d1, d2, d3, d4⟩ := hcells w' hw'; go_simp) (fun K hK => ?_); go_simp; refine hK _ ?_; clear hK K)
        (refine tame_call hC0 33 #[.agg #[.string xs, .int .u64 xc, .int .i64 xv], .agg #[.string s, .int .u64 c]] (.int .i64 z) rfl (fun w' hw' => by go_simp) (fun w' hw' => (hcl w').mono fun e w'' ⟨he, hb'⟩ => ⟨he, hw'.trans (hb'.mono hw'.size)⟩) (fun v => Iff.rfl) (fun K hK => ?_); go_simp; refine hK _ ?_; clear hK K)
        (refine tame_one hC0 (.bool (z == 0)) rfl (fun w' hw' => by obtain ⟨d0, d1, d2, d3, d4⟩ := hcells w' hw'; go_simp) (fun K hK => ?_); go_simp; refine hK _ ?_; clear hK K)
        (refine tame_one hC0 (.bool (z == 0)) rfl (fun w' hw' => by obtain ⟨d0, d1, d2, d3, d4⟩ := hcells w' hw'; go_simp) (fun K hK => ?_); go_simp; refine hK _ ?_; clear hK K)
        (refine tame_one hC0 (.int .i64 (r : Int)) rfl (fun w' hw' => by go_simp) (fun K hK => ?_); go_simp; refine hK _ ?_; clear hK K)
        (refine tame_one hC0 (.bool (z == 0)) rfl (fun w' hw' => by go_simp) (fun K hK => ?_); go_simp; refine hK _ ?_; clear hK K)
        intro w1 hw1
        clear hcells hcl k0 k1 k2 hC0
        go_wp2_with fail
        go_ret2
        refine ⟨?_, hbw.trans (hw1.mono hbw.size)⟩
        rw [hres.out, show decide (z = 0) = (z == 0) by by_cases h : z = 0 <;> simp [h]]
        rfl
      · have hnin : r = L.length := by omega
        have hmn : (L.length : Int) ≤ (r : Int) := by omega
        have hres := hid (show decide (∃ h : r < L.length, wc L[r] s c = 0) = false by simp; omega)
        go_wp2_with fail
        go_quiet (fail)
        go_wp2_with fail
        go_ret2
        refine ⟨?_, below_drewN hbw _⟩
        rw [hres.out]
        rfl

theorem holds_any (w : World) (ids : ByteArray) (ao ac : Option Addr) (on oc cn cc : Nat) (a : Option Addr) (L : List Wr) (cap : Nat) (s : ByteArray) (c : Int) (p : Nat) (hL : WRow w a L) (hn : L.length ≤ 100000) (hp : p ≤ L.length)
    (hm : ∀ j (hj : j < L.length), (wc L[j] s c < 0) ↔ j < p) :
    Calls Yba.prog 21 #[.agg #[.string ids, .slice ao on oc, .slice ac cn cc, .slice a L.length cap], .agg #[.string s, .int .u64 c]] w fun e w' => e = .returned (.bool (decide (∃ h : p < L.length, wc L[p] s c = 0))) ∧ Below w.heap.size w w' := by
  have hb2 : Below w.heap.size w ((w.alloc (.cells #[.string ids, .slice ao on oc, .slice ac cn cc, .slice a L.length cap] 30)).alloc (.cells #[.string s, .int .u64 c] 36)) := by go_grown
  have hS := search_any ((w.alloc (.cells #[.string ids, .slice ao on oc, .slice ac cn cc, .slice a L.length cap] 30)).alloc (.cells #[.string s, .int .u64 c] 36)) a L cap s c p (hL.below hb2) hn hp hm
  clear hL hm
  generalize decide (∃ h : p < L.length, wc L[p] s c = 0) = b at *
  go_enter Yba.func21, Yba.ntmps21
  go_wp2_with fail
  refine hS.mono ?_
  rintro e w1 ⟨rfl, bel⟩
  go_wp2_with fail
  go_ret
  exact ⟨rfl, hb2.trans (bel.mono hb2.size)⟩
end Go.Proofs.Ybulkgey
