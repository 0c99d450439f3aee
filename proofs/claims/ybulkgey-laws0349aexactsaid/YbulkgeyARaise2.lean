/- raiseTo, whatever the capacity. -/
import Derived.Test.YbulkgeyASib
import Derived.Test.YbulkgeyARaise
namespace Go.Proofs.Ybulkgey
open Go.RowKit
set_option linter.unusedVariables false

set_option maxRecDepth 100000 in
set_option maxHeartbeats 1000000 in
theorem raiseTo2_any (w : World) (g n cap : Nat) (pre post : List Value) (X Y : List Int) (v : Value) (hg : w.heap[g]? = some (.cells (pre ++ ints X ++ post).toArray 34)) (hY : Row w v (ints Y)) (hne : ∀ k, v.ownBlock = some k → k ≠ g)
    (h1 : Y.length ≤ X.length) (h2 : Y.length ≤ n) (h3 : n ≤ cap) (h4 : Y.length ≤ 100000) (hx : ∀ x ∈ X, 0 ≤ x) :
    Calls Yba.prog 64 #[.slice (some ⟨g, pre.length, none⟩) n cap, v] w fun e w' => e = .returned (.tuple #[]) ∧ w'.heap[g]? = some (.cells (pre ++ ints (RA X Y Y.length) ++ post).toArray 34) ∧ Kept w.heap.size g w w' ∧ w'.heap.size = w.heap.size := by
  obtain ⟨a, vc, rfl⟩ := hY.shape
  have HY := hid hY
  have HN := hid hne
  rw [ints_len] at *
  have h2' : (Y.length : Int) ≤ (cap : Int) := by omega
  go_enter Yba.func64, Yba.ntmps64
  go_wp2_with fail
  go_loopw [12] (fun v wr => ∃ m : Nat, m ≤ Y.length ∧ v = .int .i64 m ∧ wr.heap[g]? = some (.cells (pre ++ ints (RA X Y m) ++ post).toArray 34) ∧ Kept w.heap.size g w wr ∧ wr.heap.size = w.heap.size) (fun v wr => Y.length - (intOf v).toNat)
  case atStart => exact ⟨0, by omega, rfl, by rw [RA_zero]; exact hg, Kept.refl _ _ _, rfl⟩
  case round =>
    obtain ⟨m, hm, rfl, hgr, hk, hsz⟩ := hrel
    by_cases hlt : m < Y.length
    · have hlt' : (m : Int) < (Y.length : Int) := by omega
      rcases HY.out with ⟨_, hnil⟩ | ⟨yg, yo, ycap, e, hyg, _, _, hcell⟩
      · have : Y.length = 0 := by rw [← ints_len Y, hnil]; rfl
        omega
      simp only [Value.slice.injEq] at e
      obtain ⟨rfl, _, rfl⟩ := e
      have hyne : yg ≠ g := HN.out yg rfl
      have hyc : wr.cell? ⟨yg, yo + m, none⟩ = some (.int .u64 (Y.getD m 0)) := by
        have e1 := hcell m (by rw [ints_len]; exact hlt)
        have e2 : (ints Y)[m]? = some (.int .u64 (Y.getD m 0)) := by simp [ints, List.getElem?_map, List.getElem?_eq_getElem hlt, List.getD_eq_getElem?_getD]
        rw [e2] at e1
        have hb := hk.block yg hyg hyne
        simp only [World.cell?] at e1 ⊢
        rw [hb]
        exact e1
      have hmX : m < X.length := by omega
      have hxc : wr.cell? ⟨g, pre.length + m, none⟩ = some (.int .u64 (X.getD m 0)) := by
        rw [cell_of_block hgr]
        have := mid_at pre post (RA X Y m) m (by rw [RA_len]; exact hmX)
        simp only [List.getElem?_toArray]
        rw [this]
        have e3 : (RA X Y m).getD m 0 = X.getD m 0 := by rw [List.getD_eq_getElem?_getD, RA_at X Y m m hmX]; simp
        rw [e3]
      have hfz := frozen_of_block hgr (pre.length + m)
      have hst := hid (show ∀ x, x = max (X.getD m 0) (Y.getD m 0) → (wr.setCell ⟨g, pre.length + m, none⟩ (.int .u64 x)).heap[g]? = some (.cells (pre ++ ints (RA X Y (m + 1)) ++ post).toArray 34) from fun x hx' => by
        rw [set_block hgr, hx', RA_step X Y m hmX, ← mid_set pre post (RA X Y m) m _ (by rw [RA_len]; exact hmX)]
        simp)
      have HG := hid hgr
      clear hgr hcell
      generalize X.getD m 0 = x at *
      generalize Y.getD m 0 = y at *
      go_wp2_with fail
      exact ⟨⟨m + 1, by omega, by go_num, hst.out _ rfl, hk.trans (Kept.set _ _ _ _ _), by simpa using hsz⟩, by simp [intOf]; omega⟩
    · obtain rfl : m = Y.length := by omega
      have hlt' : (Y.length : Int) ≤ (Y.length : Int) := Int.le_refl _
      go_wp2_with fail
      go_end0
      exact ⟨rfl, hgr, hk, hsz⟩
end Go.Proofs.Ybulkgey
