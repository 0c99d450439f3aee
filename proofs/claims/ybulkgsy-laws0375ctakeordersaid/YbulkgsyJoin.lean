/- The tournament: 'ties', 'join': the walks. -/
import Derived.Test.YbulkgsyRows
import Derived.WalkKit
import Derived.WalkSpells
import Derived.WalkLawsBesides
import Derived.Deep.QuietTactic
import Derived.BigQuiet
import Derived.Handy
import Derived.Deep.RegionWith
import Derived.BigRegion
import Derived.Deep.DeepCutAuto
namespace Go.Proofs.Ybulkgsy
open Go.RowKit
set_option linter.unusedVariables false

/-- The nodes: node n in the cells 2n (its total), 2n + 1 (its ties). -/
def Tree (w : World) (G N : Nat) (T C : Nat → Int) : Prop :=
  (∀ n, n < N → w.cell? ⟨G, n * 2, none⟩ = some (.int .i64 (T n)) ∧ w.cell? ⟨G, n * 2 + 1, none⟩ = some (.int .i64 (C n))) ∧ ∀ j, w.frozen? ⟨G, j, none⟩ = false
/-- The tournament: its size, its nodes. -/
def Ranks (w : World) (R G N size : Nat) : Prop := w.cell? ⟨R, 0, none⟩ = some (.int .i64 size) ∧ w.cell? ⟨R, 1, none⟩ = some (.slice (some ⟨G, 0, none⟩) N N)
/-- Nothing that was there has turned but block G. -/
def Step (G : Nat) (w w' : World) : Prop := (∀ B, B ≤ G → B ≤ w.heap.size → Below B w w') ∧ w.heap.size ≤ w'.heap.size ∧ ∀ k, k < w.heap.size → k ≠ G → w'.heap[k]? = w.heap[k]?

theorem Step.refl (G : Nat) (w : World) : Step G w w := ⟨fun B _ _ => Below.refl B w, Nat.le_refl _, fun _ _ _ => rfl⟩
theorem Step.trans {G : Nat} {w w1 w2 : World} (h : Step G w w1) (h' : Step G w1 w2) : Step G w w2 :=
  ⟨fun B hB hs => (h.1 B hB hs).trans (h'.1 B hB (Nat.le_trans hs h.2.1)), Nat.le_trans h.2.1 h'.2.1, fun k hk hne => (h'.2.2 k (Nat.lt_of_lt_of_le hk h.2.1) hne).trans (h.2.2 k hk hne)⟩
theorem Step.alloc (G : Nat) (w : World) (o : Obj) : Step G w (w.alloc o) :=
  ⟨fun B _ hs => (Below.refl B w).alloc hs o, by simp, fun k hk _ => heap_alloc_old _ _ hk⟩
theorem Step.drew (G : Nat) (w : World) : Step G w w.drew := ⟨fun B _ _ => ⟨rfl, rfl, rfl, Nat.le_refl _, fun _ _ => rfl⟩, Nat.le_refl _, fun _ _ _ => rfl⟩
theorem Step.set (G j : Nat) (w : World) (v : Value) : Step G w (w.setCell ⟨G, j, none⟩ v) := by
  refine ⟨fun B hB _ => (Below.refl B w).setCell hB v, by simp [World.setCell], fun k hk hne => ?_⟩
  simp only [World.setCell, Array.getElem?_modify]
  rw [if_neg (fun h => hne h.symm)]
theorem Step.cell {G : Nat} {w w' : World} (h : Step G w w') {a : Addr} {v : Value} (ha : a.block ≠ G) (hc : w.cell? a = some v) : w'.cell? a = some v :=
  (World.cell?_of_block (w := w) (h.2.2 a.block (block_lt_of_cell hc) ha)).trans hc
theorem Step.ranks {G : Nat} {w w' : World} (h : Step G w w') {R N size : Nat} (hne : R ≠ G) (hr : Ranks w R G N size) : Ranks w' R G N size := ⟨h.cell hne hr.1, h.cell hne hr.2⟩

def upd (f : Nat → Int) (n : Nat) (v : Int) : Nat → Int := fun k => if k = n then v else f k
theorem upd_same (f : Nat → Int) (n : Nat) (v : Int) : upd f n v n = v := by simp [upd]
theorem upd_other (f : Nat → Int) {n k : Nat} (v : Int) (h : k ≠ n) : upd f n v k = f k := by simp [upd, h]

theorem Tree.lt {w : World} {G N : Nat} {T C : Nat → Int} (h : Tree w G N T C) (hN : 0 < N) : G < w.heap.size := block_lt_of_cell (h.1 0 hN).1
theorem Tree.alloc {w : World} {G N : Nat} {T C : Nat → Int} (h : Tree w G N T C) (hN : 0 < N) (o : Obj) : Tree (w.alloc o) G N T C := by
  have hG := h.lt hN
  refine ⟨fun n hn => ?_, fun j => ?_⟩
  · rw [World.cell?_alloc_lt _ _ _ (by exact hG), World.cell?_alloc_lt _ _ _ (by exact hG)]; exact h.1 n hn
  · rw [World.frozen?_alloc_old _ _ _ (Nat.ne_of_lt (by exact hG))]; exact h.2 j
theorem Tree.drew {w : World} {G N : Nat} {T C : Nat → Int} (h : Tree w G N T C) : Tree w.drew G N T C := h
theorem Tree.setTop {w : World} {G N : Nat} {T C : Nat → Int} (h : Tree w G N T C) (n : Nat) (hn : n < N) (v : Int) : Tree (w.setCell ⟨G, n * 2, none⟩ (.int .i64 v)) G N (upd T n v) C := by
  refine ⟨fun k hk => ⟨?_, ?_⟩, fun j => by rw [World.frozen?_setCell]; exact h.2 j⟩
  · by_cases e : k = n
    · subst e
      rw [upd_same]
      exact World.cell?_setCell_same _ _ _ (h.1 k hk).1
    · rw [upd_other _ _ e, World.cell?_setCell_other _ _ _ _ (by intro h; simp only [Addr.mk.injEq] at h; omega)]; exact (h.1 k hk).1
  · rw [World.cell?_setCell_other _ _ _ _ (by intro h; simp only [Addr.mk.injEq] at h; omega)]; exact (h.1 k hk).2
theorem Tree.setTies {w : World} {G N : Nat} {T C : Nat → Int} (h : Tree w G N T C) (n : Nat) (hn : n < N) (v : Int) : Tree (w.setCell ⟨G, n * 2 + 1, none⟩ (.int .i64 v)) G N T (upd C n v) := by
  refine ⟨fun k hk => ⟨?_, ?_⟩, fun j => by rw [World.frozen?_setCell]; exact h.2 j⟩
  · rw [World.cell?_setCell_other _ _ _ _ (by intro h; simp only [Addr.mk.injEq] at h; omega)]; exact (h.1 k hk).1
  · by_cases e : k = n
    · subst e
      rw [upd_same]
      exact World.cell?_setCell_same _ _ _ (h.1 k hk).2
    · rw [upd_other _ _ e, World.cell?_setCell_other _ _ _ _ (by intro h; simp only [Addr.mk.injEq] at h; omega)]; exact (h.1 k hk).2

theorem ties_any (w : World) (R G N size : Nat) (T C : Nat → Int) (hR : Ranks w R G N size) (hT : Tree w G N T C) (hN : 2 ≤ N) :
    Calls Yba.prog 5 #[.pointer (some ⟨R, 0, none⟩)] w fun e w' => e = .returned (.int .i64 (C 1)) ∧ w' = w := by
  obtain ⟨h0, h1⟩ := hR
  obtain ⟨c0, c1⟩ := hT.1 1 (by omega)
  have hi : (1 : Int) < (N : Int) := by omega
  go_enter Yba.func5, Yba.ntmps5
  go_wp2
  go_ret
  exact ⟨rfl, rfl⟩

set_option maxRecDepth 100000 in
set_option maxHeartbeats 4000000 in
theorem join_gt (w : World) (R G N size n : Nat) (T C : Nat → Int) (hR : Ranks w R G N size) (hT : Tree w G N T C) (hn : 2 * n + 1 < N) (hNb : N ≤ 10000) (hRG : R ≠ G) (hlt : T (2 * n + 1) < T (2 * n)) :
    Calls Yba.prog 4 #[.pointer (some ⟨R, 0, none⟩), .int .i64 n] w fun e w' => e = .returned (.tuple #[]) ∧ Tree w' G N (upd T n (T (2 * n))) (upd C n (C (2 * n))) ∧ Step G w w' := by
  obtain ⟨h0, h1⟩ := hR
  obtain ⟨c0, c1⟩ := hT.1 (2 * n) (by omega)
  obtain ⟨d0, d1⟩ := hT.1 (2 * n + 1) (by omega)
  obtain ⟨e0, e1⟩ := hT.1 n (by omega)
  have hi0 : (n : Int) < (N : Int) := by omega
  have hi1 : 2 * (n : Int) < (N : Int) := by omega
  have hi2 : 2 * (n : Int) + 1 < (N : Int) := by omega
  have hRs : R < w.heap.size := block_lt_of_cell h0
  have hGs : G < w.heap.size := block_lt_of_cell e0
  have f0 := hT.2 (n * 2)
  have f1 := hT.2 (n * 2 + 1)
  have HT : Hid (Tree w G N T C) := hT
  clear hT
  go_enter Yba.func4, Yba.ntmps4
  go_wp2
  go_region
  all_goals go_wp2
  all_goals go_region
  all_goals go_wp2
  all_goals go_end0
  all_goals
    refine ⟨rfl, ?_, ?_⟩
    · exact (((HT.out.setTop n (by omega) _).setTies n (by omega) _).alloc (by omega) _).alloc (by omega) _
    · exact ((Step.set G _ w _).trans (Step.set G _ _ _)).trans ((Step.alloc G _ _).trans ((Step.alloc G _ _).trans ((Step.drew G _).trans (Step.drew G _))))
set_option maxRecDepth 100000 in
set_option maxHeartbeats 4000000 in
theorem join_lt (w : World) (R G N size n : Nat) (T C : Nat → Int) (hR : Ranks w R G N size) (hT : Tree w G N T C) (hn : 2 * n + 1 < N) (hNb : N ≤ 10000) (hRG : R ≠ G) (hlt : T (2 * n) < T (2 * n + 1)) :
    Calls Yba.prog 4 #[.pointer (some ⟨R, 0, none⟩), .int .i64 n] w fun e w' => e = .returned (.tuple #[]) ∧ Tree w' G N (upd T n (T (2 * n + 1))) (upd C n (C (2 * n + 1))) ∧ Step G w w' := by
  obtain ⟨h0, h1⟩ := hR
  obtain ⟨c0, c1⟩ := hT.1 (2 * n) (by omega)
  obtain ⟨d0, d1⟩ := hT.1 (2 * n + 1) (by omega)
  obtain ⟨e0, e1⟩ := hT.1 n (by omega)
  have hi0 : (n : Int) < (N : Int) := by omega
  have hi1 : 2 * (n : Int) < (N : Int) := by omega
  have hi2 : 2 * (n : Int) + 1 < (N : Int) := by omega
  have hRs : R < w.heap.size := block_lt_of_cell h0
  have hGs : G < w.heap.size := block_lt_of_cell e0
  have f0 := hT.2 (n * 2)
  have f1 := hT.2 (n * 2 + 1)
  have HT : Hid (Tree w G N T C) := hT
  clear hT
  go_enter Yba.func4, Yba.ntmps4
  go_wp2
  go_region
  all_goals go_wp2
  all_goals go_region
  all_goals go_wp2
  all_goals go_end0
  all_goals
    refine ⟨rfl, ?_, ?_⟩
    · exact (((HT.out.setTop n (by omega) _).setTies n (by omega) _).alloc (by omega) _).alloc (by omega) _
    · exact ((Step.set G _ w _).trans (Step.set G _ _ _)).trans ((Step.alloc G _ _).trans ((Step.alloc G _ _).trans ((Step.drew G _).trans (Step.drew G _))))
set_option maxRecDepth 100000 in
set_option maxHeartbeats 4000000 in
theorem join_eq (w : World) (R G N size n : Nat) (T C : Nat → Int) (hR : Ranks w R G N size) (hT : Tree w G N T C) (hn : 2 * n + 1 < N) (hNb : N ≤ 10000) (hRG : R ≠ G) (heq : T (2 * n) = T (2 * n + 1)) (hb0 : 0 ≤ C (2 * n) ∧ C (2 * n) ≤ 10000) (hb1 : 0 ≤ C (2 * n + 1) ∧ C (2 * n + 1) ≤ 10000) :
    Calls Yba.prog 4 #[.pointer (some ⟨R, 0, none⟩), .int .i64 n] w fun e w' => e = .returned (.tuple #[]) ∧ Tree w' G N (upd T n (T (2 * n + 1))) (upd C n (C (2 * n) + C (2 * n + 1))) ∧ Step G w w' := by
  obtain ⟨h0, h1⟩ := hR
  obtain ⟨c0, c1⟩ := hT.1 (2 * n) (by omega)
  obtain ⟨d0, d1⟩ := hT.1 (2 * n + 1) (by omega)
  obtain ⟨e0, e1⟩ := hT.1 n (by omega)
  have hi0 : (n : Int) < (N : Int) := by omega
  have hi1 : 2 * (n : Int) < (N : Int) := by omega
  have hi2 : 2 * (n : Int) + 1 < (N : Int) := by omega
  have hRs : R < w.heap.size := block_lt_of_cell h0
  have hGs : G < w.heap.size := block_lt_of_cell e0
  have f0 := hT.2 (n * 2)
  have f1 := hT.2 (n * 2 + 1)
  have HT : Hid (Tree w G N T C) := hT
  clear hT
  obtain ⟨b0, b1⟩ := hb0
  obtain ⟨b2, b3⟩ := hb1
  go_enter Yba.func4, Yba.ntmps4
  go_wp2
  go_region
  all_goals go_wp2
  all_goals go_region
  all_goals go_wp2
  all_goals go_end0
  all_goals
    refine ⟨rfl, ?_, ?_⟩
    · exact (((HT.out.setTop n (by omega) _).setTies n (by omega) _).alloc (by omega) _).alloc (by omega) _
    · exact ((Step.set G _ w _).trans (Step.set G _ _ _)).trans ((Step.alloc G _ _).trans ((Step.alloc G _ _).trans ((Step.drew G _).trans (Step.drew G _))))
def jT (T : Nat → Int) (n : Nat) : Int := if T (2 * n + 1) < T (2 * n) then T (2 * n) else T (2 * n + 1)
def jC (T C : Nat → Int) (n : Nat) : Int := if T (2 * n + 1) < T (2 * n) then C (2 * n) else if T (2 * n) < T (2 * n + 1) then C (2 * n + 1) else C (2 * n) + C (2 * n + 1)
theorem join_any (w : World) (R G N size n : Nat) (T C : Nat → Int) (hR : Ranks w R G N size) (hT : Tree w G N T C) (hn : 2 * n + 1 < N) (hNb : N ≤ 10000) (hRG : R ≠ G)
    (hb0 : 0 ≤ C (2 * n) ∧ C (2 * n) ≤ 10000) (hb1 : 0 ≤ C (2 * n + 1) ∧ C (2 * n + 1) ≤ 10000) :
    Calls Yba.prog 4 #[.pointer (some ⟨R, 0, none⟩), .int .i64 n] w fun e w' => e = .returned (.tuple #[]) ∧ Tree w' G N (upd T n (jT T n)) (upd C n (jC T C n)) ∧ Step G w w' := by
  unfold jT jC
  by_cases h1 : T (2 * n + 1) < T (2 * n)
  · rw [if_pos h1, if_pos h1]
    exact join_gt w R G N size n T C hR hT hn hNb hRG h1
  · rw [if_neg h1, if_neg h1]
    by_cases h2 : T (2 * n) < T (2 * n + 1)
    · rw [if_pos h2]
      exact join_lt w R G N size n T C hR hT hn hNb hRG h2
    · rw [if_neg h2]
      exact join_eq w R G N size n T C hR hT hn hNb hRG (by omega) hb0 hb1
end Go.Proofs.Ybulkgsy
