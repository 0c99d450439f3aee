/- What the listed variables give the walks; a world that meets the condition; how the variables read behind the call. -/
import Derived.Test.YbulkggoDoorRows
import Derived.WalkKit
import Derived.ProofKit
import Derived.OpenShut
import Derived.ChangeSame
import Derived.ChangeVars
import Derived.ChangeOld
import Derived.Below
import Derived.JoinedOf
import Derived.RowKit
import Derived.RowKitTokens
import Derived.LaidLaws
import Derived.LaidMore
import Derived.LaidHandle
import Derived.Stop.Joined
import Derived.Stop.ErrReads
namespace Go.Proofs.YbulkggoDoor
open Go.ChangeShapes Go.WideShapes Go.ChangeAt Go.RowKit

abbrev nShort : String := "example.com/quickquorum/quickquorum/internal/wire.errShort"
abbrev nPadded : String := "example.com/quickquorum/quickquorum/internal/wire.errPadded"
abbrev laid2 : List (String × DataW Unit) := [(nShort, Rows.laid_example_com_quickquorum_quickquorum_internal_wire_errShort), (nPadded, Rows.laid_example_com_quickquorum_quickquorum_internal_wire_errPadded)]

theorem own : ownKnob Ybad.prog.godebug = none := by kernel_rfl
theorem laidOut : laidOutB Ybad.prog = true := by kernel_rfl
theorem gPadded : Ybad.prog.globalNamed nPadded = some 0 := by kernel_rfl
theorem gShort : Ybad.prog.globalNamed nShort = some 1 := by kernel_rfl
theorem tPadded : (Ybad.prog.globals[0]?).map (·.type) = some 29 := by kernel_rfl
theorem tShort : (Ybad.prog.globals[1]?).map (·.type) = some 29 := by kernel_rfl
theorem name41 : Ybad.prog.typeName? 3 41 = some "*errors.errorString" := by kernel_rfl
theorem cells61 : Ybad.prog.cellsOf 61 = 1 := by kernel_rfl
theorem cells9 : Ybad.prog.cellsOf 9 = 1 := by kernel_rfl
theorem star : "*" ++ "errors.errorString" = "*errors.errorString" := by decide
theorem row41 (u : TypeId) (h : Ybad.prog.typeName? 3 u = some "*errors.errorString") : u = 41 :=
  typeName_ptr_named (nm := "errors.errorString") (by rw [star]; kernel_rfl) (by kernel_rfl) (by decide) u (by rw [star]; exact h)

theorem sentinels_of_laid {W : World} (h : laidMetH Ybad.prog laid2 W) :
    ∃ (a0 a1 : Addr), W.var? Ybad.prog nPadded = some #[.iface 41 (.pointer (some a0))] ∧ W.var? Ybad.prog nShort = some #[.iface 41 (.pointer (some a1))] := by
  rw [MakeChecks.laidMetH_plain _ _ _ (by kernel_rfl)] at h
  obtain ⟨ps, ⟨g1, t1, cs1, f1, p1, q1, hg1, ht1, hv1, hd1, ⟨g0, t0, cs0, f0, p0, q0, hg0, ht0, hv0, hd0, hq0, e0⟩, e1⟩, hnd, hrows⟩ := h
  obtain rfl := Option.some.inj (gShort.symm.trans hg1)
  obtain rfl := Option.some.inj (gPadded.symm.trans hg0)
  obtain rfl := Option.some.inj (tShort.symm.trans ht1)
  obtain rfl := Option.some.inj (tPadded.symm.trans ht0)
  have hq0' : q0 = [] := hq0
  subst hq0'
  subst e0
  subst e1
  obtain ⟨l1⟩ := cs1
  obtain ⟨l0⟩ := cs0
  have ok1 : ∀ u v, l1 = [.iface u v] → Value.okWide Ybad.prog W .any 0 u v := fun u v e => by
    subst e
    exact (hrows 1 0 (by simp [MemPlace.row])).2 u v (by simpa using World.var?_cell hg1 hv1 0)
  have ok0 : ∀ u v, l0 = [.iface u v] → Value.okWide Ybad.prog W .any 0 u v := fun u v e => by
    subst e
    exact (hrows 0 0 (by simp [MemPlace.row])).2 u v (by simpa using World.var?_cell hg0 hv0 0)
  obtain ⟨a1, s1, rfl, _⟩ := errorString_of_trod Ybad.underlying29 row41 Ybad.underlying41 Ybad.underlying61 rfl rfl Ybad.underlying9 cells61 cells9 hd1 ok1
  obtain ⟨a0, s0, rfl, _⟩ := errorString_of_trod Ybad.underlying29 row41 Ybad.underlying41 Ybad.underlying61 rfl rfl Ybad.underlying9 cells61 cells9 hd0 ok0
  exact ⟨a0, a1, hv0, hv1⟩

/-- The heap that the start-up's own run leaves meets the condition. -/
theorem door_met (os : Os) (args : Array Value) : laidMetH Ybad.prog laid2 ((World.doorLaid Ybad.prog 400 os).forCall (fun _ _ => 0) ⟨#[], args, []⟩).memory :=
  laidMetH_of_parts3 (fuel := 8) (laidMet_of_run' 8 (by kernel_rfl) (by kernel_rfl)) (by kernel_rfl) (by kernel_rfl)

theorem var_below {W W' : World} {n : String} {cs : Array Value} (h : W.var? Ybad.prog n = some cs) (hb : Below W.heap.size W W') : W'.var? Ybad.prog n = some cs := by
  unfold World.var? at h ⊢
  cases hg : Ybad.prog.globalNamed n with
  | none => simp [hg] at h
  | some g =>
    simp only [hg, Option.bind_some] at h ⊢
    have hlt : g < W.heap.size := by
      rcases Nat.lt_or_ge g W.heap.size with h' | h'
      · exact h'
      · simp [Array.getElem?_eq_none h'] at h
    rw [hb.block g hlt]
    exact h

theorem reads2 {H : Type} (enc : TypeId × Value → H) {W : World} {x0 x1 : Value} (h0 : W.var? Ybad.prog nPadded = some #[x0]) (h1 : W.var? Ybad.prog nShort = some #[x1]) (i0 : IsIface x0) (i1 : IsIface x1) (sp : Nat → Bool) :
    DataW.TrodVars enc Ybad.prog W sp [nPadded, nShort] [tok enc x0, tok enc x1] [.cell 0 0, .cell 1 0] :=
  ⟨0, 29, #[x0], 1, [], [.cell 1 0], gPadded, tPadded, h0, trod_held Ybad.underlying29 i0 0, ⟨1, 29, #[x1], 1, [], [], gShort, tShort, h1, trod_held Ybad.underlying29 i1 0, rfl, rfl⟩, rfl⟩
theorem reads2' {H : Type} (enc : TypeId × Value → H) {W : World} {x0 x1 : Value} (h0 : W.var? Ybad.prog nPadded = some #[x0]) (h1 : W.var? Ybad.prog nShort = some #[x1]) (i0 : IsIface x0) (i1 : IsIface x1) (sp : Nat → Bool) :
    DataW.TrodVars enc Ybad.prog W sp [nShort, nPadded] [tok enc x1, tok enc x0] [.cell 1 0, .cell 0 0] :=
  ⟨1, 29, #[x1], 1, [], [.cell 0 0], gShort, tShort, h1, trod_held Ybad.underlying29 i1 0, ⟨0, 29, #[x0], 1, [], [], gPadded, tPadded, h0, trod_held Ybad.underlying29 i0 0, rfl, rfl⟩, rfl⟩
end Go.Proofs.YbulkggoDoor
