/- What the listed variables give the walks; a world that meets the condition. -/
import Derived.Test.YbulkgjuDoorRed
import Derived.WalkKit
import Derived.ProofKit
import Derived.OpenShut
import Derived.ChangeSame
import Derived.ChangeVars
import Derived.ChangeOld
import Derived.Below
import Derived.JoinedOf
import Derived.RowKit
import Derived.RowKitTokens
import Derived.LaidLaws
import Derived.LaidMore
import Derived.LaidHandle
namespace Go.Proofs.YbulkgjuDoor
open Go.ChangeShapes Go.WideShapes Go.ChangeAt Go.RowKit
set_option linter.unusedVariables false

abbrev laid3 : List (String × DataW Unit) := [("math._sin", Rows.laid_math_sin), ("math._cos", Rows.laid_math_cos), ("math.mPi4", Rows.laid_math_mPi4)]

theorem own : ownKnob Ybad.prog.godebug = none := by kernel_rfl
theorem laidOut : laidOutB Ybad.prog = true := by kernel_rfl
theorem g1 : Ybad.prog.globalNamed "math._sin" = some 1 := by kernel_rfl
theorem g2 : Ybad.prog.globalNamed "math._cos" = some 2 := by kernel_rfl
theorem g3 : Ybad.prog.globalNamed "math.mPi4" = some 3 := by kernel_rfl
theorem t1 : (Ybad.prog.globals[1]?).map (·.type) = some 40 := by kernel_rfl
theorem t2 : (Ybad.prog.globals[2]?).map (·.type) = some 40 := by kernel_rfl
theorem t3 : (Ybad.prog.globals[3]?).map (·.type) = some 42 := by kernel_rfl
theorem cells22 : Ybad.prog.cellsOf 22 = 1 := by kernel_rfl
theorem cells31 : Ybad.prog.cellsOf 31 = 1 := by kernel_rfl

section
variable {H : Type} {enc : TypeId × Value → H} {P : Program} {w : World} {base : Nat} {spare : Nat → Bool} {held : Bool} {fuel : Nat} {t e : TypeId} {cs : List Value}

theorem trod_float {k : FloatKind} {x : DataW H × List MemPlace} (ht : P.underlying t = some (.float k)) (h : DataW.trod enc P w base spare held fuel t cs = some x) : ∃ n, cs = [.float k n] ∧ x = (.lit (.float k n), []) := by
  cases fuel with
  | zero => simp [DataW.trod] at h
  | succ n =>
    unfold DataW.trod at h
    rw [ht] at h
    split at h <;> simp_all

theorem one_of_take {l : List Value} {i : Nat} {v : Value} (h : (l.drop (i * 1)).take 1 = [v]) : l[i]? = some v := by
  rw [Nat.mul_one] at h
  have : ((l.drop i).take 1)[0]? = some v := by rw [h]; rfl
  simpa using this

theorem floats_of {n : Nat} {k : FloatKind} {ds : List (DataW H)} {p : List MemPlace} (ht : P.underlying t = some (.array n e)) (he : P.underlying e = some (.float k)) (hc : P.cellsOf e = 1)
    (h : DataW.trod enc P w base spare held fuel t cs = some (.agg ds, p)) (i b : Nat) (hi : ds[i]? = some (.lit (.float k b))) : cs[i]? = some (.float k b) := by
  obtain ⟨xs, m, rfl, hx, hl, hn, hall⟩ := DataW.trod_array ht h
  simp only [Prod.mk.injEq, DataW.agg.injEq] at hx
  obtain ⟨rfl, rfl⟩ := hx
  rw [List.getElem?_map, Option.map_eq_some_iff] at hi
  obtain ⟨y, hy, hy2⟩ := hi
  have hlt : i < n := by
    rw [← hn]
    exact (List.getElem?_eq_some_iff.1 hy).1
  have := hall i hlt
  rw [hy, hc] at this
  obtain ⟨b', hb, rfl⟩ := trod_float he this
  simp only [DataW.lit.injEq, Lit.float.injEq] at hy2
  rw [one_of_take hb, hy2.2]

theorem ints_of {n : Nat} {k : IntKind} {ds : List (DataW H)} {p : List MemPlace} (ht : P.underlying t = some (.array n e)) (he : P.underlying e = some (.int k)) (hc : P.cellsOf e = 1)
    (h : DataW.trod enc P w base spare held fuel t cs = some (.agg ds, p)) (i : Nat) (b : Int) (hi : ds[i]? = some (.lit (.int k b))) : cs[i]? = some (.int k b) := by
  obtain ⟨xs, m, rfl, hx, hl, hn, hall⟩ := DataW.trod_array ht h
  simp only [Prod.mk.injEq, DataW.agg.injEq] at hx
  obtain ⟨rfl, rfl⟩ := hx
  rw [List.getElem?_map, Option.map_eq_some_iff] at hi
  obtain ⟨y, hy, hy2⟩ := hi
  have hlt : i < n := by
    rw [← hn]
    exact (List.getElem?_eq_some_iff.1 hy).1
  have := hall i hlt
  rw [hy, hc] at this
  obtain ⟨b', hb, rfl, _⟩ := DataW.trod_int he this
  simp only [DataW.lit.injEq, Lit.int.injEq] at hy2
  rw [one_of_take hb, hy2.2]
end

theorem laidW_of_laid {W : World} (h : laidMetH Ybad.prog laid3 W) : LaidW W := by
  rw [MakeChecks.laidMetH_plain _ _ _ (by kernel_rfl)] at h
  obtain ⟨ps, ⟨a1, b1, cs1, f1, p1, q1, hg1, ht1, hv1, hd1, ⟨a2, b2, cs2, f2, p2, q2, hg2, ht2, hv2, hd2, ⟨a3, b3, cs3, f3, p3, q3, hg3, ht3, hv3, hd3, hq3, e3⟩, e2⟩, e1⟩, hnd, hrows⟩ := h
  obtain rfl := Option.some.inj (g1.symm.trans hg1)
  obtain rfl := Option.some.inj (g2.symm.trans hg2)
  obtain rfl := Option.some.inj (g3.symm.trans hg3)
  obtain rfl := Option.some.inj (t1.symm.trans ht1)
  obtain rfl := Option.some.inj (t2.symm.trans ht2)
  obtain rfl := Option.some.inj (t3.symm.trans ht3)
  have S := fun i b h => floats_of Ybad.underlying40 Ybad.underlying22 cells22 hd1 i b h
  have C := fun i b h => floats_of Ybad.underlying40 Ybad.underlying22 cells22 hd2 i b h
  have M := fun i b h => ints_of Ybad.underlying42 Ybad.underlying31 cells31 hd3 i b h
  have cs : ∀ i, W.cell? ⟨1, i, none⟩ = cs1.toList[i]? := fun i => by simpa using World.var?_cell hg1 hv1 i
  have cc : ∀ i, W.cell? ⟨2, i, none⟩ = cs2.toList[i]? := fun i => by simpa using World.var?_cell hg2 hv2 i
  have cm : ∀ i, W.cell? ⟨3, i, none⟩ = cs3.toList[i]? := fun i => by simpa using World.var?_cell hg3 hv3 i
  refine ⟨?_, ?_, ?_, ?_, ?_, ?_, ?_, ?_, ?_, ?_, ?_, ?_, ?_⟩
  · rw [cs]; exact S 0 _ rfl
  · rw [cs]; exact S 1 _ rfl
  · rw [cs]; exact S 2 _ rfl
  · rw [cs]; exact S 3 _ rfl
  · rw [cs]; exact S 4 _ rfl
  · rw [cs]; exact S 5 _ rfl
  · rw [cc]; exact C 0 _ rfl
  · rw [cc]; exact C 1 _ rfl
  · rw [cc]; exact C 2 _ rfl
  · rw [cc]; exact C 3 _ rfl
  · rw [cc]; exact C 4 _ rfl
  · rw [cc]; exact C 5 _ rfl
  · intro i hi
    rw [cm]
    refine M i _ ?_
    have : ∀ i : Fin 20, ([.lit (.int .u64 1), .lit (.int .u64 5040379952546458195), .lit (.int .u64 17892431488136887169), .lit (.int .u64 13169980181085364355), .lit (.int .u64 18204331823439776451), .lit (.int .u64 7946843935494350272), .lit (.int .u64 905889640498799673), .lit (.int .u64 18175356263134875261), .lit (.int .u64 15061281708168349961), .lit (.int .u64 15220161563773041794), .lit (.int .u64 8296664548579374057), .lit (.int .u64 4109744767560208502), .lit (.int .u64 4607516669194743839), .lit (.int .u64 16023283104648321598), .lit (.int .u64 15739233654134936430), .lit (.int .u64 11424645774684705882), .lit (.int .u64 16883842788696515318), .lit (.int .u64 8795094592981902804), .lit (.int .u64 15561835991111744016), .lit (.int .u64 12395701187267450711)] : List (DataW Unit))[i.val]? = some (.lit (.int .u64 (mp i.val))) := by
      intro i
      rcases i with ⟨i, hi⟩
      rcases i with _ | _ | _ | _ | _ | _ | _ | _ | _ | _ | _ | _ | _ | _ | _ | _ | _ | _ | _ | _ | i
      all_goals first | rfl | omega
    exact this ⟨i, hi⟩

/-- The heap that the start-up's own run leaves meets the condition. -/
theorem door_met (os : Os) (args : Array Value) : laidMetH Ybad.prog laid3 ((World.doorLaid Ybad.prog 400 os).forCall (fun _ _ => 0) ⟨#[], args, []⟩).memory :=
  laidMetH_of_parts3 (fuel := 8) (laidMet_of_run' 8 (by kernel_rfl) (by kernel_rfl)) (by kernel_rfl) (by kernel_rfl)

end Go.Proofs.YbulkgjuDoor
