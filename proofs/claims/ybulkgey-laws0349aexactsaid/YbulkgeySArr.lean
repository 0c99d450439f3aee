/- An array of four bytes that comes in: opened and shut. -/
import Derived.Test.YbulkgeyRows
import Derived.Test.YbulkgeyASib
import Derived.WalkKit
import Derived.ProofKit
import Derived.OpenShut
import Derived.ChangeOld
import Derived.Below
namespace Go.Proofs.Ybulkgey
open Go.ChangeShapes Go.WideShapes Go.ChangeAt Go.RowKit
set_option linter.unusedVariables false
set_option linter.constructorNameAsVariable false

theorem Yba.cells22 : Yba.prog.cellsOf 22 = 4 := by kernel_rfl
section
variable {H : Type} {enc : TypeId × Value → H} {w : World} {base : Nat} {spare : Nat → Bool} {held : Bool}
def arrD (f : Nat → Int) : DataW H := .agg [.lit (.int .u8 (f 0)), .lit (.int .u8 (f 1)), .lit (.int .u8 (f 2)), .lit (.int .u8 (f 3))]
theorem arr_open {r : Reach} {b0 : Nat} {v : Value} {d : DataW H} {ps : List MemPlace} (hval : Value.okWide Yba.prog w r b0 22 v) (hd : DataW.Trod enc Yba.prog w base spare held 22 v d ps) :
    ∃ f : Nat → Int, v = arr f ∧ d = arrD f ∧ ps = [] ∧ ∀ k, k < 4 → (Lit.int .u8 (f k)).wf = true := by
  simp only [Value.okWide, Yba.underlying22] at hval
  obtain ⟨cs, rfl, h2, _⟩ := hval
  obtain ⟨fuel, hf⟩ := hd
  obtain ⟨xs, m, rfl, hx, hl, hxl, hat⟩ := DataW.trod_array Yba.underlying22 hf
  simp only [Prod.mk.injEq] at hx
  obtain ⟨rfl, rfl⟩ := hx
  rw [Yba.cells22] at hl
  simp only [Yba.cells5, Nat.mul_one, Value.cells] at hat hl
  have one : ∀ i (hi : i < 4), ∃ n, cs.toList[i]? = some (.int .u8 n) ∧ xs[i]? = some (.lit (.int .u8 n), []) ∧ (Lit.int .u8 n).wf = true := by
    intro i hi
    have h := hat i hi
    have hi' : i < xs.length := by omega
    rw [List.getElem?_eq_getElem hi'] at h
    obtain ⟨n, h1, h3, h4⟩ := DataW.trod_int Yba.underlying5 h
    refine ⟨n, ?_, by rw [List.getElem?_eq_getElem hi', h3], h4⟩
    have h5 : ((cs.toList.drop i).take 1)[0]? = some (.int .u8 n) := by rw [h1]; rfl
    rw [List.getElem?_take_of_lt (by omega), List.getElem?_drop] at h5
    simpa using h5
  obtain ⟨n0, a0, b0', w0⟩ := one 0 (by omega)
  obtain ⟨n1, a1, b1, w1⟩ := one 1 (by omega)
  obtain ⟨n2, a2, b2, w2⟩ := one 2 (by omega)
  obtain ⟨n3, a3, b3, w3⟩ := one 3 (by omega)
  have hxs : xs = [(.lit (.int .u8 n0), []), (.lit (.int .u8 n1), []), (.lit (.int .u8 n2), []), (.lit (.int .u8 n3), [])] := by
    match xs, hxl, b0', b1, b2, b3 with
    | [x0, x1, x2, x3], _, b0', b1, b2, b3 =>
      simp at b0' b1 b2 b3
      rw [b0', b1, b2, b3]
  have hcs : cs = #[.int .u8 n0, .int .u8 n1, .int .u8 n2, .int .u8 n3] := by
    apply Array.toList_inj.1
    match e : cs.toList, hl, a0, a1, a2, a3 with
    | [x0, x1, x2, x3], _, a0, a1, a2, a3 =>
      simp at a0 a1 a2 a3
      rw [a0, a1, a2, a3]
  refine ⟨fun k => match k with | 0 => n0 | 1 => n1 | 2 => n2 | _ => n3, by rw [hcs]; rfl, by rw [hxs]; rfl, by rw [hxs]; rfl, fun k hk => ?_⟩
  match k, hk with
  | 0, _ => exact w0
  | 1, _ => exact w1
  | 2, _ => exact w2
  | 3, _ => exact w3
theorem arr_shut {f : Nat → Int} (hw : ∀ k, k < 4 → (Lit.int .u8 (f k)).wf = true) : DataW.Trod enc Yba.prog w base spare held 22 (arr f) (arrD f) [] := by
  have w0 := hw 0 (by omega)
  have w1 := hw 1 (by omega)
  have w2 := hw 2 (by omega)
  have w3 := hw 3 (by omega)
  exact ⟨2, by simp [DataW.trod, Value.cells, arr, arrD, Yba.underlying22, Yba.underlying5, Yba.cells22, Yba.cells5, w0, w1, w2, w3, List.range_succ]⟩
end
end Go.Proofs.Ybulkgey
