/- The proof of Rows.LawS0349AExactSaid: the row's step, after the guide's own way (howto/template/XProofs.lean), at four arrays of four bytes. -/
import Derived.Test.YbulkgeyRows
import Derived.Test.YbulkgeySLaw3
import Derived.Test.YbulkgeySArr
import Derived.WalkKit
import Derived.ProofKit
import Derived.OpenShut
import Derived.ChangeOld
import Derived.Below
namespace Go.Proofs.Ybulkgey.lawS0349AExact
open Go.ChangeShapes Go.WideShapes Go.ChangeAt Go.RowKit
open Go.RowKit Go.Proofs.Ybulkgey
set_option linter.unusedVariables false
set_option linter.constructorNameAsVariable false

theorem own : ownKnob Yba.prog.godebug = none := by kernel_rfl
theorem laidOut : laidOutB Yba.prog = true := by kernel_rfl

theorem walk (f m g n : Nat → Int) (w : World) (hf : ∀ k, k < 4 → (Lit.int .u8 (f k)).wf = true) (hm : ∀ k, k < 4 → (Lit.int .u8 (m k)).wf = true) (hg : ∀ k, k < 4 → (Lit.int .u8 (g k)).wf = true) (hn : ∀ k, k < 4 → (Lit.int .u8 (n k)).wf = true) :
    Calls Yba.prog 3 #[arr f, arr m, arr g, arr n] w fun e w' => e = .returned (.bool true) ∧ Below w.heap.size w w' :=
  law3_any w f m g n (fun k hk => bounds_u8 (hf k hk)) (fun k hk => bounds_u8 (hm k hk)) (fun k hk => bounds_u8 (hg k hk)) (fun k hk => bounds_u8 (hn k hk))

set_option maxRecDepth 100000 in
theorem lifted (os : Os) (started : os.Started) (H : Type) (enc : TypeId × Value → H) :
    ReturnsInHanded {} Yba.checked os 3 .any (Rows.lawS0349AExactSpec.pre6 enc Yba.prog Yba.f3 Rows.lawS0349AExactRow.domain false) (Rows.lawS0349AExactSpec.post enc Yba.prog Yba.f3 false true false false) := by
  refine returnsInHanded_of_change (C := Yba.checked) own started (by kernel_rfl) Yba.func3
    (ChangeSpec.witness6 (enc := enc) (C := Yba.checked) false ⟨#[], #[.agg #[.int .u8 0, .int .u8 0, .int .u8 0, .int .u8 0], .agg #[.int .u8 0, .int .u8 0, .int .u8 0, .int .u8 0], .agg #[.int .u8 0, .int .u8 0, .int .u8 0, .int .u8 0], .agg #[.int .u8 0, .int .u8 0, .int .u8 0, .int .u8 0]], []⟩ 8 (by kernel_rfl) (by kernel_rfl) (by kernel_rfl) (by kernel_rfl)) ?_
  intro W base args ds gs before hval0 hW hcnd _
  have hval : ∀ (j : Nat) t v, Yba.f3.params[j]? = some t → args[j]? = some v → Value.okWide Yba.prog W .any base t v := hval0
  have hW' := hW
  obtain ⟨p, q, hA0, hV, rfl, hfz, hnd⟩ := hW
  have hA : DataW.TrodAll enc Yba.prog W 0 (fun _ => true) true Yba.f3.params.toList args.toList ds p := hA0
  rw [Yba.params3] at hA hval
  obtain ⟨v0, vs0, d0, ds0, p0, q0, hargs, rfl, rfl, h0, r0⟩ := trodAll_cons hA
  obtain ⟨v1, vs1, d1, ds1, p1, q1, rfl, rfl, rfl, h1, r1⟩ := trodAll_cons r0
  obtain ⟨v2, vs2, d2, ds2, p2, q2, rfl, rfl, rfl, h2, r2⟩ := trodAll_cons r1
  obtain ⟨v3, vs3, d3, ds3, p3, q3, rfl, rfl, rfl, h3, r3⟩ := trodAll_cons r2
  obtain ⟨rfl, rfl, rfl⟩ := trodAll_nil r3
  obtain rfl : args = #[v0, v1, v2, v3] := by cases args; simp_all
  obtain ⟨rfl, rfl⟩ := trodVars_none hV
  obtain ⟨f, rfl, rfl, rfl, w0⟩ := arr_open (hval 0 22 v0 rfl rfl) h0
  obtain ⟨m, rfl, rfl, rfl, w1⟩ := arr_open (hval 1 22 v1 rfl rfl) h1
  obtain ⟨g, rfl, rfl, rfl, w2⟩ := arr_open (hval 2 22 v2 rfl rfl) h2
  obtain ⟨n, rfl, rfl, rfl, w3⟩ := arr_open (hval 3 22 v3 rfl rfl) h3
  clear hA0 hval0
  refine (walk f m g n W w0 w1 w2 w3).mono fun e W' ⟨he, bel⟩ => ?_
  subst he
  exact ⟨_, rfl, _, _, _, [], _, [], hW', trodAll_mk1 (shut_bool Yba.underlying4 _), (trodAll_cons_mk (arr_shut w0) (trodAll_cons_mk (arr_shut w1) (trodAll_cons_mk (arr_shut w2) (trodAll_cons_mk (arr_shut w3) trodAll_mk0)))), rfl, bel.frame _, fun h => by cases h⟩

theorem over : Rows.lawS0349AExactRow.holds Yba.pinned (OpenSpec.ofChange Rows.lawS0349AExactSpec) :=
  OpenClaim.holds_of_wide 3 Yba.f3 rfl rfl rfl rfl rfl rfl rfl ⟨rfl, rfl, rfl, rfl, rfl⟩ rfl rfl rfl rfl rfl (by kernel_rfl) Yba.func3 (by kernel_rfl)
    (of_decide_eq_true (by kernel_rfl)) (by unfold Func.isWrapper; first | (rw [if_pos (by decide +kernel)]; kernel_rfl) | (rw [if_neg (by decide +kernel)]; exact ⟨rfl, rfl⟩))
    (fun os started H enc _ => lifted os started H enc)

/-- ████ THE STATEMENT ████ -/
theorem proved : Rows.LawS0349AExactSaid := over
#print axioms proved
end Go.Proofs.Ybulkgey.lawS0349AExact
