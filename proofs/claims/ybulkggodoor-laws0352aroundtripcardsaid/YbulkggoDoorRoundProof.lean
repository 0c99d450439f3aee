/- LawS0352ARoundTrip: the row, and the tied card. -/
import Derived.Test.YbulkggoDoorRound
import Derived.Test.YbulkggoDoorArgs
import Derived.Test.YbulkggoDoorTie
import Derived.Test.YbulkggoDoorCards
import Derived.SevenTiedAt
namespace Go.Proofs.YbulkggoDoor.lawS0352ARoundTrip
open Go.ChangeShapes Go.WideShapes Go.ChangeAt Go.RowKit Go.Proofs.YbulkggoDoor
set_option linter.unusedVariables false

theorem nil_cap {H : Type} {enc : TypeId × Value → H} {W : World} {len cap : Nat} {d : DataW H} {p : List MemPlace}
    (h : DataW.Trod enc Ybad.prog W 0 (fun _ => true) true 23 (.slice none len cap) d p) : cap = 0 := by
  obtain ⟨fuel, hf⟩ := h
  rcases open_ints Ybad.underlying23 Ybad.underlying5 (by kernel_rfl) hf with ⟨hcs, _⟩ | ⟨x, l, c, zs, hcs, _⟩
  · simp [Value.cells] at hcs
    exact hcs.2
  · simp [Value.cells] at hcs

set_option maxHeartbeats 400000 in
set_option maxRecDepth 100000 in
theorem walk (n : Int) (p : Option Addr) (len cap : Nat) (xs : List Int) (a0 a1 : Addr) (w : World) (hn : (Lit.int .u64 n).wf = true) (hlen : xs.length = len) (hlc : len ≤ cap) (hpc : p = none → cap = 0) (hin : Lib.BytesIn w p len xs) (hx : ∀ x ∈ xs, 0 ≤ x ∧ x < 256)
    (g0 : w.cell? ⟨0, 0, none⟩ = some (.iface 41 (.pointer (some a0)))) (g1 : w.cell? ⟨1, 0, none⟩ = some (.iface 41 (.pointer (some a1)))) :
    Calls Ybad.prog 3 #[.int .u64 n, .slice p len cap] w fun e w' => e = .returned (.bool true) ∧ Below w.heap.size w w' := by
  have hb := bounds_u64 hn
  obtain ⟨x, rfl⟩ : ∃ x : Nat, n = (x : Int) := ⟨n.toNat, by omega⟩
  have e1 : (Lib.bytesOf xs).length = len := by rw [Lib.bytesOf_length]; exact hlen
  have e2 := nums_of_bytes hx
  subst e1
  have hin : Lib.BytesIn w p (Lib.bytesOf xs).length (nums (Lib.bytesOf xs)) := by rw [e2]; exact hin
  by_cases hl : (Lib.bytesOf xs).length ≤ 1024
  · exact round_any w x (by omega) p cap _ a0 a1 hin hlc hpc hl g0 g1
  · generalize (Lib.bytesOf xs).length = m at *
    have hl' : (1024 : Int) < (m : Int) := by omega
    go_enter Ybad.func3, Ybad.ntmps3
    go_wp2
    go_ret
    exact ⟨rfl, Below.refl _ _⟩

set_option maxRecDepth 100000 in
theorem lifted (os : Os) (started : os.Started) (H : Type) (enc : TypeId × Value → H) :
    ReturnsInHanded {} Ybad.checked os 3 .any (fun w args => (Rows.lawS0352ARoundTripSpec.pre enc Ybad.prog Ybad.f3 [] false w args ∧ laidMetH Ybad.prog laid2 w) ∧ sizedMet enc Ybad.prog Ybad.f3 (OpenSpec.ofChange Rows.lawS0352ARoundTripSpec) false w args)
      (Rows.lawS0352ARoundTripSpec.post enc Ybad.prog Ybad.f3 false true false false) := by
  refine returnsInHanded_of_change_and (C := Ybad.checked) (X := fun w _ => laidMetH Ybad.prog laid2 w) (fun _ _ _ hh h => h.of_heap hh) own started (by kernel_rfl) Ybad.func3
    (ChangeSpec.witness_shaped (enc := enc) (C := Ybad.checked) (os := os) (X := fun w _ => laidMetH Ybad.prog laid2 w) false (World.doorLaid Ybad.prog 400 os) #[.int .u64 0, .slice none 0 0] 8 rfl (World.shaped_of_RefB (by kernel_rfl) (by kernel_rfl)) (by kernel_rfl) (by kernel_rfl) (by kernel_rfl) (door_met os _)) ?_
  intro W base args ds gs before hval0 hW _ _ hL _
  have hval : ∀ (j : Nat) t v, Ybad.f3.params[j]? = some t → args[j]? = some v → Value.okWide Ybad.prog W .any base t v := hval0
  have hW' := hW
  obtain ⟨p, q, hA0, hV0, rfl, hfz, hnd⟩ := hW
  have hA : DataW.TrodAll enc Ybad.prog W 0 (fun _ => true) true Ybad.f3.params.toList args.toList ds p := hA0
  have hV : DataW.TrodVars enc Ybad.prog W (fun _ => true) [nShort, nPadded] gs q := hV0
  rw [Ybad.params3] at hA hval
  obtain ⟨v0, vs0, d0, ds0, p0, q0, hargs, rfl, rfl, h0, r0⟩ := trodAll_cons hA
  obtain ⟨v1, vs1, d1, ds1, p1, q1, rfl, rfl, rfl, h1, r1⟩ := trodAll_cons r0
  obtain ⟨rfl, rfl, rfl⟩ := trodAll_nil r1
  obtain rfl : args = #[v0, v1] := by cases args; simp_all
  obtain ⟨n, rfl, rfl, rfl, hn⟩ := open_int Ybad.underlying22 (hval 0 22 v0 rfl rfl) h0
  obtain ⟨a0, len0, cap0, rfl⟩ := okWide_slice Ybad.underlying23 (hval 1 23 v1 rfl rfl)
  have k1 := h1
  have lt1 : ∀ x ∈ p1, x.block < W.heap.size := by obtain ⟨m, hm⟩ := k1; exact DataW.trod_lt m _ _ _ hm
  obtain ⟨xs, hlen, hlc, hin, hx⟩ := bytes_of_trod h1
  have hpc : a0 = none → cap0 = 0 := by rintro rfl; exact nil_cap h1
  obtain ⟨s0, s1, hv0, hv1⟩ := sentinels_of_laid hL
  obtain ⟨rfl, rfl⟩ := hV.unique (reads2' enc hv0 hv1 trivial trivial _)
  clear hA0 hV0 hval0
  have hg0 : W.cell? ⟨0, 0, none⟩ = some (.iface 41 (.pointer (some s0))) := by simpa using World.var?_cell gPadded hv0 0
  have hg1 : W.cell? ⟨1, 0, none⟩ = some (.iface 41 (.pointer (some s1))) := by simpa using World.var?_cell gShort hv1 0
  refine (walk n a0 len0 cap0 xs s0 s1 W hn hlen hlc hpc hin hx hg0 hg1).mono fun e W' ⟨he, bel⟩ => ?_
  subst he
  exact ⟨_, rfl, _, _, _, [], _, [.cell 1 0, .cell 0 0], hW', trodAll_mk1 (shut_bool Ybad.underlying4 _), (trodAll_cons_mk (shut_int Ybad.underlying22 hn) (trodAll_cons_mk (Below.trod laidOut (by kernel_rfl) (of_decide_eq_true (by kernel_rfl)) k1 bel lt1) trodAll_mk0)), reads2' enc (var_below hv0 bel) (var_below hv1 bel) trivial trivial _, bel.frame _, fun h => by cases h⟩

theorem over : Rows.lawS0352ARoundTripRow.holds Ybad.pinned (OpenSpec.ofChange Rows.lawS0352ARoundTripSpec) :=
  OpenClaim.holds_of_wide 3 Ybad.f3 rfl rfl rfl rfl rfl rfl rfl ⟨rfl, rfl, rfl, rfl, rfl⟩ rfl rfl rfl rfl rfl (by kernel_rfl) Ybad.func3 (by kernel_rfl)
    (of_decide_eq_true (by kernel_rfl)) (by unfold Func.isWrapper; first | (rw [if_pos (by decide +kernel)]; kernel_rfl) | (rw [if_neg (by decide +kernel)]; exact ⟨rfl, rfl⟩))
    (fun os started H enc _ => lifted os started H enc)

/-- ████ THE TIED CARD ████ -/
theorem proved : Rows.LawS0352ARoundTripCardSaid :=
  Claim7.holds_tied_plain_at .later [] [.sentinel, .sentinel] true (true, "c3b1d2b750b44f92bc8f4ab56ee25c10a2d755c1c849a3c9952f238696ac1448") true
    over (fun _ h => by cases h) (by kernel_rfl) (fun _ h => by cases h) lawS0352ARoundTrip_row_tie rfl ⟨rfl, rfl⟩ (by kernel_rfl) rfl
    (fun f fn hf hfn => by
      obtain rfl : f = 3 := Option.some.inj ((show Ybad.prog.funcNamed "example.com/quickquorum/quickquorum/internal/wire.LawS0352ARoundTrip" = some 3 by kernel_rfl).symm.trans hf) |>.symm
      obtain rfl : fn = Ybad.f3 := (Option.some.inj (Ybad.func3.symm.trans hfn)).symm
      exact ⟨by kernel_rfl, fun j t ht => by
        rw [Ybad.params3] at ht
        have hm : t ∈ [22, 23] := by simpa using Array.mem_of_getElem? ht
        have hall : ([22, 23].all fun u => !Ybad.prog.wantsStandIn u) = true := by kernel_rfl
        exact (show Ybad.prog.wantsStandIn t = false by simpa using List.all_eq_true.1 hall t hm)⟩)
    (by kernel_rfl)
#print axioms proved
end Go.Proofs.YbulkggoDoor.lawS0352ARoundTrip
