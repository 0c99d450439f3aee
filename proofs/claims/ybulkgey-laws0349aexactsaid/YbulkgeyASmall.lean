/- idBytes, kept, alignedRun: the walks. -/
import Derived.Test.YbulkgeyASame
namespace Go.Proofs.Ybulkgey
open Go.RowKit
set_option linter.unusedVariables false

set_option maxRecDepth 100000 in
set_option maxHeartbeats 1000000 in
theorem idBytes_any (w : World) (b o k n : Nat) (N : List ByteArray) (C : List Int) (h : ClkAt w b o N C) (hN0 : N ≠ []) (hk : k + n ≤ N.length) (hN : N.length ≤ 10000) (hs : (cat N).size ≤ 100000) :
    Calls Yba.prog 61 #[.pointer (some ⟨b, o, none⟩), .int .i64 k, .int .i64 n] w fun e w' => e = .returned (.int .i64 (((cat (N.take (k + n))).size : Nat) - ((cat (N.take k)).size : Nat) : Int)) ∧ ∃ q, w' = w.drewN q := by
  obtain ⟨g, go, oc, a1, a0, ac, aat⟩ := off_at h hN0
  have c1 := aat k (by omega)
  have c2 := aat (k + n) (by omega)
  have l1 := cat_take_le N k (k + n) (by omega)
  have l2 := cat_take_size N (k + n)
  clear aat h
  generalize (cat (N.take k)).size = s at *
  generalize (cat (N.take (k + n))).size = t at *
  have i1 : (k : Int) < (N.length : Int) + 1 := by omega
  have i2 : (k : Int) + (n : Int) < (N.length : Int) + 1 := by omega
  have i3 : (s : Int) ≤ (t : Int) := by omega
  have i4 : (t : Int) ≤ 100000 := by omega
  go_enter Yba.func61, Yba.ntmps61
  go_wp2_with fail
  go_quiet (fail)
  go_wp2_with fail
  go_ret
  exact ⟨rfl, _, rfl⟩

/-- The walk's record: as Go lays mergeWalk: size, idBytes, aAhead, bAhead, the two kept runs, n. -/
theorem kept_any (w : World) (m ab ao bb bo : Nat) (cnt : Nat) (N M : List ByteArray) (C D : List Int) (hA : ClkAt w ab ao N C) (hB : ClkAt w bb bo M D) (hN : N.length ≤ 10000) (hM : M.length ≤ 10000) (hm : w.cell? ⟨m, 12, none⟩ = some (.int .i64 cnt)) :
    Calls Yba.prog 62 #[.pointer (some ⟨m, 0, none⟩), .pointer (some ⟨ab, ao, none⟩), .pointer (some ⟨bb, bo, none⟩)] w fun e w' => e = .returned (.bool (decide (cnt ≤ 2))) ∧ Below w.heap.size w w' := by
  obtain ⟨xo, xn, xc, yo, yn, yc, a0, a1, a2, a3⟩ := hA
  obtain ⟨zo, zn, zc, vo, vn, vc, b0, b1, b2, b3⟩ := hB
  obtain rfl := a3.len
  obtain rfl := b3.len
  clear a3 b3
  have hC0 : Below w.heap.size w w.drew := (Below.refl _ _).drew
  have hcl : ∀ w', Below w.heap.size w w' → w'.cell? ⟨m, 12, none⟩ = some (.int .i64 cnt) ∧ w'.cell? ⟨ab, ao, none⟩ = some (.string (cat N)) ∧ w'.cell? ⟨ab, ao + 1, none⟩ = some (.slice xo xn xc) ∧ w'.cell? ⟨ab, ao + 2, none⟩ = some (.slice yo N.length yc) ∧ w'.cell? ⟨bb, bo, none⟩ = some (.string (cat M)) ∧ w'.cell? ⟨bb, bo + 1, none⟩ = some (.slice zo zn zc) ∧ w'.cell? ⟨bb, bo + 2, none⟩ = some (.slice vo M.length vc) :=
    fun w' hw' => ⟨cell_later hw' hm, cell_later hw' a0, cell_later hw' a1, cell_later hw' a2, cell_later hw' b0, cell_later hw' b1, cell_later hw' b2⟩
  by_cases hc : cnt ≤ 2
  · have hc' : (cnt : Int) ≤ 2 := by omega
    rw [decide_eq_true hc]
    obtain ⟨Ret, hRet⟩ : ∃ Ret : FuncId → Array Value → Value → Prop, ∀ (i : ByteArray) (p q : Option Addr) (a b c d : Nat) (v : Value), Ret 12 #[.agg #[.string i, .slice p a b, .slice q c d]] v ↔ v = .int .i64 (c : Int) :=
      ⟨fun _ args v => ∃ i p q a b c d, args = #[.agg #[.string i, .slice p a b, .slice q c d]] ∧ v = .int .i64 ((c : Nat) : Int), fun i p q a b c d v => by
        constructor
        · rintro ⟨i', p', q', a', b', c', d', h, rfl⟩
          simp at h
          rw [h.2.2.2.1]
        · rintro rfl
          exact ⟨i, p, q, a, b, c, d, rfl, rfl⟩⟩
    have hmx : max (N.length : Int) (M.length : Int) ≤ 4294967295 := by omega
    have hmx0 : 0 ≤ max (N.length : Int) (M.length : Int) := by omega
    have hwr : IntKind.u64.wrap (max (N.length : Int) (M.length : Int)) = max (N.length : Int) (M.length : Int) := by rw [IntKind.wrap_u64]; omega
    go_enter Yba.func62, Yba.ntmps62
    go_wp2_with fail
    refine wp_region_tame (fun w' => Below w.heap.size w w') Ret (by kernel_rfl) (by kernel_rfl) hC0 ?_
    (refine tame_one hC0 (.pointer (some ⟨m, 0, none⟩)) rfl (fun w' hw' => by obtain ⟨e0, e1, e2, e3, e4, e5, e6⟩ := hcl w' hw'; go_simp) (fun K hK => ?_); go_simp; refine hK _ ?_; clear hK K)
    (refine tame_one hC0 (.pointer (some ⟨m, 0, none⟩)) rfl (fun w' hw' => by obtain ⟨e0, e1, e2, e3, e4, e5, e6⟩ := hcl w' hw'; go_simp) (fun K hK => ?_); go_simp; refine hK _ ?_; clear hK K)
    (refine tame_one hC0 (.pointer (some ⟨m, 12, none⟩)) rfl (fun w' hw' => by obtain ⟨e0, e1, e2, e3, e4, e5, e6⟩ := hcl w' hw'; go_simp) (fun K hK => ?_); go_simp; refine hK _ ?_; clear hK K)
    (refine tame_one hC0 (.int .i64 (cnt : Int)) rfl (fun w' hw' => by obtain ⟨e0, e1, e2, e3, e4, e5, e6⟩ := hcl w' hw'; go_simp) (fun K hK => ?_); go_simp; refine hK _ ?_; clear hK K)
    (refine tame_one hC0 (.bool true) rfl (fun w' hw' => by obtain ⟨e0, e1, e2, e3, e4, e5, e6⟩ := hcl w' hw'; go_simp) (fun K hK => ?_); go_simp; refine hK _ ?_; clear hK K)
    (refine tame_one hC0 (.bool true) rfl (fun w' hw' => by obtain ⟨e0, e1, e2, e3, e4, e5, e6⟩ := hcl w' hw'; go_simp) (fun K hK => ?_); go_simp; refine hK _ ?_; clear hK K)
    (refine tame_one hC0 (.pointer (some ⟨ab, ao, none⟩)) rfl (fun w' hw' => by obtain ⟨e0, e1, e2, e3, e4, e5, e6⟩ := hcl w' hw'; go_simp) (fun K hK => ?_); go_simp; refine hK _ ?_; clear hK K)
    (refine tame_one hC0 (.pointer (some ⟨ab, ao, none⟩)) rfl (fun w' hw' => by obtain ⟨e0, e1, e2, e3, e4, e5, e6⟩ := hcl w' hw'; go_simp) (fun K hK => ?_); go_simp; refine hK _ ?_; clear hK K)
    (refine tame_one hC0 (.agg #[.string (cat N), .slice xo xn xc, .slice yo N.length yc]) rfl (fun w' hw' => by obtain ⟨e0, e1, e2, e3, e4, e5, e6⟩ := hcl w' hw'; go_simp) (fun K hK => ?_); go_simp; refine hK _ ?_; clear hK K)
    (refine tame_call hC0 12 #[.agg #[.string (cat N), .slice xo xn xc, .slice yo N.length yc]] (.int .i64 (N.length : Int)) rfl (fun w' hw' => by go_simp) (fun w' hw' => (len_any w' _ _ _ _ _ _ _).mono fun e w'' ⟨he, hb'⟩ => ⟨he, hw'.trans (hb'.mono hw'.size)⟩) (fun v => hRet _ _ _ _ _ _ _ v) (fun K hK => ?_); go_simp; refine hK _ ?_; clear hK K)
    (refine tame_one hC0 (.pointer (some ⟨bb, bo, none⟩)) rfl (fun w' hw' => by obtain ⟨e0, e1, e2, e3, e4, e5, e6⟩ := hcl w' hw'; go_simp) (fun K hK => ?_); go_simp; refine hK _ ?_; clear hK K)
    (refine tame_one hC0 (.pointer (some ⟨bb, bo, none⟩)) rfl (fun w' hw' => by obtain ⟨e0, e1, e2, e3, e4, e5, e6⟩ := hcl w' hw'; go_simp) (fun K hK => ?_); go_simp; refine hK _ ?_; clear hK K)
    (refine tame_one hC0 (.agg #[.string (cat M), .slice zo zn zc, .slice vo M.length vc]) rfl (fun w' hw' => by obtain ⟨e0, e1, e2, e3, e4, e5, e6⟩ := hcl w' hw'; go_simp) (fun K hK => ?_); go_simp; refine hK _ ?_; clear hK K)
    (refine tame_call hC0 12 #[.agg #[.string (cat M), .slice zo zn zc, .slice vo M.length vc]] (.int .i64 (M.length : Int)) rfl (fun w' hw' => by go_simp) (fun w' hw' => (len_any w' _ _ _ _ _ _ _).mono fun e w'' ⟨he, hb'⟩ => ⟨he, hw'.trans (hb'.mono hw'.size)⟩) (fun v => hRet _ _ _ _ _ _ _ v) (fun K hK => ?_); go_simp; refine hK _ ?_; clear hK K)
    (refine tame_one hC0 (.int .i64 (max (N.length : Int) (M.length : Int))) rfl (fun w' hw' => by obtain ⟨e0, e1, e2, e3, e4, e5, e6⟩ := hcl w' hw'; go_simp) (fun K hK => ?_); go_simp; refine hK _ ?_; clear hK K)
    (refine tame_one hC0 (.int .u64 (max (N.length : Int) (M.length : Int))) rfl (fun w' hw' => by obtain ⟨e0, e1, e2, e3, e4, e5, e6⟩ := hcl w' hw'; go_simp) (fun K hK => ?_); go_simp; refine hK _ ?_; clear hK K)
    (refine tame_one hC0 (.bool true) rfl (fun w' hw' => by obtain ⟨e0, e1, e2, e3, e4, e5, e6⟩ := hcl w' hw'; go_simp) (fun K hK => ?_); go_simp; refine hK _ ?_; clear hK K)
    (refine tame_one hC0 (.bool true) rfl (fun w' hw' => by obtain ⟨e0, e1, e2, e3, e4, e5, e6⟩ := hcl w' hw'; go_simp) (fun K hK => ?_); go_simp; refine hK _ ?_; clear hK K)
    (refine tame_one hC0 (.bool true) rfl (fun w' hw' => by obtain ⟨e0, e1, e2, e3, e4, e5, e6⟩ := hcl w' hw'; go_simp) (fun K hK => ?_); go_simp; refine hK _ ?_; clear hK K)
    intro w1 hw1
    go_wp2_with fail
    go_ret
    exact ⟨rfl, hw1⟩
  · have hc' : decide ((cnt : Int) ≤ 2) = false := by simp; omega
    rw [decide_eq_false hc]
    go_enter Yba.func62, Yba.ntmps62
    go_wp2_with fail
    go_quiet (fail)
    go_wp2_with fail
    go_ret
    exact ⟨rfl, below_drewN (Below.refl _ _) _⟩
end Go.Proofs.Ybulkgey
