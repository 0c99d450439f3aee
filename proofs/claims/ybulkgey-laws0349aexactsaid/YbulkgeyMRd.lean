/- raised: the walks. -/
import Derived.Test.YbulkgeyMRaise
namespace Go.Proofs.Ybulkgey
open Go.RowKit
set_option linter.unusedVariables false

theorem own_block {w : World} {base : Nat} {v : Value} {xs : List Int} (h : Own w base 34 v (ints xs)) : (v = .slice none 0 0 ∧ xs = []) ∨
    ∃ g cap post, v = .slice (some ⟨g, 0, none⟩) xs.length cap ∧ base ≤ g ∧ w.heap[g]? = some (.cells (ints xs ++ post).toArray 34) ∧ xs.length ≤ cap ∧ cap ≤ maxLen := by
  obtain ⟨h1, h2⟩ := h
  rcases h2 with ⟨rfl, h2⟩ | ⟨g, cap, cur, rfl, h3, h4, h5, h6, h7, h8⟩
  · refine .inl ⟨rfl, ?_⟩
    rw [ints_len] at h2
    exact List.eq_nil_of_length_eq_zero h2
  · refine .inr ⟨g, cap, cur.toList.drop (ints xs).length, by rw [ints_len], h3, ?_, by rw [ints_len] at h5; exact h5, h6⟩
    rw [h4]
    congr 2
    rw [Nat.mul_one] at h8
    conv => lhs; rw [← Array.toArray_toList (xs := cur), ← List.take_append_drop (ints xs).length cur.toList, h8]
theorem row_block {w : World} {g cap : Nat} {xs : List Int} {post : List Value} (h : w.heap[g]? = some (.cells (ints xs ++ post).toArray 34)) (h1 : xs.length ≤ cap) (h2 : cap ≤ maxLen) : Row w (.slice (some ⟨g, 0, none⟩) xs.length cap) (ints xs) := by
  refine .inr ⟨g, 0, cap, by rw [ints_len], block_lt h, by rw [ints_len]; exact h1, h2, fun j hj => ?_⟩
  rw [cell_of_block h, Nat.zero_add]
  simp [List.getElem?_append_left hj]

set_option maxRecDepth 100000 in
set_option maxHeartbeats 2000000 in
theorem raise_none (w : World) (p : Option Addr) (n cap ab ao bb bo i t : Nat) (d : Nat → Int) (hB : ClkAt w bb bo (NA d 4) (CA d 4)) (ht : cn d t = cn d 4) :
    Calls Yba.prog 76 #[.slice p n cap, .pointer (some ⟨ab, ao, none⟩), .int .i64 i, .pointer (some ⟨bb, bo, none⟩), .int .i64 (cn d t)] w fun e w' => e = .returned (.tuple #[]) ∧ Below w.heap.size w w' := by
  obtain ⟨xo, xn, xc, yo, yn, yc, h0, h1, h2, h3⟩ := hB
  obtain rfl := h3.len
  rw [cn_len] at h2
  rw [ht]
  have cd4 := cn_le d 4
  clear h3 ht
  generalize cn d 4 = nb at *
  have hl : ¬ (0 : Int) ≤ (nb : Int) - (nb : Int) - 1 := by omega
  have hl2 : ¬ (nb : Int) < (nb : Int) := by omega
  go_enter Yba.func76, Yba.ntmps76
  go_wp2_with fail
  refine (len_any _ _ _ _ _ _ _ _).mono ?_
  rintro e w1 ⟨rfl, hb1⟩
  have y0 := cell_later hb1 h0
  have y1 := cell_later hb1 h1
  have y2 := cell_later hb1 h2
  clear h0 h1 h2
  go_wp2_with fail
  go_loopw [2, 4, 11] (fun vi vj vk wr => vj = .int .i64 nb ∧ wr = w1) (fun vi vj vk wr => 0)
  case atStart => exact ⟨rfl, rfl⟩
  case round =>
    obtain ⟨rfl, rfl⟩ := hrel
    go_wp2_with fail
    refine (len_any _ _ _ _ _ _ _ _).mono ?_
    rintro e w2 ⟨rfl, hb2⟩
    clear y0 y1 y2
    go_wp2_with fail
    go_end0
    exact ⟨rfl, hb1.trans (hb2.mono hb1.size)⟩

set_option maxRecDepth 100000 in
set_option maxHeartbeats 2000000 in
theorem raised63_any (w : World) (ab ao bb bo : Nat) (f d : Nat → Int) (hA : ClkAt w ab ao (NA f 4) (CA f 4)) (hB : ClkAt w bb bo (NA d 4) (CA d 4)) (hsub : Sub f d 0) :
    Calls Yba.prog 63 #[.pointer (some ⟨ab, ao, none⟩), .pointer (some ⟨bb, bo, none⟩)] w fun e w' => (∃ p m c, e = .returned (.slice p m c) ∧ Row w' (.slice p m c) (ints (VL f d 0 4))) ∧ Below w.heap.size w w' := by
  obtain ⟨pa, ca, hpa⟩ := ctr_cell hA
  obtain ⟨rA, lA, _, _⟩ := ctr_at hA hpa
  rw [cn_len] at hpa rA
  have hcl := clone_any w (.slice pa (cn f 4) ca) (CA f 4) rA (by rw [CA_len]; have := NA_len f 4; omega)
  have lca : (CA f 4).length = cn f 4 := by rw [CA_len, cn_len]
  have HA := hid hA
  have HB := hid hB
  have HS := hid hsub
  clear hA hB hsub lA rA
  go_enter Yba.func63, Yba.ntmps63
  go_wp2_with fail
  refine hcl.mono ?_
  rintro e w1 ⟨v, rfl, hown, hb1⟩
  rcases own_block hown with ⟨rfl, hx⟩ | ⟨g, cap, post, rfl, hg1, hg2, hg3, hg4⟩
  · have hf0 : cn f 4 = 0 := by rw [← lca, hx]; rfl
    have hle := Sub.cn_le (s := 0) (u := 4) (fun k k1 k2 => HS.out k k1 k2) (by omega)
    rw [cn_zero, cn_zero, hf0] at hle
    have hrn := raise_none w1 none 0 0 ab ao bb bo 0 0 d (HB.out.below hb1) (by rw [cn_zero]; omega)
    rw [cn_zero] at hrn
    have hvl : VL f d 0 4 = [] := List.eq_nil_of_length_eq_zero (by rw [VL_len f d (by omega) (by omega), hf0]; omega)
    have HVL := hid hvl
    clear hvl hx hf0 hle hown lca hpa hcl
    go_wp2_with fail
    refine hrn.mono ?_
    rintro e w2 ⟨rfl, hb2⟩
    clear hrn
    go_wp2_with fail
    go_ret
    exact ⟨⟨none, 0, 0, rfl, by rw [HVL.out]; exact .inl ⟨rfl, rfl⟩⟩, hb1.trans (hb2.mono hb1.size)⟩
  · have hra := raise_any w1 w g (cn f 4) cap ab ao bb bo 0 f d [] post HA.out HB.out hb1 hg1 (by rw [hg2, VL_self, ← CA_seg]; rfl) (by omega) HS.out (by omega) (by rw [← lca]; exact hg3) (by simp)
    rw [lca] at hg3 ⊢
    rw [cn_zero, cn_zero] at hra
    have hvl : (VL f d 0 4).length = cn f 4 := by rw [VL_len f d (by omega) (by omega), cn_zero]; rfl
    have HV := hid hvl
    have H4 := hid (And.intro hg3 hg4)
    clear hg2 hg4 hg3 hown lca hpa hcl hvl
    go_wp2_with fail
    refine hra.mono ?_
    rintro e w2 ⟨rfl, r1, r2⟩
    clear hra
    go_wp2_with fail
    go_ret
    refine ⟨⟨_, _, _, rfl, ?_⟩, ?_⟩
    · have := row_block (xs := VL f d 0 4) (cap := cap) r1 (by rw [HV.out]; exact H4.out.1) H4.out.2
      rw [HV.out] at this
      exact this
    · exact hb1.trans ⟨r2.os, r2.tape, r2.output, r2.size, fun k hk => r2.block k (Nat.lt_of_lt_of_le hk hb1.size) (by omega)⟩
end Go.Proofs.Ybulkgey
