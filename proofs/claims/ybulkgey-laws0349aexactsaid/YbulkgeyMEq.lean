/- slices.Equal over rows of offsets; what the walk needs of two clocks. -/
import Derived.Test.YbulkgeyMPlain
import Derived.BigRegion
import Derived.Deep.DeepCutAuto
namespace Go.Proofs.Ybulkgey
open Go.RowKit
set_option linter.unusedVariables false

theorem u64s_len (X : List Nat) : (u64s X).length = X.length := by simp [u64s]
theorem u64s_at (X : List Nat) (k : Nat) (h : k < X.length) : (u64s X)[k]? = some (.int .u64 (X.getD k 0 : Nat)) := by
  simp [u64s, List.getD_eq_getElem?_getD, List.getElem?_eq_getElem h]

set_option maxRecDepth 100000 in
set_option maxHeartbeats 1000000 in
theorem equal_any (w : World) (u v : Value) (X Y : List Nat) (hu : Row w u (u64s X)) (hv : Row w v (u64s Y)) (hy : Y.length ≤ 100000) :
    Calls Yba.prog 18 #[u, v] w fun e w' => e = .returned (.bool (decide (X = Y))) ∧ ∃ q, w' = w.drewN q := by
  obtain ⟨a, c, rfl⟩ := hu.shape
  obtain ⟨a', c', rfl⟩ := hv.shape
  rw [u64s_len, u64s_len]
  have HU := hid hu
  have HV := hid hv
  clear hu hv
  generalize hD : decide (X = Y) = D
  have HD := hid hD
  clear hD
  by_cases hl : X.length = Y.length
  · rw [hl]
    have HL := hid hl
    clear hl
    generalize hm : Y.length = m at *
    have HM := hid hm
    clear hm
    go_enter Yba.func18, Yba.ntmps18
    go_wp2_with fail
    go_loopw [13] (fun v wr => ∃ k : Nat, k ≤ m ∧ v = .int .i64 k ∧ (∀ j, j < k → X.getD j 0 = Y.getD j 0) ∧ ∃ q, wr = w.drewN q) (fun v wr => m - (intOf v).toNat)
    case atStart => exact ⟨0, by omega, rfl, fun j hj => by omega, 0, rfl⟩
    case round =>
      obtain ⟨k, hk, rfl, hp, q, rfl⟩ := hrel
      have HP := hid hp
      clear hp
      by_cases hlt : k < m
      · have hlt' : (k : Int) < (m : Int) := by omega
        rcases HU.out with ⟨_, hnil⟩ | ⟨xg, xo, xcap, e, hxg, _, _, hxc⟩
        · exact absurd (congrArg List.length hnil) (by rw [u64s_len]; simp; have := HL.out; intro h0; rw [h0] at this; simp at this; omega)
        rcases HV.out with ⟨_, hnil⟩ | ⟨yg, yo, ycap, e', hyg, _, _, hyc⟩
        · exact absurd (congrArg List.length hnil) (by rw [u64s_len]; simp; have := HM.out; intro h0; rw [h0] at this; simp at this; omega)
        simp only [Value.slice.injEq] at e e'
        obtain ⟨rfl, _, rfl⟩ := e
        obtain ⟨rfl, _, rfl⟩ := e'
        have xc := hxc k (by rw [u64s_len, HL.out]; exact hlt)
        have yc := hyc k (by rw [u64s_len, HM.out]; exact hlt)
        rw [u64s_at X k (by rw [HL.out]; exact hlt)] at xc
        rw [u64s_at Y k (by rw [HM.out]; exact hlt)] at yc
        clear hxc hyc hxg hyg
        generalize hx : X.getD k 0 = x at *
        generalize hy' : Y.getD k 0 = y at *
        have HX := hid hx
        have HY := hid hy'
        clear hx hy'
        by_cases hxy : x = y
        · subst hxy
          have hne : ((x : Int) == (x : Int)) = true := by simp
          go_wp2_with fail
          go_quiet (fail)
          go_wp2_with fail
          refine ⟨⟨k + 1, by omega, by go_num, fun j hj => ?_, _, rfl⟩, by simp [intOf]; omega⟩
          by_cases e : j = k
          · rw [e, HX.out, HY.out]
          · exact HP.out j (by omega)
        · have hne : ((x : Int) == (y : Int)) = false := by simp; omega
          have HNE := hid hxy
          clear hxy
          go_wp2_with fail
          go_quiet (fail)
          go_wp2_with fail
          go_ret
          have hDf : D = false := by
            rw [← HD.out]
            exact decide_eq_false fun h => HNE.out (by rw [← HX.out, ← HY.out, h])
          rw [hDf]
          exact ⟨rfl, _, by first | rfl | rw [World.drewN_drewN]⟩
      · have hlt' : ¬ (k : Int) < (m : Int) := by omega
        have HK := hid (show k = m by omega)
        go_wp2_with fail
        go_ret
        have hDt : D = true := by
          rw [← HD.out]
          refine decide_eq_true (List.ext_getElem (by rw [HL.out]; exact HM.out.symm) fun j h1 h2 => ?_)
          have := HP.out j (by have := HM.out; have := HK.out; omega)
          simpa [List.getD_eq_getElem?_getD, List.getElem?_eq_getElem h1, List.getElem?_eq_getElem h2] using this
        rw [hDt]
        exact ⟨rfl, _, rfl⟩
  · have hne : ((X.length : Int) == (Y.length : Int)) = false := by simp; omega
    have HL := hid hl
    clear hl
    go_enter Yba.func18, Yba.ntmps18
    go_wp2_with fail
    go_ret
    have hDf : D = false := by
      rw [← HD.out]
      exact decide_eq_false fun h => HL.out (by rw [h])
    rw [hDf]
    exact ⟨rfl, 0, rfl⟩

/-- The first place where the runs part. -/
theorem agree_spec (N M : List ByteArray) (i j : Nat) : ∀ n, agree N M i j n ≤ n ∧ (∀ k, k < agree N M i j n → N.getD (i + k) ByteArray.empty = M.getD (j + k) ByteArray.empty) ∧ (agree N M i j n < n → N.getD (i + agree N M i j n) ByteArray.empty ≠ M.getD (j + agree N M i j n) ByteArray.empty) := by
  intro n
  induction n with
  | zero => simp [agree]
  | succ n ih =>
    obtain ⟨h1, h2, h3⟩ := ih
    simp only [agree]
    split
    · rename_i h
      refine ⟨Nat.le_refl _, fun k hk => ?_, fun h' => by omega⟩
      by_cases e : k = n
      · rw [e]; exact h.2
      · exact h2 k (by omega)
    · rename_i h
      refine ⟨by omega, h2, fun _ => ?_⟩
      by_cases e : agree N M i j n = n
      · rw [e]; exact fun h' => h ⟨e, h'⟩
      · exact h3 (by omega)

theorem cat_offs_inj {N M : List ByteArray} (h1 : cat N = cat M) (h2 : offsL N = offsL M) : N = M := by
  have hl : N.length = M.length := by have := congrArg List.length h2; simpa [offsL] using this
  have hk : ∀ k, k ≤ N.length → (cat (N.take k)).size = (cat (M.take k)).size := by
    intro k hk
    have a := offsL_at N k hk
    have b := offsL_at M k (by omega)
    rw [h2, b] at a
    simp at a
    omega
  apply List.ext_getElem hl
  intro k k1 k2
  have a := part_one N k k1
  have b := part_one M k k2
  rw [h1, hk k (by omega), hk (k + 1) (by omega), b] at a
  simpa [List.getD_eq_getElem?_getD, List.getElem?_eq_getElem k1, List.getElem?_eq_getElem k2] using a.symm

/-- A part of a slice. -/
def sl (a : Option Addr) (c i m : Nat) : Value := .slice (a.map fun p => ⟨p.block, p.off + i, p.spot⟩) m (c - i)

/-- The steps of the walk: both, the first alone, the second alone. -/
def Stp (f d : Nat → Int) (pa : Option Addr) (ca : Nat) (pb : Option Addr) (cb : Nat) (t : Nat) (x : Value × Value) (u : Nat) : Prop :=
  t ≤ u ∧ u ≤ 4 ∧
  ((∃ m, 0 < m ∧ Same f d t u ∧ cn f u = cn f t + m ∧ cn d u = cn d t + m ∧ x = (sl pa ca (cn f t) m, sl pb cb (cn d t) m)) ∨
   (∃ m, 0 < m ∧ Lack d t u ∧ cn f u = cn f t + m ∧ cn d u = cn d t ∧ x = (sl pa ca (cn f t) m, .slice none 0 0)) ∨
   (∃ m, 0 < m ∧ Lack f t u ∧ cn f u = cn f t ∧ cn d u = cn d t + m ∧ x = (.slice none 0 0, sl pb cb (cn d t) m)))

/-- What the walk needs of the world. -/
def OKW (W0 : World) (B ab ao bb bo : Nat) (W : World) : Prop := Below W0.heap.size W0 W ∧ W.heap[B]? = some (.cells #[.pointer (some ⟨ab, ao, none⟩)] 71) ∧ W.heap[B + 1]? = some (.cells #[.pointer (some ⟨bb, bo, none⟩)] 71)
theorem OKW.keep {W0 : World} {B ab ao bb bo : Nat} {W W' : World} (h : OKW W0 B ab ao bb bo W) (k : KeepB W0.heap.size B W W') : OKW W0 B ab ao bb bo W' :=
  ⟨h.1.trans k.1, (k.2 B (Nat.le_refl _) (by omega)).trans h.2.1, (k.2 (B + 1) (by omega) (by omega)).trans h.2.2⟩
theorem OKW.drewN {W0 : World} {B ab ao bb bo : Nat} {W : World} (h : OKW W0 B ab ao bb bo W) (q : Nat) : OKW W0 B ab ao bb bo (W.drewN q) := ⟨below_drewN h.1 q, h.2.1, h.2.2⟩

/-- The counters of a clock, as a slice. -/
theorem ctr_at {w : World} {b o : Nat} {N : List ByteArray} {C : List Int} (h : ClkAt w b o N C) {pa : Option Addr} {ca : Nat} (hc : w.cell? ⟨b, o + 2, none⟩ = some (.slice pa N.length ca)) :
    Row w (.slice pa N.length ca) (ints C) ∧ C.length = N.length ∧ N.length ≤ ca ∧ (0 < N.length → ∃ g go, pa = some ⟨g, go, none⟩ ∧ ca ≤ maxLen ∧ g < w.heap.size ∧ ∀ k, k < N.length → w.cell? ⟨g, go + k, none⟩ = some (.int .u64 (C.getD k 0))) := by
  obtain ⟨xo, xn, xc, yo, yn, yc, h0, h1, h2, h3⟩ := h
  rw [h2] at hc
  simp only [Option.some.injEq, Value.slice.injEq] at hc
  obtain ⟨rfl, rfl, rfl⟩ := hc
  refine ⟨h3.1, h3.2.1, ?_, fun hpos => ?_⟩
  · rcases h3.1 with ⟨e, hx⟩ | ⟨g, go, cap, e, hg, hcp, hm, hcell⟩
    · simp only [Value.slice.injEq] at e; omega
    · simp only [Value.slice.injEq] at e; obtain ⟨_, e1, rfl⟩ := e; omega
  · rcases h3.1 with ⟨e, hx⟩ | ⟨g, go, cap, e, hg, hcp, hm, hcell⟩
    · simp only [Value.slice.injEq] at e; omega
    · simp only [Value.slice.injEq] at e
      obtain ⟨rfl, e1, rfl⟩ := e
      refine ⟨g, go, rfl, hm, hg, fun k hk => ?_⟩
      rw [hcell k (by rw [← e1]; exact hk)]
      have : k < C.length := by rw [h3.2.1]; exact hk
      simp [ints, List.getD_eq_getElem?_getD, List.getElem?_eq_getElem this]

theorem ctr_cell {w : World} {b o : Nat} {N : List ByteArray} {C : List Int} (h : ClkAt w b o N C) : ∃ pa ca, w.cell? ⟨b, o + 2, none⟩ = some (.slice pa N.length ca) := by
  obtain ⟨xo, xn, xc, yo, yn, yc, h0, h1, h2, h3⟩ := h
  obtain rfl := h3.len
  exact ⟨_, _, h2⟩

/-- Where the run falls short, the lesser name is alone. -/
theorem names_next (f d : Nat → Int) (t : Nat) (ht : t ≤ 4) (h1 : cn f t < cn f 4) (h2 : cn d t < cn d 4) (hne : (NA f 4).getD (cn f t) ByteArray.empty ≠ (NA d 4).getD (cn d t) ByteArray.empty) :
    (lessB ((NA f 4).getD (cn f t) ByteArray.empty) ((NA d 4).getD (cn d t) ByteArray.empty) = true ∧ ∃ u, t ≤ u ∧ u ≤ 4 ∧ cn f u = cn f t + 1 ∧ cn d u = cn d t ∧ Lack d t u) ∨
    (lessB ((NA f 4).getD (cn f t) ByteArray.empty) ((NA d 4).getD (cn d t) ByteArray.empty) = false ∧ ∃ u, t ≤ u ∧ u ≤ 4 ∧ cn f u = cn f t ∧ cn d u = cn d t + 1 ∧ Lack f t u) := by
  obtain ⟨p, p1, p2, p3, p4, p5, p6, p7⟩ := next_node f (4 - t) t (by omega) h1
  obtain ⟨q, q1, q2, q3, q4, q5, q6, q7⟩ := next_node d (4 - t) t (by omega) h2
  simp only [List.getD_eq_getElem?_getD, p5, q5, Option.getD_some] at hne ⊢
  rw [an_less p p2 q q2]
  by_cases hpq : p < q
  · refine .inl ⟨decide_eq_true hpq, p + 1, by omega, by omega, p7, ?_, fun k k1 k2 => q4 k k1 (by omega)⟩
    exact cn_flat d (fun k k1 k2 => q4 k k1 (by omega)) (by omega)
  · have hne' : p ≠ q := fun e => hne (by rw [e])
    refine .inr ⟨decide_eq_false hpq, q + 1, by omega, by omega, ?_, q7, fun k k1 k2 => p4 k k1 (by omega)⟩
    exact cn_flat f (fun k k1 k2 => p4 k k1 (by omega)) (by omega)
end Go.Proofs.Ybulkgey
