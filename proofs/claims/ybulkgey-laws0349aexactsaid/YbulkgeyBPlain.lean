/- The plain law behind the clock with one node set: sorted names, and where a node is inserted. -/
import Derived.Test.YbulkgeyBWith
namespace Go.Proofs.Ybulkgey
open Go.RowKit
set_option linter.unusedVariables false
set_option linter.unusedSimpArgs false

theorem bl_irrefl : ∀ x : List UInt8, Op.bytesLess x x = false
  | [] => rfl
  | a :: x => by simp [Op.bytesLess, bl_irrefl x]
theorem bl_trans : ∀ x y z : List UInt8, Op.bytesLess x y = true → Op.bytesLess y z = true → Op.bytesLess x z = true
  | _, _, [], _, h => by simp [Op.bytesLess] at h
  | [], _, _ :: _, _, _ => rfl
  | a :: x, [], _ :: _, h, _ => by simp [Op.bytesLess] at h
  | a :: x, b :: y, c :: z, h, k => by
    simp only [Op.bytesLess, Bool.or_eq_true, decide_eq_true_eq, Bool.and_eq_true, beq_iff_eq] at h k ⊢
    rcases h with h | ⟨rfl, h⟩
    · rcases k with k | ⟨rfl, k⟩
      · exact .inl (UInt8.lt_trans h k)
      · exact .inl h
    · rcases k with k | ⟨rfl, k⟩
      · exact .inl k
      · exact .inr ⟨rfl, bl_trans x y z h k⟩
theorem bl_total : ∀ x y : List UInt8, Op.bytesLess x y = false → Op.bytesLess y x = false → x = y
  | [], [], _, _ => rfl
  | [], _ :: _, h, _ => by simp [Op.bytesLess] at h
  | _ :: _, [], _, k => by simp [Op.bytesLess] at k
  | a :: x, b :: y, h, k => by
    simp only [Op.bytesLess, Bool.or_eq_false_iff, decide_eq_false_iff_not, Bool.and_eq_false_iff, beq_eq_false_iff_ne] at h k
    obtain ⟨h1, h2⟩ := h
    obtain ⟨k1, k2⟩ := k
    have e : a = b := UInt8.le_antisymm (UInt8.not_lt.1 k1) (UInt8.not_lt.1 h1)
    subst e
    have := bl_total x y (h2.resolve_left (fun h => h rfl)) (k2.resolve_left (fun h => h rfl))
    rw [this]

theorem less_irrefl (x : ByteArray) : lessB x x = false := bl_irrefl _
theorem less_trans {x y z : ByteArray} (h : lessB x y = true) (k : lessB y z = true) : lessB x z = true := bl_trans _ _ _ h k
theorem less_asymm {x y : ByteArray} (h : lessB x y = true) : lessB y x = false := by
  cases hk : lessB y x
  · rfl
  · have := less_trans h hk
    rw [less_irrefl] at this
    cases this
theorem less_total {x y : ByteArray} (h : lessB x y = false) (k : lessB y x = false) : x = y := toList_inj (bl_total _ _ h k)

def Sorted (N : List ByteArray) : Prop := ∀ i j (hi : i < N.length) (hj : j < N.length), i < j → lessB N[i] N[j] = true

theorem idx_less (N : List ByteArray) (node : ByteArray) : ∀ j (hj : j < N.length), j < idx N node → lessB N[j] node = true := by
  unfold idx
  induction N with
  | nil => intro j hj; simp at hj
  | cons x N ih =>
    intro j hj h
    cases hx : lessB x node
    · simp [List.takeWhile_cons, hx] at h
    · cases j with
      | zero => simpa using hx
      | succ j =>
        simp only [List.takeWhile_cons, hx, if_true, List.length_cons] at h
        simpa using ih j (by simpa using hj) (by omega)
theorem idx_stop (N : List ByteArray) (node : ByteArray) (h : idx N node < N.length) : lessB N[idx N node] node = false := by
  unfold idx at h ⊢
  induction N with
  | nil => simp at h
  | cons x N ih =>
    cases hx : lessB x node
    · simp [List.takeWhile_cons, hx]
    · simp only [List.takeWhile_cons, hx, if_true, List.length_cons, List.getElem_cons_succ] at h ⊢
      exact ih (by omega)
theorem sorted_idx {N : List ByteArray} (hs : Sorted N) (node : ByteArray) : ∀ j (hj : j < N.length), lessB N[j] node = decide (j < idx N node) := by
  intro j hj
  by_cases h : j < idx N node
  · rw [idx_less N node j hj h]; simp [h]
  · have hi : idx N node < N.length := by omega
    have hst := idx_stop N node hi
    simp only [h, decide_false]
    rcases Nat.lt_or_eq_of_le (Nat.not_lt.1 h) with h' | h'
    · cases hl : lessB N[j] node
      · rfl
      · have := less_trans (hs _ _ hi hj h') hl
        rw [hst] at this
        cases this
    · rw [← hst]
      congr 1
      simp [h']

theorem nm_less : ∀ i j, i < j → j < 6 → lessB (nm i) (nm j) = true := by
  have key : ∀ j, j < 6 → ∀ i, i < j → Op.bytesLess (nm i).data.toList (nm j).data.toList = true := by decide
  intro i j h1 h2
  unfold lessB
  rw [ByteArray.toList_eq, ByteArray.toList_eq]
  exact key j h2 i h1
theorem NL_sorted (m : Int) : Sorted (NL m 6) := by
  have hp : (sel m 6).Pairwise (· < ·) := List.Pairwise.filter _ List.pairwise_lt_range
  intro i j hi hj hij
  have hli : i < (sel m 6).length := by simpa [NL] using hi
  have hlj : j < (sel m 6).length := by simpa [NL] using hj
  have h1 := List.pairwise_iff_getElem.1 hp i j hli hlj hij
  have h2 : (sel m 6)[j] < 6 := by
    have : (sel m 6)[j] ∈ sel m 6 := List.getElem_mem hlj
    unfold sel at this
    rw [List.mem_filter, List.mem_range] at this
    exact this.1
  have e1 : (NL m 6)[i] = nm (sel m 6)[i] := by simp [NL]
  have e2 : (NL m 6)[j] = nm (sel m 6)[j] := by simp [NL]
  rw [e1, e2]
  exact nm_less _ _ h1 h2

/-- One round of the law's own loop. -/
def lstep (node : ByteArray) (n : Int) (st : List ByteArray × List Int × Bool) (x : ByteArray) (c : Int) : List ByteArray × List Int × Bool :=
  let st1 := if (!st.2.2 && lessB node x) = true then (st.1 ++ [node], st.2.1 ++ [n], true) else st
  if x = node then (st1.1 ++ [node], st1.2.1 ++ [n], true) else (st1.1 ++ [x], st1.2.1 ++ [c], st1.2.2)
def lgo (node : ByteArray) (n : Int) (N : List ByteArray) (C : List Int) : Nat → List ByteArray × List Int × Bool
  | 0 => ([], [], false)
  | k + 1 => lstep node n (lgo node n N C k) (N.getD k ByteArray.empty) (C.getD k 0)

theorem lgo_spec {N : List ByteArray} {C : List Int} (hs : Sorted N) (hC : C.length = N.length) (node : ByteArray) (n : Int) : ∀ k, k ≤ N.length → lgo node n N C k =
    if N[idx N node]? = some node then (N.take k, (C.set (idx N node) n).take k, decide (idx N node < k))
    else if k ≤ idx N node then (N.take k, C.take k, false) else (N.take (idx N node) ++ [node] ++ (N.take k).drop (idx N node), C.take (idx N node) ++ [n] ++ (C.take k).drop (idx N node), true) := by
  intro k
  induction k with
  | zero =>
    intro _
    by_cases hf : N[idx N node]? = some node
    · simp [lgo, hf]
    · simp [lgo, hf]
  | succ k ih =>
    intro hk
    have hkN : k < N.length := by omega
    have hkC : k < C.length := by omega
    have ex : N.getD k ByteArray.empty = N[k] := by simp [List.getD, hkN]
    have ec : C.getD k 0 = C[k] := by simp [List.getD, hkC]
    have tN : N.take (k + 1) = N.take k ++ [N[k]] := List.take_succ_eq_append_getElem hkN
    have tC : C.take (k + 1) = C.take k ++ [C[k]] := List.take_succ_eq_append_getElem hkC
    rw [lgo, ih (by omega), ex, ec]
    have hord := sorted_idx hs node k hkN
    by_cases hf : N[idx N node]? = some node
    · rw [if_pos hf, if_pos hf]
      have hi : idx N node < N.length := by
        rcases Nat.lt_or_ge (idx N node) N.length with h' | h'
        · exact h'
        · rw [List.getElem?_eq_none h'] at hf; cases hf
      have hfi : N[idx N node] = node := by rw [List.getElem?_eq_getElem hi] at hf; exact Option.some.inj hf
      have tS : (C.set (idx N node) n).take (k + 1) = (C.set (idx N node) n).take k ++ [(C.set (idx N node) n)[k]'(by simp; omega)] := List.take_succ_eq_append_getElem (by simp; omega)
      rw [tN, tS]
      rcases Nat.lt_trichotomy k (idx N node) with h | h | h
      · have h1 : lessB N[k] node = true := by rw [hord]; simpa using h
        have h2 := less_asymm h1
        have h3 : ¬ N[k] = node := by intro e; rw [e, less_irrefl] at h1; cases h1
        have h4 : ¬ idx N node < k := by omega
        have h5 : ¬ idx N node < k + 1 := by omega
        have h6 : ¬ idx N node = k := by omega
        simp [lstep, h2, h3, h4, h5, h6]
      · subst h
        have h1 : lessB node N[idx N node] = false := by rw [hfi]; exact less_irrefl _
        simp [lstep, hfi, less_irrefl]
      · have h1 := hs _ _ hi hkN h
        rw [hfi] at h1
        have h3 : ¬ N[k] = node := by intro e; rw [e, less_irrefl] at h1; cases h1
        have h5 : idx N node < k + 1 := by omega
        have h6 : ¬ idx N node = k := by omega
        simp [lstep, h3, h, h5, h6]
    · rw [if_neg hf, if_neg hf]
      rcases Nat.lt_trichotomy k (idx N node) with h | h | h
      · have h1 : lessB N[k] node = true := by rw [hord]; simpa using h
        have h2 := less_asymm h1
        have h3 : ¬ N[k] = node := by intro e; rw [e, less_irrefl] at h1; cases h1
        rw [if_pos (by omega), if_pos (by omega), tN, tC]
        simp [lstep, h2, h3]
      · have h1 : lessB N[k] node = false := by rw [hord]; simp [h]
        have h3 : ¬ N[k] = node := by intro e; apply hf; rw [← h, List.getElem?_eq_getElem hkN, e]
        have h2 : lessB node N[k] = true := by
          cases hl : lessB node N[k]
          · exact absurd (less_total h1 hl) h3
          · rfl
        rw [if_pos (by omega), if_neg (by omega), tN, tC]
        rw [← h]
        have d1 : (N.take k ++ [N[k]]).drop k = [N[k]] := List.drop_left' (by simp; omega)
        have d2 : (C.take k ++ [C[k]]).drop k = [C[k]] := List.drop_left' (by simp; omega)
        rw [d1, d2]
        simp [lstep, h2, h3]
      · have hi : idx N node < N.length := by omega
        have h1 := hs _ _ hi hkN h
        have h3 : ¬ N[k] = node := by
          intro e
          rw [e] at h1
          rw [idx_stop N node hi] at h1
          cases h1
        rw [if_neg (by omega), if_neg (by omega), tN, tC]
        rw [List.drop_append_of_le_length (by simp; omega), List.drop_append_of_le_length (by simp; omega)]
        simp [lstep, h3]

theorem lgo_end {N : List ByteArray} {C : List Int} (hs : Sorted N) (hC : C.length = N.length) (node : ByteArray) (n : Int) :
    (if (lgo node n N C N.length).2.2 = true then (lgo node n N C N.length).1 else (lgo node n N C N.length).1 ++ [node]) = withN N node ∧
    (if (lgo node n N C N.length).2.2 = true then (lgo node n N C N.length).2.1 else (lgo node n N C N.length).2.1 ++ [n]) = withC N C node n := by
  rw [lgo_spec hs hC node n N.length (Nat.le_refl _)]
  unfold withN withC
  by_cases hf : N[idx N node]? = some node
  · have hi : idx N node < N.length := by
      rcases Nat.lt_or_ge (idx N node) N.length with h' | h'
      · exact h'
      · rw [List.getElem?_eq_none h'] at hf; cases hf
    rw [if_pos hf, if_pos hf, if_pos hf]
    rw [List.take_of_length_le (Nat.le_refl _), List.take_of_length_le (by simp [hC])]
    simp [hi]
  · rw [if_neg hf, if_neg hf, if_neg hf]
    by_cases hi : N.length ≤ idx N node
    · have : idx N node = N.length := by have := idx_le N node; omega
      rw [if_pos hi]
      simp [this, ← hC]
    · rw [if_neg hi, List.take_of_length_le (l := N) (i := N.length) (Nat.le_refl _), List.take_of_length_le (l := C) (i := N.length) (by omega)]
      simp
end Go.Proofs.Ybulkgey
