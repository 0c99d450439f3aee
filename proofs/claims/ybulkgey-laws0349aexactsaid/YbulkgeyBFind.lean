/- The clock in memory; Len, id, find. -/
import Derived.Test.YbulkgeyBBuild
namespace Go.Proofs.Ybulkgey
open Go.RowKit
set_option linter.unusedVariables false

theorem Row.shape {w : World} {v : Value} {xs : List Value} (h : Row w v xs) : ∃ a cap, v = .slice a xs.length cap := by
  rcases h with ⟨rfl, rfl⟩ | ⟨g, o, cap, rfl, _⟩
  · exact ⟨none, 0, rfl⟩
  · exact ⟨_, _, rfl⟩

set_option maxRecDepth 100000 in
set_option maxHeartbeats 400000 in
theorem len_any (w : World) (ids : ByteArray) (ao ac : Option Addr) (on oc n c : Nat) :
    Calls Yba.prog 12 #[.agg #[.string ids, .slice ao on oc, .slice ac n c]] w fun e w' => e = .returned (.int .i64 n) ∧ Below w.heap.size w w' := by
  go_enter Yba.func12, Yba.ntmps12
  go_wp2
  go_ret
  exact ⟨rfl, by go_grown⟩

set_option maxHeartbeats 400000 in
theorem id_raw (w : World) (b o : Nat) (ids : ByteArray) (ob oo ol oc k s e : Nat)
    (h0 : w.cell? ⟨b, o, none⟩ = some (.string ids)) (h1 : w.cell? ⟨b, o + 1, none⟩ = some (.slice (some ⟨ob, oo, none⟩) ol oc))
    (hk : (k : Int) + 1 < ol) (hs : w.cell? ⟨ob, oo + k, none⟩ = some (.int .u64 s)) (he : w.cell? ⟨ob, oo + (k + 1), none⟩ = some (.int .u64 e))
    (hse : (s : Int) ≤ e) (hei : (e : Int) ≤ ids.size) (hids : ids.size ≤ 9223372036854775807) (hol : (ol : Int) ≤ 9223372036854775807) :
    Calls Yba.prog 42 #[.pointer (some ⟨b, o, none⟩), .int .i64 k] w fun r w' => r = .returned (.string (ids.extract s e)) ∧ ∃ n, w' = w.drewN n := by
  go_enter Yba.func42, Yba.ntmps42
  go_wp2
  go_quiet (fail)
  go_wp2
  go_ret
  exact ⟨rfl, _, rfl⟩

/-- The clock at an address: its three cells, and what they lead to. -/
def ClkAt (w : World) (b o : Nat) (N : List ByteArray) (C : List Int) : Prop :=
  ∃ ao on oc ac n c, w.cell? ⟨b, o, none⟩ = some (.string (cat N)) ∧ w.cell? ⟨b, o + 1, none⟩ = some (.slice ao on oc) ∧ w.cell? ⟨b, o + 2, none⟩ = some (.slice ac n c) ∧ Clk w (.slice ao on oc) (.slice ac n c) N C

theorem Clk.below {w w' : World} {offs ctrs : Value} {N : List ByteArray} {C : List Int} (h : Clk w offs ctrs N C) (hb : Below w.heap.size w w') : Clk w' offs ctrs N C :=
  ⟨h.1.below hb, h.2.1, h.2.2.imp id (fun x => ⟨x.1, x.2.below hb⟩)⟩
theorem ClkAt.below {w w' : World} {b o : Nat} {N : List ByteArray} {C : List Int} (h : ClkAt w b o N C) (hb : Below w.heap.size w w') : ClkAt w' b o N C := by
  obtain ⟨ao, on, oc, ac, n, c, h0, h1, h2, h3⟩ := h
  exact ⟨ao, on, oc, ac, n, c, cell_later hb h0, cell_later hb h1, cell_later hb h2, h3.below hb⟩
theorem Clk.len {w : World} {ac : Option Addr} {offs : Value} {n c : Nat} {N : List ByteArray} {C : List Int} (h : Clk w offs (.slice ac n c) N C) : n = N.length := by
  obtain ⟨a, cap, e⟩ := h.1.shape
  simp only [Value.slice.injEq] at e
  rw [e.2.1, ← h.2.1]
  simp [ints]

theorem cat_data (l : List ByteArray) : (cat l).data.toList = (l.map (fun x => x.data.toList)).flatten := by
  have key : ∀ (l : List ByteArray) (a : ByteArray), (l.foldl (· ++ ·) a).data.toList = a.data.toList ++ (l.map (fun x => x.data.toList)).flatten := by
    intro l
    induction l with
    | nil => intro a; simp
    | cons x l ih => intro a; simp [ih]
  simpa [cat] using key l ByteArray.empty
theorem cat_append (l m : List ByteArray) : cat (l ++ m) = cat l ++ cat m := by
  apply ByteArray.ext
  apply Array.ext'
  rw [cat_data]
  simp [cat_data]
theorem cat_cons (x : ByteArray) (l : List ByteArray) : cat (x :: l) = x ++ cat l := by
  have := cat_append [x] l
  simpa [cat] using this

theorem cat_part (N : List ByteArray) (i j : Nat) (h : i ≤ j) (hj : j ≤ N.length) : (cat N).extract (cat (N.take i)).size (cat (N.take j)).size = cat ((N.drop i).take (j - i)) := by
  have e1 : N = N.take i ++ ((N.drop i).take (j - i) ++ N.drop j) := by
    conv => lhs; rw [← List.take_append_drop i N, ← List.take_append_drop (j - i) (N.drop i)]
    rw [List.drop_drop, show i + (j - i) = j from by omega]
  have e2 : N.take j = N.take i ++ (N.drop i).take (j - i) := by
    conv => lhs; rw [show j = i + (j - i) from by omega]
    rw [List.take_add]
  rw [e2]
  generalize N.take i = A at *
  generalize (N.drop i).take (j - i) = B at *
  generalize N.drop j = D at *
  subst e1
  rw [cat_append, cat_append, cat_append]
  apply ByteArray.ext
  apply Array.ext'
  have ha : (cat A).data.toList.length = (cat A).size := rfl
  have hb : (cat B).data.toList.length = (cat B).size := rfl
  simp only [ByteArray.data_extract, ByteArray.data_append, ByteArray.size_append, Array.toList_extract]
  rw [List.extract_eq_take_drop, ← ha, ← hb]
  simp

theorem cat_one (x : ByteArray) : cat [x] = x := by simp [cat]
theorem cat_take_le (N : List ByteArray) (i j : Nat) (h : i ≤ j) : (cat (N.take i)).size ≤ (cat (N.take j)).size := by
  have : N.take j = N.take i ++ (N.take j).drop i := by
    conv => lhs; rw [← List.take_append_drop i (N.take j)]
    rw [List.take_take, Nat.min_eq_left h]
  rw [this, cat_append, ByteArray.size_append]
  omega
theorem cat_take_size (N : List ByteArray) (i : Nat) : (cat (N.take i)).size ≤ (cat N).size := by
  have := cat_take_le N i (max i N.length) (by omega)
  rwa [List.take_of_length_le (i := max i N.length) (by omega)] at this

theorem offsL_at (N : List ByteArray) (k : Nat) (h : k ≤ N.length) : (u64s (offsL N))[k]? = some (.int .u64 ((cat (N.take k)).size : Nat)) := by
  simp [u64s, offsL, List.getElem?_map, List.getElem?_range (show k < N.length + 1 by omega)]

/-- '(*Clock).id' -/
theorem id_any (w : World) (b o : Nat) (N : List ByteArray) (C : List Int) (h : ClkAt w b o N C) (k : Nat) (hk : k < N.length) (hs : (cat N).size ≤ 9223372036854775807) (hn : N.length ≤ 1000000) :
    Calls Yba.prog 42 #[.pointer (some ⟨b, o, none⟩), .int .i64 k] w fun r w' => r = .returned (.string N[k]) ∧ ∃ n, w' = w.drewN n := by
  obtain ⟨ao, on, oc, ac, n, c, h0, h1, h2, h3⟩ := h
  rcases h3.2.2 with ⟨hN, _⟩ | ⟨_, hr⟩
  · subst hN; simp at hk
  rcases hr with ⟨_, hx⟩ | ⟨g, go, cap, e, hg, hc, hm, hcell⟩
  · exact absurd (congrArg List.length hx) (by simp [u64s, offsL])
  · simp only [Value.slice.injEq] at e
    obtain ⟨rfl, rfl, rfl⟩ := e
    have hl : (u64s (offsL N)).length = N.length + 1 := by simp [u64s, offsL]
    have e1 := (hcell k (by omega)).trans (offsL_at N k (by omega))
    have e2 := (hcell (k + 1) (by omega)).trans (offsL_at N (k + 1) (by omega))
    have e3 := cat_part N k (k + 1) (by omega) (by omega)
    have e4 : cat ((N.drop k).take (k + 1 - k)) = N[k] := by
      rw [show k + 1 - k = 1 from by omega, List.drop_eq_getElem_cons hk, List.take_succ_cons, List.take_zero, cat_one]
    have := id_raw w b o (cat N) g go _ _ k _ _ h0 h1 (by omega) e1 e2 (by have := cat_take_le N k (k + 1) (by omega); omega) (by have := cat_take_size N (k + 1); omega) hs (by omega)
    rw [e3, e4] at this
    exact this

theorem toList_inj {x y : ByteArray} (h : x.toList = y.toList) : x = y := by
  rw [ByteArray.toList_eq, ByteArray.toList_eq] at h
  exact ByteArray.ext (Array.ext' h)
theorem toList_beq (x y : ByteArray) : (x.toList == y.toList) = decide (x = y) := by
  rw [Bool.eq_iff_iff]
  simp only [beq_iff_eq, decide_eq_true_eq]
  exact ⟨toList_inj, fun h => by rw [h]⟩
/-- How many names stand ahead of 'node'. -/
def lessB (x y : ByteArray) : Bool := Op.bytesLess x.toList y.toList
def idx (N : List ByteArray) (node : ByteArray) : Nat := (N.takeWhile (fun x => lessB x node)).length
set_option maxRecDepth 100000 in
set_option maxHeartbeats 400000 in
theorem find_any (w : World) (b o : Nat) (N : List ByteArray) (C : List Int) (h : ClkAt w b o N C) (node : ByteArray) (hs : (cat N).size ≤ 9223372036854775807) (hn : N.length ≤ 1000000)
    (hso : ∀ j (hj : j < N.length), lessB N[j] node = decide (j < idx N node)) :
    Calls Yba.prog 26 #[.pointer (some ⟨b, o, none⟩), .string node] w fun r w' => r = .returned (.tuple #[.int .i64 (idx N node : Nat), .bool (decide (N[idx N node]? = some node))]) ∧ Below w.heap.size w w' := by
  obtain ⟨ao, on, oc, ac, n, c, h0, h1, h2, h3⟩ := id h
  have HL : Hid (n = N.length) := h3.len
  have HA : Hid (ClkAt w b o N C) := h
  clear h h3
  have HS := (show Hid _ from hso)
  clear hso
  go_enter Yba.func26, Yba.ntmps26
  go_wp2_with (go_at_call 12; refine (len_any _ _ _ _ _ _ _ _).mono ?_; rintro e w1 ⟨rfl, hb1⟩)
  go_loopw [6, 7] (fun lo hi wr => ∃ l r : Nat, lo = .int .i64 l ∧ hi = .int .i64 r ∧ l ≤ idx N node ∧ idx N node ≤ r ∧ r ≤ N.length ∧ Below w.heap.size w wr) (fun lo hi wr => (intOf hi - intOf lo).toNat)
  case atStart =>
    exact ⟨0, N.length, rfl, by rw [HL.out], Nat.zero_le _, by unfold idx; exact (List.takeWhile_sublist _).length_le, Nat.le_refl _, hb1⟩
  case round =>
    obtain ⟨l, r, rfl, rfl, h5, h6, h7, hb⟩ := hrel
    by_cases hlt : l < r
    · have hml : (l + r) / 2 < N.length := by omega
      have hle := HS.out ((l + r) / 2) hml
      go_wp2_with fail
      rw [show ((l : Int) + r) / 2 = (((l + r) / 2 : Nat) : Int) from by omega]
      refine (id_any wr b o N C (HA.out.below hb) ((l + r) / 2) hml hs hn).mono ?_
      rintro e w2 ⟨rfl, nd, rfl⟩
      have hb2 := below_drewN hb nd
      generalize N[(l + r) / 2] = x at *
      unfold lessB at hle
      by_cases hmi : (l + r) / 2 < idx N node
      · have hx : Op.bytesLess x.toList node.toList = true := by rw [hle]; simpa using hmi
        clear hle
        go_wp2_with fail
        refine ⟨⟨(l + r) / 2 + 1, r, by go_num, rfl, by omega, h6, h7, hb2⟩, by simp [intOf]; omega⟩
      · have hx : Op.bytesLess x.toList node.toList = false := by rw [hle]; simpa using hmi
        clear hle
        go_wp2_with fail
        refine ⟨⟨l, (l + r) / 2, rfl, rfl, by omega, by omega, by omega, hb2⟩, by simp [intOf]; omega⟩
    · obtain rfl : l = idx N node := by omega
      obtain rfl : r = idx N node := by omega
      have d0 := cell_later hb h0
      have d1 := cell_later hb h1
      have d2 := cell_later hb h2
      have HL' : n = N.length := HL.out
      subst HL'
      by_cases hin : idx N node < N.length
      · go_wp2_with (go_at_call 12; refine (len_any _ _ _ _ _ _ _ _).mono ?_; rintro e w3 ⟨rfl, hb3⟩)
        have hb4 := hb.trans (hb3.mono hb.size)
        refine (id_any w3 b o N C (HA.out.below hb4) (idx N node) hin hs hn).mono ?_
        rintro e w5 ⟨rfl, nd, rfl⟩
        have hb5 := below_drewN hb4 nd
        have HX : Hid (N[idx N node]? = some N[idx N node]) := List.getElem?_eq_getElem hin
        generalize N[idx N node] = x at *
        go_wp2_with fail
        go_ret2
        refine ⟨?_, hb5⟩
        rw [HX.out]
        simp [toList_beq]
      · go_wp2_with (go_at_call 12; refine (len_any _ _ _ _ _ _ _ _).mono ?_; rintro e w3 ⟨rfl, hb3⟩)
        have hb4 := hb.trans (hb3.mono hb.size)
        go_ret2
        refine ⟨?_, hb4⟩
        rw [List.getElem?_eq_none (by omega)]
        simp
end Go.Proofs.Ybulkgey
