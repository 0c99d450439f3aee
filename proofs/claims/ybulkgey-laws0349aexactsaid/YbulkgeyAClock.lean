/- zzs0349aclock: the walk, and the plain clock that it computes. -/
import Derived.Test.YbulkgeyASearch
namespace Go.Proofs.Ybulkgey
open Go.RowKit
set_option linter.unusedVariables false
def an (k : Nat) : ByteArray := (#[⟨#[65]⟩, ⟨#[66, 120]⟩, ⟨#[67]⟩, ⟨#[100]⟩] : Array ByteArray).getD k ByteArray.empty
def anCells : Array Value := #[.string ⟨#[65]⟩, .string ⟨#[66, 120]⟩, .string ⟨#[67]⟩, .string ⟨#[100]⟩]
theorem anCells_at (k : Nat) (h : k < 4) : anCells[k]? = some (.string (an k)) := by
  match k, h with
  | 0, _ => rfl
  | 1, _ => rfl
  | 2, _ => rfl
  | 3, _ => rfl
theorem an_size (k : Nat) : (an k).size ≤ 2 := by
  match k with
  | 0 => decide
  | 1 => decide
  | 2 => decide
  | 3 => decide
  | k + 4 => simp [an]
/-- The counters of an array of four bytes, modulo 9; those that are not nought. -/
def selA (f : Nat → Int) (n : Nat) : List Nat := (List.range n).filter fun k => !(f k % 9 == 0)
def NA (f : Nat → Int) (n : Nat) : List ByteArray := (selA f n).map an
def CA (f : Nat → Int) (n : Nat) : List Int := (selA f n).map fun k => f k % 9
theorem selA_yes {f : Nat → Int} {k : Nat} (h : (f k % 9 == 0) = false) : selA f (k + 1) = selA f k ++ [k] := by simp [selA, List.range_succ, List.filter_append, h]
theorem selA_no {f : Nat → Int} {k : Nat} (h : (f k % 9 == 0) = true) : selA f (k + 1) = selA f k := by simp [selA, List.range_succ, List.filter_append, h]
theorem NA_yes {f : Nat → Int} {k : Nat} (h : (f k % 9 == 0) = false) : NA f (k + 1) = NA f k ++ [an k] := by simp [NA, selA_yes h]
theorem NA_no {f : Nat → Int} {k : Nat} (h : (f k % 9 == 0) = true) : NA f (k + 1) = NA f k := by simp [NA, selA_no h]
theorem CA_yes {f : Nat → Int} {k : Nat} (h : (f k % 9 == 0) = false) : CA f (k + 1) = CA f k ++ [f k % 9] := by simp [CA, selA_yes h]
theorem CA_no {f : Nat → Int} {k : Nat} (h : (f k % 9 == 0) = true) : CA f (k + 1) = CA f k := by simp [CA, selA_no h]
theorem selA_len (f : Nat → Int) (k : Nat) : (selA f k).length ≤ k := by
  have := List.length_filter_le (fun k => !(f k % 9 == 0)) (List.range k)
  simpa [selA] using this
theorem NA_len (f : Nat → Int) (k : Nat) : (NA f k).length ≤ k := by simpa [NA] using selA_len f k
theorem CA_len (f : Nat → Int) (k : Nat) : (CA f k).length = (NA f k).length := by simp [NA, CA]
theorem NA_cat (f : Nat → Int) (k : Nat) (h : k ≤ 4) : (cat (NA f k)).size ≤ 8 := by
  have := cat_size (NA f k) (by intro x hx; simp only [NA, List.mem_map] at hx; obtain ⟨j, _, rfl⟩ := hx; exact an_size j)
  have := NA_len f k
  omega

theorem heap_at5 (w : World) (a b c d e : Obj) : (((((w.alloc a).alloc b).alloc c).alloc d).alloc e).heap[w.heap.size]? = some a ∧ (((((w.alloc a).alloc b).alloc c).alloc d).alloc e).heap[w.heap.size + 1]? = some b ∧ (((((w.alloc a).alloc b).alloc c).alloc d).alloc e).heap[w.heap.size + 3]? = some d := by
  refine ⟨?_, ?_, ?_⟩
  · rw [Go.heap_alloc_old _ _ (by simp; omega), Go.heap_alloc_old _ _ (by simp; omega), Go.heap_alloc_old _ _ (by simp; omega), Go.heap_alloc_old _ _ (by simp), Go.heap_alloc_new]
  · rw [Go.heap_alloc_old _ _ (by simp), Go.heap_alloc_old _ _ (by simp), Go.heap_alloc_old _ _ (by simp)]; exact heap_new_at _ _ (by simp)
  · rw [Go.heap_alloc_old _ _ (by simp)]; exact heap_new_at _ _ (by simp)

/-- A clock whose rows lie in blocks from b on: it reads the same wherever those are kept. -/
def ClkFrom (b : Nat) (w : World) (offs ctrs : Value) (N : List ByteArray) (C : List Int) : Prop := ∀ w'' : World, w.heap.size ≤ w''.heap.size → (∀ k, b ≤ k → k < w.heap.size → w''.heap[k]? = w.heap[k]?) → Clk w'' offs ctrs N C
theorem ClkFrom.clk {b : Nat} {w : World} {offs ctrs : Value} {N : List ByteArray} {C : List Int} (h : ClkFrom b w offs ctrs N C) : Clk w offs ctrs N C := h w (Nat.le_refl _) fun _ _ _ => rfl

set_option maxRecDepth 100000 in
set_option maxHeartbeats 1000000 in
theorem aclock_any (w : World) (x0 x1 x2 x3 : Int) (f : Nat → Int) (h0 : f 0 = x0) (h1 : f 1 = x1) (h2 : f 2 = x2) (h3 : f 3 = x3) (hf : ∀ k, k < 4 → 0 ≤ f k ∧ f k ≤ 255) :
    Calls Yba.prog 19 #[.agg #[.int .u8 x0, .int .u8 x1, .int .u8 x2, .int .u8 x3]] w fun r w' => ∃ offs ctrs, r = .returned (.agg #[.string (cat (NA f 4)), offs, ctrs]) ∧ ClkFrom w.heap.size w' offs ctrs (NA f 4) (CA f 4) ∧ Below w.heap.size w w' := by
  go_enter Yba.func19, Yba.ntmps19
  go_wp2
  have HF := hid hf
  have hfc : ∀ k, k < 4 → (#[.int .u8 x0, .int .u8 x1, .int .u8 x2, .int .u8 x3] : Array Value)[k]? = some (.int .u8 (f k)) := by
    intro k hk
    match k, hk with
    | 0, _ => rw [h0]; rfl
    | 1, _ => rw [h1]; rfl
    | 2, _ => rw [h2]; rfl
    | 3, _ => rw [h3]; rfl
  have HFC := hid hfc
  clear hf hfc
  go_loopw [4, 5, 6, 7] (fun v4 v5 v6 v7 wr => ∃ k : Nat, k ≤ 4 ∧ v7 = .int .i64 k ∧ v4 = .string (cat (NA f k)) ∧ Own wr (w.heap.size + 4) 34 v5 (u64s (offsL (NA f k))) ∧
    Own wr (w.heap.size + 4) 34 v6 (ints (CA f k)) ∧ Apart v5 v6 ∧ Below w.heap.size w wr ∧ w.heap.size + 4 ≤ wr.heap.size ∧ wr.heap[w.heap.size]? = some (.cells #[.int .u8 x0, .int .u8 x1, .int .u8 x2, .int .u8 x3] 22) ∧ wr.heap[w.heap.size + 1]? = some (.cells #[.string ⟨#[]⟩, .slice none 0 0, .slice none 0 0] 27) ∧ wr.heap[w.heap.size + 3]? = some (.cells anCells 23)) (fun _ _ _ v7 wr => 4 - (intOf v7).toNat)
  case atStart =>
    obtain ⟨q0, q1, q2⟩ := heap_at5 w (.cells #[.int .u8 x0, .int .u8 x1, .int .u8 x2, .int .u8 x3] 22) (.cells #[.string ⟨#[]⟩, .slice none 0 0, .slice none 0 0] 27) (.cells anCells 23) (.cells anCells 23) (.cells #[.int .u64 0] 34)
    refine ⟨0, by omega, rfl, rfl, ?_, World.ownsRow_nil _ _ _ _, apart_nil_right _, ?_, by simp, q0, q1, q2⟩
    · have := World.ownsRow_lit (base := w.heap.size + 4) (e := 34) (size := 1) ((((w.alloc (.cells #[.int .u8 x0, .int .u8 x1, .int .u8 x2, .int .u8 x3] 22)).alloc (.cells #[.string ⟨#[]⟩, .slice none 0 0, .slice none 0 0] 27)).alloc (.cells anCells 23)).alloc (.cells anCells 23)) #[.int .u64 0] 1 (by simp) (by simp [maxLen]) (by simp)
      simpa [Own, NA, selA, u64s, offsL, cat, anCells] using this
    · go_grown
  case round =>
    obtain ⟨k, hk, rfl, rfl, h5, h6, p1, hb, hsz, hbox, hres, htab⟩ := hrel
    have HT := hid htab
    have HR := hid hres
    have HB := hid hbox
    clear htab hres hbox
    by_cases hlt : k < 4
    · have hbk : wr.cell? ⟨w.heap.size, k, none⟩ = some (.int .u8 (f k)) := (cell_of_block HB.out k).trans (HFC.out k hlt)
      obtain ⟨f0, f1⟩ := HF.out k hlt
      have hlt' : (k : Int) < 4 := by omega
      cases hbit : (f k % 9 == 0)
      · have htk : wr.cell? ⟨w.heap.size + 1 + 1 + 1, k, none⟩ = some (.string (an k)) := (cell_of_block HT.out k).trans (anCells_at k hlt)
        have hcs1 := NA_cat f k hk
        have hcs2 := an_size k
        have hln := NA_len f k
        go_wp2_with (at_builtin; refine Stand.out ?_)
        refine app_u64 rfl _ _ rfl (w.heap.size + 4) u5 _ rfl (h5.alloc _) _ _ _ rfl (cell_one_new _ _ _ 0 _ rfl) (by simp [u64s, offsL_len]; omega) (by simp; omega) ?_
        intro v5 w1 o5 g5 m5
        obtain ⟨b1, s1, k1⟩ := app_step h5 hsz g5 m5
        obtain ⟨o6, q1⟩ := k1 _ _ _ h6 p1.symm
        have HT1 := hid ((b1.block _ (by omega)).trans HT.out)
        have HR1 := hid ((b1.block _ (by omega)).trans HR.out)
        have HB1 := hid ((b1.block _ (by omega)).trans HB.out)
        have hb1 := hb.trans (b1.mono (by omega))
        clear g5 m5 k1 p1 HT HR HB hb h5 h6 hbk htk
        go_wp2_with (at_builtin; refine Stand.out ?_)
        refine app_u64 rfl _ _ rfl (w.heap.size + 4) u6 _ rfl (o6.alloc _) _ _ _ rfl (cell_one_new _ _ _ 0 _ rfl) (by simp [ints, CA_len]; omega) (by simp; omega) ?_
        intro v6 w2 o6' g6 m6
        obtain ⟨b2, s2, k2⟩ := app_step o6 s1 g6 m6
        obtain ⟨o5', q3⟩ := k2 _ _ _ o5 q1.symm
        have HT2 := hid ((b2.block _ (by omega)).trans HT1.out)
        have HR2 := hid ((b2.block _ (by omega)).trans HR1.out)
        have HB2 := hid ((b2.block _ (by omega)).trans HB1.out)
        have hb2 := hb1.trans (b2.mono (by omega))
        clear g6 m6 k2 q1 HT1 HR1 HB1 hb1 o5 o6 b1 s1 b2
        go_wp2
        refine ⟨⟨k + 1, by omega, by go_num, by rw [NA_yes hbit, cat_snoc], ?_, ?_, q3, hb2, s2, HB2.out, HR2.out, HT2.out⟩, by simp [intOf]; omega⟩
        · rw [NA_yes hbit, offs_snoc, cat_snoc]
          simpa [u64s] using o5'
        · rw [CA_yes hbit]
          simpa [ints] using o6'
      · go_wp2_with fail
        refine ⟨⟨k + 1, by omega, by go_num, by rw [NA_no hbit], ?_, ?_, p1, hb, hsz, HB.out, HR.out, HT.out⟩, by simp [intOf]; omega⟩
        · rw [NA_no hbit]; exact h5
        · rw [CA_no hbit]; exact h6
    · obtain rfl : k = 4 := by omega
      have c0 : wr.cell? ⟨w.heap.size + 1, 0, none⟩ = some (.string ⟨#[]⟩) := cell_of_block HR.out 0
      have c1 : wr.cell? ⟨w.heap.size + 1, 1, none⟩ = some (.slice none 0 0) := cell_of_block HR.out 1
      have c2 : wr.cell? ⟨w.heap.size + 1, 2, none⟩ = some (.slice none 0 0) := cell_of_block HR.out 2
      have z0 := frozen_of_block HR.out 0
      have z1 := frozen_of_block HR.out 1
      have z2 := frozen_of_block HR.out 2
      by_cases hn : CA f 4 = []
      · have hN : NA f 4 = [] := List.eq_nil_of_length_eq_zero (by rw [← CA_len f 4, hn]; rfl)
        have HN := hid hN
        have HC := hid hn
        have h6' : Own wr (w.heap.size + 4) 34 u6 [] := by rw [hn] at h6; exact h6
        clear hN hn h6
        rcases h6'.shape with ⟨rfl, _⟩ | ⟨g, cap, rfl, _⟩
        all_goals
          try simp only [List.length_nil]
          go_wp2
          refine bodyPost_ret (v := .agg #[.string ⟨#[]⟩, .slice none 0 0, .slice none 0 0]) (by simp [results, Yba.results19, go_sem, c0, c1, c2]) rfl ?_
          refine ⟨_, _, by rw [HN.out]; rfl, fun _ _ _ => ⟨.inl ⟨rfl, by rw [HC.out]; rfl⟩, CA_len _ _, .inl ⟨HN.out, rfl⟩⟩, ?_⟩
          exact ((hb.setCell (p := ⟨w.heap.size + 1, 0, none⟩) (by show w.heap.size ≤ w.heap.size + 1; omega) _).setCell (p := ⟨w.heap.size + 1, 1, none⟩) (by show w.heap.size ≤ w.heap.size + 1; omega) _).setCell (p := ⟨w.heap.size + 1, 2, none⟩) (by show w.heap.size ≤ w.heap.size + 1; omega) _
      · rcases h6.shape with ⟨rfl, hx⟩ | ⟨g, cap, rfl, hg1, hg2, hc1, hc2, hcl⟩
        · exact absurd (by simpa [ints] using hx) hn
        have hlen : ((((ints (CA f 4)).length : Nat) : Int) == 0) = false := by simp [ints, hn]
        rcases h5.shape with ⟨rfl, hx9⟩ | ⟨g9, cap9, rfl, hg91, hg92, hc91, hc92, hcl9⟩
        · exact absurd (congrArg List.length hx9) (by simp [u64s, offsL])
        clear hcl hc1 hc2 hc91 hc92 hcl9
        go_wp2
        refine bodyPost_ret (v := .agg #[.string (cat (NA f 4)), .slice (some ⟨g9, 0, none⟩) (u64s (offsL (NA f 4))).length cap9, .slice (some ⟨g, 0, none⟩) (ints (CA f 4)).length cap]) (by simp [results, Yba.results19, go_sem, c0, c1, c2]) rfl ?_
        have bl : Below w.heap.size w (((wr.setCell ⟨w.heap.size + 1, 0, none⟩ (.string (cat (NA f 4)))).setCell ⟨w.heap.size + 1, 1, none⟩ (.slice (some ⟨g9, 0, none⟩) (u64s (offsL (NA f 4))).length cap9)).setCell ⟨w.heap.size + 1, 2, none⟩ (.slice (some ⟨g, 0, none⟩) (ints (CA f 4)).length cap)) :=
          ((hb.setCell (p := ⟨w.heap.size + 1, 0, none⟩) (by show w.heap.size ≤ w.heap.size + 1; omega) _).setCell (p := ⟨w.heap.size + 1, 1, none⟩) (by show w.heap.size ≤ w.heap.size + 1; omega) _).setCell (p := ⟨w.heap.size + 1, 2, none⟩) (by show w.heap.size ≤ w.heap.size + 1; omega) _
        refine ⟨_, _, rfl, fun w'' hsz'' hkeep => ⟨?_, CA_len _ _, .inr ⟨fun h => hn (List.eq_nil_of_length_eq_zero (by rw [CA_len f 4, h]; rfl)), ?_⟩⟩, bl⟩
        · refine h6.row_keep (Nat.le_trans (by simp) hsz'') fun k k1 k2 => ?_
          rw [hkeep k (by omega) (by simpa using k2), Below.heap_setCell _ _ _ _ (by show k ≠ w.heap.size + 1; omega), Below.heap_setCell _ _ _ _ (by show k ≠ w.heap.size + 1; omega), Below.heap_setCell _ _ _ _ (by show k ≠ w.heap.size + 1; omega)]
        · refine h5.row_keep (Nat.le_trans (by simp) hsz'') fun k k1 k2 => ?_
          rw [hkeep k (by omega) (by simpa using k2), Below.heap_setCell _ _ _ _ (by show k ≠ w.heap.size + 1; omega), Below.heap_setCell _ _ _ _ (by show k ≠ w.heap.size + 1; omega), Below.heap_setCell _ _ _ _ (by show k ≠ w.heap.size + 1; omega)]
end Go.Proofs.Ybulkgey
