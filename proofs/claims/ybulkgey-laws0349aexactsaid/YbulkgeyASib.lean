/- zzs0349aholds, zzs0349asib: the walks, and the plain siblings that they compute. -/
import Derived.Test.YbulkgeyAClock
namespace Go.Proofs.Ybulkgey
open Go.RowKit
set_option linter.unusedVariables false

/-- Does the byte array hold the write n of the node k? -/
def hold (c m : Int) (n : Nat) : Bool := decide (1 ≤ n) && (decide ((n : Int) ≤ c % 9) && (bits .and .u8 (m / 2 ^ (n - 1)) 1 == 1))
def arr (f : Nat → Int) : Value := .agg #[.int .u8 (f 0), .int .u8 (f 1), .int .u8 (f 2), .int .u8 (f 3)]
def arrCells (f : Nat → Int) : Array Value := #[.int .u8 (f 0), .int .u8 (f 1), .int .u8 (f 2), .int .u8 (f 3)]
theorem arrCells_at (f : Nat → Int) (k : Nat) (h : k < 4) : (arrCells f)[k]? = some (.int .u8 (f k)) := by
  match k, h with
  | 0, _ => rfl
  | 1, _ => rfl
  | 2, _ => rfl
  | 3, _ => rfl

set_option maxRecDepth 100000 in
set_option maxHeartbeats 1000000 in
theorem aholds_any (w : World) (f m : Nat → Int) (k n : Nat) (hk : k < 4) (hn : 1 ≤ n) (hn8 : n ≤ 8) (hf : 0 ≤ f k ∧ f k ≤ 255) (hm : 0 ≤ m k ∧ m k ≤ 255) :
    Calls Yba.prog 10 #[arr f, arr m, .int .i64 k, .int .i64 n] w fun e w' => e = .returned (.bool (hold (f k) (m k) n)) ∧ Below w.heap.size w w' := by
  have hb2 : Below w.heap.size w ((w.alloc (.cells (arrCells f) 22)).alloc (.cells (arrCells m) 22)) := by go_grown
  have q0 : ((w.alloc (.cells (arrCells f) 22)).alloc (.cells (arrCells m) 22)).heap[w.heap.size]? = some (.cells (arrCells f) 22) := (Go.heap_alloc_old _ _ (by simp)).trans (Go.heap_alloc_new _ _)
  have q1 : ((w.alloc (.cells (arrCells f) 22)).alloc (.cells (arrCells m) 22)).heap[w.heap.size + 1]? = some (.cells (arrCells m) 22) := heap_new_at _ _ (by simp)
  have c0 := (cell_of_block q0 k).trans (arrCells_at f k hk)
  have c1 := (cell_of_block q1 k).trans (arrCells_at m k hk)
  unfold arr
  unfold arrCells at *
  clear q0 q1
  have hk' : (k : Int) < 4 := by omega
  have hn' : (1 : Int) ≤ (n : Int) := by omega
  have hn8' : (n : Int) ≤ 8 := by omega
  obtain ⟨f0, f1⟩ := hf
  obtain ⟨m0, m1⟩ := hm
  generalize f k = x at *
  generalize m k = y at *
  by_cases hx : (n : Int) ≤ x % 9
  · have hh : hold x y n = (bits .and .u8 (y / 2 ^ (n - 1)) 1 == 1) := by simp [hold, hn, hx]
    go_enter Yba.func10, Yba.ntmps10
    go_wp2
    go_ret
    rw [hh]
    exact ⟨rfl, hb2⟩
  · have hh : hold x y n = false := by simp [hold, hx]
    have hx' : decide ((n : Int) ≤ x % 9) = false := by simpa using hx
    go_enter Yba.func10, Yba.ntmps10
    go_wp2
    go_ret
    exact ⟨rfl, hb2⟩

/-- A row of writes of the call's own. -/
def wcells (L : List Wr) : List Value := L.flatMap fun x => [.string x.s, .int .u64 x.c, .int .i64 x.v]
theorem wcells_len (L : List Wr) : (wcells L).length = L.length * 3 := by
  induction L with
  | nil => rfl
  | cons x L ih => simp [wcells] at ih ⊢; omega
theorem wcells_snoc (L : List Wr) (x : Wr) : wcells (L ++ [x]) = wcells L ++ [.string x.s, .int .u64 x.c, .int .i64 x.v] := by simp [wcells]
theorem wcells_at (L : List Wr) : ∀ i (h : i < L.length), (wcells L)[i * 3]? = some (.string L[i].s) ∧ (wcells L)[i * 3 + 1]? = some (.int .u64 L[i].c) ∧ (wcells L)[i * 3 + 2]? = some (.int .i64 L[i].v) := by
  induction L with
  | nil => intro i h; simp at h
  | cons x L ih =>
    intro i h
    have e : wcells (x :: L) = [.string x.s, .int .u64 x.c, .int .i64 x.v] ++ wcells L := by simp [wcells]
    cases i with
    | zero => rw [e]; exact ⟨rfl, rfl, rfl⟩
    | succ i =>
      obtain ⟨h1, h2, h3⟩ := ih i (by simpa using h)
      rw [e, List.getElem?_append_right (by simp; omega), List.getElem?_append_right (by simp; omega), List.getElem?_append_right (by simp; omega)]
      simp only [List.length_cons, List.length_nil, List.getElem_cons_succ]
      rw [show (i + 1) * 3 - (0 + 1 + 1 + 1) = i * 3 by omega, show (i + 1) * 3 + 1 - (0 + 1 + 1 + 1) = i * 3 + 1 by omega, show (i + 1) * 3 + 2 - (0 + 1 + 1 + 1) = i * 3 + 2 by omega]
      exact ⟨h1, h2, h3⟩
def OwnW (w : World) (base : Nat) (v : Value) (L : List Wr) : Prop := w.ownsRow base 38 3 v L.length (wcells L)
theorem Yba.info38 : (Yba.prog.info? 38).map (fun i => (i.zero, i.size, i.bytes)) = some (some (.agg #[.string ⟨#[]⟩, .int .u64 0, .int .i64 0]), 3, 32) := by kernel_rfl
theorem OwnW.shape {w : World} {base : Nat} {v : Value} {L : List Wr} (h : OwnW w base v L) : ∃ a cap, v = .slice a L.length cap ∧ WRow w a L := by
  rcases h.2 with ⟨rfl, h0⟩ | ⟨g, cap, cur, rfl, hb, hg, hc, hm, hs, ht⟩
  · exact ⟨none, 0, by rw [h0], .inl (List.eq_nil_of_length_eq_zero h0)⟩
  · refine ⟨_, cap, rfl, .inr ⟨g, 0, rfl, fun i hi => ?_⟩⟩
    have hc : ∀ j, j < L.length * 3 → w.cell? ⟨g, 0 + j, none⟩ = (wcells L)[j]? := fun j hj => by
      rw [Nat.zero_add]
      have := World.ownsRow.cellAt h j (by simpa using hj)
      simpa using this
    obtain ⟨a1, a2, a3⟩ := wcells_at L i hi
    refine ⟨(hc _ (by omega)).trans a1, ?_, ?_⟩
    · rw [Nat.add_assoc]; exact (hc _ (by omega)).trans a2
    · rw [Nat.add_assoc]; exact (hc _ (by omega)).trans a3
theorem OwnW.below {w w' : World} {base : Nat} {v : Value} {L : List Wr} (h : OwnW w base v L) (hg : w.grownBy w' v.ownBlock) (hb : base ≤ w.heap.size) : Below base w w' :=
  (Below.refl base w).grown hg hb (fun k hk => (World.ownsRow.lt h k hk).1)
theorem OwnW.later {w w' : World} {base : Nat} {v : Value} {L : List Wr} (h : OwnW w base v L) (hb : Below w.heap.size w w') : OwnW w' base v L := by
  refine ⟨h.1, h.2.imp id ?_⟩
  rintro ⟨g, cap, cur, e, h1, h2, r⟩
  exact ⟨g, cap, cur, e, h1, (hb.block g (block_lt h2)).trans h2, r⟩

theorem app_wr {w : World} {ops : Array Oper} {rest : List Oper} {o : Oper} {a : Act} {Q : Exit → Act → World → Prop} (hgd : o.guard = none) (s x : Operand)
    (ho : o.op = .call { callee := .builtin .append, args := #[s, x], argTypes := #[28, 28] }) (base : Nat) (v : Value) (L : List Wr) (hs : a.eval s = v) (hown : OwnW w base v L)
    (g c : Nat) (y : Wr) (hx : a.eval x = .slice (some ⟨g, 0, none⟩) 1 c) (h0 : w.cell? ⟨g, 0, none⟩ = some (.string y.s)) (h1 : w.cell? ⟨g, 1, none⟩ = some (.int .u64 y.c)) (h2 : w.cell? ⟨g, 2, none⟩ = some (.int .i64 y.v)) (hlen : L.length ≤ 100000) (hbase : base ≤ w.heap.size)
    (h : ∀ v' w', OwnW w' base v' (L ++ [y]) → w.grownBy w' v.ownBlock → wpList Yba.prog ops Q rest (a.put o.dst v') w') : wpList Yba.prog ops Q (o :: rest) a w := by
  obtain ⟨i, hi, hz0, hz1, hz2⟩ := info_parts Yba.info38
  refine wpList_append_own w hgd s x 28 ho base 38 i _ 3 32 Yba.underlying28 hi hz0 hz1 hz2 rfl (by omega) v L.length (wcells L) hs hown ⟨g, 0, none⟩ 1 c [.string y.s, .int .u64 y.c, .int .i64 y.v] hx (by simp) ?_ ?_ (by unfold maxLen; omega) (by omega) hbase ?_
  · intro j u hu
    match j, hu with
    | 0, hu => simp at hu; subst hu; simpa [Addr.add] using h0
    | 1, hu => simp at hu; subst hu; simpa [Addr.add] using h1
    | 2, hu => simp at hu; subst hu; simpa [Addr.add] using h2
    | j + 3, hu => simp at hu
  · intro u hu
    simp at hu
    rcases hu with rfl | rfl | rfl <;> rfl
  · intro v' w' h3 h4 _
    refine h v' w' ?_ h4
    unfold OwnW
    rw [wcells_snoc]
    simpa using h3

/-- The writes of the byte arrays: of the node k the first n. -/
def wrK (f m : Nat → Int) (k n : Nat) : List Wr := ((List.range n).filter fun j => hold (f k) (m k) (j + 1)).map fun (j : Nat) => ⟨an k, (j : Int) + 1, (k : Int) * 16 + ((j : Int) + 1)⟩
def wrs (f m : Nat → Int) (k : Nat) : List Wr := (List.range k).flatMap fun k => wrK f m k 8
theorem wrK_yes {f m : Nat → Int} {k n : Nat} (h : hold (f k) (m k) (n + 1) = true) : wrK f m k (n + 1) = wrK f m k n ++ [⟨an k, (n : Int) + 1, (k : Int) * 16 + ((n : Int) + 1)⟩] := by simp [wrK, List.range_succ, List.filter_append, h]
theorem wrK_no {f m : Nat → Int} {k n : Nat} (h : hold (f k) (m k) (n + 1) = false) : wrK f m k (n + 1) = wrK f m k n := by simp [wrK, List.range_succ, List.filter_append, h]
theorem wrs_succ (f m : Nat → Int) (k : Nat) : wrs f m (k + 1) = wrs f m k ++ wrK f m k 8 := by simp [wrs, List.range_succ, List.flatMap_append]
theorem wrK_len (f m : Nat → Int) (k n : Nat) : (wrK f m k n).length ≤ n := by
  have := List.length_filter_le (fun j => hold (f k) (m k) (j + 1)) (List.range n)
  simpa [wrK] using this
theorem wrs_len (f m : Nat → Int) (k : Nat) : (wrs f m k).length ≤ 8 * k := by
  induction k with
  | zero => simp [wrs]
  | succ k ih =>
    rw [wrs_succ, List.length_append]
    have := wrK_len f m k 8
    omega

/-- The blocks that sib lays first. -/
def SB (B : Nat) (f m : Nat → Int) (wr : World) : Prop := wr.heap[B]? = some (.cells (arrCells f) 22) ∧ wr.heap[B + 1]? = some (.cells (arrCells m) 22) ∧ wr.heap[B + 2]? = some (.cells #[.string ⟨#[]⟩, .slice none 0 0, .slice none 0 0, .slice none 0 0] 30) ∧ wr.heap[B + 4]? = some (.cells anCells 23)
theorem SB.below {B : Nat} {f m : Nat → Int} {w w' : World} (h : SB B f m w) (hb : Below (B + 5) w w') : SB B f m w' :=
  ⟨(hb.block _ (by omega)).trans h.1, (hb.block _ (by omega)).trans h.2.1, (hb.block _ (by omega)).trans h.2.2.1, (hb.block _ (by omega)).trans h.2.2.2⟩
theorem sb_start (w : World) (f m : Nat → Int) : SB w.heap.size f m (((((w.alloc (.cells (arrCells f) 22)).alloc (.cells (arrCells m) 22)).alloc (.cells #[.string ⟨#[]⟩, .slice none 0 0, .slice none 0 0, .slice none 0 0] 30)).alloc (.cells anCells 23)).alloc (.cells anCells 23)) := by
  refine ⟨?_, ?_, ?_, ?_⟩
  · rw [Go.heap_alloc_old _ _ (by simp; omega), Go.heap_alloc_old _ _ (by simp; omega), Go.heap_alloc_old _ _ (by simp; omega), Go.heap_alloc_old _ _ (by simp), Go.heap_alloc_new]
  · rw [Go.heap_alloc_old _ _ (by simp), Go.heap_alloc_old _ _ (by simp), Go.heap_alloc_old _ _ (by simp)]; exact heap_new_at _ _ (by simp)
  · rw [Go.heap_alloc_old _ _ (by simp), Go.heap_alloc_old _ _ (by simp)]; exact heap_new_at _ _ (by simp)
  · exact heap_new_at _ _ (by simp)

set_option maxRecDepth 100000 in
set_option maxHeartbeats 1000000 in
theorem sib_any (w : World) (f m : Nat → Int) (hf : ∀ k, k < 4 → 0 ≤ f k ∧ f k ≤ 255) (hm : ∀ k, k < 4 → 0 ≤ m k ∧ m k ≤ 255) :
    Calls Yba.prog 8 #[arr f, arr m] w fun r w' => ∃ offs ctrs a cap, r = .returned (.agg #[.string (cat (NA f 4)), offs, ctrs, .slice a (wrs f m 4).length cap]) ∧ Clk w' offs ctrs (NA f 4) (CA f 4) ∧ WRow w' a (wrs f m 4) ∧ Below w.heap.size w w' := by
  have hh := fun W k n hk h1 h8 => aholds_any W f m k n hk h1 h8 (hf k hk) (hm k hk)
  have hcl := fun W => aclock_any W (f 0) (f 1) (f 2) (f 3) f rfl rfl rfl rfl hf
  have HH := hid hh
  have HC := hid hcl
  clear hh hcl hf hm
  unfold arr at *
  go_enter Yba.func8, Yba.ntmps8
  go_wp2
  go_loopw [6, 7] (fun v6 v7 wr => ∃ k : Nat, k ≤ 4 ∧ v7 = .int .i64 k ∧ OwnW wr (w.heap.size + 5) v6 (wrs f m k) ∧ SB w.heap.size f m wr ∧ Below w.heap.size w wr ∧ w.heap.size + 5 ≤ wr.heap.size) (fun _ v7 wr => 4 - (intOf v7).toNat)
  case atStart => exact ⟨0, by omega, rfl, ⟨rfl, .inl ⟨rfl, rfl⟩⟩, sb_start w f m, by go_grown, by simp⟩
  case round =>
    obtain ⟨k, hk, rfl, h6, hsb, hb, hsz⟩ := hrel
    have HS := hid hsb
    clear hsb
    by_cases hlt : k < 4
    · have hlt' : (k : Int) < 4 := by omega
      go_wp2_with fail
      go_loopw [6, 8] (fun v6 v8 ws => ∃ n : Nat, n ≤ 8 ∧ v8 = .int .i64 ((n : Int) + 1) ∧ OwnW ws (w.heap.size + 5) v6 (wrs f m k ++ wrK f m k n) ∧ SB w.heap.size f m ws ∧ Below w.heap.size w ws ∧ w.heap.size + 5 ≤ ws.heap.size) (fun _ v8 ws => 9 - (intOf v8).toNat)
      case atStart => exact ⟨0, by omega, rfl, by simpa [wrK] using h6, HS.out, hb, hsz⟩
      case round =>
        obtain ⟨n, hn, rfl, h6', hsb, hb', hsz'⟩ := hrel
        have a0 : wr.cell? ⟨w.heap.size, 0, none⟩ = some (.int .u8 (f 0)) := cell_of_block hsb.1 0
        have a1 : wr.cell? ⟨w.heap.size, 1, none⟩ = some (.int .u8 (f 1)) := cell_of_block hsb.1 1
        have a2 : wr.cell? ⟨w.heap.size, 2, none⟩ = some (.int .u8 (f 2)) := cell_of_block hsb.1 2
        have a3 : wr.cell? ⟨w.heap.size, 3, none⟩ = some (.int .u8 (f 3)) := cell_of_block hsb.1 3
        have b0 : wr.cell? ⟨w.heap.size + 1, 0, none⟩ = some (.int .u8 (m 0)) := cell_of_block hsb.2.1 0
        have b1 : wr.cell? ⟨w.heap.size + 1, 1, none⟩ = some (.int .u8 (m 1)) := cell_of_block hsb.2.1 1
        have b2 : wr.cell? ⟨w.heap.size + 1, 2, none⟩ = some (.int .u8 (m 2)) := cell_of_block hsb.2.1 2
        have b3 : wr.cell? ⟨w.heap.size + 1, 3, none⟩ = some (.int .u8 (m 3)) := cell_of_block hsb.2.1 3
        have HS' := hid hsb
        clear hsb
        by_cases hn8 : n < 8
        · have hn8' : (n : Int) + 1 ≤ 8 := by omega
          have hcall := HH.out wr k (n + 1) hlt (by omega) (by omega)
          have hl1 := wrs_len f m k
          have hl2 := wrK_len f m k n
          go_wp2_with fail
          rw [show ((n : Int) + 1) = ((n + 1 : Nat) : Int) by omega]
          refine hcall.mono ?_
          rintro e w1 ⟨rfl, bel⟩
          have hb1 := hb'.trans (bel.mono hb'.size)
          have hsb1 := HS'.out.below (bel.mono hsz')
          have h61 := h6'.later bel
          have hsz1 : w.heap.size + 5 ≤ w1.heap.size := Nat.le_trans hsz' bel.size
          have HS1 := hid hsb1
          have hnm : w1.cell? ⟨w.heap.size + 1 + 1 + 1 + 1, k, none⟩ = some (.string (an k)) := (cell_of_block hsb1.2.2.2 k).trans (anCells_at k hlt)
          clear a0 a1 a2 a3 b0 b1 b2 b3 hcall HS' hsb1 h6' bel
          cases hbit : hold (f k) (m k) (n + 1)
          · go_wp2_with fail
            refine ⟨⟨n + 1, by omega, by go_num, by rw [wrK_no hbit]; exact h61, HS1.out, hb1, hsz1⟩, by simp [intOf]; omega⟩
          · go_wp2_with (at_builtin; refine Stand.out ?_)
            refine app_wr rfl _ _ rfl (w.heap.size + 5) u6 (wrs f m k ++ wrK f m k n) rfl (h61.later (below_alloc _ _ _ (Nat.le_refl _))) w1.heap.size _ ⟨an k, (n : Int) + 1, (k : Int) * 16 + ((n : Int) + 1)⟩ rfl (by simp) (by simp) (by simp) (by simp; omega) (by simp; omega) ?_
            intro v6 w2 o6 g6
            have bw : Below (w.heap.size + 5) (w1.alloc _) w2 := OwnW.below (h61.later (below_alloc _ _ _ (Nat.le_refl _))) g6 (by simp; omega)
            have bw2 := (below_alloc w1 _ (w.heap.size + 5) hsz1).trans bw
            have hsb2 := HS1.out.below bw2
            have HS2 := hid hsb2
            have hb2 := hb1.trans (bw2.mono (by omega))
            have hsz2 : w.heap.size + 5 ≤ w2.heap.size := Nat.le_trans hsz1 bw2.size
            clear hsb2 bw bw2 g6 HS1 h61 hnm
            go_wp2_with fail
            refine ⟨⟨n + 1, by omega, by go_num, by rw [wrK_yes hbit, ← List.append_assoc]; exact o6, HS2.out, hb2, hsz2⟩, by simp [intOf]; omega⟩
        · obtain rfl : n = 8 := by omega
          go_wp2_with fail
          exact ⟨⟨k + 1, by omega, by go_num, by rw [wrs_succ]; exact h6', HS'.out, hb', hsz'⟩, by simp [intOf]; omega⟩
    · obtain rfl : k = 4 := by omega
      have a0 : wr.cell? ⟨w.heap.size, 0, none⟩ = some (.int .u8 (f 0)) := cell_of_block HS.out.1 0
      have a1 : wr.cell? ⟨w.heap.size, 1, none⟩ = some (.int .u8 (f 1)) := cell_of_block HS.out.1 1
      have a2 : wr.cell? ⟨w.heap.size, 2, none⟩ = some (.int .u8 (f 2)) := cell_of_block HS.out.1 2
      have a3 : wr.cell? ⟨w.heap.size, 3, none⟩ = some (.int .u8 (f 3)) := cell_of_block HS.out.1 3
      have HO := hid h6
      obtain ⟨a, cap, rfl, hrow⟩ := h6.shape
      clear h6 hrow
      go_wp2_with fail
      refine (HC.out _).mono ?_
      rintro e w1 ⟨offs, ctrs, rfl, hclk, bel⟩
      have hsb1 := HS.out.below (bel.mono hsz)
      have c0 : w1.cell? ⟨w.heap.size + 1 + 1, 0, none⟩ = some (.string ⟨#[]⟩) := cell_of_block hsb1.2.2.1 0
      have c1 : w1.cell? ⟨w.heap.size + 1 + 1, 1, none⟩ = some (.slice none 0 0) := cell_of_block hsb1.2.2.1 1
      have c2 : w1.cell? ⟨w.heap.size + 1 + 1, 2, none⟩ = some (.slice none 0 0) := cell_of_block hsb1.2.2.1 2
      have c3 : w1.cell? ⟨w.heap.size + 1 + 1, 3, none⟩ = some (.slice none 0 0) := cell_of_block hsb1.2.2.1 3
      have z0 : w1.frozen? ⟨w.heap.size + 1 + 1, 0, none⟩ = false := frozen_of_block hsb1.2.2.1 0
      have z1 : w1.frozen? ⟨w.heap.size + 1 + 1, 1, none⟩ = false := frozen_of_block hsb1.2.2.1 1
      have z2 : w1.frozen? ⟨w.heap.size + 1 + 1, 2, none⟩ = false := frozen_of_block hsb1.2.2.1 2
      have z3 : w1.frozen? ⟨w.heap.size + 1 + 1, 3, none⟩ = false := frozen_of_block hsb1.2.2.1 3
      obtain ⟨ao, on, oc, rfl⟩ : ∃ ao on oc, offs = .slice ao on oc := by
        rcases hclk.clk.2.2 with ⟨_, rfl⟩ | ⟨_, hr⟩
        · exact ⟨none, 0, 0, rfl⟩
        · obtain ⟨x, y, rfl⟩ := hr.shape; exact ⟨x, _, y, rfl⟩
      obtain ⟨ac, cn, cc, rfl⟩ : ∃ ac cn cc, ctrs = .slice ac cn cc := by
        obtain ⟨x, y, rfl⟩ := hclk.clk.1.shape; exact ⟨x, _, y, rfl⟩
      have HK := hid hclk
      clear hclk hsb1 a0 a1 a2 a3
      go_wp2_with fail
      have bl : Below w.heap.size w ((((w1.setCell ⟨w.heap.size + 1 + 1, 0, none⟩ (.string (cat (NA f 4)))).setCell ⟨w.heap.size + 1 + 1, 1, none⟩ (.slice ao on oc)).setCell ⟨w.heap.size + 1 + 1, 2, none⟩ (.slice ac cn cc)).setCell ⟨w.heap.size + 1 + 1, 3, none⟩ (.slice a (wrs f m 4).length cap)) :=
        ((((hb.trans (bel.mono hb.size)).setCell (p := ⟨w.heap.size + 1 + 1, 0, none⟩) (by show w.heap.size ≤ w.heap.size + 1 + 1; omega) _).setCell (p := ⟨w.heap.size + 1 + 1, 1, none⟩) (by show w.heap.size ≤ w.heap.size + 1 + 1; omega) _).setCell (p := ⟨w.heap.size + 1 + 1, 2, none⟩) (by show w.heap.size ≤ w.heap.size + 1 + 1; omega) _).setCell (p := ⟨w.heap.size + 1 + 1, 3, none⟩) (by show w.heap.size ≤ w.heap.size + 1 + 1; omega) _
      have hoth : ∀ k, k ≠ w.heap.size + 1 + 1 → ((((w1.setCell ⟨w.heap.size + 1 + 1, 0, none⟩ (.string (cat (NA f 4)))).setCell ⟨w.heap.size + 1 + 1, 1, none⟩ (.slice ao on oc)).setCell ⟨w.heap.size + 1 + 1, 2, none⟩ (.slice ac cn cc)).setCell ⟨w.heap.size + 1 + 1, 3, none⟩ (.slice a (wrs f m 4).length cap)).heap[k]? = w1.heap[k]? := by
        intro k hk
        rw [Below.heap_setCell _ _ _ _ hk, Below.heap_setCell _ _ _ _ hk, Below.heap_setCell _ _ _ _ hk, Below.heap_setCell _ _ _ _ hk]
      refine bodyPost_ret (v := .agg #[.string (cat (NA f 4)), .slice ao on oc, .slice ac cn cc, .slice a (wrs f m 4).length cap]) (by simp [results, Yba.results8, go_sem, c0, c1, c2, c3]) rfl ?_
      refine ⟨_, _, a, cap, rfl, HK.out _ (by simp) fun k h1 h2 => hoth k (by omega), ?_, bl⟩
      have ho : OwnW ((((w1.setCell ⟨w.heap.size + 1 + 1, 0, none⟩ (.string (cat (NA f 4)))).setCell ⟨w.heap.size + 1 + 1, 1, none⟩ (.slice ao on oc)).setCell ⟨w.heap.size + 1 + 1, 2, none⟩ (.slice ac cn cc)).setCell ⟨w.heap.size + 1 + 1, 3, none⟩ (.slice a (wrs f m 4).length cap)) (w.heap.size + 5) (.slice a (wrs f m 4).length cap) (wrs f m 4) := by
        refine ⟨HO.out.1, HO.out.2.imp id ?_⟩
        rintro ⟨g, cp, cur, e, q1, q2, q3⟩
        exact ⟨g, cp, cur, e, q1, ((hoth g (by omega)).trans (bel.block g (block_lt q2))).trans q2, q3⟩
      obtain ⟨a', cap', e, hrow⟩ := ho.shape
      simp only [Value.slice.injEq] at e
      obtain rfl : a' = a := e.1.symm
      exact hrow
end Go.Proofs.Ybulkgey
