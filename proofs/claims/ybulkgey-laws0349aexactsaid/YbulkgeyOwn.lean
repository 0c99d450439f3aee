/- Rows that the call itself makes: one-cell elements; 'append' of one element, and where the new row lies. -/
import Derived.Test.YbulkgeyRows
import Derived.WalkKit
import Derived.WalkSpells
import Derived.WalkLawsBesides
import Derived.Deep.QuietTactic
import Derived.BigQuiet
import Derived.Handy
import Derived.Deep.RegionWith
import Derived.BigRegion
import Derived.Deep.DeepCutAuto
namespace Go.Proofs.Ybulkgey
open Go.RowKit

/-- 'v' is a slice at the head of a row of its own, whose elements are 'xs' (one cell each). -/
def Own (w : World) (base : Nat) (e : TypeId) (v : Value) (xs : List Value) : Prop := w.ownsRow base e 1 v xs.length xs
/-- The two slices do not lie in one block. -/
def Apart (v u : Value) : Prop := ∀ k, v.ownBlock = some k → u.ownBlock = some k → False
/-- Where the value of an append lies: in the old row or in the newest block. -/
def Moved (w : World) (v v' : Value) : Prop := v'.ownBlock = v.ownBlock ∨ v'.ownBlock = some w.heap.size

/-- The walk stands here: 'go_wp2_with (at_builtin; refine Stand.out ?_)'. -/
def Stand (p : Prop) : Prop := p
theorem Stand.out {p : Prop} (h : Stand p) : p := h

theorem Apart.symm {v u : Value} (h : Apart v u) : Apart u v := fun k a b => h k b a
theorem apart_nil_left (u : Value) : Apart (.slice none 0 0) u := fun k a _ => by simp [Value.ownBlock] at a
theorem apart_nil_right (u : Value) : Apart u (.slice none 0 0) := (apart_nil_left u).symm

theorem Own.kept {w w' : World} {base : Nat} {e : TypeId} {v u : Value} {xs : List Value} (h : Own w base e u xs) (hg : w.grownBy w' v.ownBlock) (ha : Apart u v) : Own w' base e u xs := by
  refine World.ownsRow.kept h hg ?_
  cases hu : u.ownBlock with
  | none => exact .inl rfl
  | some k => exact .inr (fun e => ha k hu e.symm)

theorem Own.apart {w : World} {base : Nat} {e : TypeId} {v v' u : Value} {xs : List Value} (h : Own w base e u xs) (hm : Moved w v v') (ha : Apart u v) : Apart u v' := by
  intro k hk hk'
  rcases hm with hm | hm
  · exact ha k hk (hm ▸ hk')
  · have := (World.ownsRow.lt h k hk).2
    rw [hm] at hk'
    simp at hk'
    omega

theorem Own.alloc {w : World} {base : Nat} {e : TypeId} {v : Value} {xs : List Value} (h : Own w base e v xs) (o : Obj) : Own (w.alloc o) base e v xs := World.ownsRow.alloc h o
theorem Own.drew {w : World} {base : Nat} {e : TypeId} {v : Value} {xs : List Value} (h : Own w base e v xs) : Own w.drew base e v xs := World.ownsRow.drew h
theorem Own.shape {w : World} {base : Nat} {e : TypeId} {v : Value} {xs : List Value} (h : Own w base e v xs) : (v = .slice none 0 0 ∧ xs = []) ∨
    ∃ g cap, v = .slice (some ⟨g, 0, none⟩) xs.length cap ∧ base ≤ g ∧ g < w.heap.size ∧ xs.length ≤ cap ∧ cap ≤ maxLen ∧ ∀ j, j < xs.length → w.cell? ⟨g, j, none⟩ = xs[j]? := by
  rcases h.2 with ⟨rfl, h0⟩ | ⟨g, cap, cur, rfl, hb, hg, hc, hm, hs, ht⟩
  · exact .inl ⟨rfl, List.eq_nil_of_length_eq_zero h0⟩
  · refine .inr ⟨g, cap, rfl, hb, (Array.getElem?_eq_some_iff.1 hg).1, hc, hm, fun j hj => ?_⟩
    have := World.ownsRow.cellAt h j (by simpa using hj)
    simpa using this

theorem Own.below {w w' : World} {base : Nat} {e : TypeId} {v : Value} {xs : List Value} (h : Own w base e v xs) (hg : w.grownBy w' v.ownBlock) (hb : base ≤ w.heap.size) : Below base w w' :=
  (Below.refl base w).grown hg hb (fun k hk => (World.ownsRow.lt h k hk).1)
theorem below_alloc (w : World) (o : Obj) (B : Nat) (h : B ≤ w.heap.size) : Below B w (w.alloc o) := (Below.refl B w).alloc h o
theorem cell_of_block {w : World} {g : Nat} {cs : Array Value} {e : TypeId} {fr : Nat × Nat} (h : w.heap[g]? = some (.cells cs e fr)) (j : Nat) : w.cell? ⟨g, j, none⟩ = cs[j]? := by
  simp [World.cell?, h]
theorem frozen_of_block {w : World} {g : Nat} {cs : Array Value} {e : TypeId} (h : w.heap[g]? = some (.cells cs e)) (j : Nat) : w.frozen? ⟨g, j, none⟩ = false := by
  simp [World.frozen?, h]

/-- Behind 'append(row, x)': below 'base' nothing has turned, and every other row of the call's own stands. -/
theorem app_step {wr w1 : World} {obj : Obj} {base : Nat} {e : TypeId} {v v' : Value} {xs : List Value} (h : Own wr base e v xs) (hb : base ≤ wr.heap.size) (hg : (wr.alloc obj).grownBy w1 v.ownBlock) (hm : Moved (wr.alloc obj) v v') :
    Below base wr w1 ∧ base ≤ w1.heap.size ∧ ∀ e2 u ys, Own wr base e2 u ys → Apart u v → Own w1 base e2 u ys ∧ Apart u v' := by
  have h' := h.alloc obj
  have hb' : base ≤ (wr.alloc obj).heap.size := by simp; omega
  have b1 := (below_alloc wr obj base hb).trans (h'.below hg hb')
  exact ⟨b1, Nat.le_trans hb b1.size, fun e2 u ys hu ha => ⟨(hu.alloc obj).kept hg ha, (hu.alloc obj).apart hm ha⟩⟩

/-- A slice that can be read: its elements (one cell each) are 'xs'. -/
def Row (w : World) (v : Value) (xs : List Value) : Prop :=
  (v = .slice none 0 0 ∧ xs = []) ∨ ∃ g o cap, v = .slice (some ⟨g, o, none⟩) xs.length cap ∧ g < w.heap.size ∧ xs.length ≤ cap ∧ cap ≤ maxLen ∧ ∀ j, j < xs.length → w.cell? ⟨g, o + j, none⟩ = xs[j]?
theorem Own.row {w : World} {base : Nat} {e : TypeId} {v : Value} {xs : List Value} (h : Own w base e v xs) : Row w v xs := by
  rcases h.shape with ⟨rfl, hx⟩ | ⟨g, cap, rfl, hb, hg, hc, hm, hcell⟩
  · exact .inl ⟨rfl, hx⟩
  · exact .inr ⟨g, 0, cap, rfl, hg, hc, hm, fun j hj => by simpa using hcell j hj⟩
theorem Row.below {w w' : World} {v : Value} {xs : List Value} (h : Row w v xs) (hb : Below w.heap.size w w') : Row w' v xs := by
  rcases h with ⟨rfl, hx⟩ | ⟨g, o, cap, rfl, hg, hc, hm, hcell⟩
  · exact .inl ⟨rfl, hx⟩
  · exact .inr ⟨g, o, cap, rfl, Nat.lt_of_lt_of_le hg hb.size, hc, hm, fun j hj => (hb.cell (p := ⟨g, o + j, none⟩) hg).trans (hcell j hj)⟩
theorem Row.keep {w w' : World} {v : Value} {xs : List Value} (h : Row w v xs) (hs : w.heap.size ≤ w'.heap.size) (hk : ∀ k, v.ownBlock = some k → w'.heap[k]? = w.heap[k]?) : Row w' v xs := by
  rcases h with ⟨rfl, hx⟩ | ⟨g, o, cap, rfl, hg, hc, hm, hcell⟩
  · exact .inl ⟨rfl, hx⟩
  · exact .inr ⟨g, o, cap, rfl, Nat.lt_of_lt_of_le hg hs, hc, hm, fun j hj => (World.cell?_of_block (w := w) (hk g rfl)).trans (hcell j hj)⟩
theorem Own.row_keep {w w' : World} {base : Nat} {e : TypeId} {v : Value} {xs : List Value} (h : Own w base e v xs) (hs : w.heap.size ≤ w'.heap.size) (hk : ∀ k, base ≤ k → k < w.heap.size → w'.heap[k]? = w.heap[k]?) : Row w' v xs :=
  h.row.keep hs (fun k hv => hk k (World.ownsRow.lt h k hv).1 (World.ownsRow.lt h k hv).2)
theorem later {B : Nat} {w w' : World} (hb : Below B w w') {a : Addr} {v : Value} (hB : a.block < B) (h : w.cell? a = some v) : w'.cell? a = some v := (hb.cell hB).trans h
theorem bcell {W w1 : World} (hb : Below W.heap.size W w1) : (∀ b o, b < W.heap.size → w1.cell? ⟨b, o, none⟩ = W.cell? ⟨b, o, none⟩) ∧ (∀ b o, b < W.heap.size → w1.frozen? ⟨b, o, none⟩ = W.frozen? ⟨b, o, none⟩) :=
  ⟨fun b o h => hb.cell (p := ⟨b, o, none⟩) h, fun b o h => hb.frozen (p := ⟨b, o, none⟩) h⟩
theorem heap_new_at (w : World) (o : Obj) {k : Nat} (h : k = w.heap.size) : (w.alloc o).heap[k]? = some o := by rw [h]; exact heap_alloc_new w o
theorem Row.alloc {w : World} {v : Value} {xs : List Value} (h : Row w v xs) (o : Obj) : Row (w.alloc o) v xs := h.below (below_alloc w o _ (Nat.le_refl _))

section
variable {P : Program} (w : World)
theorem run_append_one (base : Nat) (t ty e : TypeId) (i : TypeInfo) (z : Value) (bytes : Nat) (ht : P.underlying t = some (.slice e)) (hi : P.info? e = some i) (hz : i.zero = some z)
    (hsize : i.size = 1) (hby : i.bytes = bytes) (hzs : z.cells.size = 1) (v : Value) (xs : List Value) (hown : Own w base e v xs)
    (a : Addr) (c : Nat) (u : Value) (hcell : w.cell? a = some u) (h1 : u.oneCell' = true)
    (h63 : xs.length + 1 ≤ maxLen) (hbytes : (xs.length + 1) * bytes ≤ 140737488355328) (hbase : base ≤ w.heap.size) :
    ∃ v' w', (Builtin.append_ #[t, t] ty #[v, .slice (some a) 1 c]).run P w = .ok v' w' ∧ Own w' base e v' (xs ++ [u]) ∧ w.grownBy w' v.ownBlock ∧ Moved w v v' := by
  have hnews : ∀ j x, [u][j]? = some x → w.cell? (a.add j) = some x := by
    intro j x hx
    cases j with
    | zero => simp at hx; subst hx; rw [show a.add 0 = a from by cases a; simp [Addr.add]]; exact hcell
    | succ j => simp at hx
  have h1' : ∀ x ∈ [u], x.oneCell' = true := by intro x hx; simp at hx; subst hx; exact h1
  obtain ⟨v', w', hr, h2, h3, _⟩ := run_append_own (P := P) w base t ty e i z 1 bytes ht hi hz hsize hby hzs (by omega) v xs.length xs hown a 1 c [u] (by simp) hnews h1' h63 hbytes hbase
  refine ⟨v', w', hr, by unfold Own; simpa using h2, h3, ?_⟩
  rcases hown.2 with ⟨rfl, h0⟩ | ⟨g, cap, cur, rfl, hbg, hg, hnc, hcm, hcs, htake⟩
  · have hn := run_append_nil (P := P) w t ty e i z ht hi hz a 1 c [u] (by simp [hsize]) hnews (by omega) (by omega) (by subst hby; rw [h0] at hbytes; omega)
    rw [hn] at hr
    simp only [Result.ok.injEq] at hr
    exact .inr (by rw [← hr.1]; rfl)
  · by_cases hroom : xs.length + 1 ≤ cap
    · have hn := run_append_room (P := P) w t ty e i ht hi g xs.length cap cur hg a 1 c [u] (by simp [hsize]) hnews h1' hroom (by simp [hsize]; omega)
      rw [hn] at hr
      simp only [Result.ok.injEq] at hr
      exact .inl (by rw [← hr.1]; rfl)
    · have hn := run_append_grow (P := P) w t ty e i z ht hi hz ⟨g, 0, none⟩ xs.length cap xs (by simp [hsize]) (World.ownsRow.cells hown rfl) a 1 c [u] (by simp [hsize]) hnews (by omega) (by unfold maxLen at h63; omega)
        (growslice_fits (by omega) (by subst hby; exact hbytes))
      rw [hn] at hr
      simp only [Result.ok.injEq] at hr
      exact .inr (by rw [← hr.1]; rfl)

theorem wpList_append_one {ops : Array Oper} {rest : List Oper} {o : Oper} {a : Act} {Q : Exit → Act → World → Prop} (hgd : o.guard = none) (s x : Operand) (t : TypeId)
    (ho : o.op = .call { callee := .builtin .append, args := #[s, x], argTypes := #[t, t] })
    (base : Nat) (e : TypeId) (i : TypeInfo) (z : Value) (bytes : Nat) (ht : P.underlying t = some (.slice e)) (hi : P.info? e = some i) (hz : i.zero = some z)
    (hsize : i.size = 1) (hby : i.bytes = bytes) (hzs : z.cells.size = 1) (v : Value) (xs : List Value) (hs : a.eval s = v) (hown : Own w base e v xs)
    (ad : Addr) (c : Nat) (u : Value) (hx : a.eval x = .slice (some ad) 1 c) (hcell : w.cell? ad = some u) (h1 : u.oneCell' = true)
    (h63 : xs.length + 1 ≤ maxLen) (hbytes : (xs.length + 1) * bytes ≤ 140737488355328) (hbase : base ≤ w.heap.size)
    (h : ∀ v' w', Own w' base e v' (xs ++ [u]) → w.grownBy w' v.ownBlock → Moved w v v' → wpList P ops Q rest (a.put o.dst v') w') : wpList P ops Q (o :: rest) a w := by
  refine wpList_plain hgd fun K hK => ?_
  obtain ⟨v', w', hr, h2, h3, h4⟩ := run_append_one (P := P) w base t o.type e i z bytes ht hi hz hsize hby hzs v xs hown ad c u hcell h1 h63 hbytes hbase
  unfold Oper.wp execOp
  simp only [ho, resolve, invoke, builtin, Sem.run_bind, Sem.run_pure, Result.andThen_ok, List.map_toArray, List.map_cons, List.map_nil, hs, hx, hr]
  exact hK _ _ (h v' w' h2 h3 h4)
end

theorem Yba.info34 : (Yba.prog.info? 34).map (fun i => (i.zero, i.size, i.bytes)) = some (some (.int .u64 0), 1, 8) := by kernel_rfl
theorem Yba.info9 : (Yba.prog.info? 9).map (fun i => (i.zero, i.size, i.bytes)) = some (some (.string ByteArray.empty), 1, 16) := by kernel_rfl

/-- 'append(row, x)' on a row of uint64 of the call's own. -/
theorem app_u64 {w : World} {ops : Array Oper} {rest : List Oper} {o : Oper} {a : Act} {Q : Exit → Act → World → Prop} (hgd : o.guard = none) (s x : Operand)
    (ho : o.op = .call { callee := .builtin .append, args := #[s, x], argTypes := #[25, 25] }) (base : Nat) (v : Value) (xs : List Value) (hs : a.eval s = v) (hown : Own w base 34 v xs)
    (ad : Addr) (c : Nat) (n : Int) (hx : a.eval x = .slice (some ad) 1 c) (hcell : w.cell? ad = some (.int .u64 n)) (hlen : xs.length ≤ 1000000) (hbase : base ≤ w.heap.size)
    (h : ∀ v' w', Own w' base 34 v' (xs ++ [.int .u64 n]) → w.grownBy w' v.ownBlock → Moved w v v' → wpList Yba.prog ops Q rest (a.put o.dst v') w') : wpList Yba.prog ops Q (o :: rest) a w := by
  obtain ⟨i, hi, hz0, hz1, hz2⟩ := info_parts Yba.info34
  exact wpList_append_one w hgd s x 25 ho base 34 i _ 8 Yba.underlying25 hi hz0 hz1 hz2 rfl v xs hs hown ad c _ hx hcell rfl (by unfold maxLen; omega) (by omega) hbase h

/-- 'append(row, x)' on a row of strings of the call's own. -/
theorem app_str {w : World} {ops : Array Oper} {rest : List Oper} {o : Oper} {a : Act} {Q : Exit → Act → World → Prop} (hgd : o.guard = none) (s x : Operand)
    (ho : o.op = .call { callee := .builtin .append, args := #[s, x], argTypes := #[43, 43] }) (base : Nat) (v : Value) (xs : List Value) (hs : a.eval s = v) (hown : Own w base 9 v xs)
    (ad : Addr) (c : Nat) (n : ByteArray) (hx : a.eval x = .slice (some ad) 1 c) (hcell : w.cell? ad = some (.string n)) (hlen : xs.length ≤ 1000000) (hbase : base ≤ w.heap.size)
    (h : ∀ v' w', Own w' base 9 v' (xs ++ [.string n]) → w.grownBy w' v.ownBlock → Moved w v v' → wpList Yba.prog ops Q rest (a.put o.dst v') w') : wpList Yba.prog ops Q (o :: rest) a w := by
  obtain ⟨i, hi, hz0, hz1, hz2⟩ := info_parts Yba.info9
  exact wpList_append_one w hgd s x 43 ho base 9 i _ 16 Yba.underlying43 hi hz0 hz1 hz2 rfl v xs hs hown ad c _ hx hcell rfl (by unfold maxLen; omega) (by omega) hbase h
end Go.Proofs.Ybulkgey
