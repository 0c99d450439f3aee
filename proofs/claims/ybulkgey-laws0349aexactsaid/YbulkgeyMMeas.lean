/- measure: the walk. -/
import Derived.Test.YbulkgeyMFact
import Derived.Test.YbulkgeyMRegE
namespace Go.Proofs.Ybulkgey
open Go.RowKit
set_option linter.unusedVariables false
attribute [local go_sem] Oper.semAt_some

/-- The record, as it lies. -/
def mrec (s ib : Int) (aA bA : Bool) (L : Nat → Int) (n : Int) : Array Value :=
  #[.int .i64 s, .int .i64 ib, .bool aA, .bool bA, .int .u32 (L 0), .int .u32 (L 1), .int .u32 (L 2), .int .u32 (L 3), .int .u32 (L 4), .int .u32 (L 5), .int .u32 (L 6), .int .u32 (L 7), .int .i64 n]
/-- What lies where between two rounds. -/
structure MI (w : World) (h m bb bo : Nat) (W : World) (s ib : Int) (aA bA : Bool) (L : Nat → Int) (n i j : Int) : Prop where
  fm : W.heap[m]? = some (.cells (mrec s ib aA bA L n) 86)
  fp : W.heap[h]? = some (.cells #[.pointer (some ⟨m, 0, none⟩)] 110)
  fq : W.heap[h + 1]? = some (.cells #[.pointer (some ⟨bb, bo, none⟩)] 71)
  fi : W.heap[h + 2]? = some (.cells #[.int .i64 i] 3)
  fj : W.heap[h + 3]? = some (.cells #[.int .i64 j] 3)
  fk : Kept h m w W
  fz : h + 6 ≤ W.heap.size

theorem Kept.setSame {B b j : Nat} {w W : World} {v : Value} (h : Kept B b w W) : Kept B b w (W.setCell ⟨b, j, none⟩ v) := h.trans (Kept.set B b j W v)
theorem Kept.setAbove {B b c j : Nat} {w W : World} {v : Value} (h : Kept B b w W) (hc : B ≤ c) : Kept B b w (W.setCell ⟨c, j, none⟩ v) :=
  h.trans ⟨rfl, rfl, rfl, by simp [World.setCell], fun k h1 _ => Below.heap_setCell _ _ _ _ (by show k ≠ c; omega)⟩
theorem size_setCell' (W : World) (a : Addr) (v : Value) : (W.setCell a v).heap.size = W.heap.size := by simp
section
variable {w : World} {h m bb bo : Nat} {W : World} {s ib : Int} {aA bA : Bool} {L : Nat → Int} {n i j : Int}
theorem MI.setM (H : MI w h m bb bo W s ib aA bA L n i j) (hm : m < h) (k : Nat) (v : Value) {s' ib' : Int} {aA' bA' : Bool} {L' : Nat → Int} {n' : Int} (e : (mrec s ib aA bA L n).setIfInBounds k v = mrec s' ib' aA' bA' L' n') :
    MI w h m bb bo (W.setCell ⟨m, k, none⟩ v) s' ib' aA' bA' L' n' i j :=
  ⟨by rw [set_block H.fm, e], by rw [set_other _ (by omega)]; exact H.fp, by rw [set_other _ (by omega)]; exact H.fq, by rw [set_other _ (by omega)]; exact H.fi, by rw [set_other _ (by omega)]; exact H.fj, H.fk.setSame, by rw [size_setCell']; exact H.fz⟩
theorem MI.setI (H : MI w h m bb bo W s ib aA bA L n i j) (hm : m < h) (v : Int) : MI w h m bb bo (W.setCell ⟨h + 2, 0, none⟩ (.int .i64 v)) s ib aA bA L n v j :=
  ⟨by rw [set_other _ (by omega)]; exact H.fm, by rw [set_other _ (by omega)]; exact H.fp, by rw [set_other _ (by omega)]; exact H.fq, by rw [set_block H.fi]; rfl, by rw [set_other _ (by omega)]; exact H.fj, H.fk.setAbove (by omega), by rw [size_setCell']; exact H.fz⟩
theorem MI.setJ (H : MI w h m bb bo W s ib aA bA L n i j) (hm : m < h) (v : Int) : MI w h m bb bo (W.setCell ⟨h + 3, 0, none⟩ (.int .i64 v)) s ib aA bA L n i v :=
  ⟨by rw [set_other _ (by omega)]; exact H.fm, by rw [set_other _ (by omega)]; exact H.fp, by rw [set_other _ (by omega)]; exact H.fq, by rw [set_other _ (by omega)]; exact H.fi, by rw [set_block H.fj]; rfl, H.fk.setAbove (by omega), by rw [size_setCell']; exact H.fz⟩
theorem MI.drewN (H : MI w h m bb bo W s ib aA bA L n i j) (q : Nat) : MI w h m bb bo (W.drewN q) s ib aA bA L n i j :=
  ⟨H.fm, H.fp, H.fq, H.fi, H.fj, H.fk.trans ⟨rfl, rfl, rfl, Nat.le_refl _, fun _ _ _ => rfl⟩, H.fz⟩
theorem MI.grown (H : MI w h m bb bo W s ib aA bA L n i j) (hm : m < h) {W' : World} {row : Option Nat} (hg : W.grownBy W' row) (hr : ∀ r, row = some r → h + 6 ≤ r) : MI w h m bb bo W' s ib aA bA L n i j := by
  have hz := H.fz
  have key : ∀ k, k < h + 6 → W'.heap[k]? = W.heap[k]? := fun k hk => hg.block k (by omega) (fun e => by have := hr k e.symm; omega)
  exact ⟨by rw [key _ (by omega)]; exact H.fm, by rw [key _ (by omega)]; exact H.fp, by rw [key _ (by omega)]; exact H.fq, by rw [key _ (by omega)]; exact H.fi, by rw [key _ (by omega)]; exact H.fj,
    H.fk.trans ⟨hg.os, hg.tape, hg.output, hg.size, fun k h1 _ => key k (by omega)⟩, Nat.le_trans hz hg.size⟩
theorem MI.cells (H : MI w h m bb bo W s ib aA bA L n i j) : W.cell? ⟨m, 0, none⟩ = some (.int .i64 s) ∧ W.cell? ⟨m, 1, none⟩ = some (.int .i64 ib) ∧ W.cell? ⟨m, 2, none⟩ = some (.bool aA) ∧ W.cell? ⟨m, 3, none⟩ = some (.bool bA) ∧ W.cell? ⟨m, 12, none⟩ = some (.int .i64 n) ∧
    W.cell? ⟨h, 0, none⟩ = some (.pointer (some ⟨m, 0, none⟩)) ∧ W.cell? ⟨h + 1, 0, none⟩ = some (.pointer (some ⟨bb, bo, none⟩)) ∧ W.cell? ⟨h + 2, 0, none⟩ = some (.int .i64 i) ∧ W.cell? ⟨h + 3, 0, none⟩ = some (.int .i64 j) :=
  ⟨by rw [cell_of_block H.fm]; rfl, by rw [cell_of_block H.fm]; rfl, by rw [cell_of_block H.fm]; rfl, by rw [cell_of_block H.fm]; rfl, by rw [cell_of_block H.fm]; rfl, by rw [cell_of_block H.fp]; rfl, by rw [cell_of_block H.fq]; rfl, by rw [cell_of_block H.fi]; rfl, by rw [cell_of_block H.fj]; rfl⟩
theorem MI.lone (H : MI w h m bb bo W s ib aA bA L n i j) : W.cell? ⟨m, 4, none⟩ = some (.int .u32 (L 0)) ∧ W.cell? ⟨m, 5, none⟩ = some (.int .u32 (L 1)) ∧ W.cell? ⟨m, 6, none⟩ = some (.int .u32 (L 2)) ∧ W.cell? ⟨m, 7, none⟩ = some (.int .u32 (L 3)) ∧
    W.cell? ⟨m, 8, none⟩ = some (.int .u32 (L 4)) ∧ W.cell? ⟨m, 9, none⟩ = some (.int .u32 (L 5)) ∧ W.cell? ⟨m, 10, none⟩ = some (.int .u32 (L 6)) ∧ W.cell? ⟨m, 11, none⟩ = some (.int .u32 (L 7)) :=
  ⟨by rw [cell_of_block H.fm]; rfl, by rw [cell_of_block H.fm]; rfl, by rw [cell_of_block H.fm]; rfl, by rw [cell_of_block H.fm]; rfl, by rw [cell_of_block H.fm]; rfl, by rw [cell_of_block H.fm]; rfl, by rw [cell_of_block H.fm]; rfl, by rw [cell_of_block H.fm]; rfl⟩
theorem MI.frozen (H : MI w h m bb bo W s ib aA bA L n i j) : (∀ k, W.frozen? ⟨m, k, none⟩ = false) ∧ W.frozen? ⟨h + 2, 0, none⟩ = false ∧ W.frozen? ⟨h + 3, 0, none⟩ = false :=
  ⟨fun k => frozen_of_block H.fm k, frozen_of_block H.fi 0, frozen_of_block H.fj 0⟩
end

theorem MI.loneAt {w : World} {h m bb bo : Nat} {W : World} {s ib : Int} {aA bA : Bool} {L : Nat → Int} {n i j : Int} (H : MI w h m bb bo W s ib aA bA L n i j) (e : Nat) (he : e < 2) :
    W.cell? ⟨m, 4 + e * 4, none⟩ = some (.int .u32 (L (4 * e))) ∧ W.cell? ⟨m, 4 + e * 4 + 1, none⟩ = some (.int .u32 (L (4 * e + 1))) ∧ W.cell? ⟨m, 4 + e * 4 + 2, none⟩ = some (.int .u32 (L (4 * e + 2))) ∧ W.cell? ⟨m, 4 + e * 4 + 3, none⟩ = some (.int .u32 (L (4 * e + 3))) := by
  obtain ⟨l0, l1, l2, l3, l4, l5, l6, l7⟩ := H.lone
  match e, he with
  | 0, _ => exact ⟨l0, l1, l2, l3⟩
  | 1, _ => exact ⟨l4, l5, l6, l7⟩
theorem mrec_lone (s ib : Int) (aA bA : Bool) (L : Nat → Int) (n : Int) (e : Nat) (he : e < 2) (v0 v1 v2 v3 : Int) :
    ((((mrec s ib aA bA L n).setIfInBounds (4 + e * 4) (.int .u32 v0)).setIfInBounds (4 + e * 4 + 1) (.int .u32 v1)).setIfInBounds (4 + e * 4 + 2) (.int .u32 v2)).setIfInBounds (4 + e * 4 + 3) (.int .u32 v3) = mrec s ib aA bA (up4 L e v0 v1 v2 v3) n := by
  match e, he with
  | 0, _ => rfl
  | 1, _ => rfl
theorem MI.setLone {w : World} {h m bb bo : Nat} {W : World} {s ib : Int} {aA bA : Bool} {L : Nat → Int} {n i j : Int} (H : MI w h m bb bo W s ib aA bA L n i j) (hm : m < h) (e : Nat) (he : e < 2) (v0 v1 v2 v3 : Int) :
    MI w h m bb bo ((((W.setCell ⟨m, 4 + e * 4, none⟩ (.int .u32 v0)).setCell ⟨m, 4 + e * 4 + 1, none⟩ (.int .u32 v1)).setCell ⟨m, 4 + e * 4 + 2, none⟩ (.int .u32 v2)).setCell ⟨m, 4 + e * 4 + 3, none⟩ (.int .u32 v3)) s ib aA bA (up4 L e v0 v1 v2 v3) n i j := by
  refine ⟨?_, ?_, ?_, ?_, ?_, H.fk.setSame.setSame.setSame.setSame, by rw [size_setCell', size_setCell', size_setCell', size_setCell']; exact H.fz⟩
  · rw [set_block (set_block (set_block (set_block H.fm _) _) _) _, mrec_lone _ _ _ _ _ _ _ he]
  · rw [set_other _ (by omega), set_other _ (by omega), set_other _ (by omega), set_other _ (by omega)]; exact H.fp
  · rw [set_other _ (by omega), set_other _ (by omega), set_other _ (by omega), set_other _ (by omega)]; exact H.fq
  · rw [set_other _ (by omega), set_other _ (by omega), set_other _ (by omega), set_other _ (by omega)]; exact H.fi
  · rw [set_other _ (by omega), set_other _ (by omega), set_other _ (by omega), set_other _ (by omega)]; exact H.fj

theorem meas_start (w W0 : World) (m ab ao bb bo : Nat) (n : Nat) (hW : Below W0.heap.size W0 w) (hm0 : W0.heap.size ≤ m) (hm : w.heap[m]? = some (.cells (mrec 0 0 false false (fun _ => 0) 0) 86)) (w2 : World)
    (e : w2 = (((((((w.setCell ⟨m, 1, none⟩ (.int .i64 n)).alloc (.cells #[.pointer (some ⟨m, 0, none⟩)] 110)).alloc (.cells #[.pointer (some ⟨bb, bo, none⟩)] 71)).alloc (.cells #[.int .i64 0] 3)).alloc (.cells #[.int .i64 0] 3)).drew.alloc (.cells #[.pointer (some ⟨ab, ao, none⟩)] 71)).alloc (.cells #[.pointer (some ⟨bb, bo, none⟩)] 71))) :
    MI w w.heap.size m bb bo w2 0 n false false (fun _ => 0) 0 0 0 ∧ OKW W0 (w.heap.size + 4) ab ao bb bo w2 ∧ w2.heap.size = w.heap.size + 6 := by
  subst e
  have hlt := block_lt hm
  have s0 : (w.setCell ⟨m, 1, none⟩ (.int .i64 n)).heap.size = w.heap.size := by simp
  have hb0 := set_block (j := 1) hm (.int .i64 n)
  have k0 := Kept.set w.heap.size m 1 w (.int .i64 n)
  have b0 : Below W0.heap.size W0 (w.setCell ⟨m, 1, none⟩ (.int .i64 n)) := hW.setCell (p := ⟨m, 1, none⟩) (by show W0.heap.size ≤ m; omega) _
  generalize w.setCell ⟨m, 1, none⟩ (.int .i64 n) = v at *
  generalize hh : w.heap.size = h at *
  have hold : ∀ (V : World) (o : Obj) (k : Nat), k < V.heap.size → (V.alloc o).heap[k]? = V.heap[k]? := fun V o k hk => Go.heap_alloc_old _ _ hk
  have bl := ((((((b0.alloc (by omega) (.cells #[.pointer (some ⟨m, 0, none⟩)] 110)).alloc (by simp; omega) (.cells #[.pointer (some ⟨bb, bo, none⟩)] 71)).alloc (by simp; omega) (.cells #[.int .i64 0] 3)).alloc (by simp; omega) (.cells #[.int .i64 0] 3)).drew).alloc (by simp; omega) (.cells #[.pointer (some ⟨ab, ao, none⟩)] 71)).alloc (by simp; omega) (.cells #[.pointer (some ⟨bb, bo, none⟩)] 71)
  have kl : Below h v _ := (((((((Below.refl h v).alloc (by omega) (.cells #[.pointer (some ⟨m, 0, none⟩)] 110)).alloc (by simp; omega) (.cells #[.pointer (some ⟨bb, bo, none⟩)] 71)).alloc (by simp; omega) (.cells #[.int .i64 0] 3)).alloc (by simp; omega) (.cells #[.int .i64 0] 3)).drew).alloc (by simp; omega) (.cells #[.pointer (some ⟨ab, ao, none⟩)] 71)).alloc (by simp; omega) (.cells #[.pointer (some ⟨bb, bo, none⟩)] 71)
  refine ⟨⟨?_, ?_, ?_, ?_, ?_, k0.trans (Kept.of kl), by simp; omega⟩, ⟨bl, ?_, ?_⟩, by simp; omega⟩
  · rw [kl.block _ hlt]; exact hb0
  · rw [hold _ _ _ (by simp; omega), hold _ _ _ (by simp; omega)]
    show (World.alloc _ _).heap[h]? = _
    rw [hold _ _ _ (by simp; omega), hold _ _ _ (by simp; omega), hold _ _ _ (by simp; omega)]
    exact heap_new_at _ _ (by omega)
  · rw [hold _ _ _ (by simp; omega), hold _ _ _ (by simp; omega)]
    show (World.alloc _ _).heap[h + 1]? = _
    rw [hold _ _ _ (by simp; omega), hold _ _ _ (by simp; omega)]
    exact heap_new_at _ _ (by simp; omega)
  · rw [hold _ _ _ (by simp; omega), hold _ _ _ (by simp; omega)]
    show (World.alloc _ _).heap[h + 2]? = _
    rw [hold _ _ _ (by simp; omega)]
    exact heap_new_at _ _ (by simp; omega)
  · rw [hold _ _ _ (by simp; omega), hold _ _ _ (by simp; omega)]
    exact heap_new_at _ _ (by simp; omega)
  · rw [hold _ _ _ (by simp; omega)]
    exact heap_new_at _ _ (by simp; omega)
  · exact heap_new_at _ _ (by simp; omega)

/-- What a round keeps. -/
def RS (n0 B : Nat) (W W' : World) : Prop := KeepsOthers W W' ∧ KeepB n0 B W W'
theorem RS.refl (n0 B : Nat) (W : World) : RS n0 B W W := ⟨KeepsOthers.refl _, KeepB.refl _ _ _⟩
theorem RS.trans {n0 B : Nat} {X Y Z : World} (h : RS n0 B X Y) (k : RS n0 B Y Z) : RS n0 B X Z := ⟨h.1.trans k.1, h.2.trans k.2⟩
theorem RS.set {n0 B : Nat} {X Y : World} (h : RS n0 B X Y) (c j : Nat) (v : Value) (h1 : n0 ≤ c) (h2 : c < B ∨ B + 2 ≤ c) : RS n0 B X (Y.setCell ⟨c, j, none⟩ v) :=
  h.trans ⟨KeepsOthers.setCell _ _ _, (Below.refl _ _).setCell (p := ⟨c, j, none⟩) h1 _, fun k k1 k2 => Below.heap_setCell _ _ _ _ (by show k ≠ c; omega)⟩
theorem RS.drewN {n0 B : Nat} {X Y : World} (h : RS n0 B X Y) (q : Nat) : RS n0 B X (Y.drewN q) :=
  h.trans ⟨⟨Nat.le_refl _, fun _ _ h _ => h⟩, below_drewN (Below.refl _ _) q, fun _ _ _ => rfl⟩

/-- The invariant of measure's rounds. -/
def MInv (f d : Nat → Int) (w : World) (m bb bo : Nat) (t : Nat) (W : World) : Prop :=
  ∃ (s ib : Nat) (aA bA : Bool) (L : Nat → Int) (rs : List (Nat × Nat)), Fact f d t s ib aA bA L rs ∧ t ≤ 4 ∧ MI w w.heap.size m bb bo W s ib aA bA L rs.length (cn f t) (cn d t)
theorem MInv.own (f d : Nat → Int) (w : World) (m bb bo : Nat) (hm : m < w.heap.size) (B : Nat) (hB : w.heap.size + 6 ≤ B) : OwnFrom B (MInv f d w m bb bo) := by
  rintro t W W' row ⟨s, ib, aA, bA, L, rs, hf, ht, hi⟩ hg hr
  exact ⟨s, ib, aA, bA, L, rs, hf, ht, hi.grown hm hg (fun r e => Nat.le_trans hB (hr r e).1)⟩

set_option maxRecDepth 100000 in
set_option maxHeartbeats 4000000 in
theorem measure_any (w W0 : World) (m ab ao bb bo : Nat) (f d : Nat → Int) (hA : ClkAt W0 ab ao (NA f 4) (CA f 4)) (hB : ClkAt W0 bb bo (NA d 4) (CA d 4)) (hW : Below W0.heap.size W0 w) (hm0 : W0.heap.size ≤ m)
    (hm : w.heap[m]? = some (.cells (mrec 0 0 false false (fun _ => 0) 0) 86)) :
    Calls Yba.prog 39 #[.pointer (some ⟨m, 0, none⟩), .pointer (some ⟨ab, ao, none⟩), .pointer (some ⟨bb, bo, none⟩)] w fun e w' => e = .returned (.tuple #[]) ∧ Kept w.heap.size m w w' ∧
      ∃ (s ib : Nat) (aA bA : Bool) (L : Nat → Int) (rs : List (Nat × Nat)), Fact f d 4 s ib aA bA L rs ∧ w'.heap[m]? = some (.cells (mrec s ib aA bA L rs.length) 86) := by
  have hmlt := block_lt hm
  have hca := ctr_cell hA
  have hcb := ctr_cell hB
  obtain ⟨pa, ca, hpa⟩ := hca
  obtain ⟨pb, cb, hpb⟩ := hcb
  rw [cn_len] at hpa hpb
  have ids : w.cell? ⟨ab, ao, none⟩ = some (.string (cat (NA f 4))) := by
    obtain ⟨xo, xn, xc, yo, yn, yc, h0, h1, h2, h3⟩ := hA
    exact cell_later hW h0
  have m1 : w.cell? ⟨m, 1, none⟩ = some (.int .i64 0) := by rw [cell_of_block hm]; rfl
  have z1 := frozen_of_block hm 1
  have HM := hid hm
  clear hm
  have hal : ab < w.heap.size := by obtain ⟨o, ho, _⟩ := not_walk_of_cell ids; exact block_lt ho
  have hidl : (cat (NA f 4)).size = sz f 4 := rfl
  refine (callsIn_wide (n := 3)).1 ?_
  refine callsIn_of_wp_marks Yba.func39 rfl trivial ?_ rfl
  simp only [Yba.ntmps39, List.size_toArray, List.length_cons, List.length_nil, Nat.reduceAdd, Nat.reduceSub, Array.replicate_succ, Array.replicate_zero, List.push_toArray, List.append_toArray, List.nil_append, List.cons_append]
  gi_wp2_with fail
  gi_region
  gi_wp2_with fail
  refine ⟨trivial, ?_⟩
  refine (callsIn_wide.2 (walk_any _ _ _)).mono ?_
  rintro e w2 ⟨rfl, hw2⟩
  obtain ⟨mi, ok, sz2⟩ := meas_start w W0 m ab ao bb bo (sz f 4) hW hm0 HM.out w2 hw2
  clear hw2
  simp only [World.size_alloc, World.size_drew, size_setCell', Nat.add_assoc, Nat.reduceAdd]
  gi_wp2_with fail
  refine rangeSt (gf := 74) (lb := #[.pointer (some ⟨w.heap.size + 4, 0, none⟩), .pointer (some ⟨w.heap.size + 5, 0, none⟩)]) rfl (enters_of Yba.func74 (by kernel_rfl) rfl) (walk_seq w2 W0 (w.heap.size + 4) ab ao bb bo f d hA hB pa pb ca cb hpa hpb ok) (by omega) (by omega) (Below.refl _ _) (fun _ => rfl)
    (MInv f d w m bb bo) (fun _ _ _ => False) (MInv.own f d w m bb bo hmlt _ (by omega)) (fun _ _ _ _ _ hs _ _ => hs) ⟨0, sz f 4, false, false, fun _ => 0, [], Fact.zero f d, by omega, mi⟩ ?a1 ?assign ?body ?done ?stop
  case assign =>
    intro l x W K hK
    gi_wp2_with fail
    exact hK
  case body =>
    rintro l t x u W ⟨s, ib, aA, bA, L, rs, hf, ht, mi1⟩ ⟨htu, hu4, hkind⟩
    clear ids m1 z1 mi ok sz2
    have HF := hid hf
    have HMI := hid mi1
    have hbd := hf.bounds ht
    obtain ⟨c0, c1, c2, c3, c12, cp, cq, ci, cj⟩ := mi1.cells
    obtain ⟨zm, zi, zj⟩ := mi1.frozen
    clear hf mi1
    rcases hkind with ⟨k, hk0, hsame, hcf, hcd, rfl⟩ | ⟨k, hk0, hlack, hcf, hcd, rfl⟩ | ⟨k, hk0, hlack, hcf, hcd, rfl⟩
    · have hmf := cn_mono f hu4
      have hmd := cn_mono d hu4
      have posA := (ctr_at hA (by rw [cn_len]; exact hpa)).2.2.2
      have posB := (ctr_at hB (by rw [cn_len]; exact hpb)).2.2.2
      rw [cn_len] at posA posB
      obtain ⟨ga, oa, rfl, ma, ga0, cella⟩ := posA (by omega)
      obtain ⟨gb, ob, rfl, mb, gb0, cellb⟩ := posB (by omega)
      have HCA := hid cella
      have HCB := hid cellb
      have cf := cn_le f t
      have cd := cn_le d t
      have cfu := cn_le f u
      clear cella cellb posA posB
      dsimp only [sl, Option.map]
      have z0 := zm 0
      have hk1 : ((k : Int) == 0) = false := by simp; omega
      obtain ⟨A0, hA0⟩ : ∃ A0, A0 = aA := ⟨_, rfl⟩
      obtain ⟨B0, hB0⟩ : ∃ B0, B0 = bA := ⟨_, rfl⟩
      have HA0 := hid hA0
      have HB0 := hid hB0
      clear hA0 hB0
      rcases (show (aA = true ∧ bA = true) ∨ (aA = false ∧ bA = false) ∨ (aA = false ∧ bA = true) ∨ (aA = true ∧ bA = false) by cases aA <;> cases bA <;> simp) with ⟨rfl, rfl⟩ | ⟨rfl, rfl⟩ | ⟨rfl, rfl⟩ | ⟨rfl, rfl⟩
      · clear zm
        gi_wp2_with fail
        have mi5 := HMI.out.setM hmlt 0 (.int .i64 ((s : Int) + (k : Int))) (s' := (s : Int) + (k : Int)) (ib' := ib) (aA' := true) (bA' := true) (L' := L) (n' := rs.length) rfl
        have rs5 := (RS.refl W0.heap.size (w.heap.size + 4) W).set m 0 (.int .i64 ((s : Int) + (k : Int))) hm0 (by omega)
        clear c0 c1 c2 c3 c12 cp cq ci cj zi zj z0
        generalize World.setCell W ⟨m, 0, none⟩ (.int .i64 ((s : Int) + (k : Int))) = W5 at mi5 rs5 ⊢
        obtain ⟨-, -, -, -, -, cp, cq, ci, cj⟩ := mi5.cells
        obtain ⟨-, zi, zj⟩ := mi5.frozen
        have HMI5 := hid mi5
        clear mi5
        refine region_ER (fun ⟨_, _, h⟩ => h) [0, 1, 2, 3, 4, 5, 6, 7] [8, 9] 30 (fun i w' => match i with | 0 => w'.cell? ⟨w.heap.size + 2, 0, none⟩ = some (.int .i64 (cn f t)) | 4 => w'.cell? ⟨w.heap.size + 3, 0, none⟩ = some (.int .i64 (cn d t)) | _ => True) (by kernel_rfl) (by kernel_rfl) (by kernel_rfl) rfl (by kernel_rfl) (by kernel_rfl) (fun _ _ _ dd _ h => by cases dd <;> exact h) (by simp; exact ⟨ci, cj⟩) ?_
        repeat
          refine headE_step rfl rfl W5 (fun K' hK' => ⟨?_, fun w' hw' => ?_, ?_⟩)
          rotate_left
          · try have hq0 : w'.cell? ⟨w.heap.size + 2, 0, none⟩ = some (.int .i64 (cn f t)) := hw'
            try have hq4 : w'.cell? ⟨w.heap.size + 3, 0, none⟩ = some (.int .i64 (cn d t)) := hw'
            go_simp
            first
              | done
              | rfl
          go_simp
          try go_bits
          refine hK' _ _ ?_
          clear hK' K'
        refine headE_nil ?_
        refine tailE_cons rfl rfl [4, 5, 6, 7] (by kernel_rfl) (fun K' hK' => ?_)
        go_simp
        refine hK' _ _ (fun q hq => ?_) ?_
        · simp at hq
          rcases hq with rfl | rfl | rfl | rfl
          · show World.cell? _ _ = _
            go_simp
          · trivial
          · trivial
          · trivial
        clear hK' K'
        refine tailE_cons rfl rfl [] (by kernel_rfl) (fun K' hK' => ?_)
        go_simp
        refine hK' _ _ (fun q hq => by cases hq) ?_
        clear hK' K'
        refine tailE_nil ?_
        gi_wp2_with fail
        have mi6 := ((HMI5.out.setI hmlt ((cn f t : Int) + k)).setJ hmlt ((cn d t : Int) + k)).drewN 1
        have rs6 := ((rs5.set (w.heap.size + 2) 0 (.int .i64 ((cn f t : Int) + k)) (by omega) (by omega)).set (w.heap.size + 3) 0 (.int .i64 ((cn d t : Int) + k)) (by omega) (by omega)).drewN 1
        refine ⟨rs6.1, rs6.2, s + k, ib, true, true, L, rs, ?_, hu4, ?_⟩
        · exact HF.out.same htu hu4 hsame hcf hcd (fun e => by cases e) (fun e => by cases e) (.inl hk0)
        · have e2 : ((s + k : Nat) : Int) = (s : Int) + (k : Int) := by omega
          have e3 : ((cn f t + k : Nat) : Int) = (cn f t : Int) + (k : Int) := by omega
          have e4 : ((cn d t + k : Nat) : Int) = (cn d t : Int) + (k : Int) := by omega
          rw [hcf, hcd, e2, e3, e4]
          exact mi6
      all_goals
        gi_wp2_with fail
        clear c0 c1 c2 c3 c12 cp cq ci cj zm zi zj z0
        gi_loopw [95] (fun v ws => ∃ (kk : Nat) (a' b' : Bool), kk ≤ k ∧ v = .int .i64 kk ∧ MI w w.heap.size m bb bo ws s ib a' b' L rs.length (cn f t) (cn d t) ∧ RS W0.heap.size (w.heap.size + 4) W ws ∧
          (b' = false → B0 = false ∧ ∀ e, e < kk → (CA d 4).getD (cn d t + e) 0 ≤ (CA f 4).getD (cn f t + e) 0) ∧ (a' = false → A0 = false ∧ ∀ e, e < kk → (CA f 4).getD (cn f t + e) 0 ≤ (CA d 4).getD (cn d t + e) 0)) (fun v ws => k - (intOf v).toNat)
        case atStart => exact ⟨0, _, _, by omega, rfl, HMI.out, RS.refl _ _ _, fun e => ⟨HB0.out.trans e, fun x hx => by omega⟩, fun e => ⟨HA0.out.trans e, fun x hx => by omega⟩⟩
        case round =>
          obtain ⟨kk, a', b', hkk, rfl, mir, rsr, hb', ha'⟩ := hrel
          have HB' := hid hb'
          have HA' := hid ha'
          have HMIr := hid mir
          obtain ⟨c0, c1, c2, c3, c12, cp, cq, ci, cj⟩ := mir.cells
          obtain ⟨zm, zi, zj⟩ := mir.frozen
          have z0 := zm 0
          have z2 := zm 2
          have z3 := zm 3
          have hbw : Below W0.heap.size W0 wr := hW.trans ((mir.fk.below (by omega)).mono hm0)
          clear hb' ha' zm
          by_cases hlt : kk < k
          · have hlt' : (kk : Int) < (k : Int) := by omega
            have xc : wr.cell? ⟨ga, oa + cn f t + kk, none⟩ = some (.int .u64 ((CA f 4).getD (cn f t + kk) 0)) := by rw [Nat.add_assoc]; exact cell_later hbw (HCA.out (cn f t + kk) (by omega))
            have yc : wr.cell? ⟨gb, ob + cn d t + kk, none⟩ = some (.int .u64 ((CA d 4).getD (cn d t + kk) 0)) := by rw [Nat.add_assoc]; exact cell_later hbw (HCB.out (cn d t + kk) (by omega))
            clear mir hbw
            generalize hX : (CA f 4).getD (cn f t + kk) 0 = X at *
            generalize hY : (CA d 4).getD (cn d t + kk) 0 = Y at *
            have HX := hid hX
            have HY := hid hY
            clear hX hY
            have hstep : ∀ (a2 b2 : Bool), (b2 = false → b' = false ∧ Y ≤ X) → (a2 = false → a' = false ∧ X ≤ Y) →
                (b2 = false → B0 = false ∧ ∀ e, e < kk + 1 → (CA d 4).getD (cn d t + e) 0 ≤ (CA f 4).getD (cn f t + e) 0) ∧ (a2 = false → A0 = false ∧ ∀ e, e < kk + 1 → (CA f 4).getD (cn f t + e) 0 ≤ (CA d 4).getD (cn d t + e) 0) := by
              intro a2 b2 h1 h2
              refine ⟨fun e => ⟨(HB'.out (h1 e).1).1, fun x hx => ?_⟩, fun e => ⟨(HA'.out (h2 e).1).1, fun x hx => ?_⟩⟩
              · by_cases ex : x = kk
                · rw [ex, HX.out, HY.out]; exact (h1 e).2
                · exact (HB'.out (h1 e).1).2 x (by omega)
              · by_cases ex : x = kk
                · rw [ex, HX.out, HY.out]; exact (h2 e).2
                · exact (HA'.out (h2 e).1).2 x (by omega)
            have HS := hid hstep
            clear hstep
            rcases (show Y < X ∨ X < Y ∨ X = Y by omega) with hc | hc | hc
            · gi_wp2_with fail
              have hh := HS.out true b' (fun e => ⟨e, by omega⟩) (fun e => by cases e)
              refine ⟨⟨kk + 1, true, b', by omega, by go_num, HMIr.out.setM hmlt 2 (.bool true) (s' := s) (ib' := ib) (aA' := true) (bA' := b') (L' := L) (n' := rs.length) rfl, rsr.set m 2 (.bool true) hm0 (by omega), hh.1, hh.2⟩, ?_⟩
              simp [intOf]
              omega
            · have hn : ¬ Y < X := by omega
              gi_wp2_with fail
              have hh := HS.out a' true (fun e => by cases e) (fun e => ⟨e, by omega⟩)
              refine ⟨⟨kk + 1, a', true, by omega, by go_num, HMIr.out.setM hmlt 3 (.bool true) (s' := s) (ib' := ib) (aA' := a') (bA' := true) (L' := L) (n' := rs.length) rfl, rsr.set m 3 (.bool true) hm0 (by omega), hh.1, hh.2⟩, ?_⟩
              simp [intOf]
              omega
            · have hn : ¬ Y < X := by omega
              have hn2 : ¬ X < Y := by omega
              have hh := HS.out a' b' (fun e => ⟨e, by omega⟩) (fun e => ⟨e, by omega⟩)
              have HH := hid hh
              clear hc hh
              gi_wp2_with fail
              refine ⟨⟨kk + 1, a', b', by omega, by go_num, HMIr.out, rsr, HH.out.1, HH.out.2⟩, ?_⟩
              simp [intOf]
              omega
          · obtain rfl : k = kk := by omega
            clear mir hbw z2 z3
            gi_wp2_with fail
            have mi5 := HMIr.out.setM hmlt 0 (.int .i64 ((s : Int) + (k : Int))) (s' := (s : Int) + (k : Int)) (ib' := ib) (aA' := a') (bA' := b') (L' := L) (n' := rs.length) rfl
            have rs5 := rsr.set m 0 (.int .i64 ((s : Int) + (k : Int))) hm0 (by omega)
            clear c0 c1 c2 c3 c12 cp cq ci cj zi zj z0
            generalize World.setCell wr ⟨m, 0, none⟩ (.int .i64 ((s : Int) + (k : Int))) = W5 at mi5 rs5 ⊢
            obtain ⟨-, -, -, -, -, cp, cq, ci, cj⟩ := mi5.cells
            obtain ⟨-, zi, zj⟩ := mi5.frozen
            have HMI5 := hid mi5
            clear mi5
            refine region_ER (fun ⟨_, _, h⟩ => h) [0, 1, 2, 3, 4, 5, 6, 7] [8, 9] 30 (fun i w' => match i with | 0 => w'.cell? ⟨w.heap.size + 2, 0, none⟩ = some (.int .i64 (cn f t)) | 4 => w'.cell? ⟨w.heap.size + 3, 0, none⟩ = some (.int .i64 (cn d t)) | _ => True) (by kernel_rfl) (by kernel_rfl) (by kernel_rfl) rfl (by kernel_rfl) (by kernel_rfl) (fun _ _ _ dd _ h => by cases dd <;> exact h) (by simp; exact ⟨ci, cj⟩) ?_
            repeat
              refine headE_step rfl rfl W5 (fun K' hK' => ⟨?_, fun w' hw' => ?_, ?_⟩)
              rotate_left
              · try have hq0 : w'.cell? ⟨w.heap.size + 2, 0, none⟩ = some (.int .i64 (cn f t)) := hw'
                try have hq4 : w'.cell? ⟨w.heap.size + 3, 0, none⟩ = some (.int .i64 (cn d t)) := hw'
                go_simp
                first
                  | done
                  | rfl
              go_simp
              try go_bits
              refine hK' _ _ ?_
              clear hK' K'
            refine headE_nil ?_
            refine tailE_cons rfl rfl [4, 5, 6, 7] (by kernel_rfl) (fun K' hK' => ?_)
            go_simp
            refine hK' _ _ (fun q hq => ?_) ?_
            · simp at hq
              rcases hq with rfl | rfl | rfl | rfl
              · show World.cell? _ _ = _
                go_simp
              · trivial
              · trivial
              · trivial
            clear hK' K'
            refine tailE_cons rfl rfl [] (by kernel_rfl) (fun K' hK' => ?_)
            go_simp
            refine hK' _ _ (fun q hq => by cases hq) ?_
            clear hK' K'
            refine tailE_nil ?_
            gi_wp2_with fail
            have mi6 := ((HMI5.out.setI hmlt ((cn f t : Int) + k)).setJ hmlt ((cn d t : Int) + k)).drewN 1
            have rs6 := ((rs5.set (w.heap.size + 2) 0 (.int .i64 ((cn f t : Int) + k)) (by omega) (by omega)).set (w.heap.size + 3) 0 (.int .i64 ((cn d t : Int) + k)) (by omega) (by omega)).drewN 1
            refine ⟨rs6.1, rs6.2, s + k, ib, a', b', L, rs, ?_, hu4, ?_⟩
            · exact HF.out.same htu hu4 hsame hcf hcd (fun e => ⟨HB0.out.symm.trans (HB'.out e).1, (HB'.out e).2⟩) (fun e => ⟨HA0.out.symm.trans (HA'.out e).1, (HA'.out e).2⟩) (.inl hk0)
            · have e2 : ((s + k : Nat) : Int) = (s : Int) + (k : Int) := by omega
              have e3 : ((cn f t + k : Nat) : Int) = (cn f t : Int) + (k : Int) := by omega
              have e4 : ((cn d t + k : Nat) : Int) = (cn d t : Int) + (k : Int) := by omega
              rw [hcf, hcd, e2, e3, e4]
              exact mi6
    · dsimp only [sl]
      have z2 := zm 2
      gi_wp2_with fail
      have mi2 := HMI.out.setM hmlt 2 (.bool true) (s' := s) (ib' := ib) (aA' := true) (bA' := bA) (L' := L) (n' := rs.length) rfl
      have rs2 := (RS.refl W0.heap.size (w.heap.size + 4) W).set m 2 (.bool true) hm0 (by omega)
      clear c0 c1 c2 c3 c12 cp cq ci cj zm zi zj z2
      generalize W.setCell ⟨m, 2, none⟩ (.bool true) = W2 at mi2 rs2 ⊢
      obtain ⟨c0, c1, c2, c3, c12, cp, cq, ci, cj⟩ := mi2.cells
      obtain ⟨zm, zi, zj⟩ := mi2.frozen
      have cf := cn_le f t
      have cd := cn_le d t
      have cfu := cn_le f u
      obtain ⟨e, he⟩ : ∃ e, e = rs.length % 2 := ⟨_, rfl⟩
      have he2 : (e : Int) < 2 := by omega
      have he' : ((rs.length : Int).tmod 2) = (e : Int) := by rw [Int.tmod_eq_emod_of_nonneg (by omega)]; omega
      have HE := hid he
      clear he
      obtain ⟨l0, l1, l2, l3⟩ := mi2.loneAt e (by omega)
      have y0 := zm (4 + e * 4)
      have y1 := zm (4 + e * 4 + 1)
      have y2 := zm (4 + e * 4 + 2)
      have y3 := zm (4 + e * 4 + 3)
      have HMI2 := hid mi2
      clear mi2 zm
      refine region_DR (fun ⟨_, _, h⟩ => h) [0, 1, 2, 3, 4, 5, 6, 7, 8, 9, 10, 11, 12, 13, 14, 15, 16, 17, 18, 19] [20] 30 (fun w' => w' = W2.drew) (by kernel_rfl) (by kernel_rfl) (by kernel_rfl) rfl (by kernel_rfl) (fun _ _ _ dd _ h => by cases dd <;> exact h) rfl ?_
      repeat
        refine wpHeadD_step rfl rfl W2 (fun K' hK' => ⟨?_, fun w' hw' => ?_, ?_⟩)
        rotate_left
        · obtain rfl := hw'
          go_simp
          first
            | done
            | rfl
        go_simp
        try go_bits
        refine hK' _ _ ?_
        clear hK' K'
      refine wpHeadD_nil ?_
      refine wpTailD_lone (by kernel_rfl) rfl rfl (fun K' hK' => ?_)
      go_simp
      refine hK' _ _ ?_
      clear hK' K'
      refine wpTailD_nil ?_
      have mi3 : MI w w.heap.size m bb bo ((((W2.setCell ⟨m, 4 + e * 4, none⟩ (.int .u32 (cn f t))).setCell ⟨m, 4 + e * 4 + 1, none⟩ (.int .u32 (cn d t))).setCell ⟨m, 4 + e * 4 + 2, none⟩ (.int .u32 k)).setCell ⟨m, 4 + e * 4 + 3, none⟩ (.int .u32 0)).drew s ib true bA (up4 L e (cn f t) (cn d t) k 0) rs.length (cn f t) (cn d t) := (HMI2.out.setLone hmlt e (by omega) (cn f t) (cn d t) k 0).drewN 1
      have rs3 : RS W0.heap.size (w.heap.size + 4) W ((((W2.setCell ⟨m, 4 + e * 4, none⟩ (.int .u32 (cn f t))).setCell ⟨m, 4 + e * 4 + 1, none⟩ (.int .u32 (cn d t))).setCell ⟨m, 4 + e * 4 + 2, none⟩ (.int .u32 k)).setCell ⟨m, 4 + e * 4 + 3, none⟩ (.int .u32 0)).drew :=
        ((((rs2.set m (4 + e * 4) (.int .u32 (cn f t)) hm0 (by omega)).set m (4 + e * 4 + 1) (.int .u32 (cn d t)) hm0 (by omega)).set m (4 + e * 4 + 2) (.int .u32 k) hm0 (by omega)).set m (4 + e * 4 + 3) (.int .u32 0) hm0 (by omega)).drewN 1
      clear c0 c1 c2 c3 c12 cp cq ci cj zi zj l0 l1 l2 l3 y0 y1 y2 y3 he' he2 HMI2 rs2
      generalize ((((W2.setCell ⟨m, 4 + e * 4, none⟩ (.int .u32 (cn f t))).setCell ⟨m, 4 + e * 4 + 1, none⟩ (.int .u32 (cn d t))).setCell ⟨m, 4 + e * 4 + 2, none⟩ (.int .u32 k)).setCell ⟨m, 4 + e * 4 + 3, none⟩ (.int .u32 0)).drew = W3 at mi3 rs3 ⊢
      obtain ⟨c0, c1, c2, c3, c12, cp, cq, ci, cj⟩ := mi3.cells
      obtain ⟨zm, zi, zj⟩ := mi3.frozen
      have z12 := zm 12
      have z0 := zm 0
      have HMI3 := hid mi3
      clear mi3 zm
      gi_wp2_with fail
      have mi5 := (HMI3.out.setM hmlt 12 (.int .i64 ((rs.length : Int) + 1)) (s' := s) (ib' := ib) (aA' := true) (bA' := bA) (L' := up4 L e (cn f t) (cn d t) k 0) (n' := (rs.length : Int) + 1) rfl).setM hmlt 0 (.int .i64 ((s : Int) + (k : Int))) (s' := (s : Int) + (k : Int)) (ib' := ib) (aA' := true) (bA' := bA) (L' := up4 L e (cn f t) (cn d t) k 0) (n' := (rs.length : Int) + 1) rfl
      have rs5 := (rs3.set m 12 (.int .i64 ((rs.length : Int) + 1)) hm0 (by omega)).set m 0 (.int .i64 ((s : Int) + (k : Int))) hm0 (by omega)
      clear c0 c1 c2 c3 c12 cp cq ci cj zi zj z12 z0 HMI3 rs3
      generalize (W3.setCell ⟨m, 12, none⟩ (.int .i64 ((rs.length : Int) + 1))).setCell ⟨m, 0, none⟩ (.int .i64 ((s : Int) + (k : Int))) = W5 at mi5 rs5 ⊢
      obtain ⟨-, -, -, -, -, cp, cq, ci, cj⟩ := mi5.cells
      obtain ⟨-, zi, zj⟩ := mi5.frozen
      have HMI5 := hid mi5
      clear mi5
      refine region_ER (fun ⟨_, _, h⟩ => h) [0, 1, 2, 3, 4, 5, 6, 7] [8, 9] 30 (fun i w' => match i with | 0 => w'.cell? ⟨w.heap.size + 2, 0, none⟩ = some (.int .i64 (cn f t)) | 4 => w'.cell? ⟨w.heap.size + 3, 0, none⟩ = some (.int .i64 (cn d t)) | _ => True) (by kernel_rfl) (by kernel_rfl) (by kernel_rfl) rfl (by kernel_rfl) (by kernel_rfl) (fun _ _ _ dd _ h => by cases dd <;> exact h) (by simp; exact ⟨ci, cj⟩) ?_
      repeat
        refine headE_step rfl rfl W5 (fun K' hK' => ⟨?_, fun w' hw' => ?_, ?_⟩)
        rotate_left
        · try have hq0 : w'.cell? ⟨w.heap.size + 2, 0, none⟩ = some (.int .i64 (cn f t)) := hw'
          try have hq4 : w'.cell? ⟨w.heap.size + 3, 0, none⟩ = some (.int .i64 (cn d t)) := hw'
          go_simp
          first
            | done
            | rfl
        go_simp
        try go_bits
        refine hK' _ _ ?_
        clear hK' K'
      refine headE_nil ?_
      refine tailE_cons rfl rfl [4, 5, 6, 7] (by kernel_rfl) (fun K' hK' => ?_)
      go_simp
      refine hK' _ _ (fun q hq => ?_) ?_
      · simp at hq
        rcases hq with rfl | rfl | rfl | rfl
        · show World.cell? _ _ = _
          go_simp
        · trivial
        · trivial
        · trivial
      clear hK' K'
      refine tailE_cons rfl rfl [] (by kernel_rfl) (fun K' hK' => ?_)
      go_simp
      refine hK' _ _ (fun q hq => by cases hq) ?_
      clear hK' K'
      refine tailE_nil ?_
      gi_wp2_with fail
      have mi6 := ((HMI5.out.setI hmlt ((cn f t : Int) + k)).setJ hmlt (cn d t)).drewN 1
      have rs6 := ((rs5.set (w.heap.size + 2) 0 (.int .i64 ((cn f t : Int) + k)) (by omega) (by omega)).set (w.heap.size + 3) 0 (.int .i64 (cn d t)) (by omega) (by omega)).drewN 1
      refine ⟨rs6.1, rs6.2, s + k, ib, true, bA, up4 L e (cn f t) (cn d t) k 0, rs ++ [(t, u)], ?_, hu4, ?_⟩
      · rw [HE.out]; exact HF.out.lonA htu hk0 hlack hcf hcd
      · have e1 : ((rs ++ [(t, u)]).length : Int) = (rs.length : Int) + 1 := by simp
        have e2 : ((s + k : Nat) : Int) = (s : Int) + (k : Int) := by omega
        have e3 : ((cn f t + k : Nat) : Int) = (cn f t : Int) + (k : Int) := by omega
        rw [e1, hcf, hcd, e2, e3]
        exact mi6
    · dsimp only [sl]
      have z3 := zm 3
      gi_wp2_with fail
      have mi2 := HMI.out.setM hmlt 3 (.bool true) (s' := s) (ib' := ib) (aA' := aA) (bA' := true) (L' := L) (n' := rs.length) rfl
      have rs2 := (RS.refl W0.heap.size (w.heap.size + 4) W).set m 3 (.bool true) hm0 (by omega)
      clear c0 c1 c2 c3 c12 cp cq ci cj zm zi zj z3
      generalize W.setCell ⟨m, 3, none⟩ (.bool true) = W1 at mi2 rs2 ⊢
      obtain ⟨c0, c1, c2, c3, c12, cp, cq, ci, cj⟩ := mi2.cells
      obtain ⟨zm, zi, zj⟩ := mi2.frozen
      have z1 := zm 1
      have hlen4 : (NA d 4).length ≤ 4 := NA_len d 4
      have hcat4 := NA_cat d 4 (Nat.le_refl _)
      have hmu := cn_mono d hu4
      have hcl1 : ClkAt W1 bb bo (NA d 4) (CA d 4) := hB.below (hW.trans ((mi2.fk.below (by omega)).mono hm0))
      have hidb : ∀ q, Calls Yba.prog 61 #[.pointer (some ⟨bb, bo, none⟩), .int .i64 (cn d t), .int .i64 k] (W1.drewN q) fun e w' => e = .returned (.int .i64 ((sz d u : Int) - (sz d t : Int))) ∧ ∃ r, w' = (W1.drewN q).drewN r := fun q => by
        have := idBytes_any (W1.drewN q) bb bo (cn d t) k (NA d 4) (CA d 4) (hcl1.below (below_drewN (Below.refl _ _) q)) (fun h0 => by have := cn_len d; rw [h0] at this; simp at this; omega) (by rw [cn_len]; omega) (by omega) (by omega)
        rw [← hcd, NA_take d hu4, NA_take d ht] at this
        exact this
      have HMI2 := hid mi2
      have hzz : sz d t ≤ sz d u := by rw [sz_seg d htu]; omega
      have hzu : sz d u ≤ 8 := NA_cat d u hu4
      clear mi2 zm hcl1
      refine region_DR (fun ⟨_, _, h⟩ => h) [0, 1, 2, 3, 4, 5, 6, 7] [8, 9, 10, 11, 12] 30 (fun w' => ∃ q, w' = W1.drewN q) (by kernel_rfl) (by kernel_rfl) (by kernel_rfl) rfl (by kernel_rfl) (fun _ _ _ dd _ h => by cases dd <;> exact h) ⟨1, rfl⟩ ?_
      repeat
        refine wpHeadD_step rfl rfl W1 (fun K' hK' => ⟨?_, fun w' hw' => ?_, ?_⟩)
        rotate_left
        · obtain ⟨q, rfl⟩ := hw'
          go_simp
          first
            | done
            | rfl
        go_simp
        try go_bits
        refine hK' _ _ ?_
        clear hK' K'
      refine wpHeadD_nil ?_
      refine wpTailD_cons rfl rfl (fun K' hK' => ?_)
      go_simp
      refine (hidb 1).mono ?_
      rintro e0 w3 ⟨rfl, q, hq⟩
      refine hK' _ _ (fun _ => ⟨1 + q, hq.trans (World.drewN_drewN _ _ _)⟩) ?_
      clear hK' K'
      have mi3 : MI w w.heap.size m bb bo w3 s ib aA true L rs.length (cn f t) (cn d t) := by rw [hq]; exact (HMI2.out.drewN 1).drewN q
      have rs3 : RS W0.heap.size (w.heap.size + 4) W w3 := by rw [hq]; exact (rs2.drewN 1).drewN q
      clear hq hidb c0 c1 c2 c3 c12 cp cq ci cj zi zj z1 HMI2 rs2
      obtain ⟨c0, c1, c2, c3, c12, cp, cq, ci, cj⟩ := mi3.cells
      have z1 := mi3.frozen.1 1
      have HMI3 := hid mi3
      clear mi3
      refine wpTailD_lone (by kernel_rfl) rfl rfl (fun K' hK' => ?_)
      go_simp
      refine hK' _ _ ?_
      clear hK' K'
      refine wpTailD_lone (by kernel_rfl) rfl rfl (fun K' hK' => ?_)
      go_simp
      refine hK' _ _ ?_
      clear hK' K'
      refine wpTailD_lone (by kernel_rfl) rfl rfl (fun K' hK' => ?_)
      go_simp
      refine hK' _ _ ?_
      clear hK' K'
      refine wpTailD_lone (by kernel_rfl) rfl rfl (fun K' hK' => ?_)
      go_simp
      refine hK' _ _ ?_
      clear hK' K'
      refine wpTailD_nil ?_
      obtain ⟨ib', hib'⟩ : ∃ ib' : Nat, ib' = ib + (sz d u - sz d t) := ⟨_, rfl⟩
      have hib2 : (ib : Int) + ((sz d u : Int) - (sz d t : Int)) = (ib' : Int) := by omega
      have HIB := hid (show ib' + sz d t = ib + sz d u by omega)
      have hwr : IntKind.i64.wrap (ib' : Int) = (ib' : Int) := by rw [IntKind.wrap_i64]; omega
      rw [hib2, hwr]
      clear hwr
      have mi2 := HMI3.out.setM hmlt 1 (.int .i64 (ib' : Int)) (s' := s) (ib' := ib') (aA' := aA) (bA' := true) (L' := L) (n' := rs.length) rfl
      have rs2 := rs3.set m 1 (.int .i64 (ib' : Int)) hm0 (by omega)
      clear c0 c1 c2 c3 c12 cp cq ci cj z1 HMI3 rs3 hib' hib2
      generalize w3.setCell ⟨m, 1, none⟩ (.int .i64 (ib' : Int)) = W2 at mi2 rs2 ⊢
      gi_wp2_with fail
      obtain ⟨c0, c1, c2, c3, c12, cp, cq, ci, cj⟩ := mi2.cells
      obtain ⟨zm, zi, zj⟩ := mi2.frozen
      have cf := cn_le f t
      have cd := cn_le d t
      have cfu := cn_le d u
      obtain ⟨e, he⟩ : ∃ e, e = rs.length % 2 := ⟨_, rfl⟩
      have he2 : (e : Int) < 2 := by omega
      have he' : ((rs.length : Int).tmod 2) = (e : Int) := by rw [Int.tmod_eq_emod_of_nonneg (by omega)]; omega
      have HE := hid he
      clear he
      obtain ⟨l0, l1, l2, l3⟩ := mi2.loneAt e (by omega)
      have y0 := zm (4 + e * 4)
      have y1 := zm (4 + e * 4 + 1)
      have y2 := zm (4 + e * 4 + 2)
      have y3 := zm (4 + e * 4 + 3)
      have HMI2 := hid mi2
      clear mi2 zm
      refine region_DR (fun ⟨_, _, h⟩ => h) [0, 1, 2, 3, 4, 5, 6, 7, 8, 9, 10, 11, 12, 13, 14, 15, 16, 17, 18, 19] [20] 30 (fun w' => w' = W2.drew) (by kernel_rfl) (by kernel_rfl) (by kernel_rfl) rfl (by kernel_rfl) (fun _ _ _ dd _ h => by cases dd <;> exact h) rfl ?_
      repeat
        refine wpHeadD_step rfl rfl W2 (fun K' hK' => ⟨?_, fun w' hw' => ?_, ?_⟩)
        rotate_left
        · obtain rfl := hw'
          go_simp
          first
            | done
            | rfl
        go_simp
        try go_bits
        refine hK' _ _ ?_
        clear hK' K'
      refine wpHeadD_nil ?_
      refine wpTailD_lone (by kernel_rfl) rfl rfl (fun K' hK' => ?_)
      go_simp
      refine hK' _ _ ?_
      clear hK' K'
      refine wpTailD_nil ?_
      have mi3 : MI w w.heap.size m bb bo ((((W2.setCell ⟨m, 4 + e * 4, none⟩ (.int .u32 (cn f t))).setCell ⟨m, 4 + e * 4 + 1, none⟩ (.int .u32 (cn d t))).setCell ⟨m, 4 + e * 4 + 2, none⟩ (.int .u32 0)).setCell ⟨m, 4 + e * 4 + 3, none⟩ (.int .u32 k)).drew s ib' aA true (up4 L e (cn f t) (cn d t) 0 k) rs.length (cn f t) (cn d t) := (HMI2.out.setLone hmlt e (by omega) (cn f t) (cn d t) 0 k).drewN 1
      have rs3 : RS W0.heap.size (w.heap.size + 4) W ((((W2.setCell ⟨m, 4 + e * 4, none⟩ (.int .u32 (cn f t))).setCell ⟨m, 4 + e * 4 + 1, none⟩ (.int .u32 (cn d t))).setCell ⟨m, 4 + e * 4 + 2, none⟩ (.int .u32 0)).setCell ⟨m, 4 + e * 4 + 3, none⟩ (.int .u32 k)).drew :=
        ((((rs2.set m (4 + e * 4) (.int .u32 (cn f t)) hm0 (by omega)).set m (4 + e * 4 + 1) (.int .u32 (cn d t)) hm0 (by omega)).set m (4 + e * 4 + 2) (.int .u32 0) hm0 (by omega)).set m (4 + e * 4 + 3) (.int .u32 k) hm0 (by omega)).drewN 1
      clear c0 c1 c2 c3 c12 cp cq ci cj zi zj l0 l1 l2 l3 y0 y1 y2 y3 he' he2 HMI2 rs2
      generalize ((((W2.setCell ⟨m, 4 + e * 4, none⟩ (.int .u32 (cn f t))).setCell ⟨m, 4 + e * 4 + 1, none⟩ (.int .u32 (cn d t))).setCell ⟨m, 4 + e * 4 + 2, none⟩ (.int .u32 0)).setCell ⟨m, 4 + e * 4 + 3, none⟩ (.int .u32 k)).drew = W3 at mi3 rs3 ⊢
      obtain ⟨c0, c1, c2, c3, c12, cp, cq, ci, cj⟩ := mi3.cells
      obtain ⟨zm, zi, zj⟩ := mi3.frozen
      have z12 := zm 12
      have z0 := zm 0
      have HMI3 := hid mi3
      clear mi3 zm
      gi_wp2_with fail
      have mi5 := (HMI3.out.setM hmlt 12 (.int .i64 ((rs.length : Int) + 1)) (s' := s) (ib' := ib') (aA' := aA) (bA' := true) (L' := up4 L e (cn f t) (cn d t) 0 k) (n' := (rs.length : Int) + 1) rfl).setM hmlt 0 (.int .i64 ((s : Int) + (k : Int))) (s' := (s : Int) + (k : Int)) (ib' := ib') (aA' := aA) (bA' := true) (L' := up4 L e (cn f t) (cn d t) 0 k) (n' := (rs.length : Int) + 1) rfl
      have rs5 := (rs3.set m 12 (.int .i64 ((rs.length : Int) + 1)) hm0 (by omega)).set m 0 (.int .i64 ((s : Int) + (k : Int))) hm0 (by omega)
      clear c0 c1 c2 c3 c12 cp cq ci cj zi zj z12 z0 HMI3 rs3
      generalize (W3.setCell ⟨m, 12, none⟩ (.int .i64 ((rs.length : Int) + 1))).setCell ⟨m, 0, none⟩ (.int .i64 ((s : Int) + (k : Int))) = W5 at mi5 rs5 ⊢
      obtain ⟨-, -, -, -, -, cp, cq, ci, cj⟩ := mi5.cells
      obtain ⟨-, zi, zj⟩ := mi5.frozen
      have HMI5 := hid mi5
      clear mi5
      refine region_ER (fun ⟨_, _, h⟩ => h) [0, 1, 2, 3, 4, 5, 6, 7] [8, 9] 30 (fun i w' => match i with | 0 => w'.cell? ⟨w.heap.size + 2, 0, none⟩ = some (.int .i64 (cn f t)) | 4 => w'.cell? ⟨w.heap.size + 3, 0, none⟩ = some (.int .i64 (cn d t)) | _ => True) (by kernel_rfl) (by kernel_rfl) (by kernel_rfl) rfl (by kernel_rfl) (by kernel_rfl) (fun _ _ _ dd _ h => by cases dd <;> exact h) (by simp; exact ⟨ci, cj⟩) ?_
      repeat
        refine headE_step rfl rfl W5 (fun K' hK' => ⟨?_, fun w' hw' => ?_, ?_⟩)
        rotate_left
        · try have hq0 : w'.cell? ⟨w.heap.size + 2, 0, none⟩ = some (.int .i64 (cn f t)) := hw'
          try have hq4 : w'.cell? ⟨w.heap.size + 3, 0, none⟩ = some (.int .i64 (cn d t)) := hw'
          go_simp
          first
            | done
            | rfl
        go_simp
        try go_bits
        refine hK' _ _ ?_
        clear hK' K'
      refine headE_nil ?_
      refine tailE_cons rfl rfl [4, 5, 6, 7] (by kernel_rfl) (fun K' hK' => ?_)
      go_simp
      refine hK' _ _ (fun q hq => ?_) ?_
      · simp at hq
        rcases hq with rfl | rfl | rfl | rfl
        · show World.cell? _ _ = _
          go_simp
        · trivial
        · trivial
        · trivial
      clear hK' K'
      refine tailE_cons rfl rfl [] (by kernel_rfl) (fun K' hK' => ?_)
      go_simp
      refine hK' _ _ (fun q hq => by cases hq) ?_
      clear hK' K'
      refine tailE_nil ?_
      gi_wp2_with fail
      have mi6 := ((HMI5.out.setI hmlt (cn f t)).setJ hmlt ((cn d t : Int) + k)).drewN 1
      have rs6 := ((rs5.set (w.heap.size + 2) 0 (.int .i64 (cn f t)) (by omega) (by omega)).set (w.heap.size + 3) 0 (.int .i64 ((cn d t : Int) + k)) (by omega) (by omega)).drewN 1
      refine ⟨rs6.1, rs6.2, s + k, ib', aA, true, up4 L e (cn f t) (cn d t) 0 k, rs ++ [(t, u)], ?_, hu4, ?_⟩
      · rw [HE.out]; exact HF.out.lonB htu hk0 hlack hcf hcd ib' HIB.out
      · have e1 : ((rs ++ [(t, u)]).length : Int) = (rs.length : Int) + 1 := by simp
        have e2 : ((s + k : Nat) : Int) = (s : Int) + (k : Int) := by omega
        have e3 : ((cn d t + k : Nat) : Int) = (cn d t : Int) + (k : Int) := by omega
        rw [e1, hcf, hcd, e2, e3]
        exact mi6
  case done =>
    rintro D t W hD ⟨ht, e1, e2⟩ ⟨s, ib, aA, bA, L, rs, hf, _, mi1⟩ hK
    gi_wp2_with fail
    refine ⟨by simp, .inl ⟨_, _, rfl, run_takeDeferred hK, ?_⟩⟩
    refine ⟨_, results_none rfl _ _ _, rfl, ?_, s, ib, aA, bA, L, rs, hf.four ht e1 e2, ?_⟩
    · exact (mi1.grown hmlt (grownBy_putObj' W D (.deferred none)) (fun r e => by cases e; omega)).fk
    · exact (mi1.grown hmlt (grownBy_putObj' W D (.deferred none)) (fun r e => by cases e; omega)).fm
  case stop =>
    rintro D c pre W _ h _
    exact h.elim
end Go.Proofs.Ybulkgey
