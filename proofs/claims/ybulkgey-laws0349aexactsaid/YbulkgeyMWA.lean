/- walkApart: the walk. -/
import Derived.Test.YbulkgeyMTail
import Derived.Deep.RegionHeld3
namespace Go.Proofs.Ybulkgey
open Go.RowKit
set_option linter.unusedVariables false

theorem len_same (w : World) (ids : ByteArray) (ao ac : Option Addr) (on oc n c : Nat) :
    Calls Yba.prog 12 #[.agg #[.string ids, .slice ao on oc, .slice ac n c]] w fun e w' => e = .returned (.int .i64 n) ∧ w' = w.alloc (.cells #[.string ids, .slice ao on oc, .slice ac n c] 27) := by
  go_enter Yba.func12, Yba.ntmps12
  go_wp2
  go_ret
  exact ⟨rfl, rfl⟩

theorem four_heap (w : World) (a b c d : Obj) : ((((w.alloc a).alloc b).alloc c).alloc d).heap[w.heap.size]? = some a ∧ ((((w.alloc a).alloc b).alloc c).alloc d).heap[w.heap.size + 1]? = some b ∧ ((((w.alloc a).alloc b).alloc c).alloc d).heap[w.heap.size + 1 + 1]? = some c ∧ ((((w.alloc a).alloc b).alloc c).alloc d).heap[w.heap.size + 1 + 1 + 1]? = some d := by
  refine ⟨?_, ?_, ?_, ?_⟩
  · rw [Go.heap_alloc_old _ _ (by simp only [World.size_alloc]; omega), Go.heap_alloc_old _ _ (by simp only [World.size_alloc]; omega), Go.heap_alloc_old _ _ (by simp only [World.size_alloc]; omega)]; exact heap_new_at _ _ rfl
  · rw [Go.heap_alloc_old _ _ (by simp only [World.size_alloc]; omega), Go.heap_alloc_old _ _ (by simp only [World.size_alloc]; omega)]; exact heap_new_at _ _ (by simp only [World.size_alloc])
  · rw [Go.heap_alloc_old _ _ (by simp only [World.size_alloc]; omega)]; exact heap_new_at _ _ (by simp only [World.size_alloc])
  · exact heap_new_at _ _ (by simp only [World.size_alloc])
theorem drew_heap (w : World) (k : Nat) : w.drew.heap[k]? = w.heap[k]? := rfl
/-- The way on alone. -/
def strictQ (Q : Exit → Act → World → Prop) : Exit → Act → World → Prop
  | .normal, a, w => Q .normal a w
  | _, _, _ => False
theorem wp_strict {P : Program} {c : Code} {Q : Exit → Act → World → Prop} {a : Act} {w : World} (h : c.wp P (strictQ Q) a w) : c.wp P Q a w :=
  wp_mono h fun e a w hq => by cases e <;> first | exact hq | exact hq.elim

/-- What lies where within walkApart. -/
structure WJ (w : World) (ab ao bb bo b g A Bx z cx n Z : Nat) (Ns : List ByteArray) (Cs : List Int) (aL bL i j k : Int) (W : World) : Prop where
  cb : CB W b g n Z Ns Cs
  la : W.heap[A]? = some (.cells #[.int .i64 aL] 3)
  lb : W.heap[Bx]? = some (.cells #[.int .i64 bL] 3)
  bi : W.heap[z]? = some (.cells #[.int .i64 i] 3)
  bj : W.heap[z + 1]? = some (.cells #[.int .i64 j] 3)
  bk : W.heap[z + 2]? = some (.cells #[.int .i64 k] 3)
  pa : W.heap[w.heap.size]? = some (.cells #[.pointer (some ⟨ab, ao, none⟩)] 71)
  pb : W.heap[w.heap.size + 1]? = some (.cells #[.pointer (some ⟨bb, bo, none⟩)] 71)
  re : W.heap[w.heap.size + 2]? = some (.cells #[.string ⟨#[]⟩, .slice none 0 0, .slice none 0 0] 27)
  co : W.heap[cx]? = some (.cells #[.slice (some ⟨g, 0, none⟩) n n] 25)
  wa : W.heap[z + 3]? = some (.cells #[.pointer (some ⟨ab, ao, none⟩)] 71)
  wb : W.heap[z + 3 + 1]? = some (.cells #[.pointer (some ⟨bb, bo, none⟩)] 71)
  bw : Below w.heap.size w W
/-- The lone nodes that are still to come. -/
def AL (f d : Nat → Int) (t : Nat) : Int := (cn (gm f d) 4 : Int) - (cn d 4 : Int) - ((cn (gm f d) t : Int) - (cn d t : Int))
def BL (f d : Nat → Int) (t : Nat) : Int := (cn (gm f d) 4 : Int) - (cn f 4 : Int) - ((cn (gm f d) t : Int) - (cn f t : Int))
theorem AL_zero (f d : Nat → Int) : AL f d 0 = (cn (gm f d) 4 : Int) - (cn d 4 : Int) := by unfold AL; rw [cn_zero, cn_zero]; omega
theorem BL_zero (f d : Nat → Int) : BL f d 0 = (cn (gm f d) 4 : Int) - (cn f 4 : Int) := by unfold BL; rw [cn_zero, cn_zero]; omega
theorem AL_pos (f d : Nat → Int) {t : Nat} (ht : t ≤ 4) : 0 ≤ AL f d t := by
  have := Sub.cn_le (f := gm f d) (d := d) (s := t) (u := 4) (fun k _ _ hh => by rw [has_gm, hh, Bool.or_true]) ht
  unfold AL; omega
theorem AL_none {f d : Nat → Int} {t : Nat} (ht : t ≤ 4) (h : AL f d t = 0) : Sub d f t := sub_of_none ht (by unfold AL at h; omega)
theorem BL_none {f d : Nat → Int} {t : Nat} (ht : t ≤ 4) (h : BL f d t = 0) : Sub f d t := sub_of_none' ht (by unfold BL at h; omega)
theorem AL_end {f d : Nat → Int} {t : Nat} (ht : t ≤ 4) (h1 : cn f t = cn f 4) (h2 : cn d t = cn d 4) : AL f d t = 0 := by
  have l1 := lack_of_flat ht h1
  have l2 := lack_of_flat ht h2
  have := cn_flat (gm f d) (fun k k1 k2 => by rw [has_gm, l1 k k1 k2, l2 k k1 k2]; rfl) ht
  unfold AL; omega
/-- What lies where between two rounds of walkApart. -/
def WI (w : World) (ab ao bb bo b g A Bx z cx : Nat) (f d : Nat → Int) (t : Nat) (W : World) : Prop :=
  t ≤ 4 ∧ WJ w ab ao bb bo b g A Bx z cx (cn (gm f d) 4) (sz (gm f d) 4) (NA (gm f d) t) (CA (mx f d) t) (AL f d t) (BL f d t) (cn f t) (cn d t) (cn (gm f d) t) W
theorem CB.cells {w w' : World} {b g n idb : Nat} {Ns : List ByteArray} {Cs : List Int} (h : CB w b g n idb Ns Cs) (hk : ∀ (k : Nat) (cs : Array Value) (e : TypeId) (fr : Nat × Nat), e ≠ 3 → w.heap[k]? = some (Obj.cells cs e fr) → w'.heap[k]? = some (Obj.cells cs e fr)) : CB w' b g n idb Ns Cs := by
  obtain ⟨p, buf, hp, hbg, h1, h2, h3, h4, h5⟩ := h
  refine ⟨p, buf, hp, hbg, hk _ _ _ _ (by decide) h1, hk _ _ _ _ (by decide) h2, ?_, h4, h5⟩
  refine ⟨h3.1, ?_⟩
  rcases h3.2 with h | ⟨g', cap, cur, a1, a2, a3, a4⟩
  · exact .inl h
  · exact .inr ⟨g', cap, cur, a1, a2, hk _ _ _ _ (by decide) a3, a4⟩
section
variable {w : World} {ab ao bb bo b g A Bx z cx n Z : Nat} {Ns : List ByteArray} {Cs : List Int} {aL bL i j k : Int} {W W' : World}
theorem WJ.cells (h : WJ w ab ao bb bo b g A Bx z cx n Z Ns Cs aL bL i j k W) (hk : ∀ (k : Nat) (cs : Array Value) (e : TypeId) (fr : Nat × Nat), W.heap[k]? = some (Obj.cells cs e fr) → W'.heap[k]? = some (Obj.cells cs e fr)) (hb : Below w.heap.size w W') : WJ w ab ao bb bo b g A Bx z cx n Z Ns Cs aL bL i j k W' :=
  ⟨h.cb.cells (fun k cs e fr _ hx => hk k cs e fr hx), hk _ _ _ _ h.la, hk _ _ _ _ h.lb, hk _ _ _ _ h.bi, hk _ _ _ _ h.bj, hk _ _ _ _ h.bk, hk _ _ _ _ h.pa, hk _ _ _ _ h.pb, hk _ _ _ _ h.re, hk _ _ _ _ h.co, hk _ _ _ _ h.wa, hk _ _ _ _ h.wb, hb⟩
theorem WJ.drewN (h : WJ w ab ao bb bo b g A Bx z cx n Z Ns Cs aL bL i j k W) (q : Nat) : WJ w ab ao bb bo b g A Bx z cx n Z Ns Cs aL bL i j k (W.drewN q) := h.cells (fun _ _ _ _ hx => hx) (below_drewN h.bw q)
/-- Behind copyNodes. -/
theorem WJ.copy {Ns' : List ByteArray} {Cs' : List Int} (h : WJ w ab ao bb bo b g A Bx z cx n Z Ns Cs aL bL i j k W) (ht : Tf W W') (hc : CB W' b g n Z Ns' Cs') (hb : Below w.heap.size W W') : WJ w ab ao bb bo b g A Bx z cx n Z Ns' Cs' aL bL i j k W' :=
  ⟨hc, ht _ _ h.la (fun cs e fr he => by cases he; decide), ht _ _ h.lb (fun cs e fr he => by cases he; decide), ht _ _ h.bi (fun cs e fr he => by cases he; decide), ht _ _ h.bj (fun cs e fr he => by cases he; decide), ht _ _ h.bk (fun cs e fr he => by cases he; decide),
    ht _ _ h.pa (fun cs e fr he => by cases he; decide), ht _ _ h.pb (fun cs e fr he => by cases he; decide), ht _ _ h.re (fun cs e fr he => by cases he; decide), ht _ _ h.co (fun cs e fr he => by cases he; decide), ht _ _ h.wa (fun cs e fr he => by cases he; decide), ht _ _ h.wb (fun cs e fr he => by cases he; decide), h.bw.trans hb⟩
end
theorem mx_b {f d : Nat → Int} {s p : Nat} (h1 : s ≤ p) (h2 : p ≤ 4) (h : Lack f s p) : CA (mx f d) p = CA (mx f d) s ++ ((CA d 4).drop (cn d s)).take (cn d p - cn d s) := by
  rw [CA_drop d h1 h2, CA_seg, CA_seg, ← seg_append _ (Nat.zero_le s) h1, List.map_append, seg_congr (mx_lackL (d := d) h)]
  congr 1
  apply List.map_congr_left
  intro k hk
  unfold seg at hk
  rw [List.mem_filter, List.mem_range'_1] at hk
  have := not_has (h k hk.1.1 (by omega))
  have := mod9 (d k)
  rw [mx_mod]
  omega
theorem mx_a {f d : Nat → Int} {s p : Nat} (h1 : s ≤ p) (h2 : p ≤ 4) (h : Lack d s p) : CA (mx f d) p = CA (mx f d) s ++ ((CA f 4).drop (cn f s)).take (cn f p - cn f s) := by
  rw [mx_comm]; exact mx_b h1 h2 h
/-- The boxes of the counts lie apart. -/
structure WD (w : World) (A Bx z : Nat) : Prop where
  ne : A ≠ Bx
  az : A < z
  bz : Bx < z
  wa : w.heap.size ≤ A
  wb : w.heap.size ≤ Bx
theorem set3_other {W : World} {c k : Nat} {v x : Value} {cs : Array Value} {e : TypeId} {fr : Nat × Nat} (hc : W.heap[c]? = some (.cells #[v] 3)) (hk : W.heap[k]? = some (.cells cs e fr)) (he : e ≠ 3) : (W.setCell ⟨c, 0, none⟩ x).heap[k]? = some (.cells cs e fr) := by
  rw [set_other _ ?_]
  · exact hk
  · rintro rfl
    rw [hc] at hk
    cases hk
    exact he rfl
section
variable {w : World} {ab ao bb bo b g A Bx z cx n Z : Nat} {Ns : List ByteArray} {Cs : List Int} {aL bL i j k : Int} {W : World}
theorem WJ.setA (h : WJ w ab ao bb bo b g A Bx z cx n Z Ns Cs aL bL i j k W) (hd : WD w A Bx z) (x : Int) : WJ w ab ao bb bo b g A Bx z cx n Z Ns Cs x bL i j k (W.setCell ⟨A, 0, none⟩ (.int .i64 x)) :=
  ⟨h.cb.cells (fun q cs e fr he hx => set3_other h.la hx he), by rw [set_block h.la]; rfl, by rw [set_other _ (by have := hd.ne; have := hd.az; have := hd.bz; omega)]; exact h.lb, by rw [set_other _ (by have := hd.ne; have := hd.az; have := hd.bz; omega)]; exact h.bi, by rw [set_other _ (by have := hd.ne; have := hd.az; have := hd.bz; omega)]; exact h.bj, by rw [set_other _ (by have := hd.ne; have := hd.az; have := hd.bz; omega)]; exact h.bk, set3_other h.la h.pa (by decide), set3_other h.la h.pb (by decide), set3_other h.la h.re (by decide), set3_other h.la h.co (by decide), set3_other h.la h.wa (by decide), set3_other h.la h.wb (by decide), h.bw.setCell (p := ⟨A, 0, none⟩) (by show w.heap.size ≤ A; have := hd.wa; have := hd.wb; have := hd.az; omega) _⟩
theorem WJ.setB (h : WJ w ab ao bb bo b g A Bx z cx n Z Ns Cs aL bL i j k W) (hd : WD w A Bx z) (x : Int) : WJ w ab ao bb bo b g A Bx z cx n Z Ns Cs aL x i j k (W.setCell ⟨Bx, 0, none⟩ (.int .i64 x)) :=
  ⟨h.cb.cells (fun q cs e fr he hx => set3_other h.lb hx he), by rw [set_other _ (by have := hd.ne; have := hd.az; have := hd.bz; omega)]; exact h.la, by rw [set_block h.lb]; rfl, by rw [set_other _ (by have := hd.ne; have := hd.az; have := hd.bz; omega)]; exact h.bi, by rw [set_other _ (by have := hd.ne; have := hd.az; have := hd.bz; omega)]; exact h.bj, by rw [set_other _ (by have := hd.ne; have := hd.az; have := hd.bz; omega)]; exact h.bk, set3_other h.lb h.pa (by decide), set3_other h.lb h.pb (by decide), set3_other h.lb h.re (by decide), set3_other h.lb h.co (by decide), set3_other h.lb h.wa (by decide), set3_other h.lb h.wb (by decide), h.bw.setCell (p := ⟨Bx, 0, none⟩) (by show w.heap.size ≤ Bx; have := hd.wa; have := hd.wb; have := hd.az; omega) _⟩
theorem WJ.setI (h : WJ w ab ao bb bo b g A Bx z cx n Z Ns Cs aL bL i j k W) (hd : WD w A Bx z) (x : Int) : WJ w ab ao bb bo b g A Bx z cx n Z Ns Cs aL bL x j k (W.setCell ⟨z, 0, none⟩ (.int .i64 x)) :=
  ⟨h.cb.cells (fun q cs e fr he hx => set3_other h.bi hx he), by rw [set_other _ (by have := hd.ne; have := hd.az; have := hd.bz; omega)]; exact h.la, by rw [set_other _ (by have := hd.ne; have := hd.az; have := hd.bz; omega)]; exact h.lb, by rw [set_block h.bi]; rfl, by rw [set_other _ (by have := hd.ne; have := hd.az; have := hd.bz; omega)]; exact h.bj, by rw [set_other _ (by have := hd.ne; have := hd.az; have := hd.bz; omega)]; exact h.bk, set3_other h.bi h.pa (by decide), set3_other h.bi h.pb (by decide), set3_other h.bi h.re (by decide), set3_other h.bi h.co (by decide), set3_other h.bi h.wa (by decide), set3_other h.bi h.wb (by decide), h.bw.setCell (p := ⟨z, 0, none⟩) (by show w.heap.size ≤ z; have := hd.wa; have := hd.wb; have := hd.az; omega) _⟩
theorem WJ.setJ (h : WJ w ab ao bb bo b g A Bx z cx n Z Ns Cs aL bL i j k W) (hd : WD w A Bx z) (x : Int) : WJ w ab ao bb bo b g A Bx z cx n Z Ns Cs aL bL i x k (W.setCell ⟨z + 1, 0, none⟩ (.int .i64 x)) :=
  ⟨h.cb.cells (fun q cs e fr he hx => set3_other h.bj hx he), by rw [set_other _ (by have := hd.ne; have := hd.az; have := hd.bz; omega)]; exact h.la, by rw [set_other _ (by have := hd.ne; have := hd.az; have := hd.bz; omega)]; exact h.lb, by rw [set_other _ (by have := hd.ne; have := hd.az; have := hd.bz; omega)]; exact h.bi, by rw [set_block h.bj]; rfl, by rw [set_other _ (by have := hd.ne; have := hd.az; have := hd.bz; omega)]; exact h.bk, set3_other h.bj h.pa (by decide), set3_other h.bj h.pb (by decide), set3_other h.bj h.re (by decide), set3_other h.bj h.co (by decide), set3_other h.bj h.wa (by decide), set3_other h.bj h.wb (by decide), h.bw.setCell (p := ⟨z + 1, 0, none⟩) (by show w.heap.size ≤ z + 1; have := hd.wa; have := hd.wb; have := hd.az; omega) _⟩
theorem WJ.setK (h : WJ w ab ao bb bo b g A Bx z cx n Z Ns Cs aL bL i j k W) (hd : WD w A Bx z) (x : Int) : WJ w ab ao bb bo b g A Bx z cx n Z Ns Cs aL bL i j x (W.setCell ⟨z + 2, 0, none⟩ (.int .i64 x)) :=
  ⟨h.cb.cells (fun q cs e fr he hx => set3_other h.bk hx he), by rw [set_other _ (by have := hd.ne; have := hd.az; have := hd.bz; omega)]; exact h.la, by rw [set_other _ (by have := hd.ne; have := hd.az; have := hd.bz; omega)]; exact h.lb, by rw [set_other _ (by have := hd.ne; have := hd.az; have := hd.bz; omega)]; exact h.bi, by rw [set_other _ (by have := hd.ne; have := hd.az; have := hd.bz; omega)]; exact h.bj, by rw [set_block h.bk]; rfl, set3_other h.bk h.pa (by decide), set3_other h.bk h.pb (by decide), set3_other h.bk h.re (by decide), set3_other h.bk h.co (by decide), set3_other h.bk h.wa (by decide), set3_other h.bk h.wb (by decide), h.bw.setCell (p := ⟨z + 2, 0, none⟩) (by show w.heap.size ≤ z + 2; have := hd.wa; have := hd.wb; have := hd.az; omega) _⟩
end
/-- What copyNodes keeps of a round's world. -/
theorem WJ.rs {w : World} {ab ao bb bo b g A Bx z cx n Z : Nat} {Ns : List ByteArray} {Cs : List Int} {aL bL i j k : Int} {W W' : World} (h : WJ w ab ao bb bo b g A Bx z cx n Z Ns Cs aL bL i j k W) (ht : Tf W W') (hb : Below w.heap.size W W') : RS w.heap.size (z + 3) W W' := by
  refine ⟨⟨hb.size, fun k o hk ho => ht k o hk (fun cs e fr he => by rw [he] at ho; cases ho)⟩, hb, fun k k1 k2 => ?_⟩
  rcases (show k = z + 3 ∨ k = z + 3 + 1 by omega) with rfl | rfl
  · rw [h.wa]; exact ht _ _ h.wa (fun cs e fr he => by cases he; decide)
  · rw [h.wb]; exact ht _ _ h.wb (fun cs e fr he => by cases he; decide)
theorem WI.own (w : World) (ab ao bb bo b g A Bx z cx : Nat) (f d : Nat → Int) (B0 : Nat) (hB : w.heap.size ≤ B0) : OwnFrom B0 (WI w ab ao bb bo b g A Bx z cx f d) := by
  intro t W W' row h hg hr
  refine ⟨h.1, h.2.cells (fun k cs e fr hk => ?_) (h.2.bw.trans ⟨hg.os, hg.tape, hg.output, hg.size, fun k hk => hg.block k (Nat.lt_of_lt_of_le hk h.2.bw.size) (fun e => by have := (hr k e.symm).1; omega)⟩)⟩
  rw [hg.block k (block_lt hk) ?_]
  · exact hk
  · intro e
    obtain ⟨_, o, ho, hc⟩ := hr k e.symm
    rw [hk] at ho
    cases ho
    cases hc

/-- Rows lie in cells. -/
theorem Row.cellsK {w w' : World} {v : Value} {xs : List Value} (h : Row w v xs) (hs : w.heap.size ≤ w'.heap.size) (hk : ∀ (k : Nat) (cs : Array Value) (e : TypeId) (fr : Nat × Nat), w.heap[k]? = some (Obj.cells cs e fr) → w'.heap[k]? = some (Obj.cells cs e fr)) : Row w' v xs := by
  rcases h with ⟨rfl, h⟩ | ⟨g, o, cap, rfl, hg, hc, hm, hcell⟩
  · exact .inl ⟨rfl, h⟩
  · refine .inr ⟨g, o, cap, rfl, by omega, hc, hm, fun j hj => ?_⟩
    have e := hcell j hj
    rw [← e]
    rw [List.getElem?_eq_getElem hj] at e
    refine World.cell?_of_block (w := w) ?_
    unfold World.cell? at e
    cases ho : w.heap[g]? with
    | none => simp [ho] at e
    | some ob =>
      cases ob with
      | cells cs et fr => exact (hk g cs et fr ho).trans rfl
      | _ => simp [ho] at e
theorem Clk.cellsK {w w' : World} {offs ctrs : Value} {N : List ByteArray} {C : List Int} (h : Clk w offs ctrs N C) (hs : w.heap.size ≤ w'.heap.size) (hk : ∀ (k : Nat) (cs : Array Value) (e : TypeId) (fr : Nat × Nat), w.heap[k]? = some (Obj.cells cs e fr) → w'.heap[k]? = some (Obj.cells cs e fr)) : Clk w' offs ctrs N C :=
  ⟨h.1.cellsK hs hk, h.2.1, h.2.2.imp id fun k => ⟨k.1, k.2.cellsK hs hk⟩⟩
theorem cell0 {w : World} {b : Nat} {v : Value} {e : TypeId} (h : w.heap[b]? = some (.cells #[v] e)) : w.cell? ⟨b, 0, none⟩ = some v := by rw [cell_of_block h]; rfl
/-- rangeSt where the break and the end go on alike. -/
theorem rangeStX {σ ρ : Type} {n : Nat} {P : Program} {g : Operand} {ps : Array Tmp} {assign body : Code} {Q : Exit → Act → World → Prop} {a : Act} {w : World}
    {gf : Nat} {lb : Array Value} (hg : a.eval g = .func (.func gf) #[] lb) (eg : ∀ args w, (callFunc gf args).run P w = .ok (.enter gf args) w)
    {encs : ρ → Array Value} {n0 B : Nat} {Stp : σ → ρ → σ → Prop} {s0 : σ} {E : σ → Prop} {w0 : World} (hseq : SeqSt P gf lb encs n0 B Stp s0 E w0) (hn0 : n0 ≤ w.heap.size) (hB0 : B + 2 ≤ w.heap.size) (hb0 : Below w0.heap.size w0 w) (hps : ∀ x, (encs x).size = ps.size)
    (I : σ → World → Prop) (C : σ → Prop) (hI : OwnFrom w.heap.size I) (h0 : I s0 w) (a1 : ρ → Act) (hE : ∀ s, E s → C s)
    (hassign : ∀ (l : Nat) (x : ρ) (W : World) (K : Act → World → Prop), K (a1 x) W →
      assign.wpIn (Fence.wide.inRound l) (n - 1 - 1) P (Exit.then K (fun _ _ _ => False)) { tmps := (ps.zip (encs x)).foldl (fun t (p, v) => t.setIfInBounds p v) a.tmps, defers := [] } W)
    (hbody : ∀ (l : Nat) (s : σ) (x : ρ) (s' : σ) (W : World), I s W → Stp s x s' → body.wpIn (Fence.wide.inRound l) (n - 1 - 1) P (stPost n0 B I (fun c s W => c = .exit 0 ∧ I s W ∧ C s) s' W) (a1 x) W)
    (hQ : ∀ a W, Q .normal a W → (Code.exit 0).wpIn Fence.wide n P Q a W)
    (hfin : ∀ (D : Nat) (s : σ) (W : World), w.heap.size ≤ D → I s W → C s → W.heap[D]? = some (.deferred (some [])) → Q .normal { a with defers := { target := .collected D, args := #[] } :: a.defers } W) :
    (Code.rangeFunc g ps assign body).wpIn Fence.wide n P Q a w :=
  rangeSt hg eg hseq hn0 hB0 hb0 hps I (fun c s W => c = .exit 0 ∧ I s W ∧ C s) hI (fun c s W W' row h hg' hr => ⟨h.1, hI s W W' row h.2.1 hg' hr, h.2.2⟩) h0 a1 hassign hbody
    (fun D s W hD hs hi hk => hfin D s W hD hi (hE s hs) hk) (fun D c s W hD hx hk => by obtain ⟨rfl, hi, hc⟩ := hx; exact hQ _ _ (hfin D s W hD hi hc hk))

attribute [local go_sem] Oper.semAt_some
set_option maxRecDepth 100000 in
set_option maxHeartbeats 8000000 in
theorem walkApart_any (f d : Nat → Int) : WApart f d := by
  intro w ab ao bb bo hA hB hpf hpd
  have hsz : sz (gm f d) 4 = sz (mx f d) 4 := by unfold sz; rw [NA_gm]
  rw [← hsz, ← cn_gm]
  clear hsz
  have hnm := cn_le (gm f d) 4
  have hszm : sz (gm f d) 4 ≤ 8 := NA_cat (gm f d) 4 (Nat.le_refl _)
  have hnpos : 1 ≤ cn (gm f d) 4 := by
    have := Sub.cn_le (f := gm f d) (d := f) (s := 0) (u := 4) (fun k _ _ hh => by rw [has_gm, hh]; rfl) (by omega)
    rw [cn_zero, cn_zero] at this
    omega
  have HA := hid hA
  have HB := hid hB
  obtain ⟨xo, xn, xc, yo, yn, yc, x0, x1, x2, x3⟩ := hA
  obtain ⟨zo, zn, zc, vo, vn, vc, v0, v1, v2, v3⟩ := hB
  obtain rfl := x3.len
  obtain rfl := v3.len
  rw [cn_len] at x2 v2
  clear x3 v3
  refine (callsIn_wide (n := 3)).1 ?_
  refine callsIn_of_wp_marks Yba.func65 rfl trivial ?_ rfl
  simp only [Yba.ntmps65, List.size_toArray, List.length_cons, List.length_nil, Nat.reduceAdd, Nat.reduceSub, Array.replicate_succ, Array.replicate_zero, List.push_toArray, List.append_toArray, List.nil_append, List.cons_append]
  refine wpIn_wide.2 ?_
  go_wp2_with fail
  simp only [Nat.add_assoc, Nat.reduceAdd]
  have s1 : ((((w.alloc (.cells #[.pointer (some ⟨ab, ao, none⟩)] 71)).alloc (.cells #[.pointer (some ⟨bb, bo, none⟩)] 71)).alloc (.cells #[.string ⟨#[]⟩, .slice none 0 0, .slice none 0 0] 27)).alloc (.cells #[.pointer none, .slice none 0 0, .slice none 0 0, .slice none 0 0, .int .i64 0] 68)).heap.size = w.heap.size + 4 := by simp
  have hb1 : Below w.heap.size w ((((w.alloc (.cells #[.pointer (some ⟨ab, ao, none⟩)] 71)).alloc (.cells #[.pointer (some ⟨bb, bo, none⟩)] 71)).alloc (.cells #[.string ⟨#[]⟩, .slice none 0 0, .slice none 0 0] 27)).alloc (.cells #[.pointer none, .slice none 0 0, .slice none 0 0, .slice none 0 0, .int .i64 0] 68)) :=
    ((((Below.refl _ w).alloc (Nat.le_refl _) _).alloc (by simp) _).alloc (by simp only [World.size_alloc]; omega) _).alloc (by simp only [World.size_alloc]; omega) _
  have t0 : ((((w.alloc (.cells #[.pointer (some ⟨ab, ao, none⟩)] 71)).alloc (.cells #[.pointer (some ⟨bb, bo, none⟩)] 71)).alloc (.cells #[.string ⟨#[]⟩, .slice none 0 0, .slice none 0 0] 27)).alloc (.cells #[.pointer none, .slice none 0 0, .slice none 0 0, .slice none 0 0, .int .i64 0] 68)).heap[w.heap.size]? = some (.cells #[.pointer (some ⟨ab, ao, none⟩)] 71) := by
    rw [Go.heap_alloc_old _ _ (by simp; omega), Go.heap_alloc_old _ _ (by simp; omega), Go.heap_alloc_old _ _ (by simp)]; exact heap_new_at _ _ rfl
  have t1 : ((((w.alloc (.cells #[.pointer (some ⟨ab, ao, none⟩)] 71)).alloc (.cells #[.pointer (some ⟨bb, bo, none⟩)] 71)).alloc (.cells #[.string ⟨#[]⟩, .slice none 0 0, .slice none 0 0] 27)).alloc (.cells #[.pointer none, .slice none 0 0, .slice none 0 0, .slice none 0 0, .int .i64 0] 68)).heap[w.heap.size + 1]? = some (.cells #[.pointer (some ⟨bb, bo, none⟩)] 71) := by
    rw [Go.heap_alloc_old _ _ (by simp), Go.heap_alloc_old _ _ (by simp)]; exact heap_new_at _ _ (by simp)
  have t2 : ((((w.alloc (.cells #[.pointer (some ⟨ab, ao, none⟩)] 71)).alloc (.cells #[.pointer (some ⟨bb, bo, none⟩)] 71)).alloc (.cells #[.string ⟨#[]⟩, .slice none 0 0, .slice none 0 0] 27)).alloc (.cells #[.pointer none, .slice none 0 0, .slice none 0 0, .slice none 0 0, .int .i64 0] 68)).heap[w.heap.size + 2]? = some (.cells #[.string ⟨#[]⟩, .slice none 0 0, .slice none 0 0] 27) := by
    rw [Go.heap_alloc_old _ _ (by simp)]; exact heap_new_at _ _ (by simp)
  have t3 : ((((w.alloc (.cells #[.pointer (some ⟨ab, ao, none⟩)] 71)).alloc (.cells #[.pointer (some ⟨bb, bo, none⟩)] 71)).alloc (.cells #[.string ⟨#[]⟩, .slice none 0 0, .slice none 0 0] 27)).alloc (.cells #[.pointer none, .slice none 0 0, .slice none 0 0, .slice none 0 0, .int .i64 0] 68)).heap[w.heap.size + 3]? = some (.cells #[.pointer none, .slice none 0 0, .slice none 0 0, .slice none 0 0, .int .i64 0] 68) := heap_new_at _ _ (by simp)
  generalize (((w.alloc (.cells #[.pointer (some ⟨ab, ao, none⟩)] 71)).alloc (.cells #[.pointer (some ⟨bb, bo, none⟩)] 71)).alloc (.cells #[.string ⟨#[]⟩, .slice none 0 0, .slice none 0 0] 27)).alloc (.cells #[.pointer none, .slice none 0 0, .slice none 0 0, .slice none 0 0, .int .i64 0] 68) = w1 at s1 hb1 t0 t1 t2 t3 ⊢
  refine (grow_any (w.heap.size + 3) (cn (gm f d) 4) (sz (gm f d) 4) w1 t3 hnpos (by omega) (by omega)).mono ?_
  rintro e w2 ⟨rfl, hb2, g, hg2, hcb⟩
  have r0 : w2.heap[w.heap.size]? = some (.cells #[.pointer (some ⟨ab, ao, none⟩)] 71) := by rw [hb2.block _ (by omega)]; exact t0
  have r1 : w2.heap[w.heap.size + 1]? = some (.cells #[.pointer (some ⟨bb, bo, none⟩)] 71) := by rw [hb2.block _ (by omega)]; exact t1
  have r2 : w2.heap[w.heap.size + 2]? = some (.cells #[.string ⟨#[]⟩, .slice none 0 0, .slice none 0 0] 27) := by rw [hb2.block _ (by omega)]; exact t2
  have hbw2 : Below w.heap.size w w2 := hb1.trans (hb2.mono (by omega))
  clear t0 t1 t2 t3 hb1 hb2
  have c3 : w2.cell? ⟨w.heap.size + 3, 3, none⟩ = some (.slice (some ⟨g, 0, none⟩) (cn (gm f d) 4) (cn (gm f d) 4)) := by obtain ⟨p0, b0, _, _, h1, _⟩ := hcb; rw [cell_of_block h1]; rfl
  have HCB := hid hcb
  have hg2s : g < w2.heap.size := by obtain ⟨p0, b0, _, _, _, h1, _⟩ := hcb; exact block_lt h1
  clear hcb
  go_upto_region 4 with fail
  -- the counters' box
  have n0 : (w2.alloc (.cells #[.slice (some ⟨g, 0, none⟩) (cn (gm f d) 4) (cn (gm f d) 4)] 25)).heap[w2.heap.size]? = some (.cells #[.slice (some ⟨g, 0, none⟩) (cn (gm f d) 4) (cn (gm f d) 4)] 25) := heap_new_at _ _ rfl
  have hb3 : Below w2.heap.size w2 (w2.alloc (.cells #[.slice (some ⟨g, 0, none⟩) (cn (gm f d) 4) (cn (gm f d) 4)] 25)) := below_alloc _ _ _ (Nat.le_refl _)
  generalize w2.alloc (.cells #[.slice (some ⟨g, 0, none⟩) (cn (gm f d) 4) (cn (gm f d) 4)] 25) = w3 at n0 hb3 ⊢
  have hbw3 : Below w.heap.size w w3 := hbw2.trans (hb3.mono hbw2.size)
  have y0 := cell_later hbw3 x0
  have y1 := cell_later hbw3 x1
  have y2 := cell_later hbw3 x2
  have u0 := cell_later hbw3 v0
  have u1 := cell_later hbw3 v1
  have u2 := cell_later hbw3 v2
  have o0 : w3.cell? ⟨w.heap.size, 0, none⟩ = some (.pointer (some ⟨ab, ao, none⟩)) := by rw [cell_of_block ((hb3.block _ (block_lt r0)).trans r0)]; rfl
  have o1 : w3.cell? ⟨w.heap.size + 1, 0, none⟩ = some (.pointer (some ⟨bb, bo, none⟩)) := by rw [cell_of_block ((hb3.block _ (block_lt r1)).trans r1)]; rfl
  go_cut [11, 12] from 27 to 38 (fun va vb ws => ∃ A B : Nat, A ≠ B ∧ w3.heap.size ≤ A ∧ w3.heap.size ≤ B ∧ va = .pointer (some ⟨A, 0, none⟩) ∧ vb = .pointer (some ⟨B, 0, none⟩) ∧ ws.heap[A]? = some (.cells #[.int .i64 ((cn (gm f d) 4 : Int) - (cn d 4 : Int))] 3) ∧ ws.heap[B]? = some (.cells #[.int .i64 ((cn (gm f d) 4 : Int) - (cn f 4 : Int))] 3) ∧ Below w3.heap.size w3 ws)
  case first =>
    have lt0 : w.heap.size < w3.heap.size := by have := hb3.size; omega
    have lt1 : w.heap.size + 1 < w3.heap.size := by have := hb3.size; omega
    have lta : ab < w3.heap.size := Nat.lt_of_lt_of_le (block_lt_of_cell x0) hbw3.size
    have ltb : bb < w3.heap.size := Nat.lt_of_lt_of_le (block_lt_of_cell v0) hbw3.size
    have le1 : (cn d 4 : Int) ≤ 4 := by have := cn_le d 4; omega
    have le2 : (cn f 4 : Int) ≤ 4 := by have := cn_le f 4; omega
    have le3 : (cn (gm f d) 4 : Int) ≤ 4 := by omega
    have hwa : IntKind.i64.wrap ((cn (gm f d) 4 : Int) - (cn d 4 : Int)) = (cn (gm f d) 4 : Int) - (cn d 4 : Int) := by rw [IntKind.wrap_i64]; omega
    have hwb : IntKind.i64.wrap ((cn (gm f d) 4 : Int) - (cn f 4 : Int)) = (cn (gm f d) 4 : Int) - (cn f 4 : Int) := by rw [IntKind.wrap_i64]; omega
    refine wp_strict ?_
    have HSB : Hid (∀ w', Below w3.heap.size w3 w' → w'.cell? ⟨w.heap.size, 0, none⟩ = some (.pointer (some ⟨ab, ao, none⟩)) ∧ w'.cell? ⟨w.heap.size + 1, 0, none⟩ = some (.pointer (some ⟨bb, bo, none⟩)) ∧ w'.cell? ⟨ab, ao, none⟩ = some (.string (cat (NA f 4))) ∧ w'.cell? ⟨ab, ao + 1, none⟩ = some (.slice xo xn xc) ∧ w'.cell? ⟨ab, ao + 2, none⟩ = some (.slice yo (cn f 4) yc) ∧ w'.cell? ⟨bb, bo, none⟩ = some (.string (cat (NA d 4))) ∧ w'.cell? ⟨bb, bo + 1, none⟩ = some (.slice zo zn zc) ∧ w'.cell? ⟨bb, bo + 2, none⟩ = some (.slice vo (cn d 4) vc)) :=
      fun w' hb => ⟨cell_later hb o0, cell_later hb o1, cell_later hb y0, cell_later hb y1, cell_later hb y2, cell_later hb u0, cell_later hb u1, cell_later hb u2⟩
    go_region_held3 (fun w' => w'.cell? ⟨w.heap.size, 0, none⟩ = some (.pointer (some ⟨ab, ao, none⟩)) ∧ w'.cell? ⟨w.heap.size + 1, 0, none⟩ = some (.pointer (some ⟨bb, bo, none⟩)) ∧ w'.cell? ⟨ab, ao, none⟩ = some (.string (cat (NA f 4))) ∧ w'.cell? ⟨ab, ao + 1, none⟩ = some (.slice xo xn xc) ∧ w'.cell? ⟨ab, ao + 2, none⟩ = some (.slice yo (cn f 4) yc) ∧ w'.cell? ⟨bb, bo, none⟩ = some (.string (cat (NA d 4))) ∧ w'.cell? ⟨bb, bo + 1, none⟩ = some (.slice zo zn zc) ∧ w'.cell? ⟨bb, bo + 2, none⟩ = some (.slice vo (cn d 4) vc)) (exact HSB.out _ (by go_grown)) (first | (go_at_call 12; refine (len_same _ _ _ _ _ _ _ _).mono ?_; rintro e w' ⟨rfl, rfl⟩))
    all_goals
      simp only [strictQ]
      go_wp2_with fail
      go_meet
      try simp only [hwa, hwb]
      refine ⟨_, _, ?_, ?_, ?_, rfl, rfl, ?_, ?_, by go_grown⟩
      · omega
      · omega
      · omega
      · rw [drew_heap]
        first
          | exact (four_heap w3 _ _ _ _).1
          | exact (four_heap w3 _ _ _ _).2.1
          | exact (four_heap w3 _ _ _ _).2.2.1
          | exact (four_heap w3 _ _ _ _).2.2.2
      · rw [drew_heap]
        first
          | exact (four_heap w3 _ _ _ _).1
          | exact (four_heap w3 _ _ _ _).2.1
          | exact (four_heap w3 _ _ _ _).2.2.1
          | exact (four_heap w3 _ _ _ _).2.2.2
  case rest =>
    obtain ⟨A, Bx, hAB, hA3, hB3, rfl, rfl, hla, hlb, hbc⟩ := hcut
    have hb2c : Below w2.heap.size w2 wc := hb3.trans (hbc.mono hb3.size)
    have hbwc : Below w.heap.size w wc := hbw3.trans (hbc.mono hbw3.size)
    have hcbc := HCB.out.below hb2c
    have q0 := (hb2c.block _ (block_lt r0)).trans r0
    have q1 := (hb2c.block _ (block_lt r1)).trans r1
    have q2 := (hb2c.block _ (block_lt r2)).trans r2
    have q3 := (hbc.block _ (block_lt n0)).trans n0
    have p0 : wc.cell? ⟨w.heap.size, 0, none⟩ = some (.pointer (some ⟨ab, ao, none⟩)) := by rw [cell_of_block q0]; rfl
    have p1 : wc.cell? ⟨w.heap.size + 1, 0, none⟩ = some (.pointer (some ⟨bb, bo, none⟩)) := by rw [cell_of_block q1]; rfl
    have lt1 := block_lt q1
    have lt0 := block_lt q0
    have hw3s := hbw3.size
    have hb3s : w2.heap.size < w3.heap.size := block_lt n0
    clear y0 y1 y2 u0 u1 u2 o0 o1 c3 HCB hbc hb3 hbw3 hbw2 r0 r1 r2 n0 hb2c
    go_upto_region 6 with fail
    simp only [Nat.add_assoc, Nat.reduceAdd]
    have s5 : (((wc.alloc (.cells #[.int .i64 0] 3)).alloc (.cells #[.int .i64 0] 3)).alloc (.cells #[.int .i64 0] 3)).heap.size = wc.heap.size + 3 := by simp
    have hb5 : Below wc.heap.size wc (((wc.alloc (.cells #[.int .i64 0] 3)).alloc (.cells #[.int .i64 0] 3)).alloc (.cells #[.int .i64 0] 3)) := (((Below.refl _ wc).alloc (Nat.le_refl _) _).alloc (by simp) _).alloc (by simp only [World.size_alloc]; omega) _
    have i0 : (((wc.alloc (.cells #[.int .i64 0] 3)).alloc (.cells #[.int .i64 0] 3)).alloc (.cells #[.int .i64 0] 3)).heap[wc.heap.size]? = some (.cells #[.int .i64 0] 3) := by
      rw [Go.heap_alloc_old _ _ (by simp only [World.size_alloc]; omega), Go.heap_alloc_old _ _ (by simp)]; exact heap_new_at _ _ rfl
    have i1 : (((wc.alloc (.cells #[.int .i64 0] 3)).alloc (.cells #[.int .i64 0] 3)).alloc (.cells #[.int .i64 0] 3)).heap[wc.heap.size + 1]? = some (.cells #[.int .i64 0] 3) := by
      rw [Go.heap_alloc_old _ _ (by simp)]; exact heap_new_at _ _ (by simp)
    have i2 : (((wc.alloc (.cells #[.int .i64 0] 3)).alloc (.cells #[.int .i64 0] 3)).alloc (.cells #[.int .i64 0] 3)).heap[wc.heap.size + 2]? = some (.cells #[.int .i64 0] 3) := heap_new_at _ _ (by simp)
    generalize ((wc.alloc (.cells #[.int .i64 0] 3)).alloc (.cells #[.int .i64 0] 3)).alloc (.cells #[.int .i64 0] 3) = w5 at s5 hb5 i0 i1 i2 ⊢
    have p0' := cell_later hb5 p0
    have p1' := cell_later hb5 p1
    clear p0 p1
    go_wp2_with fail
    refine (walk_any _ _ _).mono ?_
    rintro e w6 ⟨rfl, hw6⟩
    have s6 : w6.heap.size = wc.heap.size + 5 := by rw [hw6]; simp [s5]
    have hb6 : Below w5.heap.size w5 w6 := by rw [hw6]; exact ((Below.refl _ w5).alloc (Nat.le_refl _) _).alloc (by simp) _
    have k3 : w6.heap[wc.heap.size + 3]? = some (.cells #[.pointer (some ⟨ab, ao, none⟩)] 71) := by rw [hw6, Go.heap_alloc_old _ _ (by simp [s5])]; exact heap_new_at _ _ s5.symm
    have k4 : w6.heap[wc.heap.size + 4]? = some (.cells #[.pointer (some ⟨bb, bo, none⟩)] 71) := by rw [hw6]; exact heap_new_at _ _ (by simp [s5])
    clear hw6
    simp only [s5]
    have hbc6 : Below wc.heap.size wc w6 := hb5.trans (hb6.mono (by omega))
    have hcb6 := hcbc.below hbc6
    have wi0 : WI w ab ao bb bo (w.heap.size + 3) g A Bx wc.heap.size w2.heap.size f d 0 w6 := by
      refine ⟨by omega, hcb6, ?_, ?_, ?_, ?_, ?_, (hbc6.block _ (block_lt q0)).trans q0, (hbc6.block _ (block_lt q1)).trans q1, (hbc6.block _ (block_lt q2)).trans q2, (hbc6.block _ (block_lt q3)).trans q3, k3, k4, hbwc.trans (hbc6.mono hbwc.size)⟩
      · rw [hbc6.block _ (block_lt hla), hla, AL_zero]
      · rw [hbc6.block _ (block_lt hlb), hlb, BL_zero]
      · rw [hb6.block _ (by omega), i0]; simp [cn_zero]
      · rw [hb6.block _ (by omega), i1]; simp [cn_zero]
      · rw [hb6.block _ (by omega), i2]; simp [cn_zero]
    have ok6 : OKW w (wc.heap.size + 3) ab ao bb bo w6 := ⟨hbwc.trans (hbc6.mono hbwc.size), k3, k4⟩
    go_wp2_with fail
    obtain ⟨pa, ca, hpa⟩ := ctr_cell HA.out
    obtain ⟨pb, cb, hpb⟩ := ctr_cell HB.out
    rw [cn_len] at hpa hpb
    refine (wpIn_wide (n := 3)).1 ?_
    refine rangeStX (gf := 74) (lb := #[.pointer (some ⟨wc.heap.size + 3, 0, none⟩), .pointer (some ⟨wc.heap.size + 4, 0, none⟩)]) rfl (enters_of Yba.func74 (by kernel_rfl) rfl) (walk_seq w6 w (wc.heap.size + 3) ab ao bb bo f d HA.out HB.out pa pb ca cb hpa hpb ok6) (by have := hbwc.size; omega) (by omega) (Below.refl _ _) (fun _ => rfl)
      (WI w ab ao bb bo (w.heap.size + 3) g A Bx wc.heap.size w2.heap.size f d) (fun t => AL f d t = 0 ∨ BL f d t = 0) (WI.own _ _ _ _ _ _ _ _ _ _ _ _ _ _ (by have := hbwc.size; omega)) wi0 ?a1 (fun s hs => .inl (AL_end hs.1 hs.2.1 hs.2.2)) ?assign ?body ?cont ?fin
    case assign =>
      intro l x W K hK
      gi_wp2_with fail
      exact hK
    case cont =>
      intro a0 W0 h
      exact wpIn_exit h
    case body =>
      rintro l t x u W wi ⟨htu, hu4, hkind⟩
      have ht := wi.1
      have HWI := hid wi
      have d0 : W.cell? ⟨w.heap.size, 0, none⟩ = some (.pointer (some ⟨ab, ao, none⟩)) := by rw [cell_of_block wi.2.pa]; rfl
      have d1 : W.cell? ⟨w.heap.size + 1, 0, none⟩ = some (.pointer (some ⟨bb, bo, none⟩)) := by rw [cell_of_block wi.2.pb]; rfl
      have d2 : W.cell? ⟨wc.heap.size, 0, none⟩ = some (.int .i64 (cn f t)) := by rw [cell_of_block wi.2.bi]; rfl
      have d3 : W.cell? ⟨wc.heap.size + 1, 0, none⟩ = some (.int .i64 (cn d t)) := by rw [cell_of_block wi.2.bj]; rfl
      have d4 : W.cell? ⟨wc.heap.size + 2, 0, none⟩ = some (.int .i64 (cn (gm f d) t)) := by rw [cell_of_block wi.2.bk]; rfl
      have hgt := cn_mono (gm f d) hu4
      have lgt : (NA (gm f d) t).length = cn (gm f d) t := by simp [NA, cn]
      have zgt := NA_cat (gm f d) t ht
      have zf := NA_cat f 4 (Nat.le_refl _)
      have zd := NA_cat d 4 (Nat.le_refl _)
      have cfu := cn_mono f hu4
      have cdu := cn_mono d hu4
      have cf4 := cn_le f 4
      have cd4 := cn_le d 4
      have cgt4 := cn_le (gm f d) t
      have cft4 := cn_le f t
      have cdt4 := cn_le d t
      have hd : WD w A Bx wc.heap.size := ⟨hAB, block_lt hla, block_lt hlb, by omega, by omega⟩
      clear wi wi0 ok6
      rcases hkind with ⟨k, hk0, hsame, hcf, hcd, rfl⟩ | ⟨k, hk0, hlack, hcf, hcd, rfl⟩ | ⟨k, hk0, hlack, hcf, hcd, rfl⟩
      · obtain ⟨gb1, gb2, gb3⟩ := gm_a (f := f) (d := d) htu hu4 (fun q q1 q2 hh => by rw [hsame q q1 q2]; exact hh)
        have hc1 := copyNodes2_any (w.heap.size + 3) g (cn (gm f d) 4) (sz (gm f d) 4) ab ao (cn f t) k W w _ _ _ _ HWI.out.2.cb HA.out (by omega) HWI.out.2.bw (by rw [cn_len]; omega) (by rw [lgt]; omega) (by omega) (by rw [cn_len]; omega) (by omega) (by omega)
        have posB := (ctr_at HB.out (by rw [cn_len]; exact hpb)).2.2.2
        have capB := (ctr_at HB.out (by rw [cn_len]; exact hpb)).2.2.1
        rw [cn_len] at posB capB
        obtain ⟨gb, ob, rfl, mb, gb0, cellb⟩ := posB (by omega)
        have HCB := hid cellb
        have HMB := hid mb
        simp only [sl, Option.map_some]
        clear mb cellb posB
        gi_wp2_with fail
        refine ⟨trivial, (CallsIn.inRound l (callsIn_wide.2 hc1)).mono ?_⟩
        rintro e w7 ⟨rfl, hb7, hcb7, tf7⟩
        have hkk : cn f u - cn f t = k := by omega
        rw [hkk] at gb1 gb2
        rw [← gb1] at hcb7
        have wj7 := HWI.out.2.copy tf7 hcb7 (hb7.mono (by omega))
        have rs7 := HWI.out.2.rs tf7 (hb7.mono (by omega))
        have hrr := run_raise (w.heap.size + 3) g (cn (gm f d) 4) (sz (gm f d) 4) gb ob cb t u k f d _ w7 hcb7 (fun q hq => cell_later wj7.bw (HCB.out q hq)) (by omega) capB HMB.out htu hu4 hsame hcf hcd (by rw [← cn_gm]; omega)
        rw [← cn_gm f d t] at hrr
        have hai : AL f d t = AL f d u := by unfold AL; omega
        have hbi : BL f d t = BL f d u := by unfold BL; omega
        rw [hai, hbi] at wj7
        have HGK := hid (show cn (gm f d) u = cn (gm f d) t + k by omega)
        have q1 : (cn (gm f d) t : Int) ≤ (cn (gm f d) 4 : Int) := by omega
        have hne : cn (gm f d) 4 ≠ cn (gm f d) t := by omega
        have hk1 : ((k : Int) == 0) = false := by simp; omega
        have cC : w7.cell? ⟨w2.heap.size, 0, none⟩ = some (.slice (some ⟨g, 0, none⟩) (cn (gm f d) 4) (cn (gm f d) 4)) := by rw [cell_of_block wj7.co]; rfl
        have cK0 : w7.cell? ⟨wc.heap.size + 2, 0, none⟩ = some (.int .i64 (cn (gm f d) t)) := by rw [cell_of_block wj7.bk]; rfl
        have HJ7 := hid wj7
        have HR7 := hid rs7
        clear hc1 d0 d1 d2 d3 d4 hb7 hcb7 tf7 gb1 gb2 gb3 hkk hai hbi wj7 rs7
        gi_wp2_with fail
        refine ⟨trivial, (CallsIn.inRound l (callsIn_wide.2 hrr)).mono ?_⟩
        rintro e wv ⟨rfl, hb8, hcb8, tf8⟩
        have wjv := HJ7.out.copy tf8 hcb8 (hb8.mono (by omega))
        have rsv := HR7.out.trans (HJ7.out.rs tf8 (hb8.mono (by omega)))
        clear hrr cC cK0 q1 hne hb8 hcb8 tf8 hk1
        gi_wp2_with fail
        have cI : wv.cell? ⟨wc.heap.size, 0, none⟩ = some (.int .i64 (cn f t)) := by rw [cell_of_block wjv.bi]; rfl
        have cJ : wv.cell? ⟨wc.heap.size + 1, 0, none⟩ = some (.int .i64 (cn d t)) := by rw [cell_of_block wjv.bj]; rfl
        have cK : wv.cell? ⟨wc.heap.size + 2, 0, none⟩ = some (.int .i64 (cn (gm f d) t)) := by rw [cell_of_block wjv.bk]; rfl
        have zI := frozen_of_block wjv.bi 0
        have zJ := frozen_of_block wjv.bj 0
        have zK := frozen_of_block wjv.bk 0
        have WJV := hid wjv
        clear wjv
        refine region_ER (fun ⟨_, _, h⟩ => h) [0, 1, 2, 3, 4, 5, 6, 7, 8, 9, 10, 11, 12, 13, 14] [15, 16, 17] 30 (fun i w' => match i with | 0 => w'.cell? ⟨wc.heap.size, 0, none⟩ = some (.int .i64 (cn f t)) | 4 => w'.cell? ⟨wc.heap.size + 1, 0, none⟩ = some (.int .i64 (cn d t)) | 8 => w'.cell? ⟨wc.heap.size + 2, 0, none⟩ = some (.int .i64 (cn (gm f d) t)) | _ => True) (by kernel_rfl) (by kernel_rfl) (by kernel_rfl) rfl (by kernel_rfl) (by kernel_rfl) (fun _ _ _ dd _ h => by cases dd <;> exact h) (by simp; exact ⟨cI, cJ, cK⟩) ?_
        repeat
          refine headE_step rfl rfl wv (fun K' hK' => ⟨?_, fun w' hw' => ?_, ?_⟩)
          rotate_left
          · try have hq0 : w'.cell? ⟨wc.heap.size, 0, none⟩ = some (.int .i64 (cn f t)) := hw'
            try have hq4 : w'.cell? ⟨wc.heap.size + 1, 0, none⟩ = some (.int .i64 (cn d t)) := hw'
            try have hq8 : w'.cell? ⟨wc.heap.size + 2, 0, none⟩ = some (.int .i64 (cn (gm f d) t)) := hw'
            go_simp
            first
              | done
              | rfl
          go_simp
          try go_bits
          refine hK' _ _ ?_
          clear hK' K'
        refine headE_nil ?_
        refine tailE_cons rfl rfl [4, 5, 6, 7, 8, 9, 10, 11, 12, 13, 14] (by kernel_rfl) (fun K' hK' => ?_)
        go_simp
        refine hK' _ _ (fun q hq => ?_) ?_
        · simp at hq
          rcases hq with rfl | rfl | rfl | rfl | rfl | rfl | rfl | rfl | rfl | rfl | rfl
          · show World.cell? _ _ = _
            go_simp
          · trivial
          · trivial
          · trivial
          · show World.cell? _ _ = _
            go_simp
          · trivial
          · trivial
          · trivial
          · trivial
          · trivial
          · trivial
        clear hK' K'
        refine tailE_cons rfl rfl [8, 9, 10, 11, 12, 13, 14] (by kernel_rfl) (fun K' hK' => ?_)
        go_simp
        refine hK' _ _ (fun q hq => ?_) ?_
        · simp at hq
          rcases hq with rfl | rfl | rfl | rfl | rfl | rfl | rfl
          · show World.cell? _ _ = _
            go_simp
          · trivial
          · trivial
          · trivial
          · trivial
          · trivial
          · trivial
        clear hK' K'
        refine tailE_cons rfl rfl [] (by kernel_rfl) (fun K' hK' => ?_)
        go_simp
        refine hK' _ _ (fun q hq => by cases hq) ?_
        clear hK' K'
        refine tailE_nil ?_
        have wjx : WJ w ab ao bb bo (w.heap.size + 3) g A Bx wc.heap.size w2.heap.size (cn (gm f d) 4) (sz (gm f d) 4) (NA (gm f d) u) (CA (mx f d) u) (AL f d u) (BL f d u) ((cn f t : Int) + (k : Int)) ((cn d t : Int) + (k : Int)) ((cn (gm f d) t : Int) + (k : Int)) (((wv.setCell ⟨wc.heap.size, 0, none⟩ (.int .i64 ((cn f t : Int) + (k : Int)))).setCell ⟨wc.heap.size + 1, 0, none⟩ (.int .i64 ((cn d t : Int) + (k : Int)))).setCell ⟨wc.heap.size + 2, 0, none⟩ (.int .i64 ((cn (gm f d) t : Int) + (k : Int)))).drew := (((WJV.out.setI hd _).setJ hd _).setK hd _).drewN 1
        have rsx : RS w.heap.size (wc.heap.size + 3) W (((wv.setCell ⟨wc.heap.size, 0, none⟩ (.int .i64 ((cn f t : Int) + (k : Int)))).setCell ⟨wc.heap.size + 1, 0, none⟩ (.int .i64 ((cn d t : Int) + (k : Int)))).setCell ⟨wc.heap.size + 2, 0, none⟩ (.int .i64 ((cn (gm f d) t : Int) + (k : Int)))).drew := (((rsv.set wc.heap.size 0 _ (by have := hd.wa; have := hd.az; omega) (by omega)).set (wc.heap.size + 1) 0 _ (by have := hd.wa; have := hd.az; omega) (by omega)).set (wc.heap.size + 2) 0 _ (by have := hd.wa; have := hd.az; omega) (by omega)).drewN 1
        clear cI cJ cK zI zJ zK WJV rsv
        generalize (((wv.setCell ⟨wc.heap.size, 0, none⟩ (.int .i64 ((cn f t : Int) + (k : Int)))).setCell ⟨wc.heap.size + 1, 0, none⟩ (.int .i64 ((cn d t : Int) + (k : Int)))).setCell ⟨wc.heap.size + 2, 0, none⟩ (.int .i64 ((cn (gm f d) t : Int) + (k : Int)))).drew = wx at wjx rsx ⊢
        have eI : (cn f u : Int) = (cn f t : Int) + (k : Int) := by omega
        have eJ : (cn d u : Int) = (cn d t : Int) + (k : Int) := by omega
        have eK : (cn (gm f d) u : Int) = (cn (gm f d) t : Int) + (k : Int) := by have := HGK.out; omega
        have wiu : WI w ab ao bb bo (w.heap.size + 3) g A Bx wc.heap.size w2.heap.size f d u wx := ⟨hu4, by rw [eI, eJ, eK]; exact wjx⟩
        have cA : wx.cell? ⟨A, 0, none⟩ = some (.int .i64 (AL f d u)) := by rw [cell_of_block wjx.la]; rfl
        have cB : wx.cell? ⟨Bx, 0, none⟩ = some (.int .i64 (BL f d u)) := by rw [cell_of_block wjx.lb]; rfl
        have HWU := hid wiu
        have HRU := hid rsx
        clear wjx rsx wiu eI eJ eK
        by_cases hA0 : AL f d u = 0
        · have hA1 : (AL f d u == 0) = true := by simpa using hA0
          have HA0 := hid hA0
          clear hA0
          gi_wp2_with fail
          exact ⟨HRU.out.1, rfl, HWU.out, .inl HA0.out⟩
        · have hA1 : (AL f d u == 0) = false := by simpa using hA0
          clear hA0
          by_cases hB0 : BL f d u = 0
          · have hB1 : (BL f d u == 0) = true := by simpa using hB0
            have HB0 := hid hB0
            clear hB0
            gi_wp2_with fail
            exact ⟨HRU.out.1, rfl, HWU.out, .inr HB0.out⟩
          · have hB1 : (BL f d u == 0) = false := by simpa using hB0
            clear hB0
            gi_wp2_with fail
            exact ⟨HRU.out.1, HRU.out.2, HWU.out⟩
      · obtain ⟨gb1, gb2, gb3⟩ := gm_a (f := f) (d := d) htu hu4 (fun q q1 q2 hh => by rw [hlack q q1 q2] at hh; cases hh)
        have hc1 := copyNodes2_any (w.heap.size + 3) g (cn (gm f d) 4) (sz (gm f d) 4) ab ao (cn f t) k W w _ _ _ _ HWI.out.2.cb HA.out (by omega) HWI.out.2.bw (by rw [cn_len]; omega) (by rw [lgt]; omega) (by omega) (by rw [cn_len]; omega) (by omega) (by omega)
        dsimp only [sl]
        gi_wp2_with fail
        refine ⟨trivial, (CallsIn.inRound l (callsIn_wide.2 hc1)).mono ?_⟩
        rintro e w7 ⟨rfl, hb7, hcb7, tf7⟩
        have hkk : cn f u - cn f t = k := by omega
        rw [hkk] at gb1 gb2
        rw [← gb1] at hcb7
        have hmb := mx_a (f := f) htu hu4 hlack
        rw [hkk] at hmb
        rw [← hmb] at hcb7
        have wj7 := HWI.out.2.copy tf7 hcb7 (hb7.mono (by omega))
        have rs7 := HWI.out.2.rs tf7 (hb7.mono (by omega))
        have cA : w7.cell? ⟨A, 0, none⟩ = some (.int .i64 (AL f d t)) := by rw [cell_of_block wj7.la]; rfl
        have zA := frozen_of_block wj7.la 0
        have hwr : wrap64 (AL f d t - (k : Int)) = AL f d u := by
          unfold AL wrap64
          omega
        have hbi : BL f d t = BL f d u := by unfold BL; omega
        rw [hbi] at wj7
        have wj8 := wj7.setA hd (AL f d u)
        have rs8 := rs7.set A 0 (.int .i64 (AL f d u)) hd.wa (by have := hd.az; omega)
        have HGK := hid (show cn (gm f d) u = cn (gm f d) t + k by omega)
        have q1 : (cn (gm f d) t : Int) ≤ (cn (gm f d) 4 : Int) := by omega
        have hne : cn (gm f d) 4 ≠ cn (gm f d) t := by omega
        have cC : w7.cell? ⟨w2.heap.size, 0, none⟩ = some (.slice (some ⟨g, 0, none⟩) (cn (gm f d) 4) (cn (gm f d) 4)) := by rw [cell_of_block wj7.co]; rfl
        have cK0 : w7.cell? ⟨wc.heap.size + 2, 0, none⟩ = some (.int .i64 (cn (gm f d) t)) := by rw [cell_of_block wj7.bk]; rfl
        clear hc1 d0 d1 d2 d3 d4 hb7 hcb7 tf7 gb1 gb2 gb3 hmb hkk hbi wj7 rs7
        have wjv := wj8
        have rsv := rs8
        have hA2 : w2.heap.size ≠ A := by have := hb3s; omega
        have hA4 : wc.heap.size + 2 ≠ A := by have := hd.az; omega
        clear wj8 rs8
        gi_wp2_with fail
        refine ⟨trivial, (CallsIn.inRound l (callsIn_wide.2 (raiseTo_nil _ _ _ _ _ _ (Nat.le_refl _)))).mono ?_⟩
        rintro e w9 ⟨rfl, rfl⟩
        clear cC cK0 q1 hne hA2 hA4 hwr cA zA
        generalize w7.setCell ⟨A, 0, none⟩ (.int .i64 (AL f d u)) = wv at wjv rsv ⊢
        gi_wp2_with fail
        have cI : wv.cell? ⟨wc.heap.size, 0, none⟩ = some (.int .i64 (cn f t)) := by rw [cell_of_block wjv.bi]; rfl
        have cJ : wv.cell? ⟨wc.heap.size + 1, 0, none⟩ = some (.int .i64 (cn d t)) := by rw [cell_of_block wjv.bj]; rfl
        have cK : wv.cell? ⟨wc.heap.size + 2, 0, none⟩ = some (.int .i64 (cn (gm f d) t)) := by rw [cell_of_block wjv.bk]; rfl
        have zI := frozen_of_block wjv.bi 0
        have zJ := frozen_of_block wjv.bj 0
        have zK := frozen_of_block wjv.bk 0
        have WJV := hid wjv
        clear wjv
        refine region_ER (fun ⟨_, _, h⟩ => h) [0, 1, 2, 3, 4, 5, 6, 7, 8, 9, 10, 11, 12, 13, 14] [15, 16, 17] 30 (fun i w' => match i with | 0 => w'.cell? ⟨wc.heap.size, 0, none⟩ = some (.int .i64 (cn f t)) | 4 => w'.cell? ⟨wc.heap.size + 1, 0, none⟩ = some (.int .i64 (cn d t)) | 8 => w'.cell? ⟨wc.heap.size + 2, 0, none⟩ = some (.int .i64 (cn (gm f d) t)) | _ => True) (by kernel_rfl) (by kernel_rfl) (by kernel_rfl) rfl (by kernel_rfl) (by kernel_rfl) (fun _ _ _ dd _ h => by cases dd <;> exact h) (by simp; exact ⟨cI, cJ, cK⟩) ?_
        repeat
          refine headE_step rfl rfl wv (fun K' hK' => ⟨?_, fun w' hw' => ?_, ?_⟩)
          rotate_left
          · try have hq0 : w'.cell? ⟨wc.heap.size, 0, none⟩ = some (.int .i64 (cn f t)) := hw'
            try have hq4 : w'.cell? ⟨wc.heap.size + 1, 0, none⟩ = some (.int .i64 (cn d t)) := hw'
            try have hq8 : w'.cell? ⟨wc.heap.size + 2, 0, none⟩ = some (.int .i64 (cn (gm f d) t)) := hw'
            go_simp
            first
              | done
              | rfl
          go_simp
          try go_bits
          refine hK' _ _ ?_
          clear hK' K'
        refine headE_nil ?_
        refine tailE_cons rfl rfl [4, 5, 6, 7, 8, 9, 10, 11, 12, 13, 14] (by kernel_rfl) (fun K' hK' => ?_)
        go_simp
        refine hK' _ _ (fun q hq => ?_) ?_
        · simp at hq
          rcases hq with rfl | rfl | rfl | rfl | rfl | rfl | rfl | rfl | rfl | rfl | rfl
          · show World.cell? _ _ = _
            go_simp
          · trivial
          · trivial
          · trivial
          · show World.cell? _ _ = _
            go_simp
          · trivial
          · trivial
          · trivial
          · trivial
          · trivial
          · trivial
        clear hK' K'
        refine tailE_cons rfl rfl [8, 9, 10, 11, 12, 13, 14] (by kernel_rfl) (fun K' hK' => ?_)
        go_simp
        refine hK' _ _ (fun q hq => ?_) ?_
        · simp at hq
          rcases hq with rfl | rfl | rfl | rfl | rfl | rfl | rfl
          · show World.cell? _ _ = _
            go_simp
          · trivial
          · trivial
          · trivial
          · trivial
          · trivial
          · trivial
        clear hK' K'
        refine tailE_cons rfl rfl [] (by kernel_rfl) (fun K' hK' => ?_)
        go_simp
        refine hK' _ _ (fun q hq => by cases hq) ?_
        clear hK' K'
        refine tailE_nil ?_
        have wjx : WJ w ab ao bb bo (w.heap.size + 3) g A Bx wc.heap.size w2.heap.size (cn (gm f d) 4) (sz (gm f d) 4) (NA (gm f d) u) (CA (mx f d) u) (AL f d u) (BL f d u) ((cn f t : Int) + (k : Int)) ((cn d t : Int)) ((cn (gm f d) t : Int) + (k : Int)) (((wv.setCell ⟨wc.heap.size, 0, none⟩ (.int .i64 ((cn f t : Int) + (k : Int)))).setCell ⟨wc.heap.size + 1, 0, none⟩ (.int .i64 ((cn d t : Int)))).setCell ⟨wc.heap.size + 2, 0, none⟩ (.int .i64 ((cn (gm f d) t : Int) + (k : Int)))).drew := (((WJV.out.setI hd _).setJ hd _).setK hd _).drewN 1
        have rsx : RS w.heap.size (wc.heap.size + 3) W (((wv.setCell ⟨wc.heap.size, 0, none⟩ (.int .i64 ((cn f t : Int) + (k : Int)))).setCell ⟨wc.heap.size + 1, 0, none⟩ (.int .i64 ((cn d t : Int)))).setCell ⟨wc.heap.size + 2, 0, none⟩ (.int .i64 ((cn (gm f d) t : Int) + (k : Int)))).drew := (((rsv.set wc.heap.size 0 _ (by have := hd.wa; have := hd.az; omega) (by omega)).set (wc.heap.size + 1) 0 _ (by have := hd.wa; have := hd.az; omega) (by omega)).set (wc.heap.size + 2) 0 _ (by have := hd.wa; have := hd.az; omega) (by omega)).drewN 1
        clear cI cJ cK zI zJ zK WJV rsv
        generalize (((wv.setCell ⟨wc.heap.size, 0, none⟩ (.int .i64 ((cn f t : Int) + (k : Int)))).setCell ⟨wc.heap.size + 1, 0, none⟩ (.int .i64 ((cn d t : Int)))).setCell ⟨wc.heap.size + 2, 0, none⟩ (.int .i64 ((cn (gm f d) t : Int) + (k : Int)))).drew = wx at wjx rsx ⊢
        have eI : (cn f u : Int) = (cn f t : Int) + (k : Int) := by omega
        have eJ : (cn d u : Int) = (cn d t : Int) := by omega
        have eK : (cn (gm f d) u : Int) = (cn (gm f d) t : Int) + (k : Int) := by have := HGK.out; omega
        have wiu : WI w ab ao bb bo (w.heap.size + 3) g A Bx wc.heap.size w2.heap.size f d u wx := ⟨hu4, by rw [eI, eJ, eK]; exact wjx⟩
        have cA : wx.cell? ⟨A, 0, none⟩ = some (.int .i64 (AL f d u)) := by rw [cell_of_block wjx.la]; rfl
        have cB : wx.cell? ⟨Bx, 0, none⟩ = some (.int .i64 (BL f d u)) := by rw [cell_of_block wjx.lb]; rfl
        have HWU := hid wiu
        have HRU := hid rsx
        clear wjx rsx wiu eI eJ eK
        by_cases hA0 : AL f d u = 0
        · have hA1 : (AL f d u == 0) = true := by simpa using hA0
          have HA0 := hid hA0
          clear hA0
          gi_wp2_with fail
          exact ⟨HRU.out.1, rfl, HWU.out, .inl HA0.out⟩
        · have hA1 : (AL f d u == 0) = false := by simpa using hA0
          clear hA0
          by_cases hB0 : BL f d u = 0
          · have hB1 : (BL f d u == 0) = true := by simpa using hB0
            have HB0 := hid hB0
            clear hB0
            gi_wp2_with fail
            exact ⟨HRU.out.1, rfl, HWU.out, .inr HB0.out⟩
          · have hB1 : (BL f d u == 0) = false := by simpa using hB0
            clear hB0
            gi_wp2_with fail
            exact ⟨HRU.out.1, HRU.out.2, HWU.out⟩
      · obtain ⟨gb1, gb2, gb3⟩ := gm_b (f := f) (d := d) htu hu4 hlack
        have hc1 := copyNodes2_any (w.heap.size + 3) g (cn (gm f d) 4) (sz (gm f d) 4) bb bo (cn d t) k W w _ _ _ _ HWI.out.2.cb HB.out (by omega) HWI.out.2.bw (by rw [cn_len]; omega) (by rw [lgt]; omega) (by omega) (by rw [cn_len]; omega) (by omega) (by omega)
        dsimp only [sl]
        gi_wp2_with fail
        refine ⟨trivial, (CallsIn.inRound l (callsIn_wide.2 hc1)).mono ?_⟩
        rintro e w7 ⟨rfl, hb7, hcb7, tf7⟩
        have hkk : cn d u - cn d t = k := by omega
        rw [hkk] at gb1 gb2
        rw [← gb1] at hcb7
        have hmb := mx_b (d := d) htu hu4 hlack
        rw [hkk] at hmb
        rw [← hmb] at hcb7
        have wj7 := HWI.out.2.copy tf7 hcb7 (hb7.mono (by omega))
        have rs7 := HWI.out.2.rs tf7 (hb7.mono (by omega))
        have cB : w7.cell? ⟨Bx, 0, none⟩ = some (.int .i64 (BL f d t)) := by rw [cell_of_block wj7.lb]; rfl
        have zB := frozen_of_block wj7.lb 0
        have hwr : wrap64 (BL f d t - (k : Int)) = BL f d u := by
          unfold BL wrap64
          omega
        have hai : AL f d t = AL f d u := by unfold AL; omega
        rw [hai] at wj7
        have WJ7 := hid wj7
        have HGK := hid (show cn (gm f d) u = cn (gm f d) t + k by omega)
        clear hc1 d0 d1 d2 d3 d4 hb7 hcb7 tf7 wj7 gb1 gb2 gb3 hmb hkk hai
        gi_wp2_with fail
        have wjv := WJ7.out.setB hd (BL f d u)
        have rsv := rs7.set Bx 0 (.int .i64 (BL f d u)) hd.wb (by have := hd.bz; omega)
        clear cB zB hwr
        generalize w7.setCell ⟨Bx, 0, none⟩ (.int .i64 (BL f d u)) = wv at wjv rsv ⊢
        have cI : wv.cell? ⟨wc.heap.size, 0, none⟩ = some (.int .i64 (cn f t)) := by rw [cell_of_block wjv.bi]; rfl
        have cJ : wv.cell? ⟨wc.heap.size + 1, 0, none⟩ = some (.int .i64 (cn d t)) := by rw [cell_of_block wjv.bj]; rfl
        have cK : wv.cell? ⟨wc.heap.size + 2, 0, none⟩ = some (.int .i64 (cn (gm f d) t)) := by rw [cell_of_block wjv.bk]; rfl
        have zI := frozen_of_block wjv.bi 0
        have zJ := frozen_of_block wjv.bj 0
        have zK := frozen_of_block wjv.bk 0
        have WJV := hid wjv
        clear wjv
        refine region_ER (fun ⟨_, _, h⟩ => h) [0, 1, 2, 3, 4, 5, 6, 7, 8, 9, 10, 11, 12, 13, 14] [15, 16, 17] 30 (fun i w' => match i with | 0 => w'.cell? ⟨wc.heap.size, 0, none⟩ = some (.int .i64 (cn f t)) | 4 => w'.cell? ⟨wc.heap.size + 1, 0, none⟩ = some (.int .i64 (cn d t)) | 8 => w'.cell? ⟨wc.heap.size + 2, 0, none⟩ = some (.int .i64 (cn (gm f d) t)) | _ => True) (by kernel_rfl) (by kernel_rfl) (by kernel_rfl) rfl (by kernel_rfl) (by kernel_rfl) (fun _ _ _ dd _ h => by cases dd <;> exact h) (by simp; exact ⟨cI, cJ, cK⟩) ?_
        repeat
          refine headE_step rfl rfl wv (fun K' hK' => ⟨?_, fun w' hw' => ?_, ?_⟩)
          rotate_left
          · try have hq0 : w'.cell? ⟨wc.heap.size, 0, none⟩ = some (.int .i64 (cn f t)) := hw'
            try have hq4 : w'.cell? ⟨wc.heap.size + 1, 0, none⟩ = some (.int .i64 (cn d t)) := hw'
            try have hq8 : w'.cell? ⟨wc.heap.size + 2, 0, none⟩ = some (.int .i64 (cn (gm f d) t)) := hw'
            go_simp
            first
              | done
              | rfl
          go_simp
          try go_bits
          refine hK' _ _ ?_
          clear hK' K'
        refine headE_nil ?_
        refine tailE_cons rfl rfl [4, 5, 6, 7, 8, 9, 10, 11, 12, 13, 14] (by kernel_rfl) (fun K' hK' => ?_)
        go_simp
        refine hK' _ _ (fun q hq => ?_) ?_
        · simp at hq
          rcases hq with rfl | rfl | rfl | rfl | rfl | rfl | rfl | rfl | rfl | rfl | rfl
          · show World.cell? _ _ = _
            go_simp
          · trivial
          · trivial
          · trivial
          · show World.cell? _ _ = _
            go_simp
          · trivial
          · trivial
          · trivial
          · trivial
          · trivial
          · trivial
        clear hK' K'
        refine tailE_cons rfl rfl [8, 9, 10, 11, 12, 13, 14] (by kernel_rfl) (fun K' hK' => ?_)
        go_simp
        refine hK' _ _ (fun q hq => ?_) ?_
        · simp at hq
          rcases hq with rfl | rfl | rfl | rfl | rfl | rfl | rfl
          · show World.cell? _ _ = _
            go_simp
          · trivial
          · trivial
          · trivial
          · trivial
          · trivial
          · trivial
        clear hK' K'
        refine tailE_cons rfl rfl [] (by kernel_rfl) (fun K' hK' => ?_)
        go_simp
        refine hK' _ _ (fun q hq => by cases hq) ?_
        clear hK' K'
        refine tailE_nil ?_
        have wjx : WJ w ab ao bb bo (w.heap.size + 3) g A Bx wc.heap.size w2.heap.size (cn (gm f d) 4) (sz (gm f d) 4) (NA (gm f d) u) (CA (mx f d) u) (AL f d u) (BL f d u) ((cn f t : Int)) ((cn d t : Int) + (k : Int)) ((cn (gm f d) t : Int) + (k : Int)) (((wv.setCell ⟨wc.heap.size, 0, none⟩ (.int .i64 ((cn f t : Int)))).setCell ⟨wc.heap.size + 1, 0, none⟩ (.int .i64 ((cn d t : Int) + (k : Int)))).setCell ⟨wc.heap.size + 2, 0, none⟩ (.int .i64 ((cn (gm f d) t : Int) + (k : Int)))).drew := (((WJV.out.setI hd _).setJ hd _).setK hd _).drewN 1
        have rsx : RS w.heap.size (wc.heap.size + 3) W (((wv.setCell ⟨wc.heap.size, 0, none⟩ (.int .i64 ((cn f t : Int)))).setCell ⟨wc.heap.size + 1, 0, none⟩ (.int .i64 ((cn d t : Int) + (k : Int)))).setCell ⟨wc.heap.size + 2, 0, none⟩ (.int .i64 ((cn (gm f d) t : Int) + (k : Int)))).drew := (((rsv.set wc.heap.size 0 _ (by have := hd.wa; have := hd.az; omega) (by omega)).set (wc.heap.size + 1) 0 _ (by have := hd.wa; have := hd.az; omega) (by omega)).set (wc.heap.size + 2) 0 _ (by have := hd.wa; have := hd.az; omega) (by omega)).drewN 1
        clear cI cJ cK zI zJ zK WJV rsv
        generalize (((wv.setCell ⟨wc.heap.size, 0, none⟩ (.int .i64 ((cn f t : Int)))).setCell ⟨wc.heap.size + 1, 0, none⟩ (.int .i64 ((cn d t : Int) + (k : Int)))).setCell ⟨wc.heap.size + 2, 0, none⟩ (.int .i64 ((cn (gm f d) t : Int) + (k : Int)))).drew = wx at wjx rsx ⊢
        have eI : (cn f u : Int) = (cn f t : Int) := by omega
        have eJ : (cn d u : Int) = (cn d t : Int) + (k : Int) := by omega
        have eK : (cn (gm f d) u : Int) = (cn (gm f d) t : Int) + (k : Int) := by have := HGK.out; omega
        have wiu : WI w ab ao bb bo (w.heap.size + 3) g A Bx wc.heap.size w2.heap.size f d u wx := ⟨hu4, by rw [eI, eJ, eK]; exact wjx⟩
        have cA : wx.cell? ⟨A, 0, none⟩ = some (.int .i64 (AL f d u)) := by rw [cell_of_block wjx.la]; rfl
        have cB : wx.cell? ⟨Bx, 0, none⟩ = some (.int .i64 (BL f d u)) := by rw [cell_of_block wjx.lb]; rfl
        have HWU := hid wiu
        have HRU := hid rsx
        clear wjx rsx wiu eI eJ eK
        by_cases hA0 : AL f d u = 0
        · have hA1 : (AL f d u == 0) = true := by simpa using hA0
          have HA0 := hid hA0
          clear hA0
          gi_wp2_with fail
          exact ⟨HRU.out.1, rfl, HWU.out, .inl HA0.out⟩
        · have hA1 : (AL f d u == 0) = false := by simpa using hA0
          clear hA0
          by_cases hB0 : BL f d u = 0
          · have hB1 : (BL f d u == 0) = true := by simpa using hB0
            have HB0 := hid hB0
            clear hB0
            gi_wp2_with fail
            exact ⟨HRU.out.1, rfl, HWU.out, .inr HB0.out⟩
          · have hB1 : (BL f d u == 0) = false := by simpa using hB0
            clear hB0
            gi_wp2_with fail
            exact ⟨HRU.out.1, HRU.out.2, HWU.out⟩
    case fin =>
      rintro D t W hD wi hC hK
      have ht := wi.1
      have d0 : W.cell? ⟨w.heap.size, 0, none⟩ = some (.pointer (some ⟨ab, ao, none⟩)) := by rw [cell_of_block wi.2.pa]; rfl
      have d1 : W.cell? ⟨w.heap.size + 1, 0, none⟩ = some (.pointer (some ⟨bb, bo, none⟩)) := by rw [cell_of_block wi.2.pb]; rfl
      have d2 : W.cell? ⟨wc.heap.size, 0, none⟩ = some (.int .i64 (cn f t)) := by rw [cell_of_block wi.2.bi]; rfl
      have d3 : W.cell? ⟨wc.heap.size + 1, 0, none⟩ = some (.int .i64 (cn d t)) := by rw [cell_of_block wi.2.bj]; rfl
      have dA : W.cell? ⟨A, 0, none⟩ = some (.int .i64 (AL f d t)) := by rw [cell_of_block wi.2.la]; rfl
      have HCB0 := hid wi.2.cb
      have HCO := hid wi.2.co
      have HBK := hid wi.2.bk
      have HRE := hid wi.2.re
      have HBW := hid wi.2.bw
      have HC := hid hC
      have HK := hid hK
      clear wi wi0 ok6 hC hK
      gi_wp2_with fail
      go_upto_region 18 with fail
      go_quiet (fail)
      go_upto_if 99 with fail
      go_cut [18, 19, 20, 21] from 100 to 103 (fun v18 v19 v20 v21 ws => ∃ (R S : Nat → Int) (rb ro sb so : Nat), v18 = .pointer (some ⟨rb, ro, none⟩) ∧ v19 = .int .i64 (cn R t) ∧ v20 = .pointer (some ⟨sb, so, none⟩) ∧ v21 = .int .i64 (cn S t) ∧ mx R S = mx f d ∧ Sub R S t ∧ ClkAt w rb ro (NA R 4) (CA R 4) ∧ ClkAt w sb so (NA S 4) (CA S 4) ∧ ∃ q, ws = W.drewN q)
      case first =>
        by_cases hp : 0 < AL f d t
        · have hs : Sub f d t := by
            rcases HC.out with h | h
            · omega
            · exact BL_none ht h
          go_upto_region 20 with fail
          go_quiet (fail)
          go_wp2_with fail
          go_meet
          exact ⟨f, d, ab, ao, bb, bo, rfl, rfl, rfl, rfl, rfl, hs, HA.out, HB.out, _, World.drewN_drewN _ _ _⟩
        · have hs : Sub d f t := AL_none ht (by have := AL_pos f d ht; omega)
          go_wp2_with fail
          go_meet
          exact ⟨d, f, bb, bo, ab, ao, rfl, rfl, rfl, rfl, mx_comm _ _, hs, HB.out, HA.out, _, rfl⟩
      case rest =>
        obtain ⟨R, S, rb, ro, sb, so, rfl, rfl, rfl, rfl, hmx, hsub, hR, hS, q, rfl⟩ := hcut
        have hbW : Below w.heap.size w (W.drewN q) := below_drewN HBW.out q
        obtain ⟨xo1, xn1, xc1, yo1, yn1, yc1, r0, r1, r2, r3⟩ := hR.below hbW
        obtain rfl := r3.len
        rw [cn_len] at r2
        have HR := hid hR
        have HS := hid hS
        have HSUB := hid hsub
        have HMX := hid hmx
        have cR4 := cn_mono R ht
        have cgt := cn_mono (gm f d) ht
        have hR4 := cn_le R 4
        clear r3 hR hS hsub hmx d0 d1 d2 d3 dA hbW
        go_wp2_with fail
        refine (len_any _ _ _ _ _ _ _ _).mono ?_
        rintro e w7 ⟨rfl, hb7⟩
        have hb7W : Below W.heap.size W w7 := (below_drewN (Below.refl _ W) q).trans hb7
        have hbw7 : Below w.heap.size w w7 := HBW.out.trans (hb7W.mono HBW.out.size)
        have hszg : sz (gm f d) 4 = sz (mx f d) 4 := by unfold sz; rw [NA_gm]
        have hcb7 := HCB0.out.below hb7W
        rw [NA_gm, cn_gm, hszg, ← HMX.out] at hcb7
        have hcp := tail_copy (w.heap.size + 3) g rb ro t R S w7 w hcb7 HR.out (by omega) hbw7 ht HSUB.out
        have HCO7 := hid ((hb7W.block _ (block_lt HCO.out)).trans HCO.out)
        have HBK7 := hid ((hb7W.block _ (block_lt HBK.out)).trans HBK.out)
        have HRE7 := hid ((hb7W.block _ (block_lt HRE.out)).trans HRE.out)
        have HK7 := hid ((hb7W.block _ (block_lt HK.out)).trans HK.out)
        clear r0 r1 r2 hszg hcb7 hb7 hb7W HCO HBK HRE HK
        go_wp2_with fail
        rw [show (cn R 4 : Int) - (cn R t : Int) = ((cn R 4 - cn R t : Nat) : Int) by omega]
        refine hcp.mono ?_
        rintro e w8 ⟨rfl, hb8, hcb8, tf8⟩
        have cC := cell0 (tf8 _ _ HCO7.out (fun cs e fr he => by cases he; decide))
        have cK0 := cell0 (tf8 _ _ HBK7.out (fun cs e fr he => by cases he; decide))
        have HRE8 := hid (tf8 _ _ HRE7.out (fun cs e fr he => by cases he; decide))
        have HK8 := hid (tf8 _ _ HK7.out (fun cs e fr he => by cases he))
        have hbw8 : Below w.heap.size w w8 := hbw7.trans (hb8.mono (by omega))
        have hrr := tail_raise (w.heap.size + 3) g rb ro sb so t R S w8 w hcb8 HR.out HS.out (by omega) hbw8 ht HSUB.out
        rw [HMX.out, ← cn_gm f d 4, ← cn_gm f d t] at hrr
        have q1 : (cn (gm f d) t : Int) ≤ (cn (gm f d) 4 : Int) := by omega
        have HR0 : Hid (cn (gm f d) 4 = cn (gm f d) t → Calls Yba.prog 76 #[.slice (some ⟨g, 0, none⟩) 0 0, .pointer (some ⟨rb, ro, none⟩), .int .i64 (cn R t), .pointer (some ⟨sb, so, none⟩), .int .i64 (cn S t)] w8 fun e w' => e = .returned (.tuple #[]) ∧ Below (w.heap.size + 3) w8 w' ∧ CB w' (w.heap.size + 3) g (cn (gm f d) 4) (sz (mx f d) 4) (NA (mx f d) 4) (CA (mx f d) 4) ∧ Tf w8 w') := hid (fun h0 => by
          rw [if_pos h0, show cn (gm f d) 4 - cn (gm f d) t = 0 by omega] at hrr
          exact hrr)
        have HR1 : Hid (¬ cn (gm f d) 4 = cn (gm f d) t → Calls Yba.prog 76 #[.slice (some ⟨g, cn (gm f d) t, none⟩) (cn (gm f d) 4 - cn (gm f d) t) (cn (gm f d) 4 - cn (gm f d) t), .pointer (some ⟨rb, ro, none⟩), .int .i64 (cn R t), .pointer (some ⟨sb, so, none⟩), .int .i64 (cn S t)] w8 fun e w' => e = .returned (.tuple #[]) ∧ Below (w.heap.size + 3) w8 w' ∧ CB w' (w.heap.size + 3) g (cn (gm f d) 4) (sz (mx f d) 4) (NA (mx f d) 4) (CA (mx f d) 4) ∧ Tf w8 w') := hid (fun h0 => by
          rw [if_neg h0] at hrr
          exact hrr)
        clear hcp hb8 hcb8 tf8 hbw7 HCO7 HBK7 HRE7 HK7 hrr
        go_wp2_with fail
        all_goals
          have HIF := hid h
          clear h
          first
            | refine (HR0.out HIF.out).mono ?_
            | refine (HR1.out HIF.out).mono ?_
          clear HIF HR0 HR1
          rintro e w9 ⟨rfl, hb9, hcb9, tf9⟩
          have HRE9 := hid (tf9 _ _ HRE8.out (fun cs e fr he => by cases he; decide))
          have HK9 := hid (tf9 _ _ HK8.out (fun cs e fr he => by cases he))
          have hbw9 : Below w.heap.size w w9 := hbw8.trans (hb9.mono (by omega))
          have lN : (NA (mx f d) 4).length = cn (gm f d) 4 := by rw [NA_length, cn_gm]
          have hck := clock2_any (w.heap.size + 3) g (cn (gm f d) 4) w9 (NA (mx f d) 4) (CA (mx f d) 4) hcb9 hnpos (by omega) lN (by have := NA_cat (mx f d) 4 (Nat.le_refl _); omega)
          have HLN := hid lN
          clear hb9 hcb9 tf9 cC cK0 q1 hbw8 HRE8 HK8 lN
          go_wp2_with fail
          refine hck.mono ?_
          rintro e w10 ⟨rfl, hb10, hg10, tf10⟩
          have hre := tf10 _ _ HRE9.out (fun cs e fr he => by cases he; decide)
          have hdd := tf10 _ _ HK9.out (fun cs e fr he => by cases he)
          have hbw10 : Below w.heap.size w w10 := hbw9.trans (hb10.mono (by omega))
          have z0 := frozen_of_block hre 0
          have z1 := frozen_of_block hre 1
          have z2 := frozen_of_block hre 2
          have u0 : w10.cell? ⟨w.heap.size + 2, 0, none⟩ = some (.string ⟨#[]⟩) := by rw [cell_of_block hre]; rfl
          have u1 : w10.cell? ⟨w.heap.size + 2, 1, none⟩ = some (.slice none 0 0) := by rw [cell_of_block hre]; rfl
          have u2 : w10.cell? ⟨w.heap.size + 2, 2, none⟩ = some (.slice none 0 0) := by rw [cell_of_block hre]; rfl
          have HCKK := hid ((clk_of_laid w10 g (cn (gm f d) 4) (NA (mx f d) 4) (CA (mx f d) 4) hg10 HLN.out (by rw [CA_length, NA_length]) hnpos (by omega)).setRes hre (.string (cat (NA (mx f d) 4))) (.slice (some ⟨g, cn (gm f d) 4, none⟩) (cn (gm f d) 4 + 1) (cn (gm f d) 4 + 1)) (.slice (some ⟨g, 0, none⟩) (cn (gm f d) 4) (cn (gm f d) 4)))
          have HB10 := hid hbw10
          have HDD := hid hdd
          have HRB := hid hre
          clear hck hb10 hg10 tf10 hbw9 hbw10 hre hdd
          go_wp2_with fail
          have hF1 : ((((w10.setCell ⟨w.heap.size + 2, 0, none⟩ (.string (cat (NA (mx f d) 4)))).setCell ⟨w.heap.size + 2, 1, none⟩ (.slice (some ⟨g, cn (gm f d) 4, none⟩) (cn (gm f d) 4 + 1) (cn (gm f d) 4 + 1))).setCell ⟨w.heap.size + 2, 2, none⟩ (.slice (some ⟨g, 0, none⟩) (cn (gm f d) 4) (cn (gm f d) 4)))).heap[w.heap.size + 2]? = some (.cells #[.string (cat (NA (mx f d) 4)), .slice (some ⟨g, cn (gm f d) 4, none⟩) (cn (gm f d) 4 + 1) (cn (gm f d) 4 + 1), .slice (some ⟨g, 0, none⟩) (cn (gm f d) 4) (cn (gm f d) 4)] 27) := by
            have e1 := set_block HRB.out (j := 0) (v := .string (cat (NA (mx f d) 4)))
            have e2 := set_block e1 (j := 1) (v := .slice (some ⟨g, cn (gm f d) 4, none⟩) (cn (gm f d) 4 + 1) (cn (gm f d) 4 + 1))
            have e3 := set_block e2 (j := 2) (v := .slice (some ⟨g, 0, none⟩) (cn (gm f d) 4) (cn (gm f d) 4))
            exact e3
          have hDne : D ≠ w.heap.size + 2 := by
            rintro rfl
            have a := HDD.out
            rw [HRB.out] at a
            cases a
          have hF2 : ((((w10.setCell ⟨w.heap.size + 2, 0, none⟩ (.string (cat (NA (mx f d) 4)))).setCell ⟨w.heap.size + 2, 1, none⟩ (.slice (some ⟨g, cn (gm f d) 4, none⟩) (cn (gm f d) 4 + 1) (cn (gm f d) 4 + 1))).setCell ⟨w.heap.size + 2, 2, none⟩ (.slice (some ⟨g, 0, none⟩) (cn (gm f d) 4) (cn (gm f d) 4)))).heap[D]? = some (.deferred (some [])) := by
            rw [set_other _ hDne, set_other _ hDne, set_other _ hDne]
            exact HDD.out
          have hF3 : Below w.heap.size w (((w10.setCell ⟨w.heap.size + 2, 0, none⟩ (.string (cat (NA (mx f d) 4)))).setCell ⟨w.heap.size + 2, 1, none⟩ (.slice (some ⟨g, cn (gm f d) 4, none⟩) (cn (gm f d) 4 + 1) (cn (gm f d) 4 + 1))).setCell ⟨w.heap.size + 2, 2, none⟩ (.slice (some ⟨g, 0, none⟩) (cn (gm f d) 4) (cn (gm f d) 4))) := ((HB10.out.setCell (p := ⟨w.heap.size + 2, 0, none⟩) (by show w.heap.size ≤ w.heap.size + 2; omega) _).setCell (p := ⟨w.heap.size + 2, 1, none⟩) (by show w.heap.size ≤ w.heap.size + 2; omega) _).setCell (p := ⟨w.heap.size + 2, 2, none⟩) (by show w.heap.size ≤ w.heap.size + 2; omega) _
          have hF4 := HCKK.out
          clear z0 z1 z2 u0 u1 u2
          generalize ((w10.setCell ⟨w.heap.size + 2, 0, none⟩ (.string (cat (NA (mx f d) 4)))).setCell ⟨w.heap.size + 2, 1, none⟩ (.slice (some ⟨g, cn (gm f d) 4, none⟩) (cn (gm f d) 4 + 1) (cn (gm f d) 4 + 1))).setCell ⟨w.heap.size + 2, 2, none⟩ (.slice (some ⟨g, 0, none⟩) (cn (gm f d) 4) (cn (gm f d) 4)) = F at hF1 hF2 hF3 hF4 ⊢
          refine ⟨by simp, .inl ⟨_, _, rfl, run_takeDeferred hF2, ?_⟩⟩
          have hDw : w.heap.size ≤ D := by have := hbwc.size; omega
          have hG1 : (F.putObj D (.deferred none)).heap[w.heap.size + 2]? = _ := (World.putObj_heap_other (by omega)).trans hF1
          have hG3 : Below w.heap.size w (F.putObj D (.deferred none)) := hF3.trans ⟨rfl, rfl, rfl, by simp [World.putObj], fun k hk => World.putObj_heap_other (by omega)⟩
          have hG4 := hF4.cellsK (w' := F.putObj D (.deferred none)) (by simp [World.putObj]) (fun k cs e fr hk => by
            rw [World.putObj_heap_other (by rintro rfl; rw [hF2] at hk; cases hk)]
            exact hk)
          have c0 : (F.putObj D (.deferred none)).cell? ⟨w.heap.size + 2, 0, none⟩ = some (.string (cat (NA (mx f d) 4))) := by rw [cell_of_block hG1]; rfl
          have c1 : (F.putObj D (.deferred none)).cell? ⟨w.heap.size + 2, 1, none⟩ = some (.slice (some ⟨g, cn (gm f d) 4, none⟩) (cn (gm f d) 4 + 1) (cn (gm f d) 4 + 1)) := by rw [cell_of_block hG1]; rfl
          have c2 : (F.putObj D (.deferred none)).cell? ⟨w.heap.size + 2, 2, none⟩ = some (.slice (some ⟨g, 0, none⟩) (cn (gm f d) 4) (cn (gm f d) 4)) := by rw [cell_of_block hG1]; rfl
          generalize F.putObj D (.deferred none) = G at hG1 hG3 hG4 c0 c1 c2 ⊢
          refine ⟨.agg #[.string (cat (NA (mx f d) 4)), .slice (some ⟨g, cn (gm f d) 4, none⟩) (cn (gm f d) 4 + 1) (cn (gm f d) 4 + 1), .slice (some ⟨g, 0, none⟩) (cn (gm f d) 4) (cn (gm f d) 4)], by simp [results, Yba.results65, go_sem, c0, c1, c2], ⟨_, _, _, _, _, _, rfl, hG4⟩, hG3⟩
end Go.Proofs.Ybulkgey
