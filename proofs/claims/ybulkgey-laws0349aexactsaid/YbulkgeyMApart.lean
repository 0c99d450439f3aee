/- (*mergeWalk).apart: the walk. -/
import Derived.Test.YbulkgeyMGm
namespace Go.Proofs.Ybulkgey
open Go.RowKit
set_option linter.unusedVariables false

/-- What a merge answers. -/
def MergedTo (f d : Nat → Int) (e : Ending) (w' : World) : Prop := ∃ p n c q k z, e = .returned (.agg #[.string (cat (NA (mx f d) 4)), .slice p n c, .slice q k z]) ∧ Clk w' (.slice p n c) (.slice q k z) (NA (mx f d) 4) (CA (mx f d) 4)
theorem sz_def (f : Nat → Int) : (cat (NA f 4)).size = sz f 4 := rfl

theorem CB.below {w w' : World} {b g n idb : Nat} {Ns : List ByteArray} {Cs : List Int} (h : CB w b g n idb Ns Cs) (hb : Below w.heap.size w w') : CB w' b g n idb Ns Cs := by
  obtain ⟨p, buf, hp, hbg, h1, h2, h3, h4, h5⟩ := h
  exact ⟨p, buf, hp, hbg, (hb.block _ (block_lt h1)).trans h1, (hb.block _ (block_lt h2)).trans h2, h3.keptIn (b := b) (B := 0) (by omega) (fun k _ hk => hb.block k hk), h4, h5⟩
theorem recNat {f d : Nat → Int} {L : Nat → Int} {rs : List (Nat × Nat)} (h : Lone f d L rs) {k p q : Nat} (hk : rs[k]? = some (p, q)) (hpq : p ≤ q) (hq : q ≤ 4) : L (4 * k) = (cn f p : Nat) ∧ L (4 * k + 1) = (cn d p : Nat) ∧ L (4 * k + 2) = (cn f q - cn f p : Nat) ∧ L (4 * k + 3) = (cn d q - cn d p : Nat) := by
  obtain ⟨h0, h1, h2, h3⟩ := h k (p, q) hk
  have := cn_mono f hpq
  have := cn_mono d hpq
  exact ⟨h0, h1, by rw [h2]; simp; omega, by rw [h3]; simp; omega⟩

/-- A row of counters does not lie in the result's block. -/
theorem Row.setRes {w : World} {v : Value} {xs : List Value} {R : Nat} {a : ByteArray} {p q : Option Addr} {n1 c1 n2 c2 : Nat} (h : Row w v xs) (hx : ∀ x ∈ xs, ∃ n, x = .int .u64 n) (hR : w.heap[R]? = some (.cells #[.string a, .slice p n1 c1, .slice q n2 c2] 27)) (x y z : Value) :
    Row (((w.setCell ⟨R, 0, none⟩ x).setCell ⟨R, 1, none⟩ y).setCell ⟨R, 2, none⟩ z) v xs := by
  rcases h with ⟨rfl, h⟩ | ⟨g, o, cap, rfl, hg, hc, hm, hcell⟩
  · exact .inl ⟨rfl, h⟩
  · refine .inr ⟨g, o, cap, rfl, by simpa using hg, hc, hm, fun j hj => ?_⟩
    have hne : g ≠ R := by
      rintro rfl
      have e := hcell j hj
      rw [cell_of_block hR] at e
      obtain ⟨n, hn⟩ := hx _ (List.getElem_mem hj)
      rw [List.getElem?_eq_getElem hj, hn] at e
      match o + j, e with
      | 0, e => simp at e
      | 1, e => simp at e
      | 2, e => simp at e
      | k + 3, e => simp at e
    rw [← hcell j hj]
    exact World.cell?_of_block (w := w) (by
      show ((World.setCell _ _ _).heap[g]?) = _
      rw [Below.heap_setCell _ _ _ _ (by show g ≠ R; exact hne), Below.heap_setCell _ _ _ _ (by show g ≠ R; exact hne), Below.heap_setCell _ _ _ _ (by show g ≠ R; exact hne)])
theorem Clk.setRes {w : World} {offs ctrs : Value} {N : List ByteArray} {C : List Int} {R : Nat} {a : ByteArray} {p q : Option Addr} {n1 c1 n2 c2 : Nat} (h : Clk w offs ctrs N C) (hR : w.heap[R]? = some (.cells #[.string a, .slice p n1 c1, .slice q n2 c2] 27)) (x y z : Value) :
    Clk (((w.setCell ⟨R, 0, none⟩ x).setCell ⟨R, 1, none⟩ y).setCell ⟨R, 2, none⟩ z) offs ctrs N C :=
  ⟨h.1.setRes (by intro x hx; simp only [ints, List.mem_map] at hx; obtain ⟨n, _, rfl⟩ := hx; exact ⟨n, rfl⟩) hR x y z, h.2.1, h.2.2.imp id fun k => ⟨k.1, k.2.setRes (by intro x hx; simp only [u64s, List.mem_map] at hx; obtain ⟨n, _, rfl⟩ := hx; exact ⟨n, rfl⟩) hR x y z⟩⟩

set_option maxRecDepth 100000 in
set_option maxHeartbeats 8000000 in
theorem apart_any (w : World) (m ab ao bb bo : Nat) (f d : Nat → Int) (s ib : Nat) (aA bA : Bool) (L : Nat → Int) (rs : List (Nat × Nat)) (hA : ClkAt w ab ao (NA f 4) (CA f 4)) (hB : ClkAt w bb bo (NA d 4) (CA d 4))
    (hm : w.heap[m]? = some (.cells (mrec s ib aA bA L rs.length) 86)) (hF : Fact f d 4 s ib aA bA L rs) (hpf : 0 < cn f 4) (hpd : 0 < cn d 4)
    (hWA : ∀ W, Below w.heap.size w W → Calls Yba.prog 65 #[.pointer (some ⟨ab, ao, none⟩), .pointer (some ⟨bb, bo, none⟩), .int .i64 (cn (mx f d) 4), .int .i64 (sz (mx f d) 4)] W fun e w' => MergedTo f d e w' ∧ Below W.heap.size W w') :
    Calls Yba.prog 41 #[.pointer (some ⟨m, 0, none⟩), .pointer (some ⟨ab, ao, none⟩), .pointer (some ⟨bb, bo, none⟩)] w fun e w' => MergedTo f d e w' ∧ Below w.heap.size w w' := by
  have hmlt := block_lt hm
  obtain ⟨f1, f2, -, -, hruns, hrl, hlone, -, -⟩ := hF
  have hsz : sz (gm f d) 4 = sz (mx f d) 4 := by unfold sz; rw [NA_gm]
  have hib : ib = sz (gm f d) 4 := by omega
  rw [← hsz, ← cn_gm] at hWA
  rw [← cn_gm] at f1
  subst hib
  subst f1
  clear f2 hsz
  have hnm := cn_le (gm f d) 4
  have hszm : sz (gm f d) 4 ≤ 8 := NA_cat (gm f d) 4 (Nat.le_refl _)
  have hnpos : 1 ≤ cn (gm f d) 4 := by
    have := Sub.cn_le (f := gm f d) (d := f) (s := 0) (u := 4) (fun k _ _ hh => by rw [has_gm, hh]; rfl) (by omega)
    rw [cn_zero, cn_zero] at this
    omega
  have c12 : w.cell? ⟨m, 12, none⟩ = some (.int .i64 rs.length) := by rw [cell_of_block hm]; rfl
  have HMC : Hid (∀ W, Below w.heap.size w W → W.cell? ⟨m, 0, none⟩ = some (.int .i64 (cn (gm f d) 4)) ∧ W.cell? ⟨m, 1, none⟩ = some (.int .i64 (sz (gm f d) 4)) ∧ W.cell? ⟨m, 12, none⟩ = some (.int .i64 rs.length)) := fun W hbW =>
    ⟨cell_later hbW (by rw [cell_of_block hm]; rfl), cell_later hbW (by rw [cell_of_block hm]; rfl), cell_later hbW c12⟩
  have HK : Hid (∀ W, Below w.heap.size w W → Calls Yba.prog 62 #[.pointer (some ⟨m, 0, none⟩), .pointer (some ⟨ab, ao, none⟩), .pointer (some ⟨bb, bo, none⟩)] W fun e w' => e = .returned (.bool (decide (rs.length ≤ 2))) ∧ Below W.heap.size W w') := fun W hbW =>
    kept_any W m ab ao bb bo rs.length _ _ _ _ (hA.below hbW) (hB.below hbW) (by have := NA_len f 4; omega) (by have := NA_len d 4; omega) (cell_later hbW c12)
  have HA := hid hA
  have HB := hid hB
  have HM := hid hm
  have HR := hid hruns
  have HL := hid hlone
  have HWA := hid hWA
  clear hA hB hm hruns hlone c12 hWA
  go_enter Yba.func41, Yba.ntmps41
  go_wp2_with fail
  refine (HK.out _ (below_alloc w _ _ (Nat.le_refl _))).mono ?_
  rintro e w1 ⟨rfl, hb1⟩
  have hres : w1.heap[w.heap.size]? = some (.cells #[.string ⟨#[]⟩, .slice none 0 0, .slice none 0 0] 27) := by rw [hb1.block _ (by simp)]; exact heap_new_at _ _ rfl
  have hbw1 : Below w.heap.size w w1 := (below_alloc w _ _ (Nat.le_refl _)).trans (hb1.mono (by simp))
  have hw1s : w.heap.size < w1.heap.size := block_lt hres
  clear hb1 HK
  by_cases hn2 : rs.length ≤ 2
  · rw [decide_eq_true hn2]
    go_upto_region 4 with fail
    have hbn : (w1.alloc (.cells #[.pointer none, .slice none 0 0, .slice none 0 0, .slice none 0 0, .int .i64 0] 68)).heap[w1.heap.size]? = some (.cells #[.pointer none, .slice none 0 0, .slice none 0 0, .slice none 0 0, .int .i64 0] 68) := heap_new_at _ _ rfl
    have hbw2 : Below w1.heap.size w1 (w1.alloc (.cells #[.pointer none, .slice none 0 0, .slice none 0 0, .slice none 0 0, .int .i64 0] 68)) := below_alloc _ _ _ (Nat.le_refl _)
    generalize w1.alloc (.cells #[.pointer none, .slice none 0 0, .slice none 0 0, .slice none 0 0, .int .i64 0] 68) = w2 at hbn hbw2 ⊢
    obtain ⟨c0, c1, c12⟩ := HMC.out w2 (hbw1.trans (hbw2.mono hbw1.size))
    have hgrow := grow_any w1.heap.size (cn (gm f d) 4) (sz (gm f d) 4) w2.drew hbn hnpos (by omega) (by omega)
    refine wp_region_D [0, 1, 2, 3, 4, 5, 6, 7] [8] 30 (fun w' => w' = w2.drew) (by kernel_rfl) (by kernel_rfl) rfl (by kernel_rfl) (fun _ _ _ dd _ h => by cases dd <;> exact h) rfl ?_
    repeat
      refine wpHeadD_step rfl rfl w2 (fun K' hK' => ⟨?_, fun w' hw' => ?_, ?_⟩)
      rotate_left
      · obtain rfl := hw'
        go_simp
        first
          | done
          | rfl
      go_simp
      try go_bits
      refine hK' _ _ ?_
      clear hK' K'
    refine wpHeadD_nil ?_
    refine wpTailD_lone (by kernel_rfl) rfl rfl (fun K' hK' => ?_)
    go_simp
    refine hgrow.mono ?_
    rintro e w3 ⟨rfl, hb3, g, hg3, hcb⟩
    dsimp only
    refine hK' _ _ ?_
    clear hK' K' hgrow
    refine wpTailD_nil ?_
    have hbw13 : Below w1.heap.size w1 w3 := (hbw2.drew).trans hb3
    have hgw1 : w1.heap.size < g := Nat.lt_of_lt_of_le (block_lt hbn) hg3
    clear hbw2 hb3 hbn c0 c1 c12 hg3
    obtain ⟨-, -, c12⟩ := HMC.out w3 (hbw1.trans (hbw13.mono (by omega)))
    have hn2' : (rs.length : Int) ≤ 2 := by omega
    go_upto_region 6 with fail
    go_quiet (fail)
    have HRES := hid hres
    have HBW1 := hid hbw1
    have HN2 := hid hn2
    have hcb0 : CB (w3.drewN nq) w1.heap.size g (cn (gm f d) 4) (sz (gm f d) 4) (NA (gm f d) 0) (CA (gm f d) 0) := hcb
    have hb0 : Below w1.heap.size w1 (w3.drewN nq) := below_drewN hbw13 nq
    clear c12 hcb hbw13 hres hbw1 hn2
    go_wp2_with fail
    go_loopw [8, 50] (fun v8 vk wr => ∃ k t s0 : Nat, k ≤ rs.length ∧ s0 ≤ t ∧ t ≤ 4 ∧ v8 = .int .i64 (cn f s0 : Nat) ∧ vk = .int .i64 k ∧ Runs f d t (rs.drop k) 4 ∧ (∀ x, s0 ≤ x → x < t → has d x = true → has f x = true) ∧
      CB wr w1.heap.size g (cn (gm f d) 4) (sz (gm f d) 4) (NA (gm f d) s0) (CA (gm f d) s0) ∧ Below w1.heap.size w1 wr) (fun v8 vk wr => rs.length - (intOf vk).toNat)
    case atStart => exact ⟨0, 0, 0, by omega, by omega, by omega, by rw [cn_zero]; rfl, rfl, HR.out, fun x h1 h2 => by omega, hcb0, hb0⟩
    case round =>
      clear hcb0 hb0
      obtain ⟨k, t, s0, hk1, hs0t, ht, rfl, rfl, hrn, hsub, hcb, hbr⟩ := hrel
      have HRN := hid hrn
      have HSUB := hid hsub
      have HCBr := hid hcb
      have hbwr : Below w.heap.size w wr := HBW1.out.trans (hbr.mono (by omega))
      have hrlt : w1.heap.size < wr.heap.size := by obtain ⟨p0, buf0, _, _, h1, _⟩ := hcb; exact block_lt h1
      clear hrn hsub hcb
      have cf4 := cn_le f 4
      have cd4 := cn_le d 4
      by_cases hlt : k < rs.length
      · have hlt' : (k : Int) < (rs.length : Int) := by omega
        obtain ⟨pq, hpq⟩ : ∃ pq, rs[k]? = some pq := ⟨_, List.getElem?_eq_getElem hlt⟩
        have hdrop : rs.drop k = pq :: rs.drop (k + 1) := by
          rw [List.drop_eq_getElem_cons hlt]
          congr 1
          rw [List.getElem?_eq_getElem hlt] at hpq
          exact Option.some.inj hpq
        obtain ⟨p, q⟩ := pq
        have hr1 := HRN.out
        rw [hdrop] at hr1
        obtain ⟨r1, r2, r3, r4, r5⟩ := hr1
        have hq4 := r5.le
        obtain ⟨e0, e1, e2, e3⟩ := recNat (HL.out HN2.out) hpq r2 hq4
        have hbm : wr.heap[m]? = some (.cells (mrec (cn (gm f d) 4) (sz (gm f d) 4) aA bA L rs.length) 86) := by rw [hbwr.block _ hmlt]; exact HM.out
        have hcm : wr.cell? ⟨m, 4 + k * 4, none⟩ = some (.int .u32 (cn f p : Nat)) ∧ wr.cell? ⟨m, 4 + k * 4 + 1, none⟩ = some (.int .u32 (cn d p : Nat)) ∧ wr.cell? ⟨m, 4 + k * 4 + 2, none⟩ = some (.int .u32 (cn f q - cn f p : Nat)) ∧ wr.cell? ⟨m, 4 + k * 4 + 3, none⟩ = some (.int .u32 (cn d q - cn d p : Nat)) := by
          rw [cell_of_block hbm, cell_of_block hbm, cell_of_block hbm, cell_of_block hbm, ← e0, ← e1, ← e2, ← e3]
          match k, (show k < 2 by have := HN2.out; omega) with
          | 0, _ => exact ⟨rfl, rfl, rfl, rfl⟩
          | 1, _ => exact ⟨rfl, rfl, rfl, rfl⟩
        obtain ⟨m0, m1, m2, m3⟩ := hcm
        have cfp := cn_mono f (show p ≤ 4 by omega)
        have cdp := cn_mono d (show p ≤ 4 by omega)
        have cfq := cn_mono f hq4
        have cdq := cn_mono d hq4
        have cfpq := cn_mono f r2
        have cdpq := cn_mono d r2
        have csp := cn_mono f (show s0 ≤ p by omega)
        have HR5 := hid r5
        have HR3 := hid r3
        have HR4 := hid r4
        clear r4 r5 r3 e0 e1 e2 e3 hbm hdrop hpq
        go_upto_if 56 with fail
        have n0 : (wr.alloc (.cells #[.int .u32 (cn f p : Nat), .int .u32 (cn d p : Nat), .int .u32 (cn f q - cn f p : Nat), .int .u32 (cn d q - cn d p : Nat)] 83)).heap[wr.heap.size]? = some (.cells #[.int .u32 (cn f p : Nat), .int .u32 (cn d p : Nat), .int .u32 (cn f q - cn f p : Nat), .int .u32 (cn d q - cn d p : Nat)] 83) := heap_new_at _ _ rfl
        have hb4 : Below wr.heap.size wr (wr.alloc (.cells #[.int .u32 (cn f p : Nat), .int .u32 (cn d p : Nat), .int .u32 (cn f q - cn f p : Nat), .int .u32 (cn d q - cn d p : Nat)] 83)) := below_alloc _ _ _ (Nat.le_refl _)
        generalize wr.alloc (.cells #[.int .u32 (cn f p : Nat), .int .u32 (cn d p : Nat), .int .u32 (cn f q - cn f p : Nat), .int .u32 (cn d q - cn d p : Nat)] 83) = w4 at n0 hb4 ⊢
        have HCB4 := hid (HCBr.out.below hb4)
        have hbr4 : Below w1.heap.size w1 w4 := hbr.trans (hb4.mono (by omega))
        clear m0 m1 m2 m3 hbr HCBr hb4 hbwr
        have y0 : w4.cell? ⟨wr.heap.size, 0, none⟩ = some (.int .u32 (cn f p : Nat)) := by rw [cell_of_block n0]; rfl
        have y1 : w4.cell? ⟨wr.heap.size, 1, none⟩ = some (.int .u32 (cn d p : Nat)) := by rw [cell_of_block n0]; rfl
        have y3 : w4.cell? ⟨wr.heap.size, 3, none⟩ = some (.int .u32 (cn d q - cn d p : Nat)) := by rw [cell_of_block n0]; rfl
        by_cases hnb : 0 < cn d q - cn d p
        · have hnb' : (0 : Int) < ((cn d q - cn d p : Nat) : Int) := by omega
          have hlf : Lack f p q := by
            rcases HR4.out with h | h
            · have := cn_flat d h r2; omega
            · exact h
          obtain ⟨ga1, ga2, ga3⟩ := gm_a (f := f) (d := d) (s := s0) (p := p) (by omega) (by omega) (fun x x1 x2 hx => by
            by_cases hxt : x < t
            · exact HSUB.out x x1 hxt hx
            · rw [HR3.out x (by omega) x2]; exact hx)
          obtain ⟨gb1, gb2, gb3⟩ := gm_b (f := f) (d := d) r2 hq4 hlf
          have hgp := cn_mono (gm f d) (show p ≤ 4 by omega)
          have hgq := cn_mono (gm f d) hq4
          have lg0 : (NA (gm f d) s0).length = cn (gm f d) s0 := by simp [NA, cn]
          have lgp : (NA (gm f d) p).length = cn (gm f d) p := by simp [NA, cn]
          have zg0 := NA_cat (gm f d) s0 (by omega)
          have zgp := NA_cat (gm f d) p (by omega)
          have zf := NA_cat f 4 (Nat.le_refl _)
          have zd := NA_cat d 4 (Nat.le_refl _)
          have hc1 := copyNodes2_any w1.heap.size g (cn (gm f d) 4) (sz (gm f d) 4) ab ao (cn f s0) (cn f p - cn f s0) w4 w1 _ _ _ _ HCB4.out (HA.out.below HBW1.out) (Nat.le_refl _) hbr4 (by rw [cn_len]; omega) (by rw [lg0]; omega) (by omega) (by rw [cn_len]; omega) (by omega) (by omega)
          rw [← ga1, ← ga2] at hc1
          have HG := hid (And.intro ga3 (And.intro gb1 (And.intro gb2 gb3)))
          have HLF := hid hlf
          clear ga1 ga2 ga3 gb1 gb2 gb3 hlf
          go_wp2_with fail
          rw [show (cn f p : Int) - (cn f s0 : Int) = ((cn f p - cn f s0 : Nat) : Int) by omega]
          refine hc1.mono ?_
          rintro e w5 ⟨rfl, hb5, hcb5, tf5⟩
          have n5 := tf5 _ _ n0 (fun cs e fr he => by cases he; decide)
          have hbr5 := hbr4.trans hb5
          have y1' : w5.cell? ⟨wr.heap.size, 1, none⟩ = some (.int .u32 (cn d p : Nat)) := by rw [cell_of_block n5]; rfl
          have y3' : w5.cell? ⟨wr.heap.size, 3, none⟩ = some (.int .u32 (cn d q - cn d p : Nat)) := by rw [cell_of_block n5]; rfl
          have hc2 := copyNodes2_any w1.heap.size g (cn (gm f d) 4) (sz (gm f d) 4) bb bo (cn d p) (cn d q - cn d p) w5 w1 _ _ _ _ hcb5 (HB.out.below HBW1.out) (Nat.le_refl _) hbr5 (by rw [cn_len]; omega) (by rw [lgp]; have := HG.out.2.2.2; omega) (by omega) (by rw [cn_len]; omega) (by omega) (by omega)
          rw [← HG.out.2.1, ← HG.out.2.2.1] at hc2
          clear hc1 hb5 hcb5 tf5 n0 hbr4 HCB4 y0 y1 y3
          go_wp2_with fail
          refine hc2.mono ?_
          rintro e w6 ⟨rfl, hb6, hcb6, tf6⟩
          have n6 := tf6 _ _ n5 (fun cs e fr he => by cases he; decide)
          have hbr6 := hbr5.trans hb6
          have y0' : w6.cell? ⟨wr.heap.size, 0, none⟩ = some (.int .u32 (cn f p : Nat)) := by rw [cell_of_block n6]; rfl
          have hfq := cn_flat f HLF.out r2
          have HFQ := hid hfq
          have HCB6 := hid hcb6
          clear hc2 hb6 tf6 n5 hbr5 y1' y3' hfq hcb6 n6
          go_wp2_with fail
          exact ⟨⟨k + 1, q, q, by omega, Nat.le_refl _, hq4, by rw [HFQ.out], by go_num, HR5.out, fun x x1 x2 => by omega, HCB6.out, hbr6⟩, by simp [intOf]; omega⟩
        · have hnb' : ¬ (0 : Int) < ((cn d q - cn d p : Nat) : Int) := by omega
          have hld : Lack d p q := lack_of_flat r2 (by omega)
          have HLD := hid hld
          clear hld
          go_wp2_with fail
          refine ⟨⟨k + 1, q, s0, by omega, by omega, hq4, rfl, by go_num, HR5.out, fun x x1 x2 hx => ?_, HCB4.out, hbr4⟩, by simp [intOf]; omega⟩
          by_cases hxt : x < t
          · exact HSUB.out x x1 hxt hx
          · by_cases hxp : x < p
            · rw [HR3.out x (by omega) hxp]; exact hx
            · rw [HLD.out x (by omega) x2] at hx; cases hx
      · have hlt' : ¬ (k : Int) < (rs.length : Int) := by omega
        have hr1 := HRN.out
        rw [List.drop_eq_nil_of_le (by omega)] at hr1
        obtain ⟨r1, r3⟩ := hr1
        obtain ⟨ga1, ga2, ga3⟩ := gm_a (f := f) (d := d) (s := s0) (p := 4) (by omega) (by omega) (fun x x1 x2 hx => by
          by_cases hxt : x < t
          · exact HSUB.out x x1 hxt hx
          · rw [r3 x (by omega) x2]; exact hx)
        have lg0 : (NA (gm f d) s0).length = cn (gm f d) s0 := by simp [NA, cn]
        have zg0 := NA_cat (gm f d) s0 (by omega)
        have zf := NA_cat f 4 (Nat.le_refl _)
        have csf := cn_mono f (show s0 ≤ 4 by omega)
        have hgs := cn_mono (gm f d) (show s0 ≤ 4 by omega)
        have hA4 := HA.out.below hbwr
        obtain ⟨xo, xn, xc, yo, yn, yc, h0, h1, h2, h3⟩ := hA4
        obtain rfl := h3.len
        rw [cn_len] at h2
        clear h3 r3 hlt
        go_wp2_with fail
        refine (len_any _ _ _ _ _ _ _ _).mono ?_
        rintro e w5 ⟨rfl, hb5⟩
        have hcb5 := HCBr.out.below hb5
        have hbr5 : Below w1.heap.size w1 w5 := hbr.trans (hb5.mono (by omega))
        have hc1 := copyNodes2_any w1.heap.size g (cn (gm f d) 4) (sz (gm f d) 4) ab ao (cn f s0) (cn f 4 - cn f s0) w5 w1 _ _ _ _ hcb5 (HA.out.below HBW1.out) (Nat.le_refl _) hbr5 (by rw [cn_len]; omega) (by rw [lg0]; omega) (by omega) (by rw [cn_len]; omega) (by omega) (by omega)
        rw [← ga1, ← ga2] at hc1
        clear h0 h1 h2 hb5 hcb5 hbr HCBr hbwr ga1 ga2 ga3 HSUB HRN
        go_wp2_with fail
        rw [show (cn f 4 : Int) - (cn f s0 : Int) = ((cn f 4 - cn f s0 : Nat) : Int) by omega]
        refine hc1.mono ?_
        rintro e w6 ⟨rfl, hb6, hcb6, -⟩
        have hbr6 := hbr5.trans hb6
        clear hc1 hb6 hbr5
        obtain ⟨pp, buf, hpp, hbg, hB6, hG6, hO6, hl6, hl7⟩ := hcb6
        have lgN : (NA (gm f d) 4).length = cn (gm f d) 4 := cn_len _
        have hlaid : laid (cn (gm f d) 4) (NA (gm f d) 4) (CA (gm f d) 4) = ints (VL (gm f d) d 0 0) ++ u64s (offsL (NA (gm f d) 4)) := by
          rw [VL_self, ← CA_seg]
          simp [laid, lgN, zs]
        rw [hlaid] at hG6
        obtain ⟨pa, ca, hpb⟩ := ctr_cell HB.out
        obtain ⟨_, _, capB, posB⟩ := ctr_at HB.out hpb
        rw [cn_len] at hpb capB posB
        obtain ⟨gb, ob, rfl, mb, gb0, cellb⟩ := posB hpd
        have HMB := hid mb
        have HCE := hid cellb
        have HGB := hid gb0
        have HCB := hid capB
        have HPBC := hid hpb
        have c3 : w6.cell? ⟨w1.heap.size, 3, none⟩ = some (.slice (some ⟨g, 0, none⟩) (cn (gm f d) 4) (cn (gm f d) 4)) := by rw [cell_of_block hB6]; rfl
        obtain ⟨-, -, c12⟩ := HMC.out w6 (HBW1.out.trans (hbr6.mono (by omega)))
        have HPP := hid (And.intro hpp (And.intro hbg (And.intro hl6 hl7)))
        have HB6 := hid hB6
        have HO6 := hid hO6
        have HBR6 := hid hbr6
        have HLG := hid lgN
        clear mb cellb gb0 capB hpb posB hlaid hpp hbg hl6 hl7 lg0 lgN zg0 zf
        go_upto_region 16 with fail
        go_quiet (fail)
        have hG7 : (w6.drewN nq).heap[g]? = some (.cells (ints (VL (gm f d) d 0 0) ++ u64s (offsL (NA (gm f d) 4))).toArray 34) := hG6
        clear hG6 hB6 hO6 hbr6 c12 c3
        go_wp2_with fail
        go_loopw [11, 12, 95] (fun vj vv vk wr => ∃ k t : Nat, k ≤ rs.length ∧ t ≤ 4 ∧ vj = .int .i64 (cn d t : Nat) ∧ vv = .int .i64 (cn (gm f d) t : Nat) ∧ vk = .int .i64 k ∧ Runs f d t (rs.drop k) 4 ∧ wr.heap[g]? = some (.cells (ints (VL (gm f d) d 0 t) ++ u64s (offsL (NA (gm f d) 4))).toArray 34) ∧ Kept w6.heap.size g w6 wr) (fun vj vv vk wr => rs.length - (intOf vk).toNat)
        case atStart => exact ⟨0, 0, by omega, by omega, by rw [cn_zero]; rfl, by rw [cn_zero]; rfl, rfl, HR.out, hG7, ⟨rfl, rfl, rfl, Nat.le_refl _, fun _ _ _ => rfl⟩⟩
        case round =>
          clear hG7
          obtain ⟨k2, t2, hk2, ht2, rfl, rfl, rfl, hrn, hgr, hkr⟩ := hrel
          have HRN := hid hrn
          clear hrn
          have hgl := block_lt hgr
          have hb6r : w6.heap[w1.heap.size]? = wr.heap[w1.heap.size]? := (hkr.block _ (block_lt HB6.out) (by omega)).symm
          have hbwr : Below w.heap.size w wr := HBW1.out.trans (((HBR6.out.mono (show w.heap.size ≤ w1.heap.size by omega))).trans ⟨hkr.os, hkr.tape, hkr.output, hkr.size, fun x hx => hkr.block x (by have := HBR6.out.size; omega) (by omega)⟩)
          have c3 : wr.cell? ⟨w1.heap.size, 3, none⟩ = some (.slice (some ⟨g, 0, none⟩) (cn (gm f d) 4) (cn (gm f d) 4)) := by rw [cell_of_block (hb6r.symm.trans HB6.out)]; rfl
          have dpb : wr.cell? ⟨bb, bo + 2, none⟩ = some (.slice (some ⟨gb, ob, none⟩) (cn d 4) ca) := cell_later hbwr HPBC.out
          have cgt := cn_mono (gm f d) ht2
          have cdt := cn_mono d ht2
          by_cases hlt : k2 < rs.length
          · have hlt' : (k2 : Int) < (rs.length : Int) := by omega
            obtain ⟨pq, hpq⟩ : ∃ pq, rs[k2]? = some pq := ⟨_, List.getElem?_eq_getElem hlt⟩
            have hdrop : rs.drop k2 = pq :: rs.drop (k2 + 1) := by
              rw [List.drop_eq_getElem_cons hlt]
              congr 1
              rw [List.getElem?_eq_getElem hlt] at hpq
              exact Option.some.inj hpq
            obtain ⟨p, q⟩ := pq
            have hr1 := HRN.out
            rw [hdrop] at hr1
            obtain ⟨r1, r2, r3, r4, r5⟩ := hr1
            have hq4 := r5.le
            obtain ⟨e0, e1, e2, e3⟩ := recNat (HL.out HN2.out) hpq r2 hq4
            have hbm : wr.heap[m]? = some (.cells (mrec (cn (gm f d) 4) (sz (gm f d) 4) aA bA L rs.length) 86) := by rw [hbwr.block _ hmlt]; exact HM.out
            have hcm : wr.cell? ⟨m, 4 + k2 * 4, none⟩ = some (.int .u32 (cn f p : Nat)) ∧ wr.cell? ⟨m, 4 + k2 * 4 + 1, none⟩ = some (.int .u32 (cn d p : Nat)) ∧ wr.cell? ⟨m, 4 + k2 * 4 + 2, none⟩ = some (.int .u32 (cn f q - cn f p : Nat)) ∧ wr.cell? ⟨m, 4 + k2 * 4 + 3, none⟩ = some (.int .u32 (cn d q - cn d p : Nat)) := by
              rw [cell_of_block hbm, cell_of_block hbm, cell_of_block hbm, cell_of_block hbm, ← e0, ← e1, ← e2, ← e3]
              match k2, (show k2 < 2 by have := HN2.out; omega) with
              | 0, _ => exact ⟨rfl, rfl, rfl, rfl⟩
              | 1, _ => exact ⟨rfl, rfl, rfl, rfl⟩
            obtain ⟨m0, m1, m2, m3⟩ := hcm
            have cfq := cn_mono f hq4
            have cdq := cn_mono d hq4
            have cfpq := cn_mono f r2
            have cdpq := cn_mono d r2
            have cdtp := cn_mono d r1
            have cdp4 := cn_mono d (show p ≤ 4 by omega)
            have HR5 := hid r5
            have HR3 := hid r3
            have HR4 := hid r4
            clear r4 r5 r3 e0 e1 e2 e3 hbm hdrop hpq
            go_upto_region 20 with fail
            have n0 : (wr.alloc (.cells #[.int .u32 (cn f p : Nat), .int .u32 (cn d p : Nat), .int .u32 (cn f q - cn f p : Nat), .int .u32 (cn d q - cn d p : Nat)] 83)).heap[wr.heap.size]? = some (.cells #[.int .u32 (cn f p : Nat), .int .u32 (cn d p : Nat), .int .u32 (cn f q - cn f p : Nat), .int .u32 (cn d q - cn d p : Nat)] 83) := heap_new_at _ _ rfl
            have hb4 : Below wr.heap.size wr (wr.alloc (.cells #[.int .u32 (cn f p : Nat), .int .u32 (cn d p : Nat), .int .u32 (cn f q - cn f p : Nat), .int .u32 (cn d q - cn d p : Nat)] 83)) := below_alloc _ _ _ (Nat.le_refl _)
            generalize wr.alloc (.cells #[.int .u32 (cn f p : Nat), .int .u32 (cn d p : Nat), .int .u32 (cn f q - cn f p : Nat), .int .u32 (cn d q - cn d p : Nat)] 83) = w7 at n0 hb4 ⊢
            have hgr7 : w7.heap[g]? = some (.cells (ints (VL (gm f d) d 0 t2) ++ u64s (offsL (NA (gm f d) 4))).toArray 34) := by rw [hb4.block _ hgl]; exact hgr
            have hkr7 := hkr.trans (Kept.of (hb4.mono hkr.size))
            have hbwr7 := hbwr.trans (hb4.mono hbwr.size)
            have c3' := cell_later hb4 c3
            have dpb' := cell_later hb4 dpb
            have q1 : (cn (gm f d) t2 : Int) ≤ (cn (gm f d) 4 : Int) := by omega
            have q2 : (cn d t2 : Int) ≤ (cn d p : Int) := by omega
            have q3 : (cn d p : Int) ≤ (ca : Int) := by have := HCB.out; omega
            clear m0 m1 m2 m3 hgr hkr hbwr c3 dpb hb6r hb4
            refine wp_region_D [0, 1, 2, 3, 4, 5, 6, 7, 8, 9, 10] [11] 30 (fun w' => w' = w7.drew) (by kernel_rfl) (by kernel_rfl) rfl (by kernel_rfl) (fun _ _ _ dd _ h => by cases dd <;> exact h) rfl ?_
            repeat
              refine wpHeadD_step rfl rfl w7 (fun K' hK' => ⟨?_, fun w' hw' => ?_, ?_⟩)
              rotate_left
              · obtain rfl := hw'
                go_simp
                first
                  | done
                  | rfl
              go_simp
              try go_bits
              refine hK' _ _ ?_
              clear hK' K'
            refine wpHeadD_nil ?_
            refine wpTailD_lone (by kernel_rfl) rfl rfl (fun K' hK' => ?_)
            go_simp
            refine (raise_part w7.drew g (cn (gm f d) 4) gb ob ca t2 p (gm f d) d _ hgr7 (fun x hx => cell_later hbwr7.drew (HCE.out x hx)) (Nat.lt_of_lt_of_le HGB.out hbwr7.size) (by have := HGB.out; omega) HCB.out HMB.out r1 (by omega) (gm_same HR3.out) (Nat.le_refl _)).mono ?_
            rintro e w8 ⟨rfl, t1, tk⟩
            dsimp only
            refine hK' _ _ ?_
            clear hK' K'
            refine wpTailD_nil ?_
            generalize (if cn (gm f d) 4 = cn (gm f d) t2 then some (⟨g, 0, none⟩ : Addr) else some ⟨g, cn (gm f d) t2, none⟩) = i1
            generalize (if ca = cn d t2 then some (⟨gb, ob, none⟩ : Addr) else some ⟨gb, ob + cn d t2, none⟩) = i2
            have n8 : w8.heap[wr.heap.size]? = some (.cells #[.int .u32 (cn f p : Nat), .int .u32 (cn d p : Nat), .int .u32 (cn f q - cn f p : Nat), .int .u32 (cn d q - cn d p : Nat)] 83) := by rw [tk.block _ (block_lt n0) (by omega)]; exact n0
            have hkr8 : Kept w6.heap.size g w6 w8 := (hkr7.trans ⟨rfl, rfl, rfl, Nat.le_refl _, fun _ _ _ => rfl⟩ : Kept w6.heap.size g w6 w7.drew).trans ⟨tk.os, tk.tape, tk.output, tk.size, fun x h1 h2 => tk.block x (Nat.lt_of_lt_of_le h1 hkr7.size) h2⟩
            have y2 : w8.cell? ⟨wr.heap.size, 2, none⟩ = some (.int .u32 (cn f q - cn f p : Nat)) := by rw [cell_of_block n8]; rfl
            have y3 : w8.cell? ⟨wr.heap.size, 3, none⟩ = some (.int .u32 (cn d q - cn d p : Nat)) := by rw [cell_of_block n8]; rfl
            have hgq := gm_cn_lone r2 HR4.out
            have hgp := cn_run (gm_same HR3.out) r1
            have hgq4 := cn_mono (gm f d) hq4
            have HZ := hid (show (cn (gm f d) t2 : Int) + ((cn d p : Int) - (cn d t2 : Int) + ((cn f q - cn f p : Nat) : Int) + ((cn d q - cn d p : Nat) : Int)) = (cn (gm f d) q : Int) by omega)
            have HZ2 := hid (show (cn d p : Int) + ((cn d q - cn d p : Nat) : Int) = (cn d q : Int) by omega)
            have HT1 := hid t1
            clear t1 tk n8 n0 hgr7 hkr7 hbwr7 c3' dpb' hgq hgp
            go_wp2_with fail
            all_goals
              refine ⟨⟨k2 + 1, q, by omega, hq4, congrArg (Value.int .i64) HZ2.out, congrArg (Value.int .i64) HZ.out, by go_num, HR5.out, ?_, hkr8⟩, by simp [intOf]; omega⟩
              rw [HT1.out, VL_lone (Nat.zero_le p) r2 hq4 (gm_lone HR4.out)]
          · have hlt' : ¬ (k2 : Int) < (rs.length : Int) := by omega
            have hr1 := HRN.out
            rw [List.drop_eq_nil_of_le (by omega)] at hr1
            obtain ⟨r1, r3⟩ := hr1
            have HR3 := hid r3
            have q1 : (cn (gm f d) t2 : Int) ≤ (cn (gm f d) 4 : Int) := by omega
            have q2 : (cn d t2 : Int) ≤ (cn d 4 : Int) := by omega
            clear r3
            go_upto_region 24 with fail
            refine wp_region_D [0, 1, 2, 3, 4, 5, 6, 7, 8, 9] [10] 30 (fun w' => w' = wr.drew) (by kernel_rfl) (by kernel_rfl) rfl (by kernel_rfl) (fun _ _ _ dd _ h => by cases dd <;> exact h) rfl ?_
            repeat
              refine wpHeadD_step rfl rfl wr (fun K' hK' => ⟨?_, fun w' hw' => ?_, ?_⟩)
              rotate_left
              · obtain rfl := hw'
                go_simp
                first
                  | done
                  | rfl
              go_simp
              try go_bits
              refine hK' _ _ ?_
              clear hK' K'
            refine wpHeadD_nil ?_
            refine wpTailD_lone (by kernel_rfl) rfl rfl (fun K' hK' => ?_)
            go_simp
            refine (raise_part wr.drew g (cn (gm f d) 4) gb ob ca t2 4 (gm f d) d _ hgr (fun x hx => cell_later hbwr.drew (HCE.out x hx)) (Nat.lt_of_lt_of_le HGB.out hbwr.size) (by have := HGB.out; omega) HCB.out HMB.out ht2 (Nat.le_refl _) (gm_same HR3.out) (Nat.le_refl _)).mono ?_
            rintro e w8 ⟨rfl, t1, tk⟩
            dsimp only
            refine hK' _ _ ?_
            clear hK' K'
            refine wpTailD_nil ?_
            generalize (if cn (gm f d) 4 = cn (gm f d) t2 then some (⟨g, 0, none⟩ : Addr) else some ⟨g, cn (gm f d) t2, none⟩) = i1
            generalize (if ca = cn d t2 then some (⟨gb, ob, none⟩ : Addr) else some ⟨gb, ob + cn d t2, none⟩) = i2
            have hkr8 : Kept w6.heap.size g w6 w8 := (hkr.trans ⟨rfl, rfl, rfl, Nat.le_refl _, fun _ _ _ => rfl⟩ : Kept w6.heap.size g w6 wr.drew).trans ⟨tk.os, tk.tape, tk.output, tk.size, fun x h1 h2 => tk.block x (Nat.lt_of_lt_of_le h1 hkr.size) h2⟩
            have hvl : (VL (gm f d) d 0 4).length = (NA (gm f d) 4).length := by rw [VL_len _ _ (by omega) (by omega), cn_zero, HLG.out]; rfl
            have hcb8 : CB w8 w1.heap.size g (cn (gm f d) 4) (cat (NA (gm f d) 4)).size (NA (gm f d) 4) (VL (gm f d) d 0 4) := by
              obtain ⟨hpp, hbg, hl6, hl7⟩ := HPP.out
              refine ⟨pp, buf, hpp, hbg, ?_, ?_, ?_, hvl, hl7⟩
              · rw [hkr8.block _ (block_lt HB6.out) (by omega)]; exact HB6.out
              · rw [t1]
                simp [laid, HLG.out, zs]
              · exact HO6.out.keptIn (b := w1.heap.size) (B := 0) (by omega) (fun x hx1 hx2 => hkr8.block x hx2 (by omega))
            have hck := clock_any w1.heap.size g (cn (gm f d) 4) w8 _ _ hcb8 hnpos (by omega) HLG.out (by have := NA_cat (gm f d) 4 (Nat.le_refl _); omega)
            have hbw18 : Below w1.heap.size w1 w8 := HBR6.out.trans ⟨hkr8.os, hkr8.tape, hkr8.output, hkr8.size, fun x hx => hkr8.block x (by have := HBR6.out.size; omega) (by omega)⟩
            have HVL := hid hvl
            clear hcb8 t1 tk hgr hkr hbwr hb6r c3 dpb hvl
            go_wp2_with fail
            all_goals
              refine hck.mono ?_
              rintro e w9 ⟨rfl, hb9, hg9⟩
              have hb19 := hbw18.trans hb9
              have hres9 : w9.heap[w.heap.size]? = some (.cells #[.string ⟨#[]⟩, .slice none 0 0, .slice none 0 0] 27) := by rw [hb19.block _ (by omega)]; exact HRES.out
              have z0 := frozen_of_block hres9 0
              have z1 := frozen_of_block hres9 1
              have z2 := frozen_of_block hres9 2
              have u0 : w9.cell? ⟨w.heap.size, 0, none⟩ = some (.string ⟨#[]⟩) := by rw [cell_of_block hres9]; rfl
              have u1 : w9.cell? ⟨w.heap.size, 1, none⟩ = some (.slice none 0 0) := by rw [cell_of_block hres9]; rfl
              have u2 : w9.cell? ⟨w.heap.size, 2, none⟩ = some (.slice none 0 0) := by rw [cell_of_block hres9]; rfl
              have hck9 := clk_of_laid w9 g (cn (gm f d) 4) (NA (gm f d) 4) (VL (gm f d) d 0 4) hg9 HLG.out HVL.out hnpos (by omega)
              have HCK := hid hck9
              have HB19 := hid hb19
              clear hck9 hg9 hb9 hb19 hck hbw18
              go_wp2_with fail
              refine bodyPost_ret (v := .agg #[.string (cat (NA (gm f d) 4)), .slice (some ⟨g, cn (gm f d) 4, none⟩) (cn (gm f d) 4 + 1) (cn (gm f d) 4 + 1), .slice (some ⟨g, 0, none⟩) (cn (gm f d) 4) (cn (gm f d) 4)]) (by simp [results, Yba.results41, go_sem, u0, u1, u2]) rfl ?_
              refine ⟨⟨_, _, _, _, _, _, by rw [NA_gm], ?_⟩, ?_⟩
              · rw [← NA_gm, ← VL_gm]
                refine ⟨?_, HCK.out.2.1, ?_⟩
                · exact HCK.out.1.keep (by simp) (fun k hk => by
                    cases hk
                    rw [Below.heap_setCell _ _ _ _ (by show g ≠ w.heap.size; omega), Below.heap_setCell _ _ _ _ (by show g ≠ w.heap.size; omega), Below.heap_setCell _ _ _ _ (by show g ≠ w.heap.size; omega)])
                · rcases HCK.out.2.2 with ⟨h1, h2⟩ | ⟨h1, h2⟩
                  · exact .inl ⟨h1, h2⟩
                  · exact .inr ⟨h1, h2.keep (by simp) (fun k hk => by
                      cases hk
                      rw [Below.heap_setCell _ _ _ _ (by show g ≠ w.heap.size; omega), Below.heap_setCell _ _ _ _ (by show g ≠ w.heap.size; omega), Below.heap_setCell _ _ _ _ (by show g ≠ w.heap.size; omega)])⟩
              · have hbw : Below w.heap.size w w9 := HBW1.out.trans (HB19.out.mono (by omega))
                exact ((hbw.setCell (p := ⟨w.heap.size, 0, none⟩) (Nat.le_refl _) _).setCell (p := ⟨w.heap.size, 1, none⟩) (Nat.le_refl _) _).setCell (p := ⟨w.heap.size, 2, none⟩) (Nat.le_refl _) _
  · rw [decide_eq_false hn2]
    obtain ⟨c0, c1, -⟩ := HMC.out w1 hbw1
    have hwa := HWA.out w1.drew hbw1.drew
    go_upto_region 2 with fail
    refine wp_region_D [0, 1, 2, 3, 4, 5, 6, 7, 8, 9] [10, 11] 30 (fun w' => w' = w1.drew) (by kernel_rfl) (by kernel_rfl) rfl (by kernel_rfl) (fun _ _ _ dd _ h => by cases dd <;> exact h) rfl ?_
    repeat
      refine wpHeadD_step rfl rfl w1 (fun K' hK' => ⟨?_, fun w' hw' => ?_, ?_⟩)
      rotate_left
      · obtain rfl := hw'
        go_simp
        first
          | done
          | rfl
      go_simp
      try go_bits
      refine hK' _ _ ?_
      clear hK' K'
    refine wpHeadD_nil ?_
    refine wpTailD_lone (by kernel_rfl) rfl rfl (fun K' hK' => ?_)
    go_simp
    refine hwa.mono ?_
    rintro e w2 ⟨⟨p0, p1, p2, p3, p4, p5, rfl, hck⟩, hb2⟩
    dsimp only
    refine hK' _ _ ?_
    clear hK' K' hwa
    have hres2 : w2.heap[w.heap.size]? = some (.cells #[.string ⟨#[]⟩, .slice none 0 0, .slice none 0 0] 27) := by rw [hb2.block _ (by show w.heap.size < w1.heap.size; omega)]; exact hres
    have z0 := frozen_of_block hres2 0
    have z1 := frozen_of_block hres2 1
    have z2 := frozen_of_block hres2 2
    have u0 : w2.cell? ⟨w.heap.size, 0, none⟩ = some (.string ⟨#[]⟩) := by rw [cell_of_block hres2]; rfl
    have u1 : w2.cell? ⟨w.heap.size, 1, none⟩ = some (.slice none 0 0) := by rw [cell_of_block hres2]; rfl
    have u2 : w2.cell? ⟨w.heap.size, 2, none⟩ = some (.slice none 0 0) := by rw [cell_of_block hres2]; rfl
    refine wpTailD_lone (by kernel_rfl) rfl rfl (fun K' hK' => ?_)
    go_simp
    refine hK' _ _ ?_
    clear hK' K'
    refine wpTailD_nil ?_
    have HCK := hid (hck.setRes hres2 (.string (cat (NA (mx f d) 4))) (.slice p0 p1 p2) (.slice p3 p4 p5))
    have HBW2 := hid (hbw1.trans ((Below.refl _ w1).drew.trans (hb2.mono (show w.heap.size ≤ w1.heap.size by omega))))
    clear hck hb2 hres2
    go_wp2_with fail
    refine bodyPost_ret (v := .agg #[.string (cat (NA (mx f d) 4)), .slice p0 p1 p2, .slice p3 p4 p5]) (by simp [results, Yba.results41, go_sem, u0, u1, u2]) rfl ?_
    exact ⟨⟨_, _, _, _, _, _, rfl, HCK.out⟩, ((HBW2.out.setCell (p := ⟨w.heap.size, 0, none⟩) (Nat.le_refl _) _).setCell (p := ⟨w.heap.size, 1, none⟩) (Nat.le_refl _) _).setCell (p := ⟨w.heap.size, 2, none⟩) (Nat.le_refl _) _⟩
end Go.Proofs.Ybulkgey
