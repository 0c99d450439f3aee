/- walkApart: the steps of a round and of the end, at the builder. -/
import Derived.Test.YbulkgeyMMerge
namespace Go.Proofs.Ybulkgey
open Go.RowKit
set_option linter.unusedVariables false

theorem NA_length (f : Nat → Int) (t : Nat) : (NA f t).length = cn f t := by simp [NA, cn]
theorem CA_length (f : Nat → Int) (t : Nat) : (CA f t).length = cn f t := by rw [CA_len, NA_length]
theorem mx_sub_has {R S : Nat → Int} {t : Nat} (h : Sub R S t) : ∀ k, t ≤ k → k < 4 → has (mx R S) k = has R k := fun k k1 k2 => by
  rw [has_mx]
  cases hs : has S k
  · simp
  · rw [h k k1 k2 hs]; rfl
theorem CA_mx_sub {R S : Nat → Int} {t : Nat} (ht : t ≤ 4) (h : Sub R S t) : CA (mx R S) 4 = CA (mx R S) t ++ VL R S t 4 := by
  rw [VL_four, CA_seg, CA_seg, ← seg_append _ (Nat.zero_le t) ht, List.map_append, seg_congr (mx_sub_has h)]
  congr 1
  apply List.map_congr_left
  intro k _
  rw [mx_mod]; rfl
theorem NA_mx_sub {R S : Nat → Int} {t : Nat} (ht : t ≤ 4) (h : Sub R S t) : NA (mx R S) 4 = NA (mx R S) t ++ ((NA R 4).drop (cn R t)).take (cn R 4 - cn R t) := by
  rw [NA_drop R ht (Nat.le_refl _), NA_seg, NA_seg, ← seg_append _ (Nat.zero_le t) ht, List.map_append, seg_congr (mx_sub_has h)]
theorem cn_mx_sub {R S : Nat → Int} {t : Nat} (ht : t ≤ 4) (h : Sub R S t) : cn (mx R S) 4 + cn R t = cn (mx R S) t + cn R 4 := by
  have := cn_run (mx_sub_has h) ht
  omega
/-- No lone node is left: the rest of the other holds all. -/
theorem sub_of_none {f d : Nat → Int} {t : Nat} (ht : t ≤ 4) (h : cn (gm f d) 4 + cn d t = cn (gm f d) t + cn d 4) : Sub d f t := by
  have hs : Same (gm f d) d t 4 := Sub.same (f := gm f d) (d := d) (fun k _ _ hh => by rw [has_gm, hh, Bool.or_true]) ht (by omega)
  intro k k1 k2 hf
  rw [← hs k k1 k2, has_gm, hf]; rfl
theorem sub_of_none' {f d : Nat → Int} {t : Nat} (ht : t ≤ 4) (h : cn (gm f d) 4 + cn f t = cn (gm f d) t + cn f 4) : Sub f d t := by
  have hs : Same (gm f d) f t 4 := Sub.same (f := gm f d) (d := f) (fun k _ _ hh => by rw [has_gm, hh]; rfl) ht (by omega)
  intro k k1 k2 hf
  rw [← hs k k1 k2, has_gm, hf, Bool.or_true]

/-- The rest's nodes copied. -/
theorem tail_copy (b g ab ao t : Nat) (R S : Nat → Int) (w W0 : World) (h : CB w b g (cn (mx R S) 4) (sz (mx R S) 4) (NA (mx R S) t) (CA (mx R S) t)) (hA : ClkAt W0 ab ao (NA R 4) (CA R 4)) (hW : W0.heap.size ≤ b) (hbW : Below W0.heap.size W0 w) (ht : t ≤ 4) (hsub : Sub R S t) :
    Calls Yba.prog 29 #[.pointer (some ⟨b, 0, none⟩), .pointer (some ⟨ab, ao, none⟩), .int .i64 (cn R t), .int .i64 ((cn R 4 - cn R t : Nat) : Int)] w fun e w' => e = .returned (.tuple #[]) ∧ Below b w w' ∧
      CB w' b g (cn (mx R S) 4) (sz (mx R S) 4) (NA (mx R S) 4) (CA (mx R S) t ++ VL R S t t) ∧ Tf w w' := by
  have hm := cn_mono R ht
  have he := cn_mx_sub ht hsub
  have h4 := cn_le (mx R S) 4
  have hR := cn_le R 4
  have z1 := NA_cat (mx R S) t ht
  have z2 := NA_cat R 4 (Nat.le_refl _)
  have := copyNodes2_any b g (cn (mx R S) 4) (sz (mx R S) 4) ab ao (cn R t) (cn R 4 - cn R t) w W0 _ _ _ _ h hA hW hbW (by rw [cn_len]; omega) (by rw [NA_length]; omega) (by omega) (by rw [cn_len]; omega) (by omega) (by omega)
  rw [← NA_mx_sub ht hsub, CA_drop R ht (Nat.le_refl _), ← VL_self R S] at this
  exact this

/-- The rest's counters raised. -/
theorem tail_raise (b g ab ao bb bo t : Nat) (R S : Nat → Int) (w W0 : World) (h : CB w b g (cn (mx R S) 4) (sz (mx R S) 4) (NA (mx R S) 4) (CA (mx R S) t ++ VL R S t t)) (hA : ClkAt W0 ab ao (NA R 4) (CA R 4)) (hB : ClkAt W0 bb bo (NA S 4) (CA S 4)) (hW : W0.heap.size ≤ b) (hbW : Below W0.heap.size W0 w) (ht : t ≤ 4) (hsub : Sub R S t) :
    Calls Yba.prog 76 #[.slice (if cn (mx R S) 4 = cn (mx R S) t then some ⟨g, 0, none⟩ else some ⟨g, cn (mx R S) t, none⟩) (cn (mx R S) 4 - cn (mx R S) t) (cn (mx R S) 4 - cn (mx R S) t), .pointer (some ⟨ab, ao, none⟩), .int .i64 (cn R t), .pointer (some ⟨bb, bo, none⟩), .int .i64 (cn S t)] w fun e w' => e = .returned (.tuple #[]) ∧ Below b w w' ∧
      CB w' b g (cn (mx R S) 4) (sz (mx R S) 4) (NA (mx R S) 4) (CA (mx R S) 4) ∧ Tf w w' := by
  have hm := cn_mono R ht
  have he := cn_mx_sub ht hsub
  have hmm := cn_mono (mx R S) ht
  have h4 := cn_le (mx R S) 4
  have hle := Sub.cn_le (f := R) (d := S) (s := t) (u := 4) (fun k k1 k2 => hsub k k1 k2) ht
  have hms := cn_mono S ht
  by_cases h0 : cn R t = cn R 4
  · have hn : cn (mx R S) 4 = cn (mx R S) t := by omega
    refine (raise_none w _ _ _ ab ao bb bo _ t S (hB.below hbW) (by omega)).mono ?_
    rintro e w' ⟨rfl, hb⟩
    refine ⟨rfl, hb.mono ?_, ?_, fun k o hk _ => (hb.block k (block_lt hk)).trans hk⟩
    · obtain ⟨p, buf, hp, hbg, h1, _⟩ := h
      exact Nat.le_of_lt (block_lt h1)
    · have hl : Lack R t 4 := lack_of_flat ht h0
      have hv : VL R S t t = VL R S t 4 := by rw [VL_self, VL_four, seg_lack hl]; rfl
      rw [CA_mx_sub ht hsub, ← hv]
      exact h.below hb
  · have hn : cn (mx R S) 4 ≠ cn (mx R S) t := by omega
    rw [if_neg hn]
    obtain ⟨p, buf, hp, hbg, h1, h2, h3, h5, h6⟩ := h
    have hpre : (ints (CA (mx R S) t)).length = cn (mx R S) t := by rw [ints_len, CA_length]
    have hg : w.heap[g]? = some (.cells (ints (CA (mx R S) t) ++ ints (VL R S t t) ++ (zs (cn (mx R S) 4 - (NA (mx R S) 4).length) ++ u64s (offsL (NA (mx R S) 4)) ++ zs (cn (mx R S) 4 - (NA (mx R S) 4).length))).toArray 34) := by
      rw [h2]
      unfold laid
      rw [ints_app]
      simp only [List.append_assoc]
    have hr := raise_any w W0 g (cn (mx R S) 4 - cn (mx R S) t) (cn (mx R S) 4 - cn (mx R S) t) ab ao bb bo t R S _ _ hA hB hbW (by omega) hg ht hsub (by omega) (Nat.le_refl _) (by rw [hpre]; omega)
    rw [hpre] at hr
    refine hr.mono ?_
    rintro e w' ⟨rfl, hg', hk⟩
    refine ⟨rfl, ⟨hk.os, hk.tape, hk.output, hk.size, fun k hk' => hk.block k (by have := block_lt h1; omega) (by omega)⟩, ⟨p, buf, hp, hbg, ?_, ?_, ?_, ?_, h6⟩, Tf.kept hk h2 (.inr (.inl rfl))⟩
    · rw [hk.block b (block_lt h1) (by omega)]; exact h1
    · rw [hg', CA_mx_sub ht hsub]
      unfold laid
      rw [ints_app]
      simp only [List.append_assoc]
    · exact h3.keptIn (b := b) (B := 0) (by omega) (fun x hx1 hx2 => hk.block x hx2 (by omega))
    · rw [CA_length, NA_length]

/-- A run in step: the counters that were copied, raised. -/
theorem CA_mx_same {f d : Nat → Int} {t u k : Nat} (h1 : t ≤ u) (h2 : u ≤ 4) (h : Same f d t u) (hk : cn f u = cn f t + k) :
    CA (mx f d) u = CA (mx f d) t ++ RA (((CA f 4).drop (cn f t)).take k) ((seg d t u).map fun q => d q % 9) ((seg d t u).map fun q => d q % 9).length := by
  have e : seg d t u = seg f t u := seg_congr (fun q q1 q2 => (h q q1 q2).symm)
  rw [show k = cn f u - cn f t by omega, CA_drop f h1 h2, e, List.length_map, RA_map, CA_seg, CA_seg, ← seg_append _ (Nat.zero_le t) h1, List.map_append, seg_congr (mx_same h)]
  congr 1
  apply List.map_congr_left
  intro q _
  rw [mx_mod]
theorem run_raise (b g n Z gb ob cb t u k : Nat) (f d : Nat → Int) (Ns : List ByteArray) (w : World) (h : CB w b g n Z Ns (CA (mx f d) t ++ ((CA f 4).drop (cn f t)).take k))
    (hcell : ∀ k, k < cn d 4 → w.cell? ⟨gb, ob + k, none⟩ = some (.int .u64 ((CA d 4).getD k 0))) (hgb : gb < b) (hc : cn d 4 ≤ cb) (hm : cb ≤ maxLen)
    (h1 : t ≤ u) (h2 : u ≤ 4) (hs : Same f d t u) (hrf : cn f u = cn f t + k) (hrd : cn d u = cn d t + k) (hN : cn (mx f d) t + k ≤ n) :
    Calls Yba.prog 64 #[.slice (some ⟨g, cn (mx f d) t, none⟩) (n - cn (mx f d) t) (n - cn (mx f d) t), .slice (some ⟨gb, ob + cn d t, none⟩) k (cb - cn d t)] w fun e w' => e = .returned (.tuple #[]) ∧ Below b w w' ∧
      CB w' b g n Z Ns (CA (mx f d) u) ∧ Tf w w' := by
  obtain ⟨p, buf, hp, hbg, e1, e2, e3, e4, e5⟩ := h
  have hpre : (ints (CA (mx f d) t)).length = cn (mx f d) t := by rw [ints_len, CA_length]
  have hlb := block_lt e1
  have hg : w.heap[g]? = some (.cells (ints (CA (mx f d) t) ++ ints (((CA f 4).drop (cn f t)).take k) ++ (zs (n - Ns.length) ++ u64s (offsL Ns) ++ zs (n - Ns.length))).toArray 34) := by
    rw [e2]
    unfold laid
    rw [ints_app]
    simp only [List.append_assoc]
  have hls := seg_len d h1
  have hmf := cn_mono f h2
  have hlf : (((CA f 4).drop (cn f t)).take k).length = k := by rw [List.length_take, List.length_drop, CA_length]; omega
  have hr := raiseTo2_any w g (n - cn (mx f d) t) (n - cn (mx f d) t) _ _ _ _ _ hg (row_part w gb ob cb d hcell h1 h2 hrd (by omega) hc hm) (fun q hq => by cases hq; show gb ≠ g; omega) (by rw [hlf, List.length_map]; omega) (by rw [List.length_map]; omega) (Nat.le_refl _) (by rw [List.length_map]; have := cn_le d 4; have := cn_mono d h2; omega) (by
    intro x hx
    rw [show k = cn f u - cn f t by omega, CA_drop f h1 h2, List.mem_map] at hx
    obtain ⟨q, _, rfl⟩ := hx
    have := mod9 (f q); omega)
  rw [hpre] at hr
  refine hr.mono ?_
  rintro e w' ⟨rfl, hg', hk, _⟩
  refine ⟨rfl, ⟨hk.os, hk.tape, hk.output, hk.size, fun q hq => hk.block q (by omega) (by omega)⟩, ⟨p, buf, hp, hbg, ?_, ?_, ?_, ?_, e5⟩, ?_⟩
  · rw [hk.block b hlb (by omega)]; exact e1
  · rw [hg', CA_mx_same h1 h2 hs hrf]
    unfold laid
    rw [ints_app]
    simp only [List.append_assoc]
  · exact e3.keptIn (b := b) (B := 0) (by omega) (fun x hx1 hx2 => hk.block x hx2 (by omega))
  · rw [← e4, List.length_append, hlf, CA_length, CA_length]
    have := cn_run (mx_same hs) h1
    omega
  · exact Tf.kept hk e2 (.inr (.inl rfl))
set_option linter.unusedSimpArgs false
set_option maxRecDepth 100000 in
set_option maxHeartbeats 1000000 in
/-- The builder's clock; what is no row of it is kept. -/
theorem clock2_any (b g n : Nat) (w : World) (Ns : List ByteArray) (Cs : List Int) (h : CB w b g n (cat Ns).size Ns Cs) (hn0 : 1 ≤ n) (hn : n ≤ 100000) (hNs : Ns.length = n) (hsz : (cat Ns).size ≤ 1000000) :
    Calls Yba.prog 31 #[.pointer (some ⟨b, 0, none⟩)] w fun e w' => e = .returned (.agg #[.string (cat Ns), .slice (some ⟨g, n, none⟩) (n + 1) (n + 1), .slice (some ⟨g, 0, none⟩) n n]) ∧ Below b w w' ∧
      w'.heap[g]? = some (.cells (laid n Ns Cs).toArray 34) ∧ Tf w w' := by
  obtain ⟨p, buf, hp, hbg, hb, hg, ho, hc, hl⟩ := h
  rw [hNs] at hb
  have hbl : (Lib.strCells (cat Ns)).length = (cat Ns).size := Lib.strCells_length _
  obtain ⟨ab, cbuf, rfl⟩ : ∃ ab cb, buf = .slice ab (cat Ns).size cb := by
    rcases ho.shape with ⟨rfl, hx⟩ | ⟨gb, cap, rfl, _⟩
    · rw [hx] at hbl; exact ⟨none, 0, by rw [← hbl]; rfl⟩
    · exact ⟨_, _, by rw [hbl]⟩
  have c1 : w.cell? ⟨b, 1, none⟩ = some (.slice ab (cat Ns).size cbuf) := by rw [cell_of_block hb]; rfl
  have c2 : w.cell? ⟨b, 2, none⟩ = some (.slice (some ⟨g, n, none⟩) (n + 1) (n + 1)) := by rw [cell_of_block hb]; rfl
  have c3 : w.cell? ⟨b, 3, none⟩ = some (.slice (some ⟨g, 0, none⟩) n n) := by rw [cell_of_block hb]; rfl
  have c4 : w.cell? ⟨b, 4, none⟩ = some (.int .i64 (cat Ns).size) := by rw [cell_of_block hb]; rfl
  have hlt : b < w.heap.size := block_lt hb
  have hgt : g < w.heap.size := block_lt hg
  have HS : Hid (∀ W : World, W.heap[b]? = w.heap[b]? → Own W (g + 1) 5 (.slice ab (cat Ns).size cbuf) (Lib.strCells (cat Ns)) → g + 1 ≤ W.heap.size → Calls Yba.prog 47 #[.pointer (some ⟨b, 0, none⟩)] W fun e w' => e = .returned (.string (cat Ns)) ∧ W.grownBy w' (Value.ownBlock (.slice ab (cat Ns).size cbuf))) :=
    fun W h1 h2 h3 => bString_any b (g + 1) W p _ _ _ _ (cat Ns) (h1.trans hb) h2 (by omega) h3 hsz
  have HG := (show Hid _ from hg)
  have HB := (show Hid _ from hb)
  have hn1 : ((n : Int) == 0) = false := by simp; omega
  generalize hS : cat Ns = S at *
  clear hb hg hbl hS
  go_enter Yba.func31, Yba.ntmps31
  go_wp2_with fail
  go_quiet ((go_at_call 44; exact Calls.quiet_of_same (bldLen_any b _ ab S.size cbuf (by go_simp))))
  go_wp2_with fail
  refine wp_region_D [0, 1, 2, 4, 5, 6, 7, 8, 9, 10, 11] [3, 12, 13] 8 (fun w' => w'.cell? ⟨b, 2, none⟩ = some (.slice (some ⟨g, n, none⟩) (n + 1) (n + 1)) ∧ w'.cell? ⟨b, 3, none⟩ = some (.slice (some ⟨g, 0, none⟩) n n))
    (by kernel_rfl) (by kernel_rfl) rfl (by kernel_rfl) (by intro c a w d v h; cases d <;> exact h) (by refine ⟨?_, ?_⟩ <;> go_simp) ?_
  repeat (refine wpHeadD_step rfl rfl w (fun K' hK' => ⟨?_, fun w' hw' => ?_, ?_⟩); rotate_left; (obtain ⟨d0, d1⟩ := hw'; go_simp; try rfl); (go_simp; try go_bits); (refine hK' _ _ ?_; clear hK' K'))
  refine wpHeadD_nil ?_
  refine wpTailD_cons rfl rfl (fun K hK => ?_)
  go_simp
  have hbl1 : Below w.heap.size w ((w.alloc (.cells #[.string ⟨#[]⟩, .slice none 0 0, .slice none 0 0] 27)).drewN (nq + 1)) := below_drewN (below_alloc w _ _ (Nat.le_refl _)) _
  have hres : ((w.alloc (.cells #[.string ⟨#[]⟩, .slice none 0 0, .slice none 0 0] 27)).drewN (nq + 1)).heap[w.heap.size]? = some (.cells #[.string ⟨#[]⟩, .slice none 0 0, .slice none 0 0] 27) := Go.heap_alloc_new w _
  have hs1 : w.heap.size + 1 ≤ ((w.alloc (.cells #[.string ⟨#[]⟩, .slice none 0 0, .slice none 0 0] 27)).drewN (nq + 1)).heap.size := by simp
  generalize ((w.alloc (.cells #[.string ⟨#[]⟩, .slice none 0 0, .slice none 0 0] 27)).drewN (nq + 1)) = W at *
  refine (HS.out W (hbl1.block b hlt) ?_ (by omega)).mono ?_
  · exact ho.keptIn (b := b) (B := 0) (by omega) (fun k _ hk => hbl1.block k hk)
  rintro e w1 ⟨rfl, gr2⟩
  have HTF := hid (show Tf w w1 from fun k o hk hno => Tf.own (ho.keptIn (b := b) (B := 0) (w' := W) (by omega) (fun k _ hk => hbl1.block k hk)) gr2 k o ((hbl1.block k (block_lt hk)).trans hk) hno)
  have hobk : ∀ k, Value.ownBlock (.slice ab S.size cbuf) = some k → g + 1 ≤ k ∧ k < w.heap.size := fun k hk => World.ownsRow.lt ho k hk
  have bl2 : Below (g + 1) W w1 := (Below.refl _ W).grown gr2 (by omega) (fun k hk => (hobk k hk).1)
  have hres1 : w1.heap[w.heap.size]? = _ := (gr2.block w.heap.size (by omega) (fun e => by have := hobk _ e.symm; omega)).trans hres
  have d2 : w1.cell? ⟨b, 2, none⟩ = _ := later bl2 (by show b < g + 1; omega) (later hbl1 hlt c2)
  have d3 : w1.cell? ⟨b, 3, none⟩ = _ := later bl2 (by show b < g + 1; omega) (later hbl1 hlt c3)
  have r0 : w1.cell? ⟨w.heap.size, 0, none⟩ = some (.string ⟨#[]⟩) := cell_of_block hres1 0
  have r1 : w1.cell? ⟨w.heap.size, 1, none⟩ = some (.slice none 0 0) := cell_of_block hres1 1
  have r2 : w1.cell? ⟨w.heap.size, 2, none⟩ = some (.slice none 0 0) := cell_of_block hres1 2
  have z0 := frozen_of_block hres1 0
  have z1 := frozen_of_block hres1 1
  have z2 := frozen_of_block hres1 2
  have hg1 := (bl2.block g (by omega)).trans ((hbl1.block g hgt).trans HG.out)
  have HG1 := (show Hid _ from hg1)
  have hb1 : Below b w w1 := (hbl1.mono (by omega)).trans (bl2.mono (by omega))
  clear hg1 hres hres1 hobk gr2 hs1 c1 c2 c3 c4
  go_simp
  refine hK _ _ (fun _ => ⟨d2, d3⟩) ?_
  clear hK K
  refine wpTailD_lone (by kernel_rfl) rfl rfl (fun K hK => ?_)
  go_simp
  refine hK _ _ ?_
  clear hK K
  refine wpTailD_lone (by kernel_rfl) rfl rfl (fun K hK => ?_)
  go_simp
  refine hK _ _ ?_
  clear hK K
  refine wpTailD_nil ?_
  go_wp2
  refine bodyPost_ret (v := .agg #[.string S, .slice (some ⟨g, n, none⟩) (n + 1) (n + 1), .slice (some ⟨g, 0, none⟩) n n]) (by simp [results, Yba.results31, go_sem, r0, r1, r2]) rfl ?_
  refine ⟨rfl, ?_, ?_, fun k o hk hno => by have := block_lt hk; rw [set_other _ (by omega), set_other _ (by omega), set_other _ (by omega)]; exact HTF.out k o hk hno⟩
  · exact ((hb1.setCell (by show b ≤ w.heap.size; omega) _).setCell (by show b ≤ w.heap.size; omega) _).setCell (by show b ≤ w.heap.size; omega) _
  · rw [set_other _ (by omega), set_other _ (by omega), set_other _ (by omega)]
    exact HG1.out

end Go.Proofs.Ybulkgey
