/- The law. -/
import Derived.Test.YbulkgeyBPlain
namespace Go.Proofs.Ybulkgey
open Go.RowKit
set_option linter.unusedVariables false
set_option linter.unusedSimpArgs false

theorem lstep_eq (node : ByteArray) (n : Int) (E : List ByteArray) (F : List Int) (ins : Bool) (x : ByteArray) (c : Int) {p : Bool} (hp : (!ins && lessB node x) = p) :
    lstep node n (E, F, ins) x c = if x = node then ((if p then E ++ [node] else E) ++ [node], (if p then F ++ [n] else F) ++ [n], true) else ((if p then E ++ [node] else E) ++ [x], (if p then F ++ [n] else F) ++ [c], if p then true else ins) := by
  unfold lstep
  dsimp only
  rw [hp]
  cases p <;> rfl
theorem lgo_len (node : ByteArray) (n : Int) (N : List ByteArray) (C : List Int) : ∀ k, (lgo node n N C k).1.length ≤ 2 * k ∧ (lgo node n N C k).2.1.length ≤ 2 * k
  | 0 => by simp [lgo]
  | k + 1 => by
    have ih := lgo_len node n N C k
    unfold lgo lstep
    dsimp only
    split <;> split <;> simp <;> omega
theorem with_len {N : List ByteArray} {C : List Int} (h : C.length = N.length) (node : ByteArray) (n : Int) : (withC N C node n).length = (withN N node).length := by
  unfold withC withN
  split
  · simp [h]
  · simp [h]
theorem with_length (N : List ByteArray) (node : ByteArray) : (withN N node).length ≤ N.length + 1 := by
  unfold withN
  split
  · omega
  · simp; omega
theorem with_size (N : List ByteArray) (node : ByteArray) : (cat (withN N node)).size ≤ (cat N).size + node.size := by
  unfold withN
  split
  · omega
  · have := congrArg (fun l => (cat l).size) (List.take_append_drop (idx N node) N)
    simp only [cat_append, ByteArray.size_append] at this
    rw [cat_append, cat_append, ByteArray.size_append, ByteArray.size_append, cat_one]
    omega
def nodeOf (sel : Int) (s : ByteArray) : ByteArray := if sel % 2 = 0 then nm (sel / 2 % 6).toNat else s
set_option maxHeartbeats 400000 in
set_option maxRecDepth 100000 in
theorem bnode_any (w : World) (sel : Int) (s : ByteArray) (h0 : 0 ≤ sel) (h1 : sel ≤ 255) :
    Calls Yba.prog 15 #[.int .u8 sel, .string s] w fun e w' => e = .returned (.string (nodeOf sel s)) ∧ Below w.heap.size w w' := by
  cases hb : (sel % 2 == 0)
  · have hn : nodeOf sel s = s := by unfold nodeOf; rw [if_neg (by simpa using hb)]
    have HN := hid hn
    clear hn
    go_enter Yba.func15, Yba.ntmps15
    go_wp2
    go_ret
    exact ⟨by rw [HN.out]; rfl, Below.refl _ _⟩
  · rcases (show sel / 2 % 6 = 0 ∨ sel / 2 % 6 = 1 ∨ sel / 2 % 6 = 2 ∨ sel / 2 % 6 = 3 ∨ sel / 2 % 6 = 4 ∨ sel / 2 % 6 = 5 from by omega) with hk | hk | hk | hk | hk | hk
    all_goals
      have hn : nodeOf sel s = nm (sel / 2 % 6).toNat := by unfold nodeOf; rw [if_pos (by simpa using hb)]
      rw [hk] at hn
      have HN := hid hn
      clear hn
      go_enter Yba.func15, Yba.ntmps15
      go_wp2
      go_ret
      exact ⟨by rw [HN.out]; rfl, by go_grown⟩

set_option maxHeartbeats 400000 in
set_option maxRecDepth 100000 in
theorem law_walk (w : World) (m sel n : Int) (s : ByteArray) (ac : Option Addr) (len cap : Nat) (z : List Int) (hm : 0 ≤ m ∧ m ≤ 255) (hc : cap ≤ maxLen) (hl : len ≤ cap) (hsel0 : 0 ≤ sel) (hsel1 : sel ≤ 255) (hs : s.size ≤ 1024) (hlen : len ≤ 1024)
    (hcell : ∀ k, k < len → ∃ b o, ac = some ⟨b, o, none⟩ ∧ w.cell? ⟨b, o + k, none⟩ = some (.int .u64 (z.getD k 0))) :
    Calls Yba.prog 5 #[.int .u8 m, .slice ac len cap, .int .u8 sel, .string s, .int .u64 n] w fun e w' => e = .returned (.bool true) ∧ Below w.heap.size w w' := by
  have hbd := build_any w m ac len cap z hm hc hl hcell
  have hNl := NL_len m 6
  have hCl := CL_len m z len 6
  have hsort := NL_sorted m
  have hcat := NL_cat m 6 (by omega)
  generalize NL m 6 = N at *
  generalize CL m z len 6 = C at *
  have hnode : (nodeOf sel s).size ≤ 1024 := by
    unfold nodeOf
    split
    · have := nm_size (sel / 2 % 6).toNat; omega
    · exact hs
  generalize hnd : nodeOf sel s = node at *
  have HND := hid hnd
  have HSO := hid hsort
  have HCl := hid hCl
  have hls : (strs N).length = N.length := by simp [strs]
  have hlc : (ints C).length = N.length := by rw [ints_len, hCl]
  have hd1 : decide ((1024 : Int) < (s.size : Int)) = false := by simp; omega
  have hd2 : decide ((1024 : Int) < (len : Int)) = false := by simp; omega
  clear hnd hsort hcell hCl
  go_enter Yba.func5, Yba.ntmps5
  go_wp2_with fail
  refine hbd.mono ?_
  rintro e w1 ⟨offs, ctrs, names, c2, rfl, b1, clk, rn, rc⟩
  clear hbd
  obtain ⟨ac1, capc, rfl⟩ := clk.1.shape
  obtain ⟨ao1, on1, capo, rfl⟩ : ∃ a n c, offs = .slice a n c := by
    rcases clk.2.2 with ⟨_, rfl⟩ | ⟨_, hr⟩
    · exact ⟨none, 0, 0, rfl⟩
    · obtain ⟨a, c, e⟩ := hr.shape; exact ⟨a, _, c, e⟩
  obtain ⟨an, capn, rfl⟩ := rn.shape
  obtain ⟨a2, cap2, rfl⟩ := rc.shape
  rw [hls] at rn ⊢
  rw [hlc] at rc clk ⊢
  go_wp2_with fail
  have bA : Below w1.heap.size w1 (w1.alloc (.cells #[.string (cat N), .slice ao1 on1 capo, .slice ac1 N.length capc] 27)) := below_alloc _ _ _ (Nat.le_refl _)
  have hcA : (w1.alloc (.cells #[.string (cat N), .slice ao1 on1 capo, .slice ac1 N.length capc] 27)).heap[w1.heap.size]? = _ := Go.heap_alloc_new _ _
  have hsA : (w1.alloc (.cells #[.string (cat N), .slice ao1 on1 capo, .slice ac1 N.length capc] 27)).heap.size = w1.heap.size + 1 := by simp
  generalize (w1.alloc (.cells #[.string (cat N), .slice ao1 on1 capo, .slice ac1 N.length capc] 27)) = wA at *
  refine (bnode_any wA sel s hsel0 hsel1).mono ?_
  rintro e w2 ⟨rfl, b2⟩
  rw [HND.out]
  have bl2 : Below w1.heap.size w1 w2 := bA.trans (b2.mono (by omega))
  have hcl2 := (b2.block _ (by omega)).trans hcA
  have hs2 : w1.heap.size + 1 ≤ w2.heap.size := by have := b2.size; omega
  have clk2 := clk.below bl2
  have rn2 := rn.below bl2
  have rc2 := rc.below bl2
  have bw2 : Below w.heap.size w w2 := b1.trans (bl2.mono b1.size)
  have hlw : w1.heap.size < w2.heap.size := by omega
  have hww : w.heap.size ≤ w1.heap.size := b1.size
  clear bA hcA hsA b2 bl2 clk rn rc
  have HC2 := hid hcl2
  have CLK2 := hid clk2
  have RN2 := hid rn2
  have RC2 := hid rc2
  clear hcl2 clk2 rn2 rc2
  go_wp2_with fail
  go_loopw [15, 16, 17, 18] (fun v15 v16 v17 v18 wr => ∃ k : Nat, k ≤ N.length ∧ v18 = .int .i64 k ∧ v17 = .bool (lgo node n N C k).2.2 ∧ Own wr w2.heap.size 9 v15 (strs (lgo node n N C k).1) ∧ Own wr w2.heap.size 34 v16 (ints (lgo node n N C k).2.1) ∧ Apart v15 v16 ∧
    Below w2.heap.size w2 wr) (fun _ _ _ v18 wr => N.length - (intOf v18).toNat)
  case atStart =>
    exact ⟨0, Nat.zero_le _, rfl, rfl, World.ownsRow_nil _ _ _ _, World.ownsRow_nil _ _ _ _, apart_nil_left _, Below.refl _ _⟩
  case round =>
    obtain ⟨k, hk, rfl, rfl, o15, o16, ap, bwr⟩ := hrel
    by_cases hlt : k < N.length
    · have sr : w2.heap.size ≤ wr.heap.size := bwr.size
      have hltC : k < C.length := by have := HCl.out; omega
      have hsu : lgo node n N C (k + 1) = lstep node n (lgo node n N C k) N[k] C[k] := by simp [lgo, List.getD, hlt, hltC]
      obtain ⟨ng, no, rfl, hng, hx⟩ : ∃ ng no, an = some ⟨ng, no, none⟩ ∧ ng < w2.heap.size ∧ w2.cell? ⟨ng, no + k, none⟩ = some (.string N[k]) := by
        rcases RN2.out with ⟨_, hx⟩ | ⟨g, o, cp, e, hg, _, _, hcell⟩
        · exact absurd (congrArg List.length hx) (by rw [hls]; show ¬ N.length = 0; omega)
        · simp only [Value.slice.injEq] at e
          exact ⟨g, o, e.1, hg, (hcell k (by omega)).trans (by simp [strs, hlt])⟩
      obtain ⟨cg, co, rfl, hcg, hcc⟩ : ∃ cg co, a2 = some ⟨cg, co, none⟩ ∧ cg < w2.heap.size ∧ w2.cell? ⟨cg, co + k, none⟩ = some (.int .u64 C[k]) := by
        rcases RC2.out with ⟨_, hx⟩ | ⟨g, o, cp, e, hg, _, _, hcell⟩
        · exact absurd (congrArg List.length hx) (by rw [hlc]; show ¬ N.length = 0; omega)
        · simp only [Value.slice.injEq] at e
          exact ⟨g, o, e.1, hg, (hcell k (by omega)).trans (by simp [ints, hltC])⟩
      have hxr := later bwr hng hx
      have hcr := later bwr hcg hcc
      have hlen2 := lgo_len node n N C k
      generalize lgo node n N C k = st at *
      obtain ⟨E, F, ins⟩ := st
      generalize N[k] = x at *
      generalize C[k] = c at *
      simp only at o15 o16 hlen2
      have oEr := o15
      have oFr := o16
      have apr := ap
      have blr := bwr
      clear hx hcc o15 o16 ap bwr
      have hi1 : (0 : Int) ≤ k := by omega
      have hi2 : (k : Int) < N.length := by omega
      cases hp : (!ins && lessB node x)
      · by_cases hq : x = node
        · have hsu' : lgo node n N C (k + 1) = (E ++ [node], F ++ [n], true) := by rw [hsu, lstep_eq _ _ _ _ _ _ _ hp, if_pos hq]; rfl
          have HSU := hid hsu'
          have hqb : (x.toList == node.toList) = true := by rw [toList_beq]; simpa using hq
          clear hsu hsu' hq
          cases ins
          all_goals
            simp only [Bool.not_false, Bool.not_true, Bool.true_and, Bool.false_and] at hp
            try unfold lessB at hp
            go_wp2_with (at_builtin; refine Stand.out ?_)
            refine app_str rfl _ _ rfl w2.heap.size u15 _ rfl (oEr.alloc _) _ _ _ rfl (cell_one_new _ _ _ 0 _ rfl) (by simp [strs, ints]; omega) (by simp; omega) ?_
            intro vE1 W1 oE1 g1 m1
            obtain ⟨b1, s1, k1⟩ := app_step oEr sr g1 m1
            obtain ⟨oF1, aq1⟩ := k1 _ _ _ oFr apr.symm
            have ap1 := aq1.symm
            have hx1 := later b1 hng hxr
            have hc1 := later b1 hcg hcr
            have bl1 := blr.trans b1
            clear g1 m1 k1 oEr oFr apr aq1 hxr hcr blr b1 sr
            go_wp2_with (at_builtin; refine Stand.out ?_)
            refine app_u64 rfl _ _ rfl w2.heap.size u16 _ rfl (oF1.alloc _) _ _ _ rfl (cell_one_new _ _ _ 0 _ rfl) (by simp [strs, ints]; omega) (by simp; omega) ?_
            intro vF2 W2 oF2 g2 m2
            obtain ⟨b2, s2, k2⟩ := app_step oF1 s1 g2 m2
            obtain ⟨oE2, aq2⟩ := k2 _ _ _ oE1 ap1
            have ap2 := aq2
            have hx2 := later b2 hng hx1
            have hc2 := later b2 hcg hc1
            have bl2 := bl1.trans b2
            clear g2 m2 k2 oF1 oE1 ap1 aq2 hx1 hc1 bl1 b2 s1
            go_wp2
            refine ⟨⟨k + 1, by omega, by go_num, by rw [HSU.out], ?_, ?_, ap2, bl2⟩, by simp [intOf]; omega⟩
            · rw [HSU.out]; simpa [strs] using oE2
            · rw [HSU.out]; simpa [ints] using oF2
        · have hsu' : lgo node n N C (k + 1) = (E ++ [x], F ++ [c], ins) := by rw [hsu, lstep_eq _ _ _ _ _ _ _ hp, if_neg hq]; rfl
          have HSU := hid hsu'
          have hqb : (x.toList == node.toList) = false := by rw [toList_beq]; simpa using hq
          clear hsu hsu' hq
          cases ins
          all_goals
            simp only [Bool.not_false, Bool.not_true, Bool.true_and, Bool.false_and] at hp
            try unfold lessB at hp
            go_wp2_with (at_builtin; refine Stand.out ?_)
            refine app_str rfl _ _ rfl w2.heap.size u15 _ rfl (oEr.alloc _) _ _ _ rfl (cell_one_new _ _ _ 0 _ rfl) (by simp [strs, ints]; omega) (by simp; omega) ?_
            intro vE1 W1 oE1 g1 m1
            obtain ⟨b1, s1, k1⟩ := app_step oEr sr g1 m1
            obtain ⟨oF1, aq1⟩ := k1 _ _ _ oFr apr.symm
            have ap1 := aq1.symm
            have hx1 := later b1 hng hxr
            have hc1 := later b1 hcg hcr
            have bl1 := blr.trans b1
            clear g1 m1 k1 oEr oFr apr aq1 hxr hcr blr b1 sr
            go_wp2_with (at_builtin; refine Stand.out ?_)
            refine app_u64 rfl _ _ rfl w2.heap.size u16 _ rfl (oF1.alloc _) _ _ _ rfl (cell_one_new _ _ _ 0 _ rfl) (by simp [strs, ints]; omega) (by simp; omega) ?_
            intro vF2 W2 oF2 g2 m2
            obtain ⟨b2, s2, k2⟩ := app_step oF1 s1 g2 m2
            obtain ⟨oE2, aq2⟩ := k2 _ _ _ oE1 ap1
            have ap2 := aq2
            have hx2 := later b2 hng hx1
            have hc2 := later b2 hcg hc1
            have bl2 := bl1.trans b2
            clear g2 m2 k2 oF1 oE1 ap1 aq2 hx1 hc1 bl1 b2 s1
            go_wp2
            refine ⟨⟨k + 1, by omega, by go_num, by rw [HSU.out], ?_, ?_, ap2, bl2⟩, by simp [intOf]; omega⟩
            · rw [HSU.out]; simpa [strs] using oE2
            · rw [HSU.out]; simpa [ints] using oF2
      · obtain ⟨rfl, hp2⟩ : ins = false ∧ lessB node x = true := by simpa using hp
        unfold lessB at hp2
        by_cases hq : x = node
        · have hsu' : lgo node n N C (k + 1) = (E ++ [node] ++ [node], F ++ [n] ++ [n], true) := by rw [hsu, lstep_eq _ _ _ _ _ _ _ hp, if_pos hq]; rfl
          have HSU := hid hsu'
          have hqb : (x.toList == node.toList) = true := by rw [toList_beq]; simpa using hq
          clear hsu hsu' hq hp
          go_wp2_with (at_builtin; refine Stand.out ?_)
          refine app_str rfl _ _ rfl w2.heap.size u15 _ rfl (oEr.alloc _) _ _ _ rfl (cell_one_new _ _ _ 0 _ rfl) (by simp [strs, ints]; omega) (by simp; omega) ?_
          intro vE1 W1 oE1 g1 m1
          obtain ⟨b1, s1, k1⟩ := app_step oEr sr g1 m1
          obtain ⟨oF1, aq1⟩ := k1 _ _ _ oFr apr.symm
          have ap1 := aq1.symm
          have hx1 := later b1 hng hxr
          have hc1 := later b1 hcg hcr
          have bl1 := blr.trans b1
          clear g1 m1 k1 oEr oFr apr aq1 hxr hcr blr b1 sr
          go_wp2_with (at_builtin; refine Stand.out ?_)
          refine app_u64 rfl _ _ rfl w2.heap.size u16 _ rfl (oF1.alloc _) _ _ _ rfl (cell_one_new _ _ _ 0 _ rfl) (by simp [strs, ints]; omega) (by simp; omega) ?_
          intro vF2 W2 oF2 g2 m2
          obtain ⟨b2, s2, k2⟩ := app_step oF1 s1 g2 m2
          obtain ⟨oE2, aq2⟩ := k2 _ _ _ oE1 ap1
          have ap2 := aq2
          have hx2 := later b2 hng hx1
          have hc2 := later b2 hcg hc1
          have bl2 := bl1.trans b2
          clear g2 m2 k2 oF1 oE1 ap1 aq2 hx1 hc1 bl1 b2 s1
          go_wp2_with (at_builtin; refine Stand.out ?_)
          refine app_str rfl _ _ rfl w2.heap.size vE1 _ rfl (oE2.alloc _) _ _ _ rfl (cell_one_new _ _ _ 0 _ rfl) (by simp [strs, ints]; omega) (by simp; omega) ?_
          intro vE3 W3 oE3 g3 m3
          obtain ⟨b3, s3, k3⟩ := app_step oE2 s2 g3 m3
          obtain ⟨oF3, aq3⟩ := k3 _ _ _ oF2 ap2.symm
          have ap3 := aq3.symm
          have hx3 := later b3 hng hx2
          have hc3 := later b3 hcg hc2
          have bl3 := bl2.trans b3
          clear g3 m3 k3 oE2 oF2 ap2 aq3 hx2 hc2 bl2 b3 s2
          go_wp2_with (at_builtin; refine Stand.out ?_)
          refine app_u64 rfl _ _ rfl w2.heap.size vF2 _ rfl (oF3.alloc _) _ _ _ rfl (cell_one_new _ _ _ 0 _ rfl) (by simp [strs, ints]; omega) (by simp; omega) ?_
          intro vF4 W4 oF4 g4 m4
          obtain ⟨b4, s4, k4⟩ := app_step oF3 s3 g4 m4
          obtain ⟨oE4, aq4⟩ := k4 _ _ _ oE3 ap3
          have ap4 := aq4
          have hx4 := later b4 hng hx3
          have hc4 := later b4 hcg hc3
          have bl4 := bl3.trans b4
          clear g4 m4 k4 oF3 oE3 ap3 aq4 hx3 hc3 bl3 b4 s3
          go_wp2
          refine ⟨⟨k + 1, by omega, by go_num, by rw [HSU.out], ?_, ?_, ap4, bl4⟩, by simp [intOf]; omega⟩
          · rw [HSU.out]; simpa [strs] using oE4
          · rw [HSU.out]; simpa [ints] using oF4
        · have hsu' : lgo node n N C (k + 1) = (E ++ [node] ++ [x], F ++ [n] ++ [c], true) := by rw [hsu, lstep_eq _ _ _ _ _ _ _ hp, if_neg hq]; rfl
          have HSU := hid hsu'
          have hqb : (x.toList == node.toList) = false := by rw [toList_beq]; simpa using hq
          clear hsu hsu' hq hp
          go_wp2_with (at_builtin; refine Stand.out ?_)
          refine app_str rfl _ _ rfl w2.heap.size u15 _ rfl (oEr.alloc _) _ _ _ rfl (cell_one_new _ _ _ 0 _ rfl) (by simp [strs, ints]; omega) (by simp; omega) ?_
          intro vE1 W1 oE1 g1 m1
          obtain ⟨b1, s1, k1⟩ := app_step oEr sr g1 m1
          obtain ⟨oF1, aq1⟩ := k1 _ _ _ oFr apr.symm
          have ap1 := aq1.symm
          have hx1 := later b1 hng hxr
          have hc1 := later b1 hcg hcr
          have bl1 := blr.trans b1
          clear g1 m1 k1 oEr oFr apr aq1 hxr hcr blr b1 sr
          go_wp2_with (at_builtin; refine Stand.out ?_)
          refine app_u64 rfl _ _ rfl w2.heap.size u16 _ rfl (oF1.alloc _) _ _ _ rfl (cell_one_new _ _ _ 0 _ rfl) (by simp [strs, ints]; omega) (by simp; omega) ?_
          intro vF2 W2 oF2 g2 m2
          obtain ⟨b2, s2, k2⟩ := app_step oF1 s1 g2 m2
          obtain ⟨oE2, aq2⟩ := k2 _ _ _ oE1 ap1
          have ap2 := aq2
          have hx2 := later b2 hng hx1
          have hc2 := later b2 hcg hc1
          have bl2 := bl1.trans b2
          clear g2 m2 k2 oF1 oE1 ap1 aq2 hx1 hc1 bl1 b2 s1
          go_wp2_with (at_builtin; refine Stand.out ?_)
          refine app_str rfl _ _ rfl w2.heap.size vE1 _ rfl (oE2.alloc _) _ _ _ rfl (cell_one_new _ _ _ 0 _ rfl) (by simp [strs, ints]; omega) (by simp; omega) ?_
          intro vE3 W3 oE3 g3 m3
          obtain ⟨b3, s3, k3⟩ := app_step oE2 s2 g3 m3
          obtain ⟨oF3, aq3⟩ := k3 _ _ _ oF2 ap2.symm
          have ap3 := aq3.symm
          have hx3 := later b3 hng hx2
          have hc3 := later b3 hcg hc2
          have bl3 := bl2.trans b3
          clear g3 m3 k3 oE2 oF2 ap2 aq3 hx2 hc2 bl2 b3 s2
          go_wp2_with (at_builtin; refine Stand.out ?_)
          refine app_u64 rfl _ _ rfl w2.heap.size vF2 _ rfl (oF3.alloc _) _ _ _ rfl (cell_one_new _ _ _ 0 _ rfl) (by simp [strs, ints]; omega) (by simp; omega) ?_
          intro vF4 W4 oF4 g4 m4
          obtain ⟨b4, s4, k4⟩ := app_step oF3 s3 g4 m4
          obtain ⟨oE4, aq4⟩ := k4 _ _ _ oE3 ap3
          have ap4 := aq4
          have hx4 := later b4 hng hx3
          have hc4 := later b4 hcg hc3
          have bl4 := bl3.trans b4
          clear g4 m4 k4 oF3 oE3 ap3 aq4 hx3 hc3 bl3 b4 s3
          go_wp2
          refine ⟨⟨k + 1, by omega, by go_num, by rw [HSU.out], ?_, ?_, ap4, bl4⟩, by simp [intOf]; omega⟩
          · rw [HSU.out]; simpa [strs] using oE4
          · rw [HSU.out]; simpa [ints] using oF4
    · obtain rfl : k = N.length := by omega
      have hend := lgo_end HSO.out HCl.out node n
      have hlen2 := lgo_len node n N C N.length
      have hso := sorted_idx HSO.out node
      generalize lgo node n N C N.length = st at *
      obtain ⟨E, F, ins⟩ := st
      simp only at hend o15 o16 hlen2
      have oEr := o15
      have oFr := o16
      have apr := ap
      have blr := bwr
      have sr : w2.heap.size ≤ wr.heap.size := bwr.size
      have HSO2 := hid hso
      clear o15 o16 ap bwr hso
      cases ins
      · have hE : withN N node = E ++ [node] := by rw [← hend.1]; rfl
        have hF : withC N C node n = F ++ [n] := by rw [← hend.2]; rfl
        have HE := hid hE
        have HF := hid hF
        clear hend hE hF
        go_wp2_with (at_builtin; refine Stand.out ?_)
        refine app_str rfl _ _ rfl w2.heap.size u15 _ rfl (oEr.alloc _) _ _ _ rfl (cell_one_new _ _ _ 0 _ rfl) (by simp [strs, ints]; omega) (by simp; omega) ?_
        intro vE1 W1 oE1 g1 m1
        obtain ⟨b1, s1, k1⟩ := app_step oEr sr g1 m1
        obtain ⟨oF1, aq1⟩ := k1 _ _ _ oFr apr.symm
        have ap1 := aq1.symm
        have bl1 := blr.trans b1
        clear g1 m1 k1 oEr oFr apr aq1 blr b1 sr
        go_wp2_with (at_builtin; refine Stand.out ?_)
        refine app_u64 rfl _ _ rfl w2.heap.size u16 _ rfl (oF1.alloc _) _ _ _ rfl (cell_one_new _ _ _ 0 _ rfl) (by simp [strs, ints]; omega) (by simp; omega) ?_
        intro vF2 W2 oF2 g2 m2
        obtain ⟨b2, s2, k2⟩ := app_step oF1 s1 g2 m2
        obtain ⟨oE2, aq2⟩ := k2 _ _ _ oE1 ap1
        have bl2 := bl1.trans b2
        clear g2 m2 k2 oE1 oF1 ap1 aq2 bl1 b2 s1
        have oE : Own W2 w2.heap.size 9 vE1 (strs (withN N node)) := by rw [HE.out]; simpa [strs] using oE2
        have oF : Own W2 w2.heap.size 34 vF2 (ints (withC N C node n)) := by rw [HF.out]; simpa [ints] using oF2
        clear oE2 oF2 HE HF
        generalize vE1 = vE at *
        generalize vF2 = vF at *
        generalize W2 = W at *
        have x0 : W.cell? ⟨w1.heap.size, 0, none⟩ = some (.string (cat N)) := cell_of_block ((bl2.block _ hlw).trans HC2.out) 0
        have x1 : W.cell? ⟨w1.heap.size, 1, none⟩ = some (.slice ao1 on1 capo) := cell_of_block ((bl2.block _ hlw).trans HC2.out) 1
        have x2 : W.cell? ⟨w1.heap.size, 2, none⟩ = some (.slice ac1 N.length capc) := cell_of_block ((bl2.block _ hlw).trans HC2.out) 2
        go_wp2_with fail
        have hw := with_any W ao1 ac1 on1 capo N.length capc N C (CLK2.out.below bl2) node n (by omega) (by omega) (by omega) HSO2.out
        have hne : withN N node ≠ [] := by unfold withN; split; (rename_i h; intro e; rw [e] at h; simp at h); simp
        have hls2 : (strs (withN N node)).length = (withN N node).length := by simp [strs]
        have hlw2 : (withC N C node n).length = (withN N node).length := with_len HCl.out node n
        have hsz : (cat (withN N node)).size ≤ 2000 := by have := with_size N node; omega
        have hnl : (withN N node).length ≤ 7 := by have := with_length N node; omega
        generalize withN N node = EN at *
        generalize withC N C node n = EC at *
        refine hw.mono ?_
        rintro e w5 ⟨offs5, ctrs5, rfl, clk5, b5⟩
        have oE5 : Row w5 vE (strs EN) := oE.row.below b5
        have oF5 : Row w5 vF (ints EC) := oF.row.below b5
        clear hw oE oF x0 x1 x2
        have hb5 : Below w.heap.size w w5 := (bw2.trans (bl2.mono (by omega))).trans (b5.mono (by have := bl2.size; omega))
        obtain ⟨rc5, -, rest5⟩ := clk5
        rcases rest5 with ⟨h0, -⟩ | ⟨-, ro5⟩
        · exact absurd h0 hne
        have hlo : (u64s (offsL EN)).length = EN.length + 1 := by simp [u64s, offsL]
        have hlE : (ints EC).length = EN.length := by rw [ints_len, hlw2]
        have hpos : 0 < EN.length := List.length_pos_iff.2 hne
        rcases ro5 with ⟨-, hx⟩ | ⟨og, oo, ocap, rfl, hog, -, -, hocell⟩
        · exact absurd (congrArg List.length hx) (by rw [hlo]; simp)
        rcases rc5 with ⟨-, hx⟩ | ⟨cg, co, ccap, rfl, hcg, -, -, hccell⟩
        · exact absurd (congrArg List.length hx) (by rw [hlE]; show ¬ EN.length = 0; omega)
        rcases oE5 with ⟨-, hx⟩ | ⟨eg, eo, ecap, rfl, heg, -, -, hecell⟩
        · exact absurd (congrArg List.length hx) (by rw [hls2]; show ¬ EN.length = 0; omega)
        rcases oF5 with ⟨-, hx⟩ | ⟨fg, fo, fcap, rfl, hfg, -, -, hfcell⟩
        · exact absurd (congrArg List.length hx) (by rw [hlE]; show ¬ EN.length = 0; omega)
        rw [hlo] at hocell ⊢
        rw [hlE] at hccell hfcell ⊢
        rw [hls2] at hecell ⊢
        have HO := hid hocell
        have HCC := hid hccell
        have HEE := hid hecell
        have HFF := hid hfcell
        have o0 := (hocell 0 (by omega)).trans (offsL_at EN 0 (by omega))
        simp only [List.take_zero, show (cat []).size = 0 from rfl, Nat.add_zero] at o0
        clear hocell hccell hecell hfcell hlo hlE hls2 hne
        go_wp2_with fail
        have bA5 : Below w5.heap.size w5 (w5.alloc (.cells #[.string (cat EN), .slice (some ⟨og, oo, none⟩) (EN.length + 1) ocap, .slice (some ⟨cg, co, none⟩) EN.length ccap] 27)) := below_alloc _ _ _ (Nat.le_refl _)
        have hA5 : (w5.alloc (.cells #[.string (cat EN), .slice (some ⟨og, oo, none⟩) (EN.length + 1) ocap, .slice (some ⟨cg, co, none⟩) EN.length ccap] 27)).heap[w5.heap.size]? = _ := Go.heap_alloc_new _ _
        generalize (w5.alloc (.cells #[.string (cat EN), .slice (some ⟨og, oo, none⟩) (EN.length + 1) ocap, .slice (some ⟨cg, co, none⟩) EN.length ccap] 27)) = w6 at *
        have HA5 := hid hA5
        clear hA5 o0
        go_loopw [20, 21] (fun v20 v21 wq => ∃ k q : Nat, k ≤ EN.length ∧ v21 = .int .i64 k ∧ v20 = .string (cat (EN.take k)) ∧ wq = w6.drewN q) (fun _ v21 wq => EN.length - (intOf v21).toNat)
        case atStart => exact ⟨0, 0, Nat.zero_le _, rfl, rfl, rfl⟩
        case round =>
          obtain ⟨k, q, hk5, rfl, rfl, rfl⟩ := hrel
          have y0 : w6.cell? ⟨w5.heap.size, 0, none⟩ = some (.string (cat EN)) := cell_of_block HA5.out 0
          have y1 : w6.cell? ⟨w5.heap.size, 1, none⟩ = some (.slice (some ⟨og, oo, none⟩) (EN.length + 1) ocap) := cell_of_block HA5.out 1
          have y2 : w6.cell? ⟨w5.heap.size, 2, none⟩ = some (.slice (some ⟨cg, co, none⟩) EN.length ccap) := cell_of_block HA5.out 2
          by_cases hlt5 : k < EN.length
          · have c1 := later bA5 hog ((HO.out (k + 1) (by omega)).trans (offsL_at EN (k + 1) (by omega)))
            have hkC : k < EC.length := by omega
            have c2 : w6.cell? ⟨cg, co + k, none⟩ = some (.int .u64 EC[k]) := later bA5 hcg ((HCC.out k (by omega)).trans (by simp [ints, hkC]))
            have c3 : w6.cell? ⟨fg, fo + k, none⟩ = some (.int .u64 EC[k]) := later bA5 hfg ((HFF.out k (by omega)).trans (by simp [ints, hkC]))
            have c4 : w6.cell? ⟨eg, eo + k, none⟩ = some (.string EN[k]) := later bA5 heg ((HEE.out k (by omega)).trans (by simp [strs, hlt5]))
            have tk : EN.take (k + 1) = EN.take k ++ [EN[k]] := List.take_succ_eq_append_getElem hlt5
            have ck : cat (EN.take (k + 1)) = cat (EN.take k) ++ EN[k] := by rw [tk, cat_snoc]
            have sk := cat_take_size EN (k + 1)
            have sk' : (cat (EN.take k)).size + EN[k].size = (cat (EN.take (k + 1))).size := by rw [ck, ByteArray.size_append]
            have CK := hid ck
            have SK := hid sk'
            have hsA : (cat (EN.take k)).size ≤ 2000 := by omega
            have hsB : EN[k].size ≤ 2000 := by omega
            generalize EN[k] = x at *
            generalize EC[k] = c at *
            rw [← sk'] at c1
            have j1 : (0 : Int) ≤ k := by omega
            have j2 : (k : Int) < EN.length := by omega
            clear tk ck sk sk'
            go_wp2_with fail
            go_quiet (fail)
            go_wp2_with fail
            exact ⟨⟨k + 1, q + nq, by omega, by go_num, by rw [CK.out], rfl⟩, by simp [intOf]; omega⟩
          · obtain rfl : k = EN.length := by omega
            have tE : EN.take EN.length = EN := List.take_of_length_le (Nat.le_refl _)
            rw [tE]
            go_wp2_with fail
            go_ret
            exact ⟨rfl, below_drewN (hb5.trans (bA5.mono hb5.size)) _⟩
      · have hE : withN N node = E := by rw [← hend.1]; rfl
        have hF : withC N C node n = F := by rw [← hend.2]; rfl
        rw [← hE] at oEr
        rw [← hF] at oFr
        have oE := oEr
        have oF := oFr
        have bl2 := blr
        have s2 := sr
        clear hend hE hF hlen2 oEr oFr blr sr apr
        generalize u15 = vE at *
        generalize u16 = vF at *
        generalize wr = W at *
        have x0 : W.cell? ⟨w1.heap.size, 0, none⟩ = some (.string (cat N)) := cell_of_block ((bl2.block _ hlw).trans HC2.out) 0
        have x1 : W.cell? ⟨w1.heap.size, 1, none⟩ = some (.slice ao1 on1 capo) := cell_of_block ((bl2.block _ hlw).trans HC2.out) 1
        have x2 : W.cell? ⟨w1.heap.size, 2, none⟩ = some (.slice ac1 N.length capc) := cell_of_block ((bl2.block _ hlw).trans HC2.out) 2
        go_wp2_with fail
        have hw := with_any W ao1 ac1 on1 capo N.length capc N C (CLK2.out.below bl2) node n (by omega) (by omega) (by omega) HSO2.out
        have hne : withN N node ≠ [] := by unfold withN; split; (rename_i h; intro e; rw [e] at h; simp at h); simp
        have hls2 : (strs (withN N node)).length = (withN N node).length := by simp [strs]
        have hlw2 : (withC N C node n).length = (withN N node).length := with_len HCl.out node n
        have hsz : (cat (withN N node)).size ≤ 2000 := by have := with_size N node; omega
        have hnl : (withN N node).length ≤ 7 := by have := with_length N node; omega
        generalize withN N node = EN at *
        generalize withC N C node n = EC at *
        refine hw.mono ?_
        rintro e w5 ⟨offs5, ctrs5, rfl, clk5, b5⟩
        have oE5 : Row w5 vE (strs EN) := oE.row.below b5
        have oF5 : Row w5 vF (ints EC) := oF.row.below b5
        clear hw oE oF x0 x1 x2
        have hb5 : Below w.heap.size w w5 := (bw2.trans (bl2.mono (by omega))).trans (b5.mono (by have := bl2.size; omega))
        obtain ⟨rc5, -, rest5⟩ := clk5
        rcases rest5 with ⟨h0, -⟩ | ⟨-, ro5⟩
        · exact absurd h0 hne
        have hlo : (u64s (offsL EN)).length = EN.length + 1 := by simp [u64s, offsL]
        have hlE : (ints EC).length = EN.length := by rw [ints_len, hlw2]
        have hpos : 0 < EN.length := List.length_pos_iff.2 hne
        rcases ro5 with ⟨-, hx⟩ | ⟨og, oo, ocap, rfl, hog, -, -, hocell⟩
        · exact absurd (congrArg List.length hx) (by rw [hlo]; simp)
        rcases rc5 with ⟨-, hx⟩ | ⟨cg, co, ccap, rfl, hcg, -, -, hccell⟩
        · exact absurd (congrArg List.length hx) (by rw [hlE]; show ¬ EN.length = 0; omega)
        rcases oE5 with ⟨-, hx⟩ | ⟨eg, eo, ecap, rfl, heg, -, -, hecell⟩
        · exact absurd (congrArg List.length hx) (by rw [hls2]; show ¬ EN.length = 0; omega)
        rcases oF5 with ⟨-, hx⟩ | ⟨fg, fo, fcap, rfl, hfg, -, -, hfcell⟩
        · exact absurd (congrArg List.length hx) (by rw [hlE]; show ¬ EN.length = 0; omega)
        rw [hlo] at hocell ⊢
        rw [hlE] at hccell hfcell ⊢
        rw [hls2] at hecell ⊢
        have HO := hid hocell
        have HCC := hid hccell
        have HEE := hid hecell
        have HFF := hid hfcell
        have o0 := (hocell 0 (by omega)).trans (offsL_at EN 0 (by omega))
        simp only [List.take_zero, show (cat []).size = 0 from rfl, Nat.add_zero] at o0
        clear hocell hccell hecell hfcell hlo hlE hls2 hne
        go_wp2_with fail
        have bA5 : Below w5.heap.size w5 (w5.alloc (.cells #[.string (cat EN), .slice (some ⟨og, oo, none⟩) (EN.length + 1) ocap, .slice (some ⟨cg, co, none⟩) EN.length ccap] 27)) := below_alloc _ _ _ (Nat.le_refl _)
        have hA5 : (w5.alloc (.cells #[.string (cat EN), .slice (some ⟨og, oo, none⟩) (EN.length + 1) ocap, .slice (some ⟨cg, co, none⟩) EN.length ccap] 27)).heap[w5.heap.size]? = _ := Go.heap_alloc_new _ _
        generalize (w5.alloc (.cells #[.string (cat EN), .slice (some ⟨og, oo, none⟩) (EN.length + 1) ocap, .slice (some ⟨cg, co, none⟩) EN.length ccap] 27)) = w6 at *
        have HA5 := hid hA5
        clear hA5 o0
        go_loopw [20, 21] (fun v20 v21 wq => ∃ k q : Nat, k ≤ EN.length ∧ v21 = .int .i64 k ∧ v20 = .string (cat (EN.take k)) ∧ wq = w6.drewN q) (fun _ v21 wq => EN.length - (intOf v21).toNat)
        case atStart => exact ⟨0, 0, Nat.zero_le _, rfl, rfl, rfl⟩
        case round =>
          obtain ⟨k, q, hk5, rfl, rfl, rfl⟩ := hrel
          have y0 : w6.cell? ⟨w5.heap.size, 0, none⟩ = some (.string (cat EN)) := cell_of_block HA5.out 0
          have y1 : w6.cell? ⟨w5.heap.size, 1, none⟩ = some (.slice (some ⟨og, oo, none⟩) (EN.length + 1) ocap) := cell_of_block HA5.out 1
          have y2 : w6.cell? ⟨w5.heap.size, 2, none⟩ = some (.slice (some ⟨cg, co, none⟩) EN.length ccap) := cell_of_block HA5.out 2
          by_cases hlt5 : k < EN.length
          · have c1 := later bA5 hog ((HO.out (k + 1) (by omega)).trans (offsL_at EN (k + 1) (by omega)))
            have hkC : k < EC.length := by omega
            have c2 : w6.cell? ⟨cg, co + k, none⟩ = some (.int .u64 EC[k]) := later bA5 hcg ((HCC.out k (by omega)).trans (by simp [ints, hkC]))
            have c3 : w6.cell? ⟨fg, fo + k, none⟩ = some (.int .u64 EC[k]) := later bA5 hfg ((HFF.out k (by omega)).trans (by simp [ints, hkC]))
            have c4 : w6.cell? ⟨eg, eo + k, none⟩ = some (.string EN[k]) := later bA5 heg ((HEE.out k (by omega)).trans (by simp [strs, hlt5]))
            have tk : EN.take (k + 1) = EN.take k ++ [EN[k]] := List.take_succ_eq_append_getElem hlt5
            have ck : cat (EN.take (k + 1)) = cat (EN.take k) ++ EN[k] := by rw [tk, cat_snoc]
            have sk := cat_take_size EN (k + 1)
            have sk' : (cat (EN.take k)).size + EN[k].size = (cat (EN.take (k + 1))).size := by rw [ck, ByteArray.size_append]
            have CK := hid ck
            have SK := hid sk'
            have hsA : (cat (EN.take k)).size ≤ 2000 := by omega
            have hsB : EN[k].size ≤ 2000 := by omega
            generalize EN[k] = x at *
            generalize EC[k] = c at *
            rw [← sk'] at c1
            have j1 : (0 : Int) ≤ k := by omega
            have j2 : (k : Int) < EN.length := by omega
            clear tk ck sk sk'
            go_wp2_with fail
            go_quiet (fail)
            go_wp2_with fail
            exact ⟨⟨k + 1, q + nq, by omega, by go_num, by rw [CK.out], rfl⟩, by simp [intOf]; omega⟩
          · obtain rfl : k = EN.length := by omega
            have tE : EN.take EN.length = EN := List.take_of_length_le (Nat.le_refl _)
            rw [tE]
            go_wp2_with fail
            go_ret
            exact ⟨rfl, below_drewN (hb5.trans (bA5.mono hb5.size)) _⟩
end Go.Proofs.Ybulkgey
