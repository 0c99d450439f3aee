/- 'zzs0349bbuild', 'slices.Clone': the walks, and the plain functions that they compute. -/
import Derived.Test.YbulkgeyOwn
namespace Go.Proofs.Ybulkgey
open Go.RowKit
set_option linter.unusedVariables false
def nmA : Array ByteArray := #[⟨#[97]⟩, ⟨#[97, 98]⟩, ⟨#[98]⟩, ⟨#[98, 98]⟩, ⟨#[99]⟩, ⟨#[100]⟩]
def nm (k : Nat) : ByteArray := nmA.getD k ByteArray.empty
def nmCells : Array Value := #[.string ⟨#[97]⟩, .string ⟨#[97, 98]⟩, .string ⟨#[98]⟩, .string ⟨#[98, 98]⟩, .string ⟨#[99]⟩, .string ⟨#[100]⟩]
theorem nmCells_at (k : Nat) (h : k < 6) : nmCells[k]? = some (.string (nm k)) := by
  match k, h with
  | 0, _ => rfl
  | 1, _ => rfl
  | 2, _ => rfl
  | 3, _ => rfl
  | 4, _ => rfl
  | 5, _ => rfl
def bitB (m : Int) (k : Nat) : Bool := !(bits BinOp.and IntKind.u8 (m / 2 ^ k) 1 == 0)
def sel (m : Int) (k : Nat) : List Nat := (List.range k).filter (bitB m)
def cat (l : List ByteArray) : ByteArray := l.foldl (· ++ ·) ByteArray.empty
def offsL (l : List ByteArray) : List Nat := (List.range (l.length + 1)).map fun j => (cat (l.take j)).size
def u64s (l : List Nat) : List Value := l.map fun (n : Nat) => Value.int .u64 n
def ints (l : List Int) : List Value := l.map fun n => Value.int .u64 n
def strs (l : List ByteArray) : List Value := l.map Value.string
def valAt (z : List Int) (len k : Nat) : Int := if k < len ∧ z.getD k 0 ≠ 0 then z.getD k 0 else 1
def NL (m : Int) (k : Nat) : List ByteArray := (sel m k).map nm
def CL (m : Int) (z : List Int) (len k : Nat) : List Int := (sel m k).map (valAt z len)

theorem sel_yes {m : Int} {k : Nat} (h : (bits BinOp.and IntKind.u8 (m / 2 ^ k) 1 == 0) = false) : sel m (k + 1) = sel m k ++ [k] := by
  simp [sel, List.range_succ, List.filter_append, bitB, h]
theorem sel_no {m : Int} {k : Nat} (h : (bits BinOp.and IntKind.u8 (m / 2 ^ k) 1 == 0) = true) : sel m (k + 1) = sel m k := by
  simp [sel, List.range_succ, List.filter_append, bitB, h]
theorem cat_snoc (l : List ByteArray) (x : ByteArray) : cat (l ++ [x]) = cat l ++ x := by simp [cat]
theorem offs_snoc (l : List ByteArray) (x : ByteArray) : offsL (l ++ [x]) = offsL l ++ [(cat (l ++ [x])).size] := by
  unfold offsL
  rw [List.length_append, List.length_singleton, List.range_succ, List.map_append]
  congr 1
  · apply List.map_congr_left
    intro j hj
    rw [List.mem_range] at hj
    rw [List.take_append_of_le_length (by omega)]
  · simp only [List.map_cons, List.map_nil]
    rw [List.take_of_length_le (by simp)]
theorem sel_len (m : Int) (k : Nat) : (sel m k).length ≤ k := by
  have := List.length_filter_le (bitB m) (List.range k)
  simpa [sel] using this
theorem nm_size (k : Nat) : (nm k).size ≤ 2 := by
  match k with
  | 0 => decide
  | 1 => decide
  | 2 => decide
  | 3 => decide
  | 4 => decide
  | 5 => decide
  | k + 6 => simp [nm, nmA]
theorem cat_size (l : List ByteArray) (h : ∀ x ∈ l, x.size ≤ 2) : (cat l).size ≤ 2 * l.length := by
  have key : ∀ (l : List ByteArray) (a : ByteArray), (∀ x ∈ l, x.size ≤ 2) → (l.foldl (· ++ ·) a).size ≤ a.size + 2 * l.length := by
    intro l
    induction l with
    | nil => intro a _; simp
    | cons x l ih =>
      intro a h
      have h1 := ih (a ++ x) (fun y hy => h y (by simp [hy]))
      have h2 := h x (by simp)
      simp only [List.foldl_cons, List.length_cons]
      rw [ByteArray.size_append] at h1
      omega
  have := key l ByteArray.empty h
  simpa [cat] using this
theorem NL_yes {m : Int} {k : Nat} (h : (bits BinOp.and IntKind.u8 (m / 2 ^ k) 1 == 0) = false) : NL m (k + 1) = NL m k ++ [nm k] := by simp [NL, sel_yes h]
theorem NL_no {m : Int} {k : Nat} (h : (bits BinOp.and IntKind.u8 (m / 2 ^ k) 1 == 0) = true) : NL m (k + 1) = NL m k := by simp [NL, sel_no h]
theorem CL_yes {m : Int} {z : List Int} {len k : Nat} (h : (bits BinOp.and IntKind.u8 (m / 2 ^ k) 1 == 0) = false) : CL m z len (k + 1) = CL m z len k ++ [valAt z len k] := by simp [CL, sel_yes h]
theorem CL_no {m : Int} {z : List Int} {len k : Nat} (h : (bits BinOp.and IntKind.u8 (m / 2 ^ k) 1 == 0) = true) : CL m z len (k + 1) = CL m z len k := by simp [CL, sel_no h]
theorem NL_len (m : Int) (k : Nat) : (NL m k).length ≤ k := by simpa [NL] using sel_len m k
theorem CL_len (m : Int) (z : List Int) (len k : Nat) : (CL m z len k).length = (NL m k).length := by simp [NL, CL]
theorem NL_cat (m : Int) (k : Nat) (h : k ≤ 6) : (cat (NL m k)).size ≤ 12 := by
  have := cat_size (NL m k) (by intro x hx; simp only [NL, List.mem_map] at hx; obtain ⟨j, _, rfl⟩ := hx; exact nm_size j)
  have := NL_len m k
  omega
theorem offsL_len (l : List ByteArray) : (offsL l).length = l.length + 1 := by simp [offsL]


set_option maxRecDepth 100000 in
set_option maxHeartbeats 400000 in
theorem clone_any (w : World) (v : Value) (xs : List Int) (h : Row w v (ints xs)) (hl : xs.length ≤ 1000000) :
    Calls Yba.prog 17 #[v] w fun e w' => ∃ v', e = .returned v' ∧ Own w' w.heap.size 34 v' (ints xs) ∧ Below w.heap.size w w' := by
  have hnil := fun w a n c => Lib.run_eql_slice_nil (P := Yba.prog) w 25 34 a n c 0 0 Yba.underlying25
  rcases h with ⟨rfl, hx⟩ | ⟨g, o, cap, rfl, hg, hc, hm, hcell⟩
  · go_enter Yba.func17, Yba.ntmps17
    go_wp2
    go_ret
    exact ⟨_, rfl, by rw [hx]; exact World.ownsRow_nil _ _ _ _, Below.refl _ _⟩
  · have hlen : (ints xs).length = xs.length := by simp [ints]
    obtain ⟨i, hi, hz0, hz1, hz2⟩ := info_parts Yba.info34
    have own0 : (w.alloc (.cells #[] 34)).ownsRow w.heap.size 34 1 (.slice (some ⟨w.heap.size, 0, none⟩) 0 0) 0 [] := World.ownsRow_made w #[] 0 (Nat.le_refl _) (by simp) (by simp)
    have HC : Hid (∀ j u, (ints xs)[j]? = some u → (w.alloc (.cells #[] 34)).cell? ((⟨g, o, none⟩ : Addr).add j) = some u) := by
      intro j u hu
      have hj := (List.getElem?_eq_some_iff.1 hu).1
      rw [Addr.add_lit, (below_alloc w _ _ (Nat.le_refl _)).cell (p := ⟨g, o + j, none⟩) hg, hcell j hj, hu]
    have H1 : Hid (∀ u ∈ ints xs, u.oneCell' = true) := ints_oneCell .u64 xs
    clear hcell
    go_enter Yba.func17, Yba.ntmps17
    go_wp2_with (at_builtin; refine Stand.out ?_)
    refine wpList_append_own _ rfl _ _ 25 rfl w.heap.size 34 i _ 1 8 Yba.underlying25 hi hz0 hz1 hz2 rfl (by omega) (.slice (some ⟨w.heap.size, 0, none⟩) 0 0) 0 [] rfl own0 ⟨g, o, none⟩ (ints xs).length cap (ints xs) rfl (by simp) HC.out H1.out (by unfold maxLen; omega) (by omega) (by simp) ?_
    intro v' w' o1 g1 _
    go_wp2
    go_ret
    refine ⟨_, rfl, by unfold Own; simpa using o1, ?_⟩
    exact (below_alloc w _ _ (Nat.le_refl _)).trans ((Below.refl _ _).grown g1 (by simp) (by intro k hk; simp [Value.ownBlock] at hk; omega))

theorem heap_at4 (w : World) (a b c d : Obj) : ((((w.alloc a).alloc b).alloc c).alloc d).heap[w.heap.size]? = some a := by
  rw [Go.heap_alloc_old _ _ (by simp; omega), Go.heap_alloc_old _ _ (by simp; omega), Go.heap_alloc_old _ _ (by simp), Go.heap_alloc_new]
theorem heap_at4' (w : World) (a b c d : Obj) : ((((w.alloc a).alloc b).alloc c).alloc d).heap[w.heap.size + 2]? = some c := by
  rw [Go.heap_alloc_old _ _ (by simp)]; exact heap_new_at _ _ (by simp)
def Clk (w : World) (offs ctrs : Value) (N : List ByteArray) (C : List Int) : Prop :=
  Row w ctrs (ints C) ∧ C.length = N.length ∧ (N = [] ∧ offs = .slice none 0 0 ∨ N ≠ [] ∧ Row w offs (u64s (offsL N)))

set_option maxRecDepth 100000 in
set_option maxHeartbeats 400000 in
theorem build_any (w : World) (m : Int) (ac : Option Addr) (len cap : Nat) (z : List Int) (hm : 0 ≤ m ∧ m ≤ 255) (hc : cap ≤ maxLen) (hl : len ≤ cap)
   (hcell : ∀ k, k < len → ∃ b o, ac = some ⟨b, o, none⟩ ∧ w.cell? ⟨b, o + k, none⟩ = some (.int .u64 (z.getD k 0))) :
    Calls Yba.prog 14 #[.int .u8 m, .slice ac len cap] w fun r w' => ∃ offs ctrs names c2, r = .returned (.tuple #[.agg #[.string (cat (NL m 6)), offs, ctrs], names, c2]) ∧ Below w.heap.size w w' ∧
      Clk w' offs ctrs (NL m 6) (CL m z len 6) ∧ Row w' names (strs (NL m 6)) ∧ Row w' c2 (ints (CL m z len 6)) := by
  go_enter Yba.func14, Yba.ntmps14
  go_wp2
  go_loopw [8, 9, 10, 11, 12] (fun v8 v9 v10 v11 v12 wr => ∃ k : Nat, k ≤ 6 ∧ v12 = .int .i64 k ∧ v8 = .string (cat (NL m k)) ∧ Own wr (w.heap.size + 3) 34 v9 (u64s (offsL (NL m k))) ∧
    Own wr (w.heap.size + 3) 34 v10 (ints (CL m z len k)) ∧ Own wr (w.heap.size + 3) 9 v11 (strs (NL m k)) ∧ Apart v9 v10 ∧ Apart v9 v11 ∧ Apart v10 v11 ∧
    Below w.heap.size w wr ∧ w.heap.size + 3 ≤ wr.heap.size ∧ wr.heap[w.heap.size]? = some (.cells #[.string ⟨#[]⟩, .slice none 0 0, .slice none 0 0] 27) ∧ wr.heap[w.heap.size + 2]? = some (.cells nmCells 61)) (fun _ _ _ _ v12 wr => 6 - (intOf v12).toNat)
  case atStart =>
   refine ⟨0, by omega, rfl, rfl, ?_, World.ownsRow_nil _ _ _ _, World.ownsRow_nil _ _ _ _, apart_nil_right _, apart_nil_right _, apart_nil_right _, ?_, by simp, heap_at4 _ _ _ _ _, heap_at4' _ _ _ _ _⟩
   · have := World.ownsRow_lit (base := w.heap.size + 3) (e := 34) (size := 1) (((w.alloc (.cells #[.string ⟨#[]⟩, .slice none 0 0, .slice none 0 0] 27)).alloc (.cells nmCells 61)).alloc (.cells nmCells 61)) #[.int .u64 0] 1 (by simp) (by simp [maxLen]) (by simp)
     simpa [Own, NL, sel, u64s, offsL, cat, nmCells] using this
   · go_grown
  case round => 
   obtain ⟨k, hk, rfl, rfl, h9, h10, h11, p1, p2, p3, hb, hsz, hres, htab⟩ := hrel
   have HT : Hid (wr.heap[w.heap.size + 2]? = some (.cells nmCells 61)) := htab
   have HR : Hid (wr.heap[w.heap.size]? = some (.cells #[.string ⟨#[]⟩, .slice none 0 0, .slice none 0 0] 27)) := hres
   clear htab hres
   by_cases hlt : k < 6
   · cases hbit : (bits BinOp.and IntKind.u8 (m / 2 ^ k) 1 == 0)
     · have htk : wr.cell? ⟨w.heap.size + 1 + 1, k, none⟩ = some (.string (nm k)) := (cell_of_block HT.out k).trans (nmCells_at k hlt)
       have hcs1 := NL_cat m k hk
       have hcs2 := nm_size k
       have hln := NL_len m k
       rcases (show (∃ b o zk, ac = some ⟨b, o, none⟩ ∧ k < len ∧ wr.cell? ⟨b, o + k, none⟩ = some (.int .u64 zk) ∧ (zk != 0) = true ∧ valAt z len k = zk) ∨ (∃ b o zk, ac = some ⟨b, o, none⟩ ∧ k < len ∧ wr.cell? ⟨b, o + k, none⟩ = some (.int .u64 zk) ∧ (zk != 0) = false ∧ valAt z len k = 1) ∨ (¬ k < len ∧ valAt z len k = 1) from by
         by_cases hkl : k < len
         · obtain ⟨b, o, hac, hck⟩ := hcell k hkl
           have hck' := cell_later hb hck
           by_cases hz0 : z.getD k 0 = 0
           · exact .inr (.inl ⟨b, o, _, hac, hkl, hck', by rw [hz0]; rfl, by rw [valAt, if_neg (fun h => h.2 hz0)]⟩)
           · exact .inl ⟨b, o, _, hac, hkl, hck', by rw [bne_iff_ne]; exact hz0, by rw [valAt, if_pos ⟨hkl, hz0⟩]⟩
         · exact .inr (.inr ⟨hkl, by simp [valAt, hkl]⟩)) with ⟨b, o, zk, rfl, hkl, hck, hzk, hval⟩ | ⟨b, o, zk, rfl, hkl, hck, hzk, hval⟩ | ⟨hkl, hval⟩
       all_goals
         have HV : Hid (valAt z len k = _) := hval
         clear hval
         clear hcell
         go_wp2_with (at_builtin; refine Stand.out ?_)
         refine app_u64 rfl _ _ rfl (w.heap.size + 3) u9 _ rfl (h9.alloc _) _ _ _ rfl (cell_one_new _ _ _ 0 _ rfl) (by simp [u64s, offsL_len]; omega) (by simp; omega) ?_
         intro v9 w1 o9 g9 m9
         obtain ⟨b1, s1, k1⟩ := app_step h9 hsz g9 m9
         obtain ⟨o10, q1⟩ := k1 _ _ _ h10 p1.symm
         obtain ⟨o11, q2⟩ := k1 _ _ _ h11 p2.symm
         have HT1 : Hid (w1.heap[w.heap.size + 2]? = some (.cells nmCells 61)) := (b1.block _ (by omega)).trans HT.out
         have HR1 : Hid (w1.heap[w.heap.size]? = some (.cells #[.string ⟨#[]⟩, .slice none 0 0, .slice none 0 0] 27)) := (b1.block _ (by omega)).trans HR.out
         have hb1 := hb.trans (b1.mono (by omega))
         clear g9 m9 k1 p1 p2 HT HR hb h9 h10 h11
         go_wp2_with (at_builtin; refine Stand.out ?_)
         refine app_u64 rfl _ _ rfl (w.heap.size + 3) u10 _ rfl (o10.alloc _) _ _ _ rfl (cell_one_new _ _ _ 0 _ rfl) (by simp [ints, CL_len]; omega) (by simp; omega) ?_
         intro v10 w2 o10' g10 m10
         obtain ⟨b2, s2, k2⟩ := app_step o10 s1 g10 m10
         obtain ⟨o9', q3⟩ := k2 _ _ _ o9 q1.symm
         obtain ⟨o11', q4⟩ := k2 _ _ _ o11 p3.symm
         have HT2 : Hid (w2.heap[w.heap.size + 2]? = some (.cells nmCells 61)) := (b2.block _ (by omega)).trans HT1.out
         have HR2 : Hid (w2.heap[w.heap.size]? = some (.cells #[.string ⟨#[]⟩, .slice none 0 0, .slice none 0 0] 27)) := (b2.block _ (by omega)).trans HR1.out
         have hb2 := hb1.trans (b2.mono (by omega))
         have htk2 : w2.cell? ⟨w.heap.size + 1 + 1, k, none⟩ = some (.string (nm k)) := (cell_of_block HT2.out k).trans (nmCells_at k hlt)
         clear g10 m10 k2 q1 p3 HT1 HR1 hb1 o9 o10 o11 b1 s1 htk b2
         go_wp2_with (at_builtin; refine Stand.out ?_)
         refine app_str rfl _ _ rfl (w.heap.size + 3) u11 _ rfl (o11'.alloc _) _ _ _ rfl (cell_one_new _ _ _ 0 _ rfl) (by simp [strs]; omega) (by simp; omega) ?_
         intro v11 w3 o11'' g11 m11
         obtain ⟨b3, s3, k3⟩ := app_step o11' s2 g11 m11
         obtain ⟨o9'', q5⟩ := k3 _ _ _ o9' q2.symm
         obtain ⟨o10'', q6⟩ := k3 _ _ _ o10' q4.symm
         have HT3 : Hid (w3.heap[w.heap.size + 2]? = some (.cells nmCells 61)) := (b3.block _ (by omega)).trans HT2.out
         have HR3 : Hid (w3.heap[w.heap.size]? = some (.cells #[.string ⟨#[]⟩, .slice none 0 0, .slice none 0 0] 27)) := (b3.block _ (by omega)).trans HR2.out
         have hb3 := hb2.trans (b3.mono (by omega))
         clear g11 m11 k3 HT2 HR2 hb2 o9' o10' o11' b3 htk2
         go_wp2
         refine ⟨⟨k + 1, by omega, by go_num, by rw [NL_yes hbit, cat_snoc], ?_, ?_, ?_, q3, q5, q6, hb3, s3, HR3.out, HT3.out⟩, by simp [intOf]; omega⟩
         · rw [NL_yes hbit, offs_snoc, cat_snoc]
           simpa [u64s] using o9''
         · rw [CL_yes hbit, HV.out]
           simpa [ints] using o10''
         · rw [NL_yes hbit]
           simpa [strs] using o11''
     · go_wp2_with fail
       refine ⟨⟨k + 1, by omega, by go_num, by rw [NL_no hbit], ?_, ?_, ?_, p1, p2, p3, hb, hsz, HR.out, HT.out⟩, by simp [intOf]; omega⟩
       · rw [NL_no hbit]; exact h9
       · rw [CL_no hbit]; exact h10
       · rw [NL_no hbit]; exact h11
   · obtain rfl : k = 6 := by omega
     have c0 : wr.cell? ⟨w.heap.size, 0, none⟩ = some (.string ⟨#[]⟩) := cell_of_block HR.out 0
     have c1 : wr.cell? ⟨w.heap.size, 1, none⟩ = some (.slice none 0 0) := cell_of_block HR.out 1
     have c2 : wr.cell? ⟨w.heap.size, 2, none⟩ = some (.slice none 0 0) := cell_of_block HR.out 2
     have f0 := frozen_of_block HR.out 0
     have f1 := frozen_of_block HR.out 1
     have f2 := frozen_of_block HR.out 2
     clear hcell
     by_cases hn : CL m z len 6 = []
     · have hN : NL m 6 = [] := List.eq_nil_of_length_eq_zero (by rw [← CL_len m z len 6, hn]; rfl)
       have HN := (show Hid _ from hN)
       have HC := (show Hid _ from hn)
       have h10' : Own wr (w.heap.size + 3) 34 u10 [] := by rw [hn] at h10; exact h10
       clear hN hn h10
       rcases h10'.shape with ⟨rfl, _⟩ | ⟨g, cap, rfl, _⟩
       all_goals
         try simp only [List.length_nil]
         go_wp2
         refine bodyPost_ret (v := .tuple #[.agg #[.string ⟨#[]⟩, .slice none 0 0, .slice none 0 0], .slice none 0 0, .slice none 0 0]) (by simp [results, Yba.results14, go_sem, c0, c1, c2]) rfl ?_
         refine ⟨_, _, _, _, by rw [HN.out]; rfl, by go_grown, ⟨.inl ⟨rfl, by rw [HC.out]; rfl⟩, CL_len _ _ _ _, .inl ⟨HN.out, rfl⟩⟩, .inl ⟨rfl, by rw [HN.out]; rfl⟩, .inl ⟨rfl, by rw [HC.out]; rfl⟩⟩
     · rcases h10.shape with ⟨rfl, hx⟩ | ⟨g, cap, rfl, hg1, hg2, hc1, hc2, hcl⟩
       · exact absurd (by simpa [ints] using hx) hn
       · have hlen : ((((ints (CL m z len 6)).length : Nat) : Int) == 0) = false := by simp [ints, hn]
         have r10 := h10.row
         rcases h9.shape with ⟨rfl, hx9⟩ | ⟨g9, cap9, rfl, hg91, hg92, hc91, hc92, hcl9⟩
         · exact absurd (congrArg List.length hx9) (by simp [u64s, offsL])
         have hl6 : (CL m z len 6).length ≤ 6 := by rw [CL_len]; exact NL_len m 6
         clear hcl hc1 hc2 hc91 hc92 hcl9
         go_wp2_with fail
         go_region_with (
           (go_at_call 17
            refine (clone_any _ _ (CL m z len 6) ?_ ?_).mono ?_
            · exact r10.below (by go_grown)
            · omega
            rintro e wz ⟨vz, rfl, oz, bz⟩
            have e0 := later bz (a := ⟨wr.heap.size, 0, none⟩) (v := .string (cat (NL m 6))) (by simp) (by simp)
            have e1 := later bz (a := ⟨wr.heap.size, 1, none⟩) (v := .slice (some ⟨g9, 0, none⟩) (u64s (offsL (NL m 6))).length cap9) (by simp) (by simp)
            have e2 := later bz (a := ⟨wr.heap.size, 2, none⟩) (v := .slice (some ⟨g, 0, none⟩) (ints (CL m z len 6)).length cap) (by simp) (by simp)
            have bwz : Below wr.heap.size wr wz := Below.trans (by go_grown) (bz.mono (by simp))
            have d0 := later bwz (by show w.heap.size < _; omega) c0
            have d1 := later bwz (by show w.heap.size < _; omega) c1
            have d2 := later bwz (by show w.heap.size < _; omega) c2
            have k0 := (bwz.frozen (p := ⟨w.heap.size, 0, none⟩) (by show w.heap.size < _; omega)).trans f0
            have k1 := (bwz.frozen (p := ⟨w.heap.size, 1, none⟩) (by show w.heap.size < _; omega)).trans f1
            have k2 := (bwz.frozen (p := ⟨w.heap.size, 2, none⟩) (by show w.heap.size < _; omega)).trans f2))
         all_goals
           go_wp2
           refine bodyPost_ret (v := .tuple #[.agg #[.string (cat (NL m 6)), .slice (some ⟨g9, 0, none⟩) (u64s (offsL (NL m 6))).length cap9, .slice (some ⟨g, 0, none⟩) (ints (CL m z len 6)).length cap], u11, vz]) (by simp [results, Yba.results14, go_sem, d0, d1, d2]) rfl ?_
           have bl : Below w.heap.size w (((wz.setCell ⟨w.heap.size, 0, none⟩ (.string (cat (NL m 6)))).setCell ⟨w.heap.size, 1, none⟩ (.slice (some ⟨g9, 0, none⟩) (u64s (offsL (NL m 6))).length cap9)).setCell ⟨w.heap.size, 2, none⟩ (.slice (some ⟨g, 0, none⟩) (ints (CL m z len 6)).length cap)) :=
             (((hb.trans (bwz.mono (by omega))).setCell (Nat.le_refl _) _).setCell (Nat.le_refl _) _).setCell (Nat.le_refl _) _
           refine ⟨_, _, _, _, rfl, bl, ⟨?_, CL_len _ _ _ _, .inr ⟨fun h => hn (List.eq_nil_of_length_eq_zero (by rw [CL_len m z len 6, h]; rfl)), ?_⟩⟩, ?_, ?_⟩
           · refine h10.row_keep (Nat.le_trans bwz.size (by simp)) fun k k1 k2 => ?_
             rw [Below.heap_setCell _ _ _ _ (by show k ≠ w.heap.size; omega), Below.heap_setCell _ _ _ _ (by show k ≠ w.heap.size; omega), Below.heap_setCell _ _ _ _ (by show k ≠ w.heap.size; omega)]
             exact bwz.block k k2
           · refine h9.row_keep (Nat.le_trans bwz.size (by simp)) fun k k1 k2 => ?_
             rw [Below.heap_setCell _ _ _ _ (by show k ≠ w.heap.size; omega), Below.heap_setCell _ _ _ _ (by show k ≠ w.heap.size; omega), Below.heap_setCell _ _ _ _ (by show k ≠ w.heap.size; omega)]
             exact bwz.block k k2
           · refine h11.row_keep (Nat.le_trans bwz.size (by simp)) fun k k1 k2 => ?_
             rw [Below.heap_setCell _ _ _ _ (by show k ≠ w.heap.size; omega), Below.heap_setCell _ _ _ _ (by show k ≠ w.heap.size; omega), Below.heap_setCell _ _ _ _ (by show k ≠ w.heap.size; omega)]
             exact bwz.block k k2
           · refine oz.row_keep (by simp) fun k k1 k2 => ?_
             have k3 : wr.heap.size + 1 ≤ k := by simpa using k1
             rw [Below.heap_setCell _ _ _ _ (by show k ≠ w.heap.size; omega), Below.heap_setCell _ _ _ _ (by show k ≠ w.heap.size; omega), Below.heap_setCell _ _ _ _ (by show k ≠ w.heap.size; omega)]

end Go.Proofs.Ybulkgey
