/- The builder of a clock in memory: strings.Builder's methods at its first field; grow, add, end, copyNodes, clock. -/
import Derived.Test.YbulkgeyBFind
import Derived.Test.YbulkgeyRegion
import Derived.Lib.Builder
import Derived.Lib.MakeNoZero
import Derived.Lib.UnsafeStr
import Derived.Lib.AppendStr
import Derived.Laws.Externs
import Derived.Laws.IdiomCopy
import Derived.Laws.CopyOwn
import Derived.Deep.OwnRows
namespace Go.Proofs.Ybulkgey
open Go.RowKit
set_option linter.unusedVariables false

theorem Yba.sizeB66 : (Yba.prog.info? 66).map (·.size) = some 2 := by kernel_rfl
theorem Yba.size5 : (Yba.prog.info? 5).map (·.size) = some 1 := by kernel_rfl
theorem Yba.info5 : (Yba.prog.info? 5).map (fun i => (i.zero, i.size, i.bytes)) = some (some (.int .u8 0), 1, 1) := by kernel_rfl
theorem Yba.lies66 : liesAt Yba.prog Yba.prog.depth 68 (5 / Yba.prog.cellsOf 68) 0 66 1 = true := by kernel_rfl

section
variable {P : Program} (w : World)
/-- A pointer as a bare one: the address as it is. -/
theorem run_ptr_bare {src dst t e : TypeId} {j : TypeInfo} {cells : Nat} (a : Addr) (hs : P.underlying src = some (.pointer t)) (hd : P.underlying dst = some .unsafePointer) (ht : P.info? t = some j) (hj : j.size ≠ 0)
    (hsh : w.shape? a.block = some (e, cells)) (hoff : a.off < cells) : (convert src dst (.pointer (some a))).run P w = .ok (.pointer (some a)) w := by
  have h : ¬ cells ≤ a.off := by omega
  simp [convert, run_underlying hs, run_underlying hd, Conv.unsafePointer, Conv.seenAt, viewAt, cellsIn, hsh, sizeOf, typeInfo, ht, hj, h]
/-- .. and back. -/
theorem run_bare_ptr {src dst u e : TypeId} {j : TypeInfo} {cells : Nat} (a : Addr) (hs : P.underlying src = some .unsafePointer) (hd : P.underlying dst = some (.pointer u)) (hu : P.info? u = some j)
    (hsh : w.shape? a.block = some (e, cells)) (hlies : liesAt P P.depth e (cells / P.cellsOf e) a.off u 1 = true) : (convert src dst (.pointer (some a))).run P w = .ok (.pointer (some a)) w := by
  simp [convert, run_underlying hs, run_underlying hd, Conv.unsafePointer, Conv.seenAt, viewAt, hsh, variablesAt, hlies, sizeOf, typeInfo, hu]
end

set_option maxHeartbeats 400000 in
set_option maxRecDepth 100000 in
theorem copyCheck_used (b : Nat) (w : World) (h0 : w.cell? ⟨b, 0, none⟩ = some (.pointer (some ⟨b, 0, none⟩))) :
    Calls Yba.prog 66 #[.pointer (some ⟨b, 0, none⟩)] w fun e w' => e = .returned (.tuple #[]) ∧ w' = w := by
  obtain ⟨j, hj, _⟩ := Option.map_eq_some_iff.1 Yba.sizeB66
  go_enter Yba.func66, Yba.ntmps66
  go_wp2
  rw [Lib.run_neq_ptr_same w _ Yba.underlying63 hj]
  go_wp2
  go_end0
  exact ⟨rfl, rfl⟩

set_option maxHeartbeats 400000 in
set_option maxRecDepth 100000 in
theorem copyCheck_fresh (b : Nat) (w : World) (h0 : w.cell? ⟨b, 0, none⟩ = some (.pointer none)) (hsh : w.shape? b = some (68, 5)) (hfz : w.frozen? ⟨b, 0, none⟩ = false) :
    Calls Yba.prog 66 #[.pointer (some ⟨b, 0, none⟩)] w fun e w' => e = .returned (.tuple #[]) ∧ w' = w.setCell ⟨b, 0, none⟩ (.pointer (some ⟨b, 0, none⟩)) := by
  obtain ⟨j, hj, hjs⟩ := Option.map_eq_some_iff.1 Yba.sizeB66
  go_enter Yba.func66, Yba.ntmps66
  go_wp2
  rw [run_ptr_bare w ⟨b, 0, none⟩ Yba.underlying63 Yba.underlying129 hj (by rw [hjs]; decide) hsh (Nat.zero_lt_succ 4)]
  simp only [Result.andThen]
  rw [Oper.upon_value]
  go_wp2
  rw [run_callFunc_extern Yba.func77 (by kernel_rfl) (by kernel_rfl) (by kernel_rfl) (e := Extern.AbiNoEscape.same) (by kernel_rfl)]
  rw [Lib.run_noEscape]
  simp only [Result.andThen]
  rw [Oper.upon_value]
  go_wp2
  rw [run_bare_ptr w ⟨b, 0, none⟩ Yba.underlying129 Yba.underlying63 hj hsh Yba.lies66]
  simp only [Result.andThen]
  rw [Oper.upon_value]
  go_wp2
  go_end0
  exact ⟨rfl, rfl⟩

/-- Below block B nothing has turned but block b. -/
structure Kept (B b : Nat) (w w' : World) : Prop where
  os : w'.os = w.os
  tape : w'.tape = w.tape
  output : w'.output = w.output
  size : w.heap.size ≤ w'.heap.size
  block : ∀ k, k < B → k ≠ b → w'.heap[k]? = w.heap[k]?
theorem Kept.refl (B b : Nat) (w : World) : Kept B b w w := ⟨rfl, rfl, rfl, Nat.le_refl _, fun _ _ _ => rfl⟩
theorem Kept.trans {B b : Nat} {x y z : World} (h : Kept B b x y) (k : Kept B b y z) : Kept B b x z :=
  ⟨k.os.trans h.os, k.tape.trans h.tape, k.output.trans h.output, Nat.le_trans h.size k.size, fun i h1 h2 => (k.block i h1 h2).trans (h.block i h1 h2)⟩
theorem Kept.of {B b : Nat} {w w' : World} (h : Below B w w') : Kept B b w w' := ⟨h.os, h.tape, h.output, h.size, fun k h1 _ => h.block k h1⟩
theorem Kept.set (B b j : Nat) (w : World) (v : Value) : Kept B b w (w.setCell ⟨b, j, none⟩ v) := ⟨rfl, rfl, rfl, by simp [World.setCell], fun k _ h => Below.heap_setCell _ _ _ _ h⟩
theorem Kept.below {B b : Nat} {w w' : World} (h : Kept B b w w') (hb : b ≤ B) : Below b w w' := ⟨h.os, h.tape, h.output, h.size, fun k hk => h.block k (by omega) (by omega)⟩
theorem set_block {w : World} {b j : Nat} {cs : Array Value} {e : TypeId} {fr : Nat × Nat} (h : w.heap[b]? = some (.cells cs e fr)) (v : Value) : (w.setCell ⟨b, j, none⟩ v).heap[b]? = some (.cells (cs.setIfInBounds j v) e fr) := by
  simp [World.setCell, Array.getElem?_modify, h]
theorem set_other {w : World} {b j k : Nat} (v : Value) (h : k ≠ b) : (w.setCell ⟨b, j, none⟩ v).heap[k]? = w.heap[k]? := Below.heap_setCell _ _ _ _ h
theorem block_lt {w : World} {b : Nat} {x : Obj} (h : w.heap[b]? = some x) : b < w.heap.size := (Array.getElem?_eq_some_iff.1 h).1
theorem Own.keptIn {w w' : World} {base B b : Nat} {e : TypeId} {v : Value} {xs : List Value} (h : Own w base e v xs) (hb : b < base) (hk : ∀ k, base ≤ k → k < w.heap.size → w'.heap[k]? = w.heap[k]?) : Own w' base e v xs := by
  refine ⟨h.1, h.2.imp id ?_⟩
  rintro ⟨g, cap, cur, hv, hg, hh, r⟩
  exact ⟨g, cap, cur, hv, hg, by rw [hk g hg (block_lt hh)]; exact hh, r⟩
theorem Own.setBelow {w : World} {base b j : Nat} {e : TypeId} {v : Value} {xs : List Value} (h : Own w base e v xs) (hb : b < base) (x : Value) : Own (w.setCell ⟨b, j, none⟩ x) base e v xs := ownsRow_setCell_below h hb x

theorem strCells_append (a b : ByteArray) : Lib.strCells (a ++ b) = Lib.strCells a ++ Lib.strCells b := by simp [Lib.strCells]

/-- copyCheck at either builder. -/
theorem copyCheck_any (b : Nat) (w : World) (p buf f2 f3 f4 : Value) (hbk : w.heap[b]? = some (.cells #[p, buf, f2, f3, f4] 68)) (hp : p = .pointer none ∨ p = .pointer (some ⟨b, 0, none⟩)) :
    Calls Yba.prog 66 #[.pointer (some ⟨b, 0, none⟩)] w fun e w' => e = .returned (.tuple #[]) ∧ w'.heap[b]? = some (.cells #[.pointer (some ⟨b, 0, none⟩), buf, f2, f3, f4] 68) ∧ ∀ B, Kept B b w w' ∧ ∀ base e v xs, b < base → Own w base e v xs → Own w' base e v xs := by
  rcases hp with rfl | rfl
  · refine (copyCheck_fresh b w (by rw [cell_of_block hbk]; rfl) (by simp [World.shape?, hbk]) (frozen_of_block hbk 0)).mono ?_
    rintro e w' ⟨rfl, rfl⟩
    exact ⟨rfl, set_block hbk _, fun B => ⟨Kept.set _ _ _ _ _, fun base e v xs hb h => h.setBelow hb _⟩⟩
  · refine (copyCheck_used b w (by rw [cell_of_block hbk]; rfl)).mono ?_
    rintro e w' ⟨rfl, rfl⟩
    exact ⟨rfl, hbk, fun B => ⟨Kept.refl _ _ _, fun base e v xs hb h => h⟩⟩

set_option maxHeartbeats 400000 in
set_option maxRecDepth 100000 in
theorem writeString_any (b B : Nat) (w : World) (p buf f2 f3 f4 : Value) (s0 s : ByteArray) (hbk : w.heap[b]? = some (.cells #[p, buf, f2, f3, f4] 68)) (hp : p = .pointer none ∨ p = .pointer (some ⟨b, 0, none⟩))
    (hown : Own w B 5 buf (Lib.strCells s0)) (hB : b < B) (hBs : B ≤ w.heap.size) (hbd : s0.size + s.size ≤ 1000000) :
    Calls Yba.prog 45 #[.pointer (some ⟨b, 0, none⟩), .string s] w fun e w' => e = .returned (.tuple #[.int .i64 s.size, .nilIface]) ∧ ∃ buf', w'.heap[b]? = some (.cells #[.pointer (some ⟨b, 0, none⟩), buf', f2, f3, f4] 68) ∧
      Own w' B 5 buf' (Lib.strCells (s0 ++ s)) ∧ Kept B b w w' := by
  obtain ⟨i, hi, hz0, hz1, hz2⟩ := info_parts Yba.info5
  have hl0 := Lib.strCells_length s0
  have hl1 := Lib.strCells_length s
  have hcc := copyCheck_any b w p buf f2 f3 f4 hbk hp
  clear hbk hp
  go_enter Yba.func45, Yba.ntmps45
  go_wp2_with fail
  refine hcc.mono ?_
  rintro e w1 ⟨rfl, hbk1, hk⟩
  obtain ⟨k1, ko⟩ := hk B
  have own1 := ko B 5 buf _ hB hown
  clear ko hk hown
  have c1 : w1.cell? ⟨b, 1, none⟩ = some buf := by rw [cell_of_block hbk1]; rfl
  have HB := (show Hid _ from hbk1)
  have hs1 := Nat.le_trans hBs k1.size
  clear hbk1
  go_wp2_with (at_builtin; refine Stand.out ?_)
  refine Lib.wpList_append_own_string _ rfl _ _ 64 9 rfl B 5 i Yba.underlying64 Yba.underlying9 hi hz0 hz1 hz2 buf (Lib.strCells s0).length (Lib.strCells s0) rfl own1 s rfl (by unfold maxLen; omega) (by omega) hs1 ?_
  intro v2 w2 o2 g2 _
  have bl2 : Below B w1 w2 := own1.below g2 hs1
  have hb2 : w2.heap[b]? = _ := (bl2.block b hB).trans HB.out
  have o2' : Own w2 B 5 v2 (Lib.strCells (s0 ++ s)) := by
    unfold Own
    rw [strCells_append]
    simpa [hl1] using o2
  have c2 : w2.cell? ⟨b, 1, none⟩ = some buf := by rw [cell_of_block hb2]; rfl
  have z2 := frozen_of_block hb2 1
  have HB2 := (show Hid _ from hb2)
  clear hb2 o2 g2 own1 HB
  rcases o2'.shape with ⟨rfl, -⟩ | ⟨g, cap, rfl, -⟩
  all_goals
    go_wp2
    go_ret2
    refine ⟨rfl, _, set_block HB2.out _, o2'.setBelow hB _, k1.trans ((Kept.of bl2).trans (Kept.set _ _ _ _ _))⟩

set_option maxHeartbeats 400000 in
set_option maxRecDepth 100000 in
theorem bldLen_any (b : Nat) (w : World) (a : Option Addr) (n c : Nat) (h : w.cell? ⟨b, 1, none⟩ = some (.slice a n c)) :
    Calls Yba.prog 44 #[.pointer (some ⟨b, 0, none⟩)] w fun e w' => e = .returned (.int .i64 n) ∧ w' = w := by
  go_enter Yba.func44, Yba.ntmps44
  go_wp2
  go_ret
  exact ⟨rfl, rfl⟩

set_option maxHeartbeats 400000 in
set_option maxRecDepth 100000 in
theorem bgrow_fresh (b n B : Nat) (w : World) (f2 f3 f4 : Value) (hbk : w.heap[b]? = some (.cells #[.pointer (some ⟨b, 0, none⟩), .slice none 0 0, f2, f3, f4] 68)) (hB : b < B) (hBs : B ≤ w.heap.size) (hn : n ≤ 1000000) :
    Calls Yba.prog 67 #[.pointer (some ⟨b, 0, none⟩), .int .i64 n] w fun e w' => e = .returned (.tuple #[]) ∧ ∃ buf', w'.heap[b]? = some (.cells #[.pointer (some ⟨b, 0, none⟩), buf', f2, f3, f4] 68) ∧
      Own w' B 5 buf' [] ∧ Kept B b w w' := by
  obtain ⟨cs, hrun, hle, hmax⟩ := Lib.run_makeNoZero (P := Yba.prog) w.drew #[3] 64 5 Yba.underlying64 n (by omega)
  have hcall : (callFunc 78 #[.int .i64 n]).run Yba.prog w.drew = .ok (.value (.slice (some ⟨w.drew.heap.size, 0, none⟩) n cs.size)) (w.drew.drew.drew.alloc (.cells cs 5)) := by
    rw [run_callFunc_extern Yba.func78 (by kernel_rfl) (by kernel_rfl) (by kernel_rfl) (e := Extern.BytealgMakeNoZero.makeNoZero #[3] #[64]) (by kernel_rfl), hrun]
    rfl
  have hlt := block_lt hbk
  have c1 : w.cell? ⟨b, 1, none⟩ = some (.slice none 0 0) := by rw [cell_of_block hbk]; rfl
  have hbk2 : (w.alloc (.cells cs 5)).heap[b]? = some (.cells #[.pointer (some ⟨b, 0, none⟩), .slice none 0 0, f2, f3, f4] 68) := (Go.heap_alloc_old w _ hlt).trans hbk
  have c2 : (w.alloc (.cells cs 5)).cell? ⟨b, 1, none⟩ = some (.slice none 0 0) := by rw [cell_of_block hbk2]; rfl
  have z2 := frozen_of_block hbk2 1
  have hcopy : ∀ W : World, (Builtin.copy_ #[64, 64] 3 #[.slice (some ⟨w.heap.size, 0, none⟩) 0 cs.size, .slice none 0 0]).run Yba.prog W = .ok (goInt 0) W :=
    fun W => run_copy_none W 64 64 3 5 _ _ 0 cs.size 0 0 Yba.underlying64 Yba.size5 rfl
  have HB := (show Hid _ from hbk)
  have HB2 := (show Hid _ from hbk2)
  clear hbk hbk2
  go_enter Yba.func67, Yba.ntmps67
  go_wp2
  go_region
  all_goals
    go_wp2
    go_end0
    have hz : (w.setCell ⟨b, 1, none⟩ (.slice (some ⟨w.heap.size, 0, none⟩) 0 cs.size)).heap.size = w.heap.size := by simp
    refine ⟨rfl, _, (Go.heap_alloc_old (w.setCell ⟨b, 1, none⟩ (.slice (some ⟨w.heap.size, 0, none⟩) 0 cs.size)) _ (by rw [hz]; exact hlt)).trans (set_block HB.out _), ?_, ?_⟩
    · have := World.ownsRow_made (base := B) (e := 5) (size := 1) (w.setCell ⟨b, 1, none⟩ (.slice (some ⟨w.heap.size, 0, none⟩) 0 cs.size)) cs cs.size (by rw [hz]; exact hBs) (hmax (by unfold maxLen; omega)) (by simp)
      rw [hz] at this
      exact this
    · exact (Kept.set B b 1 w _).trans (Kept.of ((((Below.refl B _).alloc (by rw [hz]; exact hBs) _).drew).drew).drew)

set_option maxHeartbeats 400000 in
set_option maxRecDepth 100000 in
theorem bGrow_fresh (b n B : Nat) (w : World) (f2 f3 f4 : Value) (hbk : w.heap[b]? = some (.cells #[.pointer none, .slice none 0 0, f2, f3, f4] 68)) (hB : b < B) (hBs : B ≤ w.heap.size) (hn : n ≤ 1000000) :
    Calls Yba.prog 43 #[.pointer (some ⟨b, 0, none⟩), .int .i64 n] w fun e w' => e = .returned (.tuple #[]) ∧ ∃ buf', w'.heap[b]? = some (.cells #[.pointer (some ⟨b, 0, none⟩), buf', f2, f3, f4] 68) ∧
      Own w' B 5 buf' [] ∧ Kept B b w w' := by
  have hcc := copyCheck_any b w _ _ f2 f3 f4 hbk (.inl rfl)
  clear hbk
  by_cases h0 : 0 < n
  all_goals
    go_enter Yba.func43, Yba.ntmps43
    go_wp2_with fail
    refine hcc.mono ?_
    rintro e w1 ⟨rfl, hbk1, hk⟩
    obtain ⟨k1, -⟩ := hk B
    clear hk
    have c1 : w1.cell? ⟨b, 1, none⟩ = some (.slice none 0 0) := by rw [cell_of_block hbk1]; rfl
    have hs1 := Nat.le_trans hBs k1.size
    have HB1 := (show Hid _ from hbk1)
    clear hbk1
    go_wp2_with fail
    go_quiet (fail)
    go_wp2_with fail
  · refine (bgrow_fresh b n B (w1.drewN nq) f2 f3 f4 HB1.out hB hs1 hn).mono ?_
    rintro e w2 ⟨rfl, buf', hb2, o2, k2⟩
    go_wp2
    go_end0
    exact ⟨rfl, buf', hb2, o2, k1.trans ((Kept.of (below_drewN (Below.refl _ _) _)).trans k2)⟩
  · go_end0
    exact ⟨rfl, _, HB1.out, World.ownsRow_nil _ _ _ _, k1.trans (Kept.of (below_drewN (Below.refl _ _) _))⟩

def zs (k : Nat) : List Value := List.replicate k (.int .u64 0)
/-- What the array of counters and offsets holds once the nodes Ns, Cs have been added, of n in all. -/
def laid (n : Nat) (Ns : List ByteArray) (Cs : List Int) : List Value := ints Cs ++ zs (n - Ns.length) ++ u64s (offsL Ns) ++ zs (n - Ns.length)
/-- The builder in block b, its array in block g: of n nodes, idb bytes of ids, the nodes Ns, Cs have been added; the ids' bytes so far are s. -/
def CBs (w : World) (b g n idb : Nat) (Ns : List ByteArray) (Cs : List Int) (s : ByteArray) : Prop :=
  ∃ p buf, (p = .pointer none ∨ p = .pointer (some ⟨b, 0, none⟩)) ∧ b < g ∧
    w.heap[b]? = some (.cells #[p, buf, .slice (some ⟨g, n, none⟩) (Ns.length + 1) (n + 1), .slice (some ⟨g, 0, none⟩) n n, .int .i64 idb] 68) ∧
    w.heap[g]? = some (.cells (laid n Ns Cs).toArray 34) ∧ Own w (g + 1) 5 buf (Lib.strCells s) ∧ Cs.length = Ns.length ∧ Ns.length ≤ n
abbrev CB (w : World) (b g n idb : Nat) (Ns : List ByteArray) (Cs : List Int) : Prop := CBs w b g n idb Ns Cs (cat Ns)
theorem laid_length (n : Nat) (Ns : List ByteArray) (Cs : List Int) (h : Cs.length = Ns.length) (hn : Ns.length ≤ n) : (laid n Ns Cs).length = 2 * n + 1 := by
  simp [laid, ints, zs, u64s, offsL, h]
  omega
theorem laid_nil (n : Nat) : (laid n [] []).toArray = madeCells #[.int .u64 0] (2 * n + 1) := by
  apply Array.ext'
  rw [toList_madeCells_one]
  simp only [laid, ints, zs, u64s, offsL, cat, List.length_nil, List.map_nil, List.nil_append, Nat.sub_zero]
  rw [show 2 * n + 1 = n + (1 + n) from by omega, ← List.replicate_append_replicate, ← List.replicate_append_replicate]
  simp

set_option maxHeartbeats 400000 in
set_option maxRecDepth 100000 in
theorem grow_any (b n idb : Nat) (w : World) (hbk : w.heap[b]? = some (.cells #[.pointer none, .slice none 0 0, .slice none 0 0, .slice none 0 0, .int .i64 0] 68)) (hn : 1 ≤ n) (hn2 : n ≤ 100000) (hi : idb ≤ 1000000) :
    Calls Yba.prog 28 #[.pointer (some ⟨b, 0, none⟩), .int .i64 n, .int .i64 idb] w fun e w' => e = .returned (.tuple #[]) ∧ Below b w w' ∧ ∃ g, w.heap.size ≤ g ∧ CB w' b g n idb [] [] := by
  have hn0 : ((n : Int) == 0) = false := by simp; omega
  have hmk : ∀ W : World, (Instr.makeSlice 25 (.int .i64 (2 * (n : Int) + 1)) (.int .i64 (2 * (n : Int) + 1))).run Yba.prog W = .ok (.slice (some ⟨W.heap.size, 0, none⟩) (2 * n + 1) (2 * n + 1)) (W.alloc (.cells (madeCells #[.int .u64 0] (2 * n + 1)) 34)) := by
    intro W
    have := run_make_row' (P := Yba.prog) 25 34 (.int .u64 0) 8 Yba.underlying25 Yba.info34 rfl .i64 .i64 (2 * n + 1) (by omega) (by omega) W
    rw [show ((2 * n + 1 : Nat) : Int) = 2 * (n : Int) + 1 from by omega] at this
    exact this
  have hlt := block_lt hbk
  have c2 : w.cell? ⟨b, 2, none⟩ = some (.slice none 0 0) := by rw [cell_of_block hbk]; rfl
  have c3 : w.cell? ⟨b, 3, none⟩ = some (.slice none 0 0) := by rw [cell_of_block hbk]; rfl
  have z2 := frozen_of_block hbk 2
  have z3 := frozen_of_block hbk 3
  have HB := (show Hid _ from hbk)
  clear hbk
  go_enter Yba.func28, Yba.ntmps28
  go_wp2_with fail
  go_region
  go_wp2_with fail
  have hz : ((w.setCell ⟨b, 3, none⟩ (.slice (some ⟨w.heap.size, 0, none⟩) n n)).setCell ⟨b, 2, none⟩ (.slice (some ⟨w.heap.size, n, none⟩) 1 (2 * n + 1 - n))).heap.size = w.heap.size := by simp
  have kk := (Kept.set (w.heap.size + 1) b 3 w (.slice (some ⟨w.heap.size, 0, none⟩) n n)).trans (Kept.set (w.heap.size + 1) b 2 _ (.slice (some ⟨w.heap.size, n, none⟩) 1 (2 * n + 1 - n)))
  have hb0 := set_block (j := 2) (set_block (j := 3) HB.out (.slice (some ⟨w.heap.size, 0, none⟩) n n)) (.slice (some ⟨w.heap.size, n, none⟩) 1 (2 * n + 1 - n))
  generalize ((w.setCell ⟨b, 3, none⟩ (.slice (some ⟨w.heap.size, 0, none⟩) n n)).setCell ⟨b, 2, none⟩ (.slice (some ⟨w.heap.size, n, none⟩) 1 (2 * n + 1 - n))) = W at *
  have hb1 : ((W.alloc (.cells (madeCells #[.int .u64 0] (2 * n + 1)) 34)).drew).heap[b]? = _ := (Go.heap_alloc_old W _ (by omega)).trans hb0
  have hg1 : ((W.alloc (.cells (madeCells #[.int .u64 0] (2 * n + 1)) 34)).drew).heap[w.heap.size]? = _ := (heap_new_at W (.cells (madeCells #[.int .u64 0] (2 * n + 1)) 34) hz.symm)
  have kb : Below w.heap.size W ((W.alloc (.cells (madeCells #[.int .u64 0] (2 * n + 1)) 34)).drew) := ((Below.refl _ _).alloc (by omega) _).drew
  have hsz : w.heap.size + 1 ≤ ((W.alloc (.cells (madeCells #[.int .u64 0] (2 * n + 1)) 34)).drew).heap.size := by simp; omega
  generalize ((W.alloc (.cells (madeCells #[.int .u64 0] (2 * n + 1)) 34)).drew) = W1 at *
  clear c2 c3 z2 z3 hmk hb0
  refine (bGrow_fresh b idb (w.heap.size + 1) W1 _ _ _ hb1 (by omega) hsz hi).mono ?_
  rintro e w2 ⟨rfl, buf, hb2, o2, k2⟩
  have hg2 := (k2.block w.heap.size (by omega) (by omega)).trans hg1
  have c4 : w2.cell? ⟨b, 4, none⟩ = some (.int .i64 0) := by rw [cell_of_block hb2]; rfl
  have z4 := frozen_of_block hb2 4
  have HB2 := (show Hid _ from hb2)
  have HG2 := (show Hid _ from hg2)
  have HB1 := (show Hid _ from hb1)
  have HG1 := (show Hid _ from hg1)
  clear hb1 hb2 hg1 hg2
  go_wp2
  go_end0
  refine ⟨rfl, ?_, w.heap.size, Nat.le_refl _, _, buf, .inr rfl, hlt, ?_, ?_, ?_, rfl, Nat.zero_le _⟩
  · exact (((kk.below (by omega)).trans (kb.mono (by omega))).trans (k2.below (by omega))).setCell (Nat.le_refl _) _
  · rw [set_block HB2.out]
    simp
    omega
  · rw [set_other _ (by omega), HG2.out, laid_nil]
  · exact o2.setBelow (by omega) _

theorem set_mid {α : Type} (A B : List α) (x y : α) (k : Nat) (h : A.length = k) : (A ++ x :: B).set k y = A ++ y :: B := by
  subst h
  rw [List.set_append_right _ _ (Nat.le_refl _)]
  simp
theorem laid_snoc (n : Nat) (Ns : List ByteArray) (Cs : List Int) (id : ByteArray) (c : Int) (h : Cs.length = Ns.length) (hn : Ns.length < n) :
    ((laid n Ns Cs).set Ns.length (.int .u64 c)).set (n + (Ns.length + 1)) (.int .u64 ((cat (Ns ++ [id])).size : Nat)) = laid n (Ns ++ [id]) (Cs ++ [c]) := by
  obtain ⟨m, hm⟩ : ∃ m, n - Ns.length = m + 1 := ⟨n - Ns.length - 1, by omega⟩
  have hm' : n - (Ns ++ [id]).length = m := by simp; omega
  have hz : zs (m + 1) = .int .u64 0 :: zs m := by simp [zs, List.replicate_succ]
  have e1 : laid n Ns Cs = ints Cs ++ .int .u64 0 :: (zs m ++ u64s (offsL Ns) ++ zs (m + 1)) := by simp [laid, hm, hz]
  have hl : (ints Cs).length = Ns.length := by simp [ints, h]
  rw [e1, set_mid _ _ _ _ _ hl]
  have e2 : ints Cs ++ .int .u64 c :: (zs m ++ u64s (offsL Ns) ++ zs (m + 1)) = (ints Cs ++ .int .u64 c :: (zs m ++ u64s (offsL Ns))) ++ .int .u64 0 :: zs m := by simp [hz]
  rw [e2, set_mid _ _ _ _ _ (by simp [hl, zs, u64s, offsL]; omega)]
  unfold laid
  rw [hm', offs_snoc]
  simp [ints, u64s]

set_option maxHeartbeats 400000 in
set_option maxRecDepth 100000 in
theorem end_any (b g n idb : Nat) (w : World) (Ns : List ByteArray) (Cs : List Int) (id : ByteArray) (c : Int) (h : CBs w b g n idb Ns Cs (cat (Ns ++ [id]))) (hk : Ns.length < n) (hn : n ≤ 100000) (hsz : (cat (Ns ++ [id])).size ≤ 1000000) :
    Calls Yba.prog 46 #[.pointer (some ⟨b, 0, none⟩), .int .u64 c] w fun e w' => e = .returned (.tuple #[]) ∧ Below b w w' ∧ CB w' b g n idb (Ns ++ [id]) (Cs ++ [c]) := by
  obtain ⟨p, buf, hp, hbg, hb, hg, ho, hc, hl⟩ := h
  have hll := laid_length n Ns Cs hc hl
  have hls := laid_snoc n Ns Cs id c hc hk
  have hbl : (Lib.strCells (cat (Ns ++ [id]))).length = (cat (Ns ++ [id])).size := Lib.strCells_length _
  generalize hcat : cat (Ns ++ [id]) = s at *
  have HCat := (show Hid _ from hcat)
  clear hcat
  generalize hLd : laid n Ns Cs = L at *
  clear hLd
  obtain ⟨ab, cb, rfl⟩ : ∃ ab cb, buf = .slice ab s.size cb := by
    rcases ho.shape with ⟨rfl, hx⟩ | ⟨gb, cap, rfl, _⟩
    · rw [hx] at hbl; exact ⟨none, 0, by rw [← hbl]; rfl⟩
    · exact ⟨_, _, by rw [hbl]⟩
  have c1 : w.cell? ⟨b, 1, none⟩ = some (.slice ab s.size cb) := by rw [cell_of_block hb]; rfl
  have c2 : w.cell? ⟨b, 2, none⟩ = some (.slice (some ⟨g, n, none⟩) (Ns.length + 1) (n + 1)) := by rw [cell_of_block hb]; rfl
  have c3 : w.cell? ⟨b, 3, none⟩ = some (.slice (some ⟨g, 0, none⟩) n n) := by rw [cell_of_block hb]; rfl
  have z2 := frozen_of_block hb 2
  obtain ⟨x1, hx1⟩ : ∃ x, w.cell? ⟨g, Ns.length, none⟩ = some x := ⟨_, (cell_of_block hg Ns.length).trans (Array.getElem?_eq_getElem (by simp; omega))⟩
  obtain ⟨x2, hx2⟩ : ∃ x, w.cell? ⟨g, n + (Ns.length + 1), none⟩ = some x := ⟨_, (cell_of_block hg _).trans (Array.getElem?_eq_getElem (by simp; omega))⟩
  have zg := fun j => frozen_of_block hg j
  have zg1 := zg Ns.length
  have zg2 := zg (n + (Ns.length + 1))
  have hbg1 : ¬ b = g := by omega
  have hbg2 : ¬ g = b := by omega
  clear zg
  have HB := (show Hid _ from hb)
  have HG := (show Hid _ from hg)
  have HLS := (show Hid _ from hls)
  clear hb hg hls hll hbl
  have hi0 : (0 : Int) ≤ (Ns.length : Int) + 1 := by omega
  have hi1 : (Ns.length : Int) + 1 < (Ns.length : Int) + 2 := by omega
  go_enter Yba.func46, Yba.ntmps46
  go_wp2_with fail
  refine wp_region_D [0, 1, 2, 3, 4, 5, 6, 7, 8] [9, 10, 11, 12] 2 (fun w' => w'.cell? ⟨b, 2, none⟩ = some (.slice (some ⟨g, n, none⟩) (Ns.length + 2) (n + 1))) (by kernel_rfl) (by kernel_rfl) rfl (by kernel_rfl) (by intro c a w d v h; cases d <;> exact h) (by go_simp) ?_
  repeat (refine wpHeadD_step rfl rfl w (fun K' hK' => ⟨?_, fun w' hw' => ?_, ?_⟩); rotate_left; (go_simp; try rfl); (go_simp; try go_bits); (refine hK' _ _ ?_; clear hK' K'))
  refine wpHeadD_nil ?_
  refine wpTailD_cons rfl rfl (fun K hK => ?_)
  go_simp
  refine (bldLen_any b _ ab s.size cb ?_).mono ?_
  · go_simp
  rintro e w' ⟨rfl, rfl⟩
  go_simp
  refine hK _ _ (fun _ => by go_simp) ?_
  clear hK K
  refine wpTailD_cons rfl rfl (fun K hK => ?_)
  go_simp
  try go_bits
  refine hK _ _ (fun _ => by go_simp) ?_
  clear hK K
  refine wpTailD_lone (by kernel_rfl) rfl rfl (fun K hK => ?_)
  go_simp
  try go_bits
  refine hK _ _ ?_
  clear hK K
  refine wpTailD_lone (by kernel_rfl) rfl rfl (fun K hK => ?_)
  go_simp
  try go_bits
  refine hK _ _ ?_
  clear hK K
  refine wpTailD_nil ?_
  go_wp2
  go_end0
  refine ⟨rfl, ((((Below.refl b w).setCell (by show b ≤ g; omega) _).setCell (Nat.le_refl b) _).setCell (by show b ≤ g; omega) _).drew, p, .slice ab s.size cb, hp, hbg, ?_, ?_, ?_, by simp [hc], by simp; omega⟩
  · refine (set_other _ hbg1).trans ((set_block ((set_other _ hbg1).trans HB.out) _).trans ?_)
    simp
  · refine (set_block ((set_other _ hbg2).trans (set_block HG.out _)) _).trans ?_
    rw [← HLS.out]
    simp
  · rw [HCat.out]
    exact ((ho.setBelow (by omega) _).setBelow (by omega) _).setBelow (by omega) _

/-- WriteString at the builder. -/
theorem write_CB (b g n idb : Nat) (w : World) (Ns : List ByteArray) (Cs : List Int) (s0 s : ByteArray) (h : CBs w b g n idb Ns Cs s0) (hbd : s0.size + s.size ≤ 1000000) :
    Calls Yba.prog 45 #[.pointer (some ⟨b, 0, none⟩), .string s] w fun e w' => e = .returned (.tuple #[.int .i64 s.size, .nilIface]) ∧ Below b w w' ∧ CBs w' b g n idb Ns Cs (s0 ++ s) := by
  obtain ⟨p, buf, hp, hbg, hb, hg, ho, hc, hl⟩ := h
  refine (writeString_any b (g + 1) w p buf _ _ _ s0 s hb hp ho (by omega) (block_lt hg) hbd).mono ?_
  rintro e w' ⟨rfl, buf', hb', ho', hk⟩
  exact ⟨rfl, hk.below (by omega), _, buf', .inr rfl, hbg, hb', (hk.block g (by omega) (by omega)).trans hg, ho', hc, hl⟩

set_option maxHeartbeats 400000 in
set_option maxRecDepth 100000 in
theorem add_any (b g n idb : Nat) (w : World) (Ns : List ByteArray) (Cs : List Int) (id : ByteArray) (c : Int) (h : CB w b g n idb Ns Cs) (hk : Ns.length < n) (hn : n ≤ 100000) (hsz : (cat (Ns ++ [id])).size ≤ 1000000) :
    Calls Yba.prog 30 #[.pointer (some ⟨b, 0, none⟩), .string id, .int .u64 c] w fun e w' => e = .returned (.tuple #[]) ∧ Below b w w' ∧ CB w' b g n idb (Ns ++ [id]) (Cs ++ [c]) := by
  have hws := write_CB b g n idb w Ns Cs (cat Ns) id h (by rw [cat_snoc, ByteArray.size_append] at hsz; exact hsz)
  clear h
  go_enter Yba.func30, Yba.ntmps30
  go_wp2_with fail
  refine hws.mono ?_
  rintro e w1 ⟨rfl, b1, h1⟩
  go_wp2_with fail
  rw [← cat_snoc] at h1
  refine (end_any b g n idb w1 Ns Cs id c h1 hk hn hsz).mono ?_
  rintro e w2 ⟨rfl, b2, h2⟩
  go_wp2
  go_end0
  exact ⟨rfl, b1.trans b2, h2⟩
end Go.Proofs.Ybulkgey
