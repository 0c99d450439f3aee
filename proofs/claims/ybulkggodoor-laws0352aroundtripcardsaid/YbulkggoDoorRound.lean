/- LawS0352ARoundTrip: the walk. -/
import Derived.Test.YbulkggoDoorModel
import Derived.Test.YbulkggoDoorPlain
import Derived.Laws.AppendOwnNone
namespace Go.Proofs.YbulkggoDoor
open Go.RowKit
set_option linter.unusedVariables false

theorem byteCells_append (l k : List UInt8) : Lib.byteCells l ++ Lib.byteCells k = Lib.byteCells (l ++ k) := by simp [Lib.byteCells]

/-- NewDecoder(b). -/
theorem newDec (w : World) (q : Option Addr) (n d : Nat) : Calls Ybad.prog 6 #[.slice q n d] w fun e w' => e = .returned (.pointer (some ⟨w.heap.size, 0, none⟩)) ∧ w' = w.alloc (.cells #[.slice q n d, .nilIface] 36) := by
  go_enter Ybad.func6, Ybad.ntmps6
  go_wp2
  go_ret
  exact ⟨rfl, rfl⟩
theorem err_any (D : Nat) (w : World) (v : Value) (he : w.cell? ⟨D, 1, none⟩ = some .nilIface) :
    Calls Ybad.prog 8 #[.pointer (some ⟨D, 0, none⟩)] w fun e w' => e = .returned .nilIface ∧ w' = w := by
  go_enter Ybad.func8, Ybad.ntmps8
  go_wp2
  go_ret
  exact ⟨rfl, rfl⟩
theorem rest_any (D : Nat) (w : World) (q : Option Addr) (n d : Nat) (hb : w.cell? ⟨D, 0, none⟩ = some (.slice q n d)) (hf : w.frozen? ⟨D, 0, none⟩ = false) :
    Calls Ybad.prog 10 #[.pointer (some ⟨D, 0, none⟩)] w fun e w' => e = .returned (.slice q n d) ∧ w' = w.setCell ⟨D, 0, none⟩ (.slice none 0 0) := by
  go_enter Ybad.func10, Ybad.ntmps10
  go_wp2
  go_ret
  exact ⟨rfl, rfl⟩

theorem bytesIn_set {w : World} {p : Option Addr} {l : List UInt8} (h : Lib.BytesIn w p l.length (nums l)) {a : Addr} {q : Option Addr} {n d : Nat} (ha : w.cell? a = some (.slice q n d)) (v : Value) : Lib.BytesIn (w.setCell a v) p l.length (nums l) := by
  intro hn
  obtain ⟨g, o, rfl, hc⟩ := h hn
  refine ⟨g, o, rfl, fun i hi => ?_⟩
  rw [World.cell?_setCell_other]
  · exact hc i hi
  · rintro rfl
    rw [hc i hi] at ha
    cases ha

/-- 'append(row, b...)': b any slice of bytes. -/
theorem app_bytes {w1 : World} {ops : Array Oper} {rest : List Oper} {o : Oper} {a : Act} {Q : Exit → Act → World → Prop} (hgd : o.guard = none) (s x : Operand)
    (ho : o.op = .call { callee := .builtin .append, args := #[s, x], argTypes := #[23, 23] }) (base : Nat) (v : Value) (k : List UInt8) (hs : a.eval s = v) (hown : Own w1 base 5 v (Lib.byteCells k))
    (p : Option Addr) (l : List UInt8) (c : Nat) (hx : a.eval x = .slice p l.length c) (hin : Lib.BytesIn w1 p l.length (nums l)) (hpc : p = none → c = 0) (hk : k.length ≤ 1024) (hl : l.length ≤ 1024) (hbase : base ≤ w1.heap.size)
    (h : ∀ v' w', Own w' base 5 v' (Lib.byteCells (k ++ l)) → Below base w1 w' → wpList Ybad.prog ops Q rest (a.put o.dst v') w') : wpList Ybad.prog ops Q (o :: rest) a w1 := by
  obtain ⟨i, hi, hz0, hz1, hz2⟩ := info_parts Ybad.info5
  have hll : (Lib.byteCells l).length = l.length := Lib.byteCells_length l
  have hkk : (Lib.byteCells k).length = k.length := Lib.byteCells_length k
  cases p with
  | none =>
    have hl0 : l = [] := by
      cases l with
      | nil => rfl
      | cons b r => obtain ⟨g, o, e, _⟩ := hin (by simp); cases e
    subst hl0
    obtain rfl := hpc rfl
    refine wpList_append_own_none hgd s x 23 ho base 5 i 1 Ybad.underlying23 hi v _ (Lib.byteCells k) hs hown hx (h v w1 ?_ (Below.refl _ _))
    simpa using hown
  | some ad =>
    refine wpList_append_own _ hgd s x 23 ho base 5 i _ 1 1 Ybad.underlying23 hi hz0 hz1 hz2 rfl (by omega) v _ (Lib.byteCells k) hs hown ad l.length c (Lib.byteCells l) hx (by simp [hll]) ?_ (byteCells_oneCell l) (by unfold maxLen; omega) (by omega) hbase ?_
    · intro j u hu
      have hj := (List.getElem?_eq_some_iff.1 hu).1
      rw [hll] at hj
      obtain ⟨g, o, ea, hc⟩ := hin (by omega)
      obtain rfl := Option.some.inj ea
      rw [Addr.add_lit, hc j hj, nums_getD l j hj]
      simp [Lib.byteCells, hj] at hu
      rw [hu]
    · intro v' w' o1 g1 _
      refine h v' w' ?_ (hown.below g1 hbase)
      unfold Own
      rw [← byteCells_append, List.length_append, hll]
      exact o1

set_option maxRecDepth 100000 in
set_option maxHeartbeats 1000000 in
theorem round_any (w : World) (x : Nat) (hx : x < 18446744073709551616) (p : Option Addr) (c : Nat) (l : List UInt8) (a0 a1 : Addr) (hin : Lib.BytesIn w p l.length (nums l)) (hlc : l.length ≤ c) (hpc : p = none → c = 0) (hmax : l.length ≤ 1024)
    (g0 : w.cell? ⟨0, 0, none⟩ = some (.iface 41 (.pointer (some a0)))) (g1 : w.cell? ⟨1, 0, none⟩ = some (.iface 41 (.pointer (some a1)))) :
    Calls Ybad.prog 3 #[.int .u64 x, .slice p l.length c] w fun e w' => e = .returned (.bool true) ∧ Below w.heap.size w w' := by
  have hap := Ybad.binary_AppendUvarint w.heap.size 0 x hx (.slice none 0 0) [] w (World.ownsRow_nil _ _ _ _) (Nat.le_refl _) (by omega)
  have hul := Lib.uvarint_length64 hx
  have hdec := dec_uvarint x hx l
  -- behind 'append(buf, tail...)'
  have key : ∀ (w1 : World) (v : Value), Own w1 w.heap.size 5 v (Lib.byteCells (Lib.uvarint x ++ l)) → Below w.heap.size w w1 → ∃ q d, v = .slice q (Lib.uvarint x ++ l).length d ∧ (Lib.uvarint x ++ l).length ≤ d ∧ Lib.BytesIn w1 q (Lib.uvarint x ++ l).length (nums (Lib.uvarint x ++ l)) := by
    intro w1 v ho hb
    obtain ⟨q, d, e, h1, h2⟩ := own_bs ho
    exact ⟨q, d, e, h1, h2⟩
  have HD := hid hdec
  have HL := hid (fun k => last_app x k l)
  have HU := hid (Lib.uvarint_pos x)
  clear hdec
  go_enter Ybad.func3, Ybad.ntmps3
  go_wp2_with fail
  refine hap.mono ?_
  rintro e w1 ⟨v1, rfl, o1, b1⟩
  clear hap
  simp only [List.nil_append, Nat.zero_add] at o1
  go_wp2_with (at_builtin; refine Stand.out ?_)
  have o1' : Own w1 w.heap.size 5 v1 (Lib.byteCells (Lib.uvarint x)) := by unfold Own; rw [Lib.byteCells_length]; exact o1
  refine app_bytes rfl _ _ rfl w.heap.size v1 (Lib.uvarint x) rfl o1' p l c rfl (bytesIn_below hin b1) hpc (by omega) hmax b1.size ?_
  intro v2 w2 o2 b2'
  have b2 := b1.trans b2'
  obtain ⟨q, d, rfl, hqd, hq⟩ := key w2 v2 o2 b2
  clear key o1 o1' o2 b2' b1
  have hln : (Lib.uvarint x ++ l).length ≤ 100000 := by rw [List.length_append]; omega
  have g02 := cell_later b2 g0
  have g12 := cell_later b2 g1
  have hU := uint_any w2 q d (Lib.uvarint x ++ l) a0 a1 hq hqd hln g02 g12
  have hN := newDec w2 q (Lib.uvarint x ++ l).length d
  have hin2 := bytesIn_below hin b2
  generalize (Lib.uvarint x ++ l).length = n at *
  clear g02 g12 g0 g1 hq hin
  go_wp2_with fail
  refine hN.mono ?_
  rintro e w3 ⟨rfl, rfl⟩
  clear hN
  go_wp2_with fail
  refine hU.mono ?_
  rintro e w4 ⟨r, q2, m2, d2, err, rfl, x0, x1, f0, bel, hread⟩
  clear hU
  obtain ⟨k, hk⟩ : ∃ k, (Lib.uvarint x).length = k + 1 := ⟨(Lib.uvarint x).length - 1, by have := HU.out; omega⟩
  obtain ⟨hr, rfl, hm, hq2⟩ := read_val hread k (by rw [HD.out]; simp [hk]) (HL.out k hk)
  have hdr : (Lib.uvarint x ++ l).drop (k + 1) = l := by rw [← hk]; exact List.drop_left
  rw [hdr] at hm hq2
  rw [HD.out] at hr
  have hr' : r = x := hr
  subst hr' hm
  clear hr hread HD HL HU hk hdr
  have hin4 := bytesIn_below hin2 bel
  have hE := equal_any (w4.setCell ⟨w2.heap.size, 0, none⟩ (.slice none 0 0)) q2 p d2 c _ _ l l (bytesIn_set hq2 x0 _) (bytesIn_set hin4 x0 _) rfl rfl rfl
  have bfin : Below w.heap.size w (w4.setCell ⟨w2.heap.size, 0, none⟩ (.slice none 0 0)) := (b2.trans (bel.mono b2.size)).setCell b2.size _
  have hR := rest_any w2.heap.size w4 q2 l.length d2 x0 f0
  have hEr := err_any w2.heap.size w4 .nilIface x1
  clear hq2 hin4 hin2
  go_wp2_with fail
  refine hEr.mono ?_
  rintro e w5 ⟨rfl, rfl⟩
  clear hEr
  go_wp2_with fail
  refine hR.mono ?_
  rintro e w6 ⟨rfl, rfl⟩
  clear hR
  go_wp2_with fail
  refine hE.mono ?_
  rintro e w7 ⟨rfl, rfl⟩
  go_wp2_with fail
  go_ret
  exact ⟨rfl, bfin⟩
end Go.Proofs.YbulkggoDoor
