/- Decoder.Uint, NewDecoder, Err, Rest, slices.Clone: the walks. -/
import Derived.Test.YbulkggoDoorOwn
import Derived.Test.YbulkggoDoorShelf
import Derived.LaidEql
namespace Go.Proofs.YbulkggoDoor
open Go.RowKit
set_option linter.unusedVariables false

def nums (l : List UInt8) : List Int := l.map fun b => (b.toNat : Int)
theorem nums_len (l : List UInt8) : (nums l).length = l.length := by simp [nums]
theorem nums_getD (l : List UInt8) (i : Nat) (h : i < l.length) : (nums l).getD i 0 = ((l[i]).toNat : Int) := by simp [nums, List.getD, h]
theorem bytesOf_nums (l : List UInt8) : Lib.bytesOf (nums l) = l := by
  simp [Lib.bytesOf, nums, Function.comp_def]
def sent (a : Addr) : Value := .iface 41 (.pointer (some a))

theorem uint_held (D : Nat) (w : World) (t : TypeId) (v : Value) (he : w.cell? ⟨D, 1, none⟩ = some (.iface t v)) :
    Calls Ybad.prog 7 #[.pointer (some ⟨D, 0, none⟩)] w fun e w' => e = .returned (.int .u64 0) ∧ w' = w := by
  go_enter Ybad.func7, Ybad.ntmps7
  go_wp2
  go_ret
  exact ⟨rfl, rfl⟩

theorem uvar (w : World) (p : Option Addr) (c : Nat) (l : List UInt8) (h : Lib.BytesIn w p l.length (nums l)) :
    Calls Ybad.prog 12 #[.slice p l.length c] w fun e w' => e = .returned (.tuple #[.int .u64 (Lib.uvarintDec l).1, .int .i64 (Lib.uvarintDec l).2]) ∧ w' = w := by
  cases l with
  | nil => exact Ybad.binary_Uvarint_empty p c w
  | cons b r =>
    obtain ⟨g, o, rfl, hc⟩ := h (by simp)
    refine Ybad.binary_Uvarint g o _ c (b :: r) w rfl fun j hj => ?_
    rw [hc j hj, nums_getD _ _ hj]

theorem uint_short (D : Nat) (w : World) (p : Option Addr) (c : Nat) (l : List UInt8) (a1 : Addr) (hin : Lib.BytesIn w p l.length (nums l))
    (hb : w.cell? ⟨D, 0, none⟩ = some (.slice p l.length c)) (he : w.cell? ⟨D, 1, none⟩ = some .nilIface) (hf : w.frozen? ⟨D, 1, none⟩ = false)
    (hg : w.cell? ⟨1, 0, none⟩ = some (.iface 41 (.pointer (some a1)))) (hn : (Lib.uvarintDec l).2 ≤ 0) :
    Calls Ybad.prog 7 #[.pointer (some ⟨D, 0, none⟩)] w fun e w' => e = .returned (.int .u64 0) ∧ w' = w.setCell ⟨D, 1, none⟩ (.iface 41 (.pointer (some a1))) := by
  have hu := uvar w p c l hin
  generalize Lib.uvarintDec l = r at *
  obtain ⟨x, n⟩ := r
  simp only at hn hu
  go_enter Ybad.func7, Ybad.ntmps7
  go_wp2_with fail
  refine hu.mono ?_
  rintro e w1 ⟨rfl, rfl⟩
  clear hu
  go_wp2_with fail
  go_ret
  exact ⟨rfl, rfl⟩

theorem uint_padded (D : Nat) (w : World) (g o : Nat) (c : Nat) (l : List UInt8) (x k : Nat) (a0 : Addr) (hin : Lib.BytesIn w (some ⟨g, o, none⟩) l.length (nums l))
    (hb : w.cell? ⟨D, 0, none⟩ = some (.slice (some ⟨g, o, none⟩) l.length c)) (he : w.cell? ⟨D, 1, none⟩ = some .nilIface) (hf : w.frozen? ⟨D, 1, none⟩ = false)
    (hg : w.cell? ⟨0, 0, none⟩ = some (.iface 41 (.pointer (some a0)))) (hn : Lib.uvarintDec l = (x, ((k + 2 : Nat) : Int))) (hk : k + 1 < l.length) (hz : w.cell? ⟨g, o + (k + 1), none⟩ = some (.int .u8 0)) (hc : l.length ≤ maxLen) :
    Calls Ybad.prog 7 #[.pointer (some ⟨D, 0, none⟩)] w fun e w' => e = .returned (.int .u64 0) ∧ w' = w.setCell ⟨D, 1, none⟩ (.iface 41 (.pointer (some a0))) := by
  have hu := uvar w _ c l hin
  rw [hn] at hu
  simp only at hu
  unfold maxLen at hc
  have e1 : ((k + 2 : Nat) : Int) = (k : Int) + 2 := by omega
  rw [e1] at hu
  go_enter Ybad.func7, Ybad.ntmps7
  go_wp2_with fail
  refine hu.mono ?_
  rintro e w1 ⟨rfl, rfl⟩
  clear hu
  go_wp2_with fail
  go_ret
  exact ⟨rfl, rfl⟩
theorem uint_value (D : Nat) (w : World) (g o : Nat) (c : Nat) (l : List UInt8) (x k : Nat) (z : Int) (hin : Lib.BytesIn w (some ⟨g, o, none⟩) l.length (nums l))
    (hb : w.cell? ⟨D, 0, none⟩ = some (.slice (some ⟨g, o, none⟩) l.length c)) (he : w.cell? ⟨D, 1, none⟩ = some .nilIface) (hf : w.frozen? ⟨D, 0, none⟩ = false)
    (hn : Lib.uvarintDec l = (x, ((k + 1 : Nat) : Int))) (hk : k < l.length) (hz : w.cell? ⟨g, o + k, none⟩ = some (.int .u8 z)) (hz0 : 0 < k → z ≠ 0) (hlc : l.length ≤ c) (hc : l.length ≤ maxLen) :
    Calls Ybad.prog 7 #[.pointer (some ⟨D, 0, none⟩)] w fun e w' => e = .returned (.int .u64 x) ∧ ∃ a, w' = w.setCell ⟨D, 0, none⟩ (.slice (some a) (l.length - (k + 1)) (c - (k + 1))) ∧ (k + 1 < l.length → a = ⟨g, o + (k + 1), none⟩) := by
  have hu := uvar w _ c l hin
  rw [hn] at hu
  simp only at hu
  unfold maxLen at hc
  cases k with
  | zero =>
    have hd : decide ((1 : Int) < 1) = false := by decide
    have e1 : ((0 + 1 : Nat) : Int) = 1 := by omega
    rw [e1] at hu
    go_enter Ybad.func7, Ybad.ntmps7
    go_wp2_with fail
    refine hu.mono ?_
    rintro e w1 ⟨rfl, rfl⟩
    clear hu
    go_wp2_with fail
    all_goals
      go_ret
      refine ⟨rfl, _, rfl, ?_⟩
      intro h
      first
      | rfl
      | (exfalso; omega)
  | succ k =>
    have e1 : ((k + 1 + 1 : Nat) : Int) = (k : Int) + 2 := by omega
    rw [e1] at hu
    have hz1 : (z == 0) = false := by simpa using hz0 (by omega)
    clear hz0
    go_enter Ybad.func7, Ybad.ntmps7
    go_wp2_with fail
    refine hu.mono ?_
    rintro e w1 ⟨rfl, rfl⟩
    clear hu
    go_wp2_with fail
    all_goals
      go_ret
      refine ⟨rfl, _, rfl, ?_⟩
      intro h
      first
      | rfl
      | (exfalso; omega)
theorem Ybad.info5 : (Ybad.prog.info? 5).map (fun i => (i.zero, i.size, i.bytes)) = some (some (.int .u8 0), 1, 1) := by kernel_rfl
/-- A slice of bytes that can be read: its bytes are 'l'. -/
def Bs (w : World) (v : Value) (l : List UInt8) : Prop := ∃ p c, v = .slice p l.length c ∧ l.length ≤ c ∧ Lib.BytesIn w p l.length (nums l)
theorem bytesIn_below {w w' : World} {p : Option Addr} {l : List UInt8} (h : Lib.BytesIn w p l.length (nums l)) (hb : Below w.heap.size w w') : Lib.BytesIn w' p l.length (nums l) := by
  intro hn
  obtain ⟨g, o, rfl, hc⟩ := h hn
  exact ⟨g, o, rfl, fun i hi => cell_later hb (hc i hi)⟩
theorem Bs.below {w w' : World} {v : Value} {l : List UInt8} (h : Bs w v l) (hb : Below w.heap.size w w') : Bs w' v l := by
  obtain ⟨p, c, rfl, hc, hin⟩ := h
  exact ⟨p, c, rfl, hc, bytesIn_below hin hb⟩
theorem own_bs {w : World} {base : Nat} {e : TypeId} {v : Value} {l : List UInt8} (h : Own w base e v (Lib.byteCells l)) : Bs w v l := by
  have hlen : (Lib.byteCells l).length = l.length := Lib.byteCells_length l
  rcases h.shape with ⟨rfl, hx⟩ | ⟨g, cap, rfl, hb, hg, hc, hm, hcell⟩
  · have : l = [] := by
      apply List.eq_nil_of_length_eq_zero
      rw [← hlen, hx]; rfl
    subst this
    exact ⟨none, 0, rfl, Nat.le_refl _, Lib.BytesIn.nil _ _ _⟩
  · rw [hlen] at hc hcell ⊢
    refine ⟨_, cap, rfl, hc, fun _ => ⟨g, 0, rfl, fun i hi => ?_⟩⟩
    rw [Nat.zero_add, hcell i hi, nums_getD l i hi]
    simp [Lib.byteCells, hi]
theorem byteCells_oneCell (l : List UInt8) : ∀ u ∈ Lib.byteCells l, u.oneCell' = true := by
  intro u hu
  simp only [Lib.byteCells, List.mem_map] at hu
  obtain ⟨b, _, rfl⟩ := hu
  rfl

set_option maxRecDepth 100000 in
set_option maxHeartbeats 400000 in
theorem clone_any (w : World) (p : Option Addr) (c : Nat) (l : List UInt8) (h : Lib.BytesIn w p l.length (nums l)) (hl : l.length ≤ 100000) :
    Calls Ybad.prog 11 #[.slice p l.length c] w fun e w' => ∃ v', e = .returned v' ∧ Bs w' v' l ∧ Below w.heap.size w w' := by
  have hnil := fun w a n c => Lib.run_eql_slice_nil (P := Ybad.prog) w 23 5 a n c 0 0 Ybad.underlying23
  cases p with
  | none =>
    have hl0 : l = [] := by
      cases l with
      | nil => rfl
      | cons b r => obtain ⟨g, o, e, _⟩ := h (by simp); cases e
    subst hl0
    go_enter Ybad.func11, Ybad.ntmps11
    go_wp2
    go_ret
    exact ⟨_, rfl, ⟨none, 0, rfl, Nat.le_refl _, Lib.BytesIn.nil _ _ _⟩, Below.refl _ _⟩
  | some a =>
    have hlen : (Lib.byteCells l).length = l.length := Lib.byteCells_length l
    obtain ⟨i, hi, hz0, hz1, hz2⟩ := info_parts Ybad.info5
    have own0 : (w.alloc (.cells #[] 5)).ownsRow w.heap.size 5 1 (.slice (some ⟨w.heap.size, 0, none⟩) 0 0) 0 [] := World.ownsRow_made w #[] 0 (Nat.le_refl _) (by simp) (by simp)
    have HC : Hid (∀ j u, (Lib.byteCells l)[j]? = some u → (w.alloc (.cells #[] 5)).cell? (a.add j) = some u) := by
      intro j u hu
      have hj := (List.getElem?_eq_some_iff.1 hu).1
      rw [hlen] at hj
      obtain ⟨g, o, ea, hc⟩ := h (by omega)
      obtain rfl := Option.some.inj ea
      have hcj := hc j hj
      rw [nums_getD l j hj] at hcj
      rw [Addr.add_lit, cell_later (below_alloc w _ _ (Nat.le_refl _)) hcj]
      simp [Lib.byteCells, hj] at hu
      rw [hu]
    have H1 : Hid (∀ u ∈ Lib.byteCells l, u.oneCell' = true) := byteCells_oneCell l
    clear h
    go_enter Ybad.func11, Ybad.ntmps11
    go_wp2_with (at_builtin; refine Stand.out ?_)
    refine wpList_append_own _ rfl _ _ 23 rfl w.heap.size 5 i _ 1 1 Ybad.underlying23 hi hz0 hz1 hz2 rfl (by omega) (.slice (some ⟨w.heap.size, 0, none⟩) 0 0) 0 [] rfl own0 a l.length c (Lib.byteCells l) rfl (by simp [hlen]) HC.out H1.out (by unfold maxLen; omega) (by omega) (by simp) ?_
    intro v' w' o1 g1 _
    go_wp2
    go_ret
    have o2 : Own w' w.heap.size 5 v' (Lib.byteCells l) := by unfold Own; rw [hlen]; simpa using o1
    refine ⟨_, rfl, own_bs o2, ?_⟩
    exact (below_alloc w _ _ (Nat.le_refl _)).trans ((Below.refl _ _).grown g1 (by simp) (by intro k hk; simp [Value.ownBlock] at hk; omega))
end Go.Proofs.YbulkggoDoor
