/- Decoder.Uint over a decoder that was just made: one contract. -/
import Derived.Test.YbulkggoDoorUint
namespace Go.Proofs.YbulkggoDoor
open Go.RowKit
set_option linter.unusedVariables false

/-- What the decoder holds behind Uint: 'd' is what the bytes decode to. -/
def Read (w : World) (l : List UInt8) (a0 a1 : Addr) (r : Nat) (b err : Value) : Prop :=
  ((Lib.uvarintDec l).2 ≤ 0 ∧ r = 0 ∧ err = .iface 41 (.pointer (some a1)) ∧ Bs w b l) ∨
  (∃ k, (Lib.uvarintDec l).2 = ((k + 2 : Nat) : Int) ∧ l[k + 1]? = some 0 ∧ r = 0 ∧ err = .iface 41 (.pointer (some a0)) ∧ Bs w b l) ∨
  (∃ k, (Lib.uvarintDec l).2 = ((k + 1 : Nat) : Int) ∧ k < l.length ∧ (0 < k → l[k]? ≠ some 0) ∧ r = (Lib.uvarintDec l).1 ∧ err = .nilIface ∧ Bs w b (l.drop (k + 1)))

/-- The decoder reads no more bytes than there are. -/
theorem from_le : ∀ (l : List UInt8) (i acc : Nat), (Lib.uvarintFrom i acc l).2 ≤ (i : Int) + l.length
  | [], i, acc => by simp [Lib.uvarintFrom]
  | b :: r, i, acc => by
    simp only [Lib.uvarintFrom]
    split
    · simp; omega
    · split
      · split
        · simp; omega
        · simp; omega
      · have := from_le r (i + 1) (acc + b.toNat % 128 * 2 ^ (7 * i))
        simp only [List.length_cons]
        omega
theorem dec_le (l : List UInt8) : (Lib.uvarintDec l).2 ≤ (l.length : Int) := by
  have := from_le l 0 0
  unfold Lib.uvarintDec
  omega

theorem cell_at_nums {w : World} {g o : Nat} {l : List UInt8} (h : Lib.BytesIn w (some ⟨g, o, none⟩) l.length (nums l)) {k : Nat} (hk : k < l.length) : w.cell? ⟨g, o + k, none⟩ = some (.int .u8 ((l[k]).toNat : Int)) := by
  obtain ⟨g', o', e, hc⟩ := h (by omega)
  simp only [Option.some.injEq, Addr.mk.injEq] at e
  obtain ⟨rfl, rfl, _⟩ := e
  rw [hc k hk, nums_getD l k hk]

theorem uint_any (w0 : World) (p : Option Addr) (c : Nat) (l : List UInt8) (a0 a1 : Addr) (hin : Lib.BytesIn w0 p l.length (nums l)) (hlc : l.length ≤ c) (hmax : l.length ≤ 100000)
    (g0 : w0.cell? ⟨0, 0, none⟩ = some (.iface 41 (.pointer (some a0)))) (g1 : w0.cell? ⟨1, 0, none⟩ = some (.iface 41 (.pointer (some a1)))) :
    Calls Ybad.prog 7 #[.pointer (some ⟨w0.heap.size, 0, none⟩)] (w0.alloc (.cells #[.slice p l.length c, .nilIface] 36)) fun e w' => ∃ (r : Nat) (q : Option Addr) (m d : Nat) (err : Value),
      e = .returned (.int .u64 r) ∧ w'.cell? ⟨w0.heap.size, 0, none⟩ = some (.slice q m d) ∧ w'.cell? ⟨w0.heap.size, 1, none⟩ = some err ∧ w'.frozen? ⟨w0.heap.size, 0, none⟩ = false ∧ Below w0.heap.size w0 w' ∧ Read w' l a0 a1 r (.slice q m d) err := by
  have bel : Below w0.heap.size w0 (w0.alloc (.cells #[.slice p l.length c, .nilIface] 36)) := below_alloc _ _ _ (Nat.le_refl _)
  have hblk : (w0.alloc (.cells #[.slice p l.length c, .nilIface] 36)).heap[w0.heap.size]? = some (.cells #[.slice p l.length c, .nilIface] 36) := Go.heap_alloc_new _ _
  generalize (w0.alloc (.cells #[.slice p l.length c, .nilIface] 36)) = w at *
  have c0 : w.cell? ⟨w0.heap.size, 0, none⟩ = some (.slice p l.length c) := cell_of_block hblk 0
  have c1 : w.cell? ⟨w0.heap.size, 1, none⟩ = some .nilIface := cell_of_block hblk 1
  have f0 := frozen_of_block hblk 0
  have f1 := frozen_of_block hblk 1
  have hin' := bytesIn_below hin bel
  have g0' := cell_later bel g0
  have g1' := cell_later bel g1
  have bset : ∀ j v, Below w0.heap.size w0 (w.setCell ⟨w0.heap.size, j, none⟩ v) := fun j v => bel.setCell (Nat.le_refl _) v
  have hmx : l.length ≤ maxLen := by unfold maxLen; omega
  by_cases hn : (Lib.uvarintDec l).2 ≤ 0
  · refine (uint_short _ w p c l a1 hin' c0 c1 f1 g1' hn).mono ?_
    rintro e w' ⟨rfl, rfl⟩
    refine ⟨0, p, l.length, c, _, rfl, ?_, World.cell?_setCell_same _ _ _ c1, ?_, bset _ _, .inl ⟨hn, rfl, rfl, p, c, rfl, hlc, bytesIn_below hin (bset _ _)⟩⟩
    · rw [World.cell?_setCell_other _ _ _ _ (by simp)]; exact c0
    · rw [World.frozen?_setCell]; exact f0
  · have hle := dec_le l
    obtain ⟨k, hk⟩ : ∃ k : Nat, (Lib.uvarintDec l).2 = ((k + 1 : Nat) : Int) := ⟨((Lib.uvarintDec l).2 - 1).toNat, by omega⟩
    have hkl : k < l.length := by omega
    obtain ⟨g, o, rfl, _⟩ := hin (by omega)
    have hd : Lib.uvarintDec l = ((Lib.uvarintDec l).1, ((k + 1 : Nat) : Int)) := by rw [← hk]
    have hck := cell_at_nums hin' hkl
    by_cases hp : 0 < k ∧ l[k]? = some 0
    · obtain ⟨hp1, hp2⟩ := hp
      obtain ⟨k, rfl⟩ : ∃ j, k = j + 1 := ⟨k - 1, by omega⟩
      have hz : l[k + 1] = 0 := by
        rw [List.getElem?_eq_getElem hkl] at hp2
        exact Option.some.inj hp2
      rw [hz] at hck
      refine (uint_padded _ w g o c l _ k a0 hin' c0 c1 f1 g0' hd hkl hck hmx).mono ?_
      rintro e w' ⟨rfl, rfl⟩
      refine ⟨0, _, l.length, c, _, rfl, ?_, World.cell?_setCell_same _ _ _ c1, ?_, bset _ _, .inr (.inl ⟨k, hk, hp2, rfl, rfl, _, c, rfl, hlc, bytesIn_below hin (bset _ _)⟩)⟩
      · rw [World.cell?_setCell_other _ _ _ _ (by simp)]; exact c0
      · rw [World.frozen?_setCell]; exact f0
    · have hp' : 0 < k → l[k]? ≠ some 0 := fun h1 h2 => hp ⟨h1, h2⟩
      refine (uint_value _ w g o c l _ k _ hin' c0 c1 f0 hd hkl hck ?_ hlc hmx).mono ?_
      · intro h1 h2
        refine hp' h1 ?_
        rw [List.getElem?_eq_getElem hkl]
        congr 1
        apply UInt8.toNat_inj.1
        simpa using h2
      · rintro e w' ⟨rfl, a, rfl, ha⟩
        refine ⟨_, _, _, _, _, rfl, World.cell?_setCell_same _ _ _ c0, ?_, ?_, bset _ _, .inr (.inr ⟨k, hk, hkl, hp', rfl, rfl, some a, c - (k + 1), by rw [List.length_drop], by rw [List.length_drop]; omega, ?_⟩)⟩
        · rw [World.cell?_setCell_other _ _ _ _ (by simp)]; exact c1
        · rw [World.frozen?_setCell]; exact f0
        · intro h0
          rw [List.length_drop] at h0
          obtain rfl := ha (by omega)
          refine ⟨g, o + (k + 1), rfl, fun i hi => ?_⟩
          rw [List.length_drop] at hi
          have h1 := cell_at_nums (bytesIn_below hin (bset 0 (.slice (some ⟨g, o + (k + 1), none⟩) (l.length - (k + 1)) (c - (k + 1))))) (k := k + 1 + i) (by omega)
          rw [nums_getD _ _ (by rw [List.length_drop]; omega), List.getElem_drop, ← h1, Nat.add_assoc]
end Go.Proofs.YbulkggoDoor
