/- An argument of type []byte, opened. -/
import Derived.Test.YbulkggoDoorUint
import Derived.Test.YbulkggoDoorLaid
namespace Go.Proofs.YbulkggoDoor
open Go.ChangeShapes Go.WideShapes Go.ChangeAt Go.RowKit
set_option linter.unusedVariables false

theorem nums_of_bytes {xs : List Int} (h : ∀ x ∈ xs, 0 ≤ x ∧ x < 256) : nums (Lib.bytesOf xs) = xs := by
  unfold nums Lib.bytesOf
  rw [List.map_map]
  have : ∀ x ∈ xs, ((fun b : UInt8 => (b.toNat : Int)) ∘ fun n : Int => UInt8.ofNat n.toNat) x = x := by
    intro x hx
    obtain ⟨h0, h1⟩ := h x hx
    simp only [Function.comp_apply, UInt8.toNat_ofNat']
    omega
  conv => rhs; rw [← List.map_id xs]
  exact List.map_congr_left (by simpa using this)

theorem bytes_of_trod {H : Type} {enc : TypeId × Value → H} {W : World} {a : Option Addr} {len cap : Nat} {d : DataW H} {p : List MemPlace}
    (h : DataW.Trod enc Ybad.prog W 0 (fun _ => true) true 23 (.slice a len cap) d p) : ∃ xs : List Int, xs.length = len ∧ len ≤ cap ∧ Lib.BytesIn W a len xs ∧ ∀ x ∈ xs, 0 ≤ x ∧ x < 256 := by
  obtain ⟨fuel, hf⟩ := h
  rcases open_ints Ybad.underlying23 Ybad.underlying5 (by kernel_rfl) hf with ⟨hcs, _⟩ | ⟨x, l, c, zs, hcs, _, hl, hm, hz, _, hcell, hwz⟩
  · simp [Value.cells] at hcs
    obtain ⟨rfl, rfl, rfl⟩ := hcs
    exact ⟨[], rfl, Nat.le_refl _, Lib.BytesIn.nil _ _ _, fun _ h => by cases h⟩
  · simp [Value.cells] at hcs
    obtain ⟨rfl, rfl, rfl⟩ := hcs
    have hz2 : zs.length = cap := by simpa using hz
    refine ⟨zs.take len, by rw [List.length_take]; omega, hl, Lib.BytesIn.of_cells (fun i hi => ?_), fun y hy => ?_⟩
    · rw [hcell i (by omega)]
      simp [List.getD, hi]
    · have := bounds_u8 (hwz y (List.mem_of_mem_take hy))
      omega
end Go.Proofs.YbulkggoDoor
