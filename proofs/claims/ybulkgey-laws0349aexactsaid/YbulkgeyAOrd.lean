/- compareBytes over strings laid one after the other. -/
import Derived.Test.YbulkgeyARaise
namespace Go.Proofs.Ybulkgey
open Go.RowKit
set_option linter.unusedVariables false

theorem cb_self : ∀ x : List UInt8, Lib.compareBytes x x = 0
  | [] => rfl
  | a :: x => by simp [Lib.compareBytes, cb_self x]
theorem cb_less : ∀ x y : List UInt8, (Lib.compareBytes x y < 0) ↔ Op.bytesLess x y = true
  | [], [] => by simp [Lib.compareBytes, Op.bytesLess]
  | [], _ :: _ => by simp [Lib.compareBytes, Op.bytesLess]
  | _ :: _, [] => by simp [Lib.compareBytes, Op.bytesLess]
  | a :: x, b :: y => by
    have := cb_less x y
    simp only [Lib.compareBytes, Op.bytesLess]
    by_cases h1 : a < b
    · simp [h1]
    · by_cases h2 : b < a
      · have hne : a ≠ b := fun e => by subst e; exact h1 h2
        simp [h1, h2, hne]
      · have he : a = b := UInt8.le_antisymm (UInt8.not_lt.1 h2) (UInt8.not_lt.1 h1)
        simp [this, he]
theorem cb_zero : ∀ x y : List UInt8, Lib.compareBytes x y = 0 → x = y
  | [], [], _ => rfl
  | [], _ :: _, h => by simp [Lib.compareBytes] at h
  | _ :: _, [], h => by simp [Lib.compareBytes] at h
  | a :: x, b :: y, h => by
    simp only [Lib.compareBytes] at h
    by_cases h1 : a < b
    · simp [h1] at h
    · by_cases h2 : b < a
      · simp [h1, h2] at h
      · simp [h1, h2] at h
        rw [cb_zero x y h]
        congr 1
        exact UInt8.le_antisymm (UInt8.not_lt.1 h2) (UInt8.not_lt.1 h1)
theorem cb_append : ∀ x y u v : List UInt8, x.length = y.length → Lib.compareBytes (x ++ u) (y ++ v) = if Lib.compareBytes x y = 0 then Lib.compareBytes u v else Lib.compareBytes x y
  | [], [], u, v, _ => by simp [Lib.compareBytes]
  | [], _ :: _, _, _, h => by simp at h
  | _ :: _, [], _, _, h => by simp at h
  | a :: x, b :: y, u, v, h => by
    have := cb_append x y u v (by simpa using h)
    simp only [List.cons_append, Lib.compareBytes]
    by_cases h1 : a < b
    · simp [h1]
    · by_cases h2 : b < a
      · simp [h1, h2]
      · simp [h1, h2, this]

def cpre (E : Nat → ByteArray) : Nat → ByteArray
  | 0 => ByteArray.empty
  | m + 1 => cpre E m ++ E m
def cmpB (x y : ByteArray) : Int := Lib.compareBytes x.data.toList y.data.toList
theorem cpre_size {E F : Nat → ByteArray} (m : Nat) (h : ∀ k, k < m → (E k).size = (F k).size) : (cpre E m).size = (cpre F m).size := by
  induction m with
  | zero => rfl
  | succ m ih =>
    rw [cpre, cpre, ByteArray.size_append, ByteArray.size_append, ih (fun k hk => h k (by omega)), h m (by omega)]
theorem cmp_pre (E F : Nat → ByteArray) (m : Nat) (h : ∀ k, k < m → (E k).size = (F k).size) :
    (cmpB (cpre E m) (cpre F m) = 0 → ∀ k, k < m → E k = F k) ∧ (cmpB (cpre E m) (cpre F m) ≠ 0 → ∃ p, p < m ∧ (∀ k, k < p → E k = F k) ∧ E p ≠ F p ∧ cmpB (cpre E m) (cpre F m) = cmpB (E p) (F p)) := by
  induction m with
  | zero => exact ⟨fun _ k hk => by omega, fun h => absurd (show cmpB (cpre E 0) (cpre F 0) = 0 from rfl) h⟩
  | succ m ih =>
    obtain ⟨i1, i2⟩ := ih (fun k hk => h k (by omega))
    have hs := cpre_size m (fun k hk => h k (by omega))
    have e : cmpB (cpre E (m + 1)) (cpre F (m + 1)) = if cmpB (cpre E m) (cpre F m) = 0 then cmpB (E m) (F m) else cmpB (cpre E m) (cpre F m) := by
      unfold cmpB
      rw [cpre, cpre, ByteArray.data_append, ByteArray.data_append, Array.toList_append, Array.toList_append]
      refine cb_append _ _ _ _ ?_
      rw [Array.length_toList, Array.length_toList]
      exact hs
    by_cases hz : cmpB (cpre E m) (cpre F m) = 0
    · rw [if_pos hz] at e
      refine ⟨fun h0 k hk => ?_, fun hne => ⟨m, by omega, i1 hz, fun he => hne ?_, e⟩⟩
      · by_cases hkm : k = m
        · subst hkm
          rw [e] at h0
          exact ByteArray.ext (Array.ext' (cb_zero _ _ h0))
        · exact i1 hz k (by omega)
      · rw [e, he]; exact cb_self _
    · rw [if_neg hz] at e
      refine ⟨fun h0 => absurd (e.symm.trans h0) hz, fun _ => ?_⟩
      obtain ⟨p, h1, h2, h3, h4⟩ := i2 hz
      exact ⟨p, by omega, h2, h3, e.trans h4⟩
theorem cmpB_less (x y : ByteArray) : decide (cmpB x y < 0) = lessB x y := by
  unfold lessB
  rw [ByteArray.toList_eq, ByteArray.toList_eq]
  cases h : Op.bytesLess x.data.toList y.data.toList
  · have : ¬ cmpB x y < 0 := fun h' => by rw [(cb_less _ _).1 h'] at h; cases h
    simpa using this
  · have : cmpB x y < 0 := (cb_less _ _).2 h
    simpa using this
end Go.Proofs.Ybulkgey
