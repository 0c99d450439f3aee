/- NaNs whose bits the tape gives: what the float operations, radians, Cos and Sin may hand back. -/
import Derived.Test.YbulkgjuDoorItem
namespace Go.Proofs.YbulkgjuDoor
open Go.RowKit
set_option linter.unusedVariables false

theorem nan_word (t : Nat) : NaNw ((t % 2) * 2 ^ 63 + 0x7ff0000000000000 + 1 + (t / 2) % (2 ^ 52 - 1)) ∧ (t % 2) * 2 ^ 63 + 0x7ff0000000000000 + 1 + (t / 2) % (2 ^ 52 - 1) < 18446744073709551616 := by
  have h2 : t % 2 = 0 ∨ t % 2 = 1 := by omega
  have hr : ∀ s : Bool, Ieee.double.word s (0x7ff0000000000000 + 1 + (t / 2) % (2 ^ 52 - 1)) = (if s then 2 ^ 63 else 0) + (0x7ff0000000000000 + 1 + (t / 2) % (2 ^ 52 - 1)) := by
    intro s; cases s
    · simp [Ieee.Format.word]
    · simp [Ieee.Format.word, show Ieee.double.signWeight = 2 ^ 63 by decide]
  have hrd := fun s => read_word s (0x7ff0000000000000 + 1 + (t / 2) % (2 ^ 52 - 1)) (by omega)
  have hrd2 : ∀ s, Ieee.double.read (Ieee.double.word s (0x7ff0000000000000 + 1 + (t / 2) % (2 ^ 52 - 1))) = .nan s (0x7ff0000000000000 + 1 + (t / 2) % (2 ^ 52 - 1) - 2047 * 2 ^ 52) := by
    intro s
    rw [hrd s, if_neg (by omega), if_neg (by omega), if_neg (by omega)]
  refine ⟨?_, by omega⟩
  rcases h2 with h | h
  · have e : (t % 2) * 2 ^ 63 + 0x7ff0000000000000 + 1 + (t / 2) % (2 ^ 52 - 1) = Ieee.double.word false (0x7ff0000000000000 + 1 + (t / 2) % (2 ^ 52 - 1)) := by
      rw [hr false, h, if_neg (by decide)]; omega
    exact ⟨false, _, by rw [e]; exact hrd2 false⟩
  · have e : (t % 2) * 2 ^ 63 + 0x7ff0000000000000 + 1 + (t / 2) % (2 ^ 52 - 1) = Ieee.double.word true (0x7ff0000000000000 + 1 + (t / 2) % (2 ^ 52 - 1)) := by
      rw [hr true, h, if_pos rfl]; omega
    exact ⟨true, _, by rw [e]; exact hrd2 true⟩

/-- A law of the walk: the operation gives N w in every world w, and draws k times. -/
def Gives (op : BinOp) (a b : Nat) (N : World → Nat) (k : Nat) : Prop := ∀ (t : TypeId) (w : World), (binOp op t (.float .f64 a) (.float .f64 b)).run Ybad.prog w = .ok (.float .f64 (N w)) (w.drewN k)

theorem run_nan {op : BinOp} (hop : op = .mul ∨ op = .quo) {a b : Nat} (h : floatBits op .f64 a b = none) : ∃ N : World → Nat, Gives op a b N 1 ∧ ∀ w, NaNw (N w) ∧ N w < 18446744073709551616 := by
  refine ⟨fun w => (Question.nanBits .f64 a b).cut (w.tape w.drawn (.nanBits .f64 a b)), fun t w => ?_, fun w => nan_word _⟩
  rcases hop with rfl | rfl
  · simp only [floatBits] at h
    simp [binOp, Op.floatArith, h, choose, Sem.run, Question.forced]
    rfl
  · simp only [floatBits] at h
    simp [binOp, Op.floatArith, h, choose, Sem.run, Question.forced]
    rfl

theorem gives_any {op : BinOp} (hop : op = .mul ∨ op = .quo) (a b : Nat) : ∃ N k, Gives op a b N k ∧ (∀ w, N w < 18446744073709551616) ∧ ((∃ r, floatBits op .f64 a b = some r ∧ ∀ w, N w = r) ∨ (floatBits op .f64 a b = none ∧ ∀ w, NaNw (N w))) := by
  cases h : floatBits op .f64 a b with
  | some r => exact ⟨fun _ => r, 0, fun t w => run_float_arith w op t .f64 a b r h, fun _ => floatBits_lt h, .inl ⟨r, rfl, fun _ => rfl⟩⟩
  | none =>
    obtain ⟨N, h1, h2⟩ := run_nan hop h
    exact ⟨N, 1, h1, fun w => (h2 w).2, .inr ⟨rfl, fun w => (h2 w).1⟩⟩

/-- The words of a set are all the same one, or all NaNs. -/
def Alike (S : Nat → Prop) : Prop := (∃ s0, ∀ s, S s → s = s0) ∨ ∀ s, S s → NaNw s
def Sim (x y : Nat) : Prop := (x = y ∧ ¬ NaNw x) ∨ (NaNw x ∧ NaNw y)
theorem Alike.sim {S : Nat → Prop} (h : Alike S) {x y : Nat} (hx : S x) (hy : S y) : Sim x y := by
  rcases h with ⟨s0, h⟩ | h
  · obtain rfl := h x hx
    obtain rfl := h y hy
    by_cases hn : NaNw y
    · exact .inr ⟨hn, hn⟩
    · exact .inl ⟨rfl, hn⟩
  · exact .inr ⟨h x hx, h y hy⟩

theorem nan_none {op : BinOp} (hop : op = .mul ∨ op = .quo) {a b : Nat} (h : NaNw a ∨ NaNw b) : floatBits op .f64 a b = none := by
  rcases hop with rfl | rfl
  · show ((Ieee.double.read a).product (Ieee.double.read b)).map Ieee.double.write = none
    rcases h with ⟨s, f, h⟩ | ⟨s, f, h⟩
    · rw [h]; rfl
    · rw [h]; cases Ieee.double.read a <;> rfl
  · show ((Ieee.double.read a).quotient 54 (Ieee.double.read b)).map Ieee.double.write = none
    rcases h with ⟨s, f, h⟩ | ⟨s, f, h⟩
    · rw [h]; rfl
    · rw [h]; cases Ieee.double.read a <;> rfl

/-- One factor fixed, the other of an alike set. -/
theorem mul_sets (c : Nat) (S : Nat → Prop) (hS : Alike S) : ∃ T, Alike T ∧ ∀ s, S s → ∃ N k, Gives .mul c s N k ∧ ∀ w, T (N w) := by
  rcases hS with ⟨s0, h⟩ | h
  · obtain ⟨N, k, g, _, hN⟩ := gives_any (.inl rfl) c s0
    refine ⟨fun x => ∃ w, x = N w, ?_, fun s hs => ?_⟩
    · rcases hN with ⟨r, _, hr⟩ | ⟨_, hn⟩
      · exact .inl ⟨r, fun s ⟨w, hw⟩ => hw.trans (hr w)⟩
      · exact .inr fun s ⟨w, hw⟩ => hw ▸ hn w
    · obtain rfl := h s hs
      exact ⟨N, k, g, fun w => ⟨w, rfl⟩⟩
  · refine ⟨NaNw, .inr fun _ h => h, fun s hs => ?_⟩
    obtain ⟨N, h1, h2⟩ := run_nan (.inl rfl) (nan_none (op := .mul) (.inl rfl) (.inr (h s hs)) : floatBits .mul .f64 c s = none)
    exact ⟨N, 1, h1, fun w => (h2 w).1⟩

/-- What degrees * Pi / 180 may give. -/
def Rad (x : Nat) (R : Nat → Prop) : Prop := ∃ (Nm : World → Nat) (km : Nat) (Nq : World → World → Nat) (kq : World → Nat), Gives .mul x 4614256656552045848 Nm km ∧ (∀ u, Gives .quo (Nm u) 4640537203540230144 (Nq u) (kq u)) ∧ ∀ u w, R (Nq u w)

theorem rad_ex (x : Nat) : ∃ R, Rad x R ∧ Alike R ∧ ∀ r, R r → r < 18446744073709551616 := by
  obtain ⟨Nm, km, g, _, hN⟩ := gives_any (op := .mul) (.inl rfl) x 4614256656552045848
  rcases hN with ⟨t, _, ht⟩ | ⟨_, hn⟩
  · obtain ⟨Nq, kq, g2, l2, hq⟩ := gives_any (op := .quo) (.inr rfl) t 4640537203540230144
    refine ⟨fun r => ∃ w, r = Nq w, ⟨Nm, km, fun _ => Nq, fun _ => kq, g, fun u => ?_, fun u w => ⟨w, rfl⟩⟩, ?_, ?_⟩
    · rw [ht u]; exact g2
    · rcases hq with ⟨r, _, hr⟩ | ⟨_, hn⟩
      · exact .inl ⟨r, fun s ⟨w, hw⟩ => hw.trans (hr w)⟩
      · exact .inr fun s ⟨w, hw⟩ => hw ▸ hn w
    · rintro r ⟨w, rfl⟩; exact l2 w
  · have hq := fun u => run_nan (op := .quo) (.inr rfl) (nan_none (op := .quo) (.inr rfl) (.inl (hn u)) : floatBits .quo .f64 (Nm u) 4640537203540230144 = none)
    refine ⟨fun r => NaNw r ∧ r < 18446744073709551616, ⟨Nm, km, fun u => (hq u).choose, fun _ => 1, g, fun u => (hq u).choose_spec.1, fun u w => (hq u).choose_spec.2 w⟩, .inr fun s h => h.1, fun r h => h.2⟩

theorem radians_any (x : Nat) (R : Nat → Prop) (h : Rad x R) (w : World) : Calls Ybad.prog 11 #[.float .f64 x] w fun e w' => ∃ r, e = .returned (.float .f64 r) ∧ R r ∧ ∃ k, w' = w.drewN k := by
  obtain ⟨Nm, km, Nq, kq, h1, h2, h3⟩ := h
  have g1 : ∀ (t : TypeId) (w : World), (binOp .mul t (.float .f64 x) (.float .f64 4614256656552045848)).run Ybad.prog w = .ok (.float .f64 (Nm w)) (w.drewN km) := h1
  have g2 : ∀ (u : World) (t : TypeId) (w : World), (binOp .quo t (.float .f64 (Nm u)) (.float .f64 4640537203540230144)).run Ybad.prog w = .ok (.float .f64 (Nq u w)) (w.drewN (kq u)) := h2
  clear h1 h2
  go_enter Ybad.func11, Ybad.ntmps11
  go_wp2
  go_ret
  exact ⟨_, rfl, h3 _ _, km + kq w, rfl⟩

/-- cos and sin where there is no number. -/
theorem cos_nan {x : Nat} (hn : NaNw x) : Fun1 13 x 9221120237041090561 := by
  have h : FloatKind.f64.format.order x x = none := order_self_nan hn
  refine .of0 fun w hw => ?_
  go_enter Ybad.func13, Ybad.ntmps13
  go_wp2_with fail
  refine (isNaN_any x _).mono ?_
  rintro e w' ⟨rfl, rfl⟩
  rw [h]
  go_wp2_with fail
  refine (nan_any _).mono ?_
  rintro e w' ⟨rfl, rfl⟩
  go_wp2_with fail
  go_ret
  exact ⟨rfl, rfl⟩
theorem inf_gt {x : Nat} {s : Bool} (h : Ieee.double.read x = .infinity s) : (FloatKind.f64.format.order (x % 9223372036854775808) 9218868437227405311 == some .gt) = true := by
  have hr := read_mod x
  rw [h] at hr
  dsimp only at hr
  obtain ⟨s', m, e, h2, _⟩ := max_val
  show (Ieee.double.order (x % 2 ^ 63) 9218868437227405311 == some .gt) = true
  unfold Ieee.Format.order; rw [hr, h2]; rfl
theorem cos_inf {x : Nat} {s : Bool} (hx : x < 18446744073709551616) (hi : Ieee.double.read x = .infinity s) : Fun1 13 x 9221120237041090561 := by
  have h : FloatKind.f64.format.order x x = some .eq := order_self_inf hi
  have h2 := inf_gt hi
  refine .of0 fun w hw => ?_
  go_enter Ybad.func13, Ybad.ntmps13
  go_wp2_with fail
  refine (isNaN_any x _).mono ?_
  rintro e w' ⟨rfl, rfl⟩
  rw [h]
  go_wp2_with fail
  refine (isInf_any x hx _).mono ?_
  rintro e w' ⟨rfl, rfl⟩
  rw [h2]
  go_wp2_with fail
  refine (nan_any _).mono ?_
  rintro e w' ⟨rfl, rfl⟩
  go_wp2_with fail
  go_ret
  exact ⟨rfl, rfl⟩
theorem sin_nan {x : Nat} (hn : NaNw x) : Fun1 15 x x := by
  have h : FloatKind.f64.format.order x x = none := order_self_nan hn
  have h0 : FloatKind.f64.format.order x 0 = none := by
    obtain ⟨s, f, h⟩ := hn
    show Ieee.double.order x 0 = none
    unfold Ieee.Format.order; rw [h]; rfl
  refine .of0 fun w hw => ?_
  go_enter Ybad.func15, Ybad.ntmps15
  go_wp2_with fail
  refine (isNaN_any x _).mono ?_
  rintro e w' ⟨rfl, rfl⟩
  rw [h]
  go_wp2_with fail
  go_ret
  exact ⟨rfl, rfl⟩
theorem sin_inf {x : Nat} {s : Bool} (hx : x < 18446744073709551616) (hi : Ieee.double.read x = .infinity s) : Fun1 15 x 9221120237041090561 := by
  have h : FloatKind.f64.format.order x x = some .eq := order_self_inf hi
  have h2 := inf_gt hi
  have h0 : (FloatKind.f64.format.order x 0 == some .eq) = false := by
    have : Ieee.double.read 0 = .number false 0 (-1074) := by decide +kernel
    show (Ieee.double.order x 0 == some .eq) = false
    unfold Ieee.Format.order; rw [hi, this]; cases s <;> rfl
  refine .of0 fun w hw => ?_
  go_enter Ybad.func15, Ybad.ntmps15
  go_wp2_with fail
  refine (isNaN_any x _).mono ?_
  rintro e w' ⟨rfl, rfl⟩
  rw [h]
  go_wp2_with fail
  refine (isInf_any x hx _).mono ?_
  rintro e w' ⟨rfl, rfl⟩
  rw [h2]
  go_wp2_with fail
  refine (nan_any _).mono ?_
  rintro e w' ⟨rfl, rfl⟩
  go_wp2_with fail
  go_ret
  exact ⟨rfl, rfl⟩

/-- Cos and Sin over an alike set. -/
theorem trig_sets (R : Nat → Prop) (hR : Alike R) (hl : ∀ r, R r → r < 18446744073709551616) : ∃ (c : Nat) (S : Nat → Prop), Alike S ∧ (∀ r, R r → Fun1 6 r c) ∧ ∀ r, R r → ∃ s, Fun1 8 r s ∧ S s := by
  rcases hR with ⟨r0, h⟩ | h
  · by_cases hex : ∃ r, R r
    · obtain ⟨r, hr⟩ := hex
      obtain rfl := h r hr
      cases classOf r with
      | fin q hv =>
        obtain ⟨c, s, hc, hs, _⟩ := trig_fin r q (hl r hr) hv
        exact ⟨c, fun x => x = s, .inl ⟨s, fun _ h => h⟩, fun x hx => by rw [h x hx]; exact Cos_of hc, fun x hx => ⟨s, by rw [h x hx]; exact Sin_of hs, rfl⟩⟩
      | inf s hi =>
        exact ⟨_, fun x => x = 9221120237041090561, .inl ⟨_, fun _ h => h⟩, fun x hx => by rw [h x hx]; exact Cos_of (cos_inf (hl r hr) hi), fun x hx => ⟨_, by rw [h x hx]; exact Sin_of (sin_inf (hl r hr) hi), rfl⟩⟩
      | nan s f hn =>
        exact ⟨_, fun x => x = r, .inl ⟨_, fun _ h => h⟩, fun x hx => by rw [h x hx]; exact Cos_of (cos_nan ⟨s, f, hn⟩), fun x hx => ⟨_, by rw [h x hx]; exact Sin_of (sin_nan ⟨s, f, hn⟩), rfl⟩⟩
    · exact ⟨0, fun _ => False, .inr fun _ h => h.elim, fun r hr => absurd ⟨r, hr⟩ hex, fun r hr => absurd ⟨r, hr⟩ hex⟩
  · exact ⟨_, NaNw, .inr fun _ h => h, fun r hr => Cos_of (cos_nan (h r hr)), fun r hr => ⟨r, Sin_of (sin_nan (h r hr)), h r hr⟩⟩

open Classical in
/-- The word that Sin gives. -/
noncomputable def sinF (r : Nat) : Nat := if NaNw r then r else if h : ∃ s, Fun1 8 r s then h.choose else 0
theorem sinF_nan {r : Nat} (h : NaNw r) : sinF r = r := by unfold sinF; rw [if_pos h]
theorem sinF_spec {r : Nat} (h : ∃ s, Fun1 8 r s) : Fun1 8 r (sinF r) := by
  by_cases hn : NaNw r
  · rw [sinF_nan hn]; exact Sin_of (sin_nan hn)
  · unfold sinF
    rw [if_neg hn, dif_pos h]
    exact h.choose_spec
theorem trig_setsF (R : Nat → Prop) (hR : Alike R) (hl : ∀ r, R r → r < 18446744073709551616) : ∃ c, Alike (fun s => ∃ r, R r ∧ s = sinF r) ∧ (∀ r, R r → Fun1 6 r c) ∧ ∀ r, R r → Fun1 8 r (sinF r) := by
  obtain ⟨c, S, _, h1, h2⟩ := trig_sets R hR hl
  refine ⟨c, ?_, h1, fun r hr => sinF_spec ((h2 r hr).imp fun s h => h.1)⟩
  rcases hR with ⟨r0, h⟩ | h
  · exact .inl ⟨sinF r0, fun s ⟨r, hr, hs⟩ => by rw [hs, h r hr]⟩
  · exact .inr fun s ⟨r, hr, hs⟩ => by rw [hs, sinF_nan (h r hr)]; exact h r hr

end Go.Proofs.YbulkgjuDoor
