/- The walks of the small functions: math.Abs, IsNaN, IsInf, NaN. -/
import Derived.Test.YbulkgjuDoorRows
import Derived.Test.YbulkgjuDoorShelf
import Derived.Test.YbulkgjuDoorTrig
import Derived.WalkKit
import Derived.ProofKit
import Derived.OpenShut
import Derived.Below
import Derived.WalkLawsBesides
import Derived.Laws.Externs
import Derived.Laws.Bits64b
namespace Go.Proofs.YbulkgjuDoor
open Go.RowKit
set_option linter.unusedVariables false

theorem bits_andNot_u64_nat (a b : Nat) (ha : a < 18446744073709551616) (hb : b < 18446744073709551616) :
    bits .andNot .u64 (a : Int) (b : Int) = ((a &&& (18446744073709551615 - b) : Nat) : Int) := by
  have hx : a &&& (18446744073709551615 - b) < 2 ^ 64 := Nat.and_lt_two_pow _ (by omega)
  have h1 : (BitVec.ofInt 64 (a : Int)).toNat = a := by
    rw [BitVec.ofInt_natCast, BitVec.toNat_ofNat]; exact Nat.mod_eq_of_lt (by omega)
  have h2 : (BitVec.ofInt 64 (b : Int)).toNat = b := by
    rw [BitVec.ofInt_natCast, BitVec.toNat_ofNat]; exact Nat.mod_eq_of_lt (by omega)
  show IntKind.u64.wrap ((BitVec.ofInt 64 (a : Int) &&& ~~~ BitVec.ofInt 64 (b : Int)).toNat : Int) = _
  rw [BitVec.toNat_and, BitVec.toNat_not, h1, h2, IntKind.wrap_u64, show 2 ^ 64 - 1 - b = 18446744073709551615 - b from rfl]
  omega
theorem bits_clear_sign (x : Nat) (hx : x < 18446744073709551616) : bits .andNot .u64 (x : Int) 9223372036854775808 = ((x % 9223372036854775808 : Nat) : Int) := by
  have := bits_andNot_u64_nat x 9223372036854775808 hx (by omega)
  rw [show 18446744073709551615 - 9223372036854775808 = 2 ^ 63 - 1 from rfl, Nat.and_two_pow_sub_one_eq_mod] at this
  exact this
theorem run9 (x : Nat) (w : World) : (callFunc 9 #[.float .f64 x]).run Ybad.prog w = .ok (.value (.int .u64 (x : Int))) w := by
  rw [run_callFunc_extern Ybad.func9 (by kernel_rfl) (by kernel_rfl) (by kernel_rfl) (e := Extern.MathFloatBits.float64bits) (by kernel_rfl)]
  rfl
theorem run16 (n : Int) (w : World) : (callFunc 16 #[.int .u64 n]).run Ybad.prog w = .ok (.value (.float .f64 n.toNat)) w := by
  rw [run_callFunc_extern Ybad.func16 (by kernel_rfl) (by kernel_rfl) (by kernel_rfl) (e := Extern.MathFloatBits.float64frombits) (by kernel_rfl)]
  rfl
theorem run22 (x y c : Int) (hx : 0 ≤ x) (hy : 0 ≤ y) (hc0 : 0 ≤ c) (hc : c ≤ 1) (w : World) : (callFunc 22 #[.int .u64 x, .int .u64 y, .int .u64 c]).run Ybad.prog w = .ok (.value (.tuple #[.int .u64 ((x + y + c) % 18446744073709551616), .int .u64 ((x + y + c) / 18446744073709551616)])) w := by
  rw [run_callFunc_extern Ybad.func22 (by kernel_rfl) (by kernel_rfl) (by kernel_rfl) (e := add64Entry) (by kernel_rfl), run_add64 x y c hx hy hc0 hc]
  rfl

theorem abs_any (x : Nat) (hx : x < 18446744073709551616) (w : World) :
    Calls Ybad.prog 10 #[.float .f64 x] w fun e w' => e = .returned (.float .f64 (x % 9223372036854775808)) ∧ w' = w := by
  have h9 := run9
  have h16 := run16
  have hb := bits_clear_sign x hx
  go_enter Ybad.func10, Ybad.ntmps10
  go_wp2
  go_ret
  exact ⟨rfl, rfl⟩

theorem isNaN_any (x : Nat) (w : World) : Calls Ybad.prog 17 #[.float .f64 x] w fun e w' => e = .returned (.bool (FloatKind.f64.format.order x x != some .eq)) ∧ w' = w := by
  go_enter Ybad.func17, Ybad.ntmps17
  go_wp2
  go_ret
  exact ⟨rfl, rfl⟩

theorem nan_any (w : World) : Calls Ybad.prog 19 #[] w fun e w' => e = .returned (.float .f64 9221120237041090561) ∧ w' = w := by
  have h16 := run16
  go_enter Ybad.func19, Ybad.ntmps19
  go_wp2
  go_ret
  exact ⟨rfl, rfl⟩

theorem isInf_any (x : Nat) (hx : x < 18446744073709551616) (w : World) : Calls Ybad.prog 18 #[.float .f64 x, .int .i64 0] w fun e w' => e = .returned (.bool (FloatKind.f64.format.order (x % 9223372036854775808) 9218868437227405311 == some .gt)) ∧ w' = w := by
  have ha := fun w => abs_any x hx w
  go_enter Ybad.func18, Ybad.ntmps18
  go_wp2_with fail
  refine (ha _).mono ?_
  rintro e w' ⟨rfl, rfl⟩
  go_wp2_with fail
  go_ret
  exact ⟨rfl, rfl⟩

theorem same_any (x y : Nat) (w : World) (h : x = y ∧ (¬ NaNw x) ∨ NaNw x ∧ NaNw y) : Calls Ybad.prog 7 #[.float .f64 x, .float .f64 y] w fun e w' => e = .returned (.bool true) ∧ w' = w := by
  rcases h with ⟨rfl, hn⟩ | ⟨h1, h2⟩
  · have ho : FloatKind.f64.format.order x x = some .eq := by
      cases classOf x with
      | fin q h => exact order_self_fin h
      | inf s h => exact order_self_inf h
      | nan s f h => exact absurd ⟨s, f, h⟩ hn
    go_enter Ybad.func7, Ybad.ntmps7
    go_wp2
    go_ret
    exact ⟨rfl, rfl⟩
  · have o1 : FloatKind.f64.format.order x x = none := order_self_nan h1
    have o2 : FloatKind.f64.format.order y y = none := order_self_nan h2
    have o3 : FloatKind.f64.format.order x y = none := by
      obtain ⟨s, f, h⟩ := h1
      show Ieee.double.order x y = none
      unfold Ieee.Format.order; rw [h]; rfl
    go_enter Ybad.func7, Ybad.ntmps7
    go_wp2
    go_ret
    exact ⟨rfl, rfl⟩
end Go.Proofs.YbulkgjuDoor
