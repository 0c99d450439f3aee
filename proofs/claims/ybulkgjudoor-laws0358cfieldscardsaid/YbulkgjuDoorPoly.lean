/- The polynomials of math.sin and math.cos: exactly, and as float64 words. -/
import Derived.Test.YbulkgjuDoorFloat2
namespace Go.Proofs.YbulkgjuDoor
set_option linter.unusedVariables false

def ev : List Rat → Rat → Rat
  | [], _ => 0
  | a :: l, u => a + u * ev l u
def addP : List Rat → List Rat → List Rat
  | [], l => l
  | a :: l, [] => a :: l
  | a :: l, b :: m => (a + b) :: addP l m
def scaleP (c : Rat) (l : List Rat) : List Rat := l.map (c * ·)
def mulP : List Rat → List Rat → List Rat
  | [], _ => []
  | a :: l, m => addP (scaleP a m) (0 :: mulP l m)
def sumAbs : List Rat → Rat
  | [] => 0
  | a :: l => (if 0 ≤ a then a else -a) + sumAbs l

theorem ev_add (l m : List Rat) (u : Rat) : ev (addP l m) u = ev l u + ev m u := by
  induction l generalizing m with
  | nil => simp only [addP, ev]; grind
  | cons a l ih =>
    cases m with
    | nil => simp only [addP, ev]; grind
    | cons b m => simp only [addP, ev, ih]; grind
theorem ev_scale (c : Rat) (l : List Rat) (u : Rat) : ev (scaleP c l) u = c * ev l u := by
  induction l with
  | nil => simp [scaleP, ev]
  | cons a l ih => simp only [scaleP, List.map_cons, ev] at *; rw [ih]; grind
theorem ev_mul (l m : List Rat) (u : Rat) : ev (mulP l m) u = ev l u * ev m u := by
  induction l with
  | nil => simp [mulP, ev]
  | cons a l ih => simp only [mulP, ev_add, ev_scale, ev, ih]; grind
theorem ev_bd (l : List Rat) (u : Rat) (h0 : 0 ≤ u) (h1 : u ≤ 1) : Bd (ev l u) (sumAbs l) ∧ 0 ≤ sumAbs l := by
  induction l with
  | nil => exact ⟨⟨by simp [ev, sumAbs], by simp [ev, sumAbs]⟩, by simp [sumAbs]⟩
  | cons a l ih =>
    obtain ⟨⟨b1, b2⟩, b3⟩ := ih
    unfold Bd
    simp only [ev, sumAbs]
    have k1 := Rat.mul_nonneg h0 (show (0 : Rat) ≤ sumAbs l - ev l u by grind)
    have k2 := Rat.mul_nonneg h0 (show (0 : Rat) ≤ sumAbs l + ev l u by grind)
    have k3 := Rat.mul_nonneg (show (0 : Rat) ≤ 1 - u by grind) b3
    generalize ev l u = e at *
    generalize sumAbs l = S at *
    split <;> refine ⟨⟨?_, ?_⟩, ?_⟩ <;> grind

def dy (s : Bool) (m d : Nat) : Rat := sgn s * (m : Rat) / ((2 ^ d : Nat) : Rat)
def s0 : Rat := dy false 6149556183080141 85
def s1 : Rat := dy true 7571123942793053 78
def s2 : Rat := dy false 6506786710177953 71
def s3 : Rat := dy true 7320136532877059 65
def s4 : Rat := dy false 4803839602522064 59
def s5 : Rat := dy true 6004799503160648 55
def c0 : Rat := dy true 7030593573755547 89
def c1 : Rat := dy false 5047434750082821 81
def c2 : Rat := dy true 5205429473528774 74
def c3 : Rat := dy false 7320136533427445 68
def c4 : Rat := dy true 6405119470030737 62
def c5 : Rat := dy false 6004799503160651 57

def Ps (u : Rat) : Rat := ((((s0 * u + s1) * u + s2) * u + s3) * u + s4) * u + s5
def Pc (u : Rat) : Rat := ((((c0 * u + c1) * u + c2) * u + c3) * u + c4) * u + c5
def Sx (q : Rat) : Rat := q + q * (q * q) * Ps (q * q)
def Cx (q : Rat) : Rat := 1 - (1 / 2) * (q * q) + (q * q) * (q * q) * Pc (q * q)

def Ql : List Rat := [1, s5, s4, s3, s2, s1, s0]
def Cl : List Rat := [1, -(1 / 2), c5, c4, c3, c2, c1, c0]
def Rl : List Rat := addP (addP (mulP Cl Cl) (0 :: mulP Ql Ql)) [-1]

theorem Rl_small : 100000000000 * sumAbs Rl ≤ 1 := by decide +kernel

theorem unit_exact (q : Rat) (h : Bd q 1) : Bd (100000000000 * (Cx q * Cx q + Sx q * Sx q - 1)) 1 := by
  have h0 : 0 ≤ q * q := by
    rcases Rat.le_total (a := 0) (b := q) with h | h
    · exact Rat.mul_nonneg h h
    · have := Rat.mul_nonneg (show (0 : Rat) ≤ -q by grind) (show (0 : Rat) ≤ -q by grind); grind
  have h1 : q * q ≤ 1 := by
    obtain ⟨a, b⟩ := h
    have := Rat.mul_nonneg (show (0 : Rat) ≤ 1 - q by grind) (show (0 : Rat) ≤ 1 + q by grind); grind
  have hC : Cx q = ev Cl (q * q) := by
    simp only [Cx, Pc, Cl, ev]; grind
  have hS : Sx q * Sx q = (q * q) * (ev Ql (q * q) * ev Ql (q * q)) := by
    have : Sx q = q * ev Ql (q * q) := by simp only [Sx, Ps, Ql, ev]; grind
    rw [this]; grind
  have hR : Cx q * Cx q + Sx q * Sx q - 1 = ev Rl (q * q) := by
    rw [hS, hC]
    simp only [Rl, ev_add, ev_mul, ev]
    grind
  rw [hR]
  obtain ⟨⟨b1, b2⟩, _⟩ := ev_bd Rl (q * q) h0 h1
  have := Rl_small
  constructor <;> grind

end Go.Proofs.YbulkgjuDoor
