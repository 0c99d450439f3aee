/- math.trigReduce: the walk, and what comes of it. -/
import Derived.Test.YbulkgjuDoorSmall
import Derived.BigRegion
namespace Go.Proofs.YbulkgjuDoor
open Go.RowKit
set_option linter.unusedVariables false
def mpL : List Int := [1, 5040379952546458195, 17892431488136887169, 13169980181085364355, 18204331823439776451, 7946843935494350272, 905889640498799673, 18175356263134875261, 15061281708168349961, 15220161563773041794, 8296664548579374057, 4109744767560208502, 4607516669194743839, 16023283104648321598, 15739233654134936430, 11424645774684705882, 16883842788696515318, 8795094592981902804, 15561835991111744016, 12395701187267450711]
def mp (i : Nat) : Int := mpL.getD i 0

set_option maxRecDepth 100000 in
set_option maxHeartbeats 4000000 in
theorem trig_any (x E D S I : Nat) (hE0 : 1052 ≤ E) (hE1 : E ≤ 2046) (hlt : FloatKind.f64.format.order x 4605249457297304856 = some .gt)
   (hand : bits .and .u64 ((x : Int) / 4503599627370496) 2047 = (E : Int))
   (hD : ((E : Int) - 1023 - 52 + 61) / 64 = (D : Int)) (hS : ((E : Int) - 1023 - 52 + 61) % 64 = (S : Int)) (hS64 : S < 64) (hD16 : D ≤ 16)
   (hI : bits .or .u64 (bits .andNot .u64 (x : Int) 9218868437227405312) 4503599627370496 = (I : Int)) (hI64 : I < 18446744073709551616) (p0 p1 p2 p3 : Int)
   (Z0 Z1 Z2 : Nat) (hZ0 : bits .or .u64 (IntKind.u64.wrap (p0 * 2 ^ S)) (p1 / 2 ^ (64 - S)) = (Z0 : Int)) (hZ1 : bits .or .u64 (IntKind.u64.wrap (p1 * 2 ^ S)) (p2 / 2 ^ (64 - S)) = (Z1 : Int)) (hZ2 : bits .or .u64 (IntKind.u64.wrap (p2 * 2 ^ S)) (p3 / 2 ^ (64 - S)) = (Z2 : Int))
   (bZ0 : Z0 < 18446744073709551616) (bZ1 : Z1 < 18446744073709551616) (bZ2 : Z2 < 18446744073709551616)
   (A2 B1 L1 L0 lo c hi : Nat) (hA2 : Z2 * I / 18446744073709551616 = A2) (hB1 : Z1 * I / 18446744073709551616 = B1) (hL1 : Z1 * I % 18446744073709551616 = L1) (hL0 : IntKind.u64.wrap ((Z0 : Int) * (I : Int)) = (L0 : Int))
   (hlo : ((L1 : Int) + (A2 : Int) + 0) % 18446744073709551616 = (lo : Int)) (hc : ((L1 : Int) + (A2 : Int) + 0) / 18446744073709551616 = (c : Int)) (hc1 : c ≤ 1) (hhi : ((L0 : Int) + (B1 : Int) + (c : Int)) % 18446744073709551616 = (hi : Int))
   (Hh lz : Nat) (hH : bits .or .u64 (IntKind.u64.wrap ((hi : Int) * 8)) ((lo : Int) / 2305843009213693952) = (Hh : Int)) (bH : Hh < 18446744073709551616) (hlz : 64 - ((Lib.bitLen Hh : Nat) : Int) = (lz : Int)) (blz : lz ≤ 64)
   (F1 F2 F W : Nat) (hshl : ∀ w, (Op.shift .shl .u64 (Hh : Int) .u64 ((lz : Int) + 1)).run Ybad.prog w = .ok (.int .u64 (F1 : Int)) w) (hshr : (lo : Int) / 2 ^ min (IntKind.u64.wrap (64 - ((lz : Int) + 1))).toNat 64 = (F2 : Int)) (hF : bits .or .u64 (F1 : Int) (F2 : Int) = (F : Int)) (bF : F < 18446744073709551616)
   (hW : bits .or .u64 ((F : Int) / 4096) ((1023 - ((lz : Int) + 1)) * 4503599627370496) = (W : Int))
   (J jr z : Nat) (hJ : (hi : Int) / 2305843009213693952 = (J : Int)) (bJ : J ≤ 7)
   (hres : (bits .and .u64 (J : Int) 1 = 0 ∧ jr = J ∧ floatBits .mul .f64 W 4605249457297304856 = some z) ∨ ∃ g, bits .and .u64 (J : Int) 1 = 1 ∧ bits .and .u64 ((J : Int) + 1) 7 = (jr : Int) ∧ floatBits .sub .f64 W 4607182418800017408 = some g ∧ floatBits .mul .f64 g 4605249457297304856 = some z)
   (w : World) (c0 : w.cell? ⟨3, D, none⟩ = some (.int .u64 p0)) (c1 : w.cell? ⟨3, D + 1, none⟩ = some (.int .u64 p1)) (c2 : w.cell? ⟨3, D + 2, none⟩ = some (.int .u64 p2)) (c3 : w.cell? ⟨3, D + 3, none⟩ = some (.int .u64 p3)) :
    Calls Ybad.prog 20 #[.float .f64 x] w fun e w' => e = .returned (.tuple #[.int .u64 (jr : Int), .float .f64 z]) ∧ w' = w.drew.drew.drew := by
  have h9 := run9
  go_enter Ybad.func20, Ybad.ntmps20
  go_wp2_with fail
  clear hand h9 hlt hI
  have i0 : (D : Int) < 20 := by omega
  have i1 : (D : Int) + 1 < 20 := by omega
  have i2 : (D : Int) + 2 < 20 := by omega
  have i3 : (D : Int) + 3 < 20 := by omega
  have s1 : (S : Int) < 64 := by omega
  go_region
  go_wp2_with fail
  go_region
  go_wp2_with fail
  go_region
  clear hZ0 hZ1 hZ2 hD hS hD16 hE0 hE1 i0 i1 i2 i3 s1 hS64
  go_wp2_with fail
  refine (Ybad.bits_Mul64 Z2 I bZ2 hI64 _).mono ?_
  rintro e w' ⟨rfl, rfl⟩
  rw [hA2]
  generalize Z2 * I % 18446744073709551616 = junk
  go_wp2_with fail
  refine (Ybad.bits_Mul64 Z1 I bZ1 hI64 _).mono ?_
  rintro e w' ⟨rfl, rfl⟩
  rw [hB1, hL1]
  have q1 := run22 (L1 : Int) (A2 : Int) 0 (by omega) (by omega) (by omega) (by omega)
  have q2 := run22 (L0 : Int) (B1 : Int) (c : Int) (by omega) (by omega) (by omega) (by omega)
  rw [hlo, hc] at q1
  rw [hhi] at q2
  go_wp2_with fail
  refine (Ybad.bits_LeadingZeros64 (Hh : Int) _ (by omega) (by omega)).mono ?_
  rintro e w' ⟨rfl, rfl⟩
  rw [show ((Hh : Int).toNat) = Hh from rfl, hlz]
  clear q1 q2 hlo hc hhi hL0 hH
  have h16 := run16
  rcases hres with ⟨r1, rfl, r2⟩ | ⟨g, r1, r2, r3, r4⟩
  · have f1 := fun t w => run_float_arith (P := Ybad.prog) w .mul t .f64 _ _ _ r2
    go_wp2_with fail
    go_ret2
    exact ⟨rfl, rfl⟩
  · have f1 := fun t w => run_float_arith (P := Ybad.prog) w .sub t .f64 _ _ _ r3
    have f2 := fun t w => run_float_arith (P := Ybad.prog) w .mul t .f64 _ _ _ r4
    go_wp2_with fail
    go_ret2
    exact ⟨rfl, rfl⟩

theorem bits_u64_ex (op : BinOp) (a b : Int) : ∃ n : Nat, bits op .u64 a b = (n : Int) ∧ n < 18446744073709551616 := by
  unfold bits
  simp only []
  rw [IntKind.wrap_u64]
  exact ⟨_, (Int.toNat_of_nonneg (Int.emod_nonneg _ (by decide))).symm, by omega⟩
theorem wrap_u64_ex (a : Int) : ∃ n : Nat, IntKind.u64.wrap a = (n : Int) ∧ n < 18446744073709551616 := by
  rw [IntKind.wrap_u64]
  exact ⟨_, (Int.toNat_of_nonneg (Int.emod_nonneg _ (by decide))).symm, by omega⟩
theorem shl_ex (a c : Nat) : ∃ n : Nat, ∀ w, (Op.shift .shl .u64 (a : Int) .u64 ((c : Int) + 1)).run Ybad.prog w = .ok (.int .u64 (n : Int)) w := by
  obtain ⟨n, h, _⟩ := wrap_u64_ex ((a : Int) * 2 ^ min ((c : Int) + 1).toNat IntKind.u64.bits)
  refine ⟨n, fun w => ?_⟩
  unfold Op.shift
  rw [if_neg (by omega)]
  simp only []
  rw [h]
  rfl
theorem div_pow_ex (a k : Nat) : ∃ n : Nat, (a : Int) / 2 ^ k = (n : Int) := by
  refine ⟨a / 2 ^ k, ?_⟩
  rw [show ((2 : Int) ^ k) = ((2 ^ k : Nat) : Int) by simp]
  exact (Int.natCast_ediv a (2 ^ k)).symm

/-- The words below 1 are the words below 1's own. -/
theorem below_one (b : Nat) (h : b < 1023 * 2 ^ 52) : ∃ q, V b q ∧ 0 ≤ q ∧ q ≤ 1 := by
  have hr := read_word false b (by omega)
  rw [show Ieee.double.word false b = b from rfl] at hr
  have one : p2 (-53) * ((2 ^ 53 : Nat) : Rat) = 1 := by rw [← p2_nat, ← p2_add]; exact p2_zero
  have key : ∀ (m : Nat) (e : Int), m < 2 ^ 53 → e ≤ -53 → 0 ≤ (m : Rat) * p2 e ∧ (m : Rat) * p2 e ≤ 1 := by
    intro m e hm he
    have hm0 : (0 : Rat) ≤ (m : Rat) := by exact_mod_cast Nat.zero_le m
    have hm1 : (m : Rat) ≤ ((2 ^ 53 : Nat) : Rat) := by exact_mod_cast Nat.le_of_lt hm
    have hp := p2_pos e
    have hp1 := p2_mono he
    refine ⟨Rat.mul_nonneg hm0 (Rat.le_of_lt hp), ?_⟩
    have a1 := Rat.mul_nonneg (show (0 : Rat) ≤ ((2 ^ 53 : Nat) : Rat) - (m : Rat) by grind) (Rat.le_of_lt hp)
    have a2 := Rat.mul_nonneg (show (0 : Rat) ≤ ((2 ^ 53 : Nat) : Rat) by grind) (show (0 : Rat) ≤ p2 (-53) - p2 e by grind)
    generalize ((2 ^ 53 : Nat) : Rat) = M at *
    grind
  by_cases h1 : b < 2 ^ 52
  · rw [if_pos h1] at hr
    obtain ⟨k1, k2⟩ := key b (-1074) (by omega) (by omega)
    exact ⟨_, ⟨_, _, _, hr, rfl⟩, by simp only [sgn, Bool.false_eq_true, if_false]; grind, by simp only [sgn, Bool.false_eq_true, if_false]; grind⟩
  · rw [if_neg h1, if_pos (by omega)] at hr
    obtain ⟨k1, k2⟩ := key (2 ^ 52 + b % 2 ^ 52) (-1074 + (b / 2 ^ 52 - 1 : Nat)) (by omega) (by omega)
    exact ⟨_, ⟨_, _, _, hr, rfl⟩, by simp only [sgn, Bool.false_eq_true, if_false]; grind, by simp only [sgn, Bool.false_eq_true, if_false]; grind⟩

/-- A word of 2^29 or more. -/
theorem exp_ge {x : Nat} {q : Rat} (hv : V x q) (hx : x < 2 ^ 63) (hq : 536870912 ≤ q) : x < 2047 * 2 ^ 52 ∧ 1052 ≤ x / 2 ^ 52 := by
  have hr := read_word false x hx
  rw [show Ieee.double.word false x = x from rfl] at hr
  obtain ⟨s, m, e, h1, rfl⟩ := hv
  have hlt : x < 2047 * 2 ^ 52 := by
    refine Nat.lt_of_not_le fun h => ?_
    rw [if_neg (by omega), if_neg (by omega)] at hr
    rw [h1] at hr
    split at hr <;> cases hr
  refine ⟨hlt, Nat.le_of_not_lt fun h => ?_⟩
  have one : p2 (-24) * ((2 ^ 53 : Nat) : Rat) = 536870912 := by
    rw [← p2_nat, ← p2_add]
    have : p2 ((-24 : Int) + ((53 : Nat) : Int)) = ((2 ^ 29 : Nat) : Rat) := p2_nat 29
    rw [this]; decide +kernel
  have key : ∀ (m : Nat) (e : Int), m < 2 ^ 53 → e ≤ -24 → (m : Rat) * p2 e < 536870912 := by
    intro m e hm he
    have hm1 : (m : Rat) < ((2 ^ 53 : Nat) : Rat) := by exact_mod_cast hm
    have hp := p2_pos e
    have hp1 := p2_mono he
    have hm0 : (0 : Rat) ≤ (m : Rat) := by exact_mod_cast Nat.zero_le m
    have a1 := Rat.mul_pos (show (0 : Rat) < ((2 ^ 53 : Nat) : Rat) - (m : Rat) by grind) hp
    have a2 := Rat.mul_nonneg (show (0 : Rat) ≤ ((2 ^ 53 : Nat) : Rat) by grind) (show (0 : Rat) ≤ p2 (-24) - p2 e by grind)
    generalize ((2 ^ 53 : Nat) : Rat) = M at *
    grind
  rw [h1] at hr
  by_cases h2 : x < 2 ^ 52
  · rw [if_pos h2] at hr
    cases hr
    have := key x (-1074) (by omega) (by omega)
    simp only [sgn, Bool.false_eq_true, if_false] at hq
    grind
  · rw [if_neg h2, if_pos hlt] at hr
    cases hr
    have := key (2 ^ 52 + x % 2 ^ 52) (-1074 + (x / 2 ^ 52 - 1 : Nat)) (by omega) (by omega)
    simp only [sgn, Bool.false_eq_true, if_false] at hq
    grind

theorem frac_even {b : Nat} {f : Rat} (hv : V b f) (h0 : 0 ≤ f) (h1 : f ≤ 1) : ∃ z u, floatBits .mul .f64 b 4605249457297304856 = some z ∧ V z u ∧ Bd u 1 := by
  obtain ⟨k, vk, ek⟩ := Vp4
  have hbig := big_ge
  have hu := u52_lt
  have he := e51_eq
  have hfk : 9007199254740992 * (f * k) = 7074237752028440 * f := by grind
  obtain ⟨z, u, e1, v1, n1, n2⟩ := mul_val hv vk 1 ⟨by grind, by grind⟩ (by grind) (by grind)
  exact ⟨z, u, e1, v1, by constructor <;> grind⟩
theorem frac_odd {b : Nat} {f : Rat} (hv : V b f) (h0 : 0 ≤ f) (h1 : f ≤ 1) : ∃ g z u, floatBits .sub .f64 b 4607182418800017408 = some g ∧ floatBits .mul .f64 g 4605249457297304856 = some z ∧ V z u ∧ Bd u 1 := by
  obtain ⟨k, vk, ek⟩ := Vp4
  have hbig := big_ge
  have hu := u52_lt
  have he := e51_eq
  obtain ⟨g, t, e0, v0, n1, n2⟩ := sub_val hv Vone 1 ⟨by grind, by grind⟩ (by grind) (by grind)
  have hfk : 9007199254740992 * (t * k) = 7074237752028440 * t := by grind
  obtain ⟨z, u, e1, v1, n3, n4⟩ := mul_val v0 vk 2 ⟨by grind, by grind⟩ (by grind) (by grind)
  exact ⟨g, z, u, e0, e1, v1, by constructor <;> grind⟩

/-- What the listed variables hold. -/
structure LaidW (w : World) : Prop where
  s0 : w.cell? ⟨1, 0, none⟩ = some (.float .f64 4460209587652500685)
  s1 : w.cell? ⟨1, 1, none⟩ = some (.float .f64 13716528389658582877)
  s2 : w.cell? ⟨1, 2, none⟩ = some (.float .f64 4523617212962785441)
  s3 : w.cell? ⟨1, 3, none⟩ = some (.float .f64 13774824197404483331)
  s4 : w.cell? ⟨1, 4, none⟩ = some (.float .f64 4575957461383575504)
  s5 : w.cell? ⟨1, 5, none⟩ = some (.float .f64 13818544856648471880)
  c0 : w.cell? ⟨2, 0, none⟩ = some (.float .f64 13666448263388469915)
  c1 : w.cell? ⟨2, 1, none⟩ = some (.float .f64 4477121864728985349)
  c2 : w.cell? ⟨2, 2, none⟩ = some (.float .f64 13732177093698800582)
  c3 : w.cell? ⟨2, 3, none⟩ = some (.float .f64 4537941361668146421)
  c4 : w.cell? ⟨2, 4, none⟩ = some (.float .f64 13787419979223748497)
  c5 : w.cell? ⟨2, 5, none⟩ = some (.float .f64 4586165620538955083)
  m : ∀ i, i < 20 → w.cell? ⟨3, i, none⟩ = some (.int .u64 (mp i))

theorem trig_red (x : Nat) (q : Rat) (hv : V x q) (hx : x < 2 ^ 63) (hq : 536870912 ≤ q) :
    ∃ (j z : Nat) (u : Rat), (j = 0 ∨ j = 2 ∨ j = 4 ∨ j = 6) ∧ V z u ∧ Bd u 1 ∧ ∀ w, LaidW w → Calls Ybad.prog 20 #[.float .f64 x] w fun e w' => e = .returned (.tuple #[.int .u64 (j : Int), .float .f64 z]) ∧ w' = w.drew.drew.drew := by
  obtain ⟨hlt, hge⟩ := exp_ge hv hx hq
  obtain ⟨E, hE⟩ : ∃ E, E = x / 2 ^ 52 := ⟨_, rfl⟩
  obtain ⟨k4, vk4, ek4⟩ := Vp4
  have hord : FloatKind.f64.format.order x 4605249457297304856 = some .gt := (order_val hv vk4).2.2 (by grind)
  have hand : bits .and .u64 ((x : Int) / 4503599627370496) 2047 = (E : Int) := by
    have h := bits_and_u64_nat (x / 4503599627370496) 2047 (by omega) (by omega)
    rw [show (2047 : Nat) = 2 ^ 11 - 1 from rfl, Nat.and_two_pow_sub_one_eq_mod] at h
    rw [show (x : Int) / 4503599627370496 = ((x / 4503599627370496 : Nat) : Int) by omega]
    refine h.trans ?_
    omega
  obtain ⟨D, hD⟩ : ∃ D : Nat, D = (E - 1014) / 64 := ⟨_, rfl⟩
  obtain ⟨S, hS⟩ : ∃ S : Nat, S = (E - 1014) % 64 := ⟨_, rfl⟩
  obtain ⟨I, hI, bI⟩ := bits_u64_ex .or (bits .andNot .u64 (x : Int) 9218868437227405312) 4503599627370496
  obtain ⟨Z0, hZ0, bZ0⟩ := bits_u64_ex .or (IntKind.u64.wrap (mp D * 2 ^ S)) (mp (D + 1) / 2 ^ (64 - S))
  obtain ⟨Z1, hZ1, bZ1⟩ := bits_u64_ex .or (IntKind.u64.wrap (mp (D + 1) * 2 ^ S)) (mp (D + 2) / 2 ^ (64 - S))
  obtain ⟨Z2, hZ2, bZ2⟩ := bits_u64_ex .or (IntKind.u64.wrap (mp (D + 2) * 2 ^ S)) (mp (D + 3) / 2 ^ (64 - S))
  obtain ⟨L0, hL0, bL0⟩ := wrap_u64_ex ((Z0 : Int) * (I : Int))
  have hA2 : Z2 * I / 18446744073709551616 < 18446744073709551616 := Nat.div_lt_of_lt_mul (Nat.mul_lt_mul'' bZ2 bI)
  generalize eA2 : Z2 * I / 18446744073709551616 = A2 at *
  obtain ⟨B1, eB1⟩ : ∃ B1, Z1 * I / 18446744073709551616 = B1 := ⟨_, rfl⟩
  obtain ⟨L1, eL1⟩ : ∃ L1, Z1 * I % 18446744073709551616 = L1 := ⟨_, rfl⟩
  have bL1 : L1 < 18446744073709551616 := by rw [← eL1]; exact Nat.mod_lt _ (by omega)
  obtain ⟨lo, elo⟩ : ∃ lo : Nat, lo = (L1 + A2) % 18446744073709551616 := ⟨_, rfl⟩
  obtain ⟨c, ec⟩ : ∃ c : Nat, c = (L1 + A2) / 18446744073709551616 := ⟨_, rfl⟩
  obtain ⟨hi, ehi⟩ : ∃ hi : Nat, hi = (L0 + B1 + c) % 18446744073709551616 := ⟨_, rfl⟩
  obtain ⟨Hh, hH, bH⟩ := bits_u64_ex .or (IntKind.u64.wrap ((hi : Int) * 8)) ((lo : Int) / 2305843009213693952)
  have blen := Lib.bitLen_le Hh 64 (by omega) bH
  obtain ⟨lz, elz⟩ : ∃ lz : Nat, lz = 64 - Lib.bitLen Hh := ⟨_, rfl⟩
  obtain ⟨F1, hF1⟩ := shl_ex Hh lz
  obtain ⟨F2, hF2⟩ := div_pow_ex lo (min (IntKind.u64.wrap (64 - ((lz : Int) + 1))).toNat 64)
  obtain ⟨F, hF, bF⟩ := bits_u64_ex .or (F1 : Int) (F2 : Int)
  have hW : bits .or .u64 ((F : Int) / 4096) ((1023 - ((lz : Int) + 1)) * 4503599627370496) = (((1022 - lz) * 4503599627370496 + F / 4096 : Nat) : Int) := by
    have h := bits_or_u64_nat (F / 4096) ((1022 - lz) * 4503599627370496) (by omega) (by omega)
    rw [show (F : Int) / 4096 = ((F / 4096 : Nat) : Int) by omega, show (1023 - ((lz : Int) + 1)) * 4503599627370496 = (((1022 - lz) * 4503599627370496 : Nat) : Int) by omega, h]
    have h2 := Nat.two_pow_add_eq_or_of_lt (i := 52) (b := F / 4096) (by omega) (1022 - lz)
    rw [show 2 ^ 52 * (1022 - lz) = (1022 - lz) * 4503599627370496 by omega] at h2
    rw [Nat.or_comm, ← h2]
  obtain ⟨W, eW⟩ : ∃ W : Nat, (1022 - lz) * 4503599627370496 + F / 4096 = W := ⟨_, rfl⟩
  rw [eW] at hW
  obtain ⟨f, vf, f0, f1⟩ := below_one W (by omega)
  obtain ⟨J, eJ⟩ : ∃ J : Nat, J = hi / 2305843009213693952 := ⟨_, rfl⟩
  have bJ : J ≤ 7 := by omega
  have go := fun jr z hres w (hw : LaidW w) => trig_any x E D S I (by omega) (by omega) hord hand (by omega) (by omega) (by omega) (by omega) hI bI (mp D) (mp (D + 1)) (mp (D + 2)) (mp (D + 3))
    Z0 Z1 Z2 hZ0 hZ1 hZ2 bZ0 bZ1 bZ2 A2 B1 L1 L0 lo c hi eA2 eB1 eL1 hL0 (by omega) (by omega) (by omega) (by omega) Hh lz hH bH (by omega) (by omega) F1 F2 F W hF1 hF2 hF bF hW J jr z (by omega) bJ hres w
    (hw.m D (by omega)) (hw.m (D + 1) (by omega)) (hw.m (D + 2) (by omega)) (hw.m (D + 3) (by omega))
  have par : (J = 0 ∨ J = 2 ∨ J = 4 ∨ J = 6) ∨ J = 1 ∨ J = 3 ∨ J = 5 ∨ J = 7 := by omega
  rcases par with h | h
  · obtain ⟨z, u, e1, v1, b1⟩ := frac_even vf f0 f1
    refine ⟨J, z, u, h, v1, b1, fun w hw => go J z (.inl ⟨?_, rfl, e1⟩) w hw⟩
    rcases h with rfl | rfl | rfl | rfl <;> decide
  · obtain ⟨g, z, u, e0, e1, v1, b1⟩ := frac_odd vf f0 f1
    refine ⟨(J + 1) % 8, z, u, by omega, v1, b1, fun w hw => go ((J + 1) % 8) z (.inr ⟨g, ?_, ?_, e0, e1⟩) w hw⟩
    · rcases h with rfl | rfl | rfl | rfl <;> decide
    · rcases h with rfl | rfl | rfl | rfl <;> decide

end Go.Proofs.YbulkgjuDoor
