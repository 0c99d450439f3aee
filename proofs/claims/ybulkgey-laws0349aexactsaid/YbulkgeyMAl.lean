/- alignedRun: the walk. -/
import Derived.Test.YbulkgeyMUp
namespace Go.Proofs.Ybulkgey
open Go.RowKit
set_option linter.unusedVariables false

/-- The two clocks hold the same r nodes from rank s on. -/
def AG (f d : Nat → Int) (s r : Nat) : Prop := ∃ u, s ≤ u ∧ u ≤ 4 ∧ cn f u = cn f s + r ∧ cn d u = cn d s + r ∧ Same f d s u
theorem AG.le {f d : Nat → Int} {s r : Nat} (h : AG f d s r) : cn d s + r ≤ cn d 4 ∧ cn f s + r ≤ cn f 4 := by
  obtain ⟨u, u1, u2, u3, u4, u5⟩ := h
  have := cn_mono d u2
  have := cn_mono f u2
  omega
theorem id_at (w : World) (b o : Nat) (f : Nat → Int) (h : ClkAt w b o (NA f 4) (CA f 4)) (W : World) (hb : Below w.heap.size w W) (k : Nat) (hk : k < cn f 4) :
    Calls Yba.prog 42 #[.pointer (some ⟨b, o, none⟩), .int .i64 k] W fun r w' => r = .returned (.string ((NA f 4).getD k ByteArray.empty)) ∧ Below w.heap.size w w' := by
  have hk' : k < (NA f 4).length := by rw [cn_len]; exact hk
  refine (id_any W b o (NA f 4) (CA f 4) (h.below hb) k hk' (by have := NA_cat f 4 (Nat.le_refl _); omega) (by have := NA_len f 4; omega)).mono ?_
  rintro e w' ⟨rfl, q, rfl⟩
  refine ⟨?_, below_drewN hb q⟩
  simp [List.getD_eq_getElem?_getD, List.getElem?_eq_getElem hk']
theorem getD_ne {N M : List ByteArray} {i j : Nat} (h1 : i < N.length) (h2 : j < M.length) (h : N.getD i ByteArray.empty ≠ M.getD j ByteArray.empty) : N[i]? ≠ M[j]? := by
  intro e
  apply h
  simp [List.getD_eq_getElem?_getD, e]

set_option maxRecDepth 100000 in
set_option maxHeartbeats 2000000 in
theorem alignedRun_any (w : World) (ab ao bb bo : Nat) (f d : Nat → Int) (hA : ClkAt w ab ao (NA f 4) (CA f 4)) (hB : ClkAt w bb bo (NA d 4) (CA d 4)) (s : Nat) (hs : s ≤ 4) (hsub : Sub f d s) (h1 : AG f d s 1) :
    Calls Yba.prog 80 #[.pointer (some ⟨ab, ao, none⟩), .int .i64 (cn f s), .pointer (some ⟨bb, bo, none⟩), .int .i64 (cn d s)] w fun e w' => (∃ r : Nat, 1 ≤ r ∧ AG f d s r ∧ e = .returned (.int .i64 r)) ∧ Below w.heap.size w w' := by
  have HIA := hid (id_at w ab ao f hA)
  have HIB := hid (id_at w bb bo d hB)
  have hle := Sub.cn_le (s := s) (u := 4) (fun k k1 k2 => hsub k k1 k2) hs
  have HAG : Hid (∀ e, cn d s + e < cn d 4 → (NA f 4).getD (cn f s + e) ByteArray.empty = (NA d 4).getD (cn d s + e) ByteArray.empty → AG f d s (e + 1)) := fun e he hq =>
    Sub.agree hsub hs (by omega) he (by
      have l1 : cn f s + e < (NA f 4).length := by rw [cn_len]; omega
      have l2 : cn d s + e < (NA d 4).length := by rw [cn_len]; omega
      rw [List.getElem?_eq_getElem l1, List.getElem?_eq_getElem l2]
      simpa [List.getD_eq_getElem?_getD, List.getElem?_eq_getElem l1, List.getElem?_eq_getElem l2] using hq)
  have HLE : Hid (∀ r, AG f d s r → cn d s + r ≤ cn d 4) := fun r h => h.le.1
  obtain ⟨xo, xn, xc, yo, yn, yc, x0, x1, x2, x3⟩ := hB
  obtain rfl := x3.len
  rw [cn_len] at x2
  have cf4 := cn_le f 4
  have cd4 := cn_le d 4
  have a1 := h1.le.1
  have H1 := hid h1
  clear x3 h1 hA hsub
  generalize hi : cn f s = i at *
  generalize hj : cn d s = j at *
  generalize hna : cn f 4 = na at *
  generalize hnb : cn d 4 = nb at *
  clear hi hj hna hnb
  go_enter Yba.func80, Yba.ntmps80
  go_wp2_with (go_at_call 12; refine (len_any _ _ _ _ _ _ _ _).mono ?_; rintro e w1 ⟨rfl, hb1⟩)
  have hnn : (nb : Int) - (j : Int) = ((nb - j : Nat) : Int) := by omega
  simp only [hnn]
  clear hnn
  obtain ⟨n, hn⟩ : ∃ n, n = nb - j := ⟨_, rfl⟩
  rw [← hn]
  have hn4 : n ≤ 4 := by omega
  have hn1 : 1 ≤ n := by omega
  have HN := hid (show j + n = nb ∧ i + n ≤ na by omega)
  have i4 : i ≤ 4 := by omega
  have j4 : j ≤ 4 := by omega
  clear x0 x1 x2 hn hle
  go_loopw [10, 11] (fun lo hi wr => ∃ l : Nat, 1 ≤ l ∧ l ≤ n ∧ lo = .int .i64 l ∧ hi = .int .i64 ((2 * l : Nat) : Int) ∧ AG f d s l ∧ Below w.heap.size w wr) (fun lo hi wr => n - (intOf lo).toNat)
  case atStart => exact ⟨1, by omega, by omega, rfl, rfl, H1.out, hb1⟩
  case round =>
    obtain ⟨l, l1, l2, rfl, rfl, hag, hb⟩ := hrel
    have HAGl := hid hag
    clear hag hb1
    by_cases hc : 2 * l ≤ n
    · have hc' : ((2 * l : Nat) : Int) ≤ (n : Int) := by omega
      go_wp2_with fail
      rw [show (i : Int) + 2 * (l : Int) - 1 = ((i + (2 * l - 1) : Nat) : Int) by omega]
      refine (HIA.out wr hb (i + (2 * l - 1)) (by have := HN.out; omega)).mono ?_
      rintro e w2 ⟨rfl, hb2⟩
      generalize hx : (NA f 4).getD (i + (2 * l - 1)) ByteArray.empty = x
      have HX := hid hx
      clear hx hb
      go_wp2_with fail
      rw [show (j : Int) + 2 * (l : Int) - 1 = ((j + (2 * l - 1) : Nat) : Int) by omega]
      refine (HIB.out w2 hb2 (j + (2 * l - 1)) (by have := HN.out; omega)).mono ?_
      rintro e w3 ⟨rfl, hb3⟩
      generalize hy : (NA d 4).getD (j + (2 * l - 1)) ByteArray.empty = y
      have HY := hid hy
      clear hy hb2
      by_cases hxy : x = y
      · have hq : (x.toList == y.toList) = true := by rw [toList_beq]; exact decide_eq_true hxy
        have hag2 := HAG.out (2 * l - 1) (by have := HN.out; omega) (by rw [HX.out, HY.out]; exact hxy)
        have HAG2 := hid hag2
        clear hxy hag2
        go_wp2_with fail
        refine ⟨⟨2 * l, by omega, hc, by go_num, ?_, ?_, hb3⟩, by simp [intOf]; omega⟩
        · congr 1
        · have := HAG2.out
          rw [show 2 * l - 1 + 1 = 2 * l by omega] at this
          exact this
      · have hq : (x.toList == y.toList) = false := by rw [toList_beq]; exact decide_eq_false hxy
        clear hxy
        go_wp2_with fail
        go_loopw [10, 11] (fun lo hi wr => ∃ a b : Nat, 1 ≤ a ∧ a ≤ b ∧ b ≤ n ∧ lo = .int .i64 a ∧ hi = .int .i64 b ∧ AG f d s a ∧ Below w.heap.size w wr) (fun lo hi wr => (intOf hi - intOf lo).toNat)
        case atStart => exact ⟨l, 2 * l - 1, l1, by omega, by omega, rfl, congrArg (Value.int .i64) (by omega), HAGl.out, hb3⟩
        case round =>
          obtain ⟨a, b, p1, p2, p3, rfl, rfl, hag, hbr⟩ := hrel
          have HAGa := hid hag
          clear hag hb3 hq
          by_cases hab : a < b
          · have hab' : (a : Int) < (b : Int) := by omega
            go_wp2_with fail
            rw [show (i : Int) + ((a : Int) + b) / 2 = ((i + (a + b) / 2 : Nat) : Int) by omega]
            refine (HIA.out wr hbr (i + (a + b) / 2) (by have := HN.out; omega)).mono ?_
            rintro e v2 ⟨rfl, hv2⟩
            generalize hx : (NA f 4).getD (i + (a + b) / 2) ByteArray.empty = x'
            have HX' := hid hx
            clear hx hbr
            go_wp2_with fail
            rw [show (j : Int) + ((a : Int) + b) / 2 = ((j + (a + b) / 2 : Nat) : Int) by omega]
            refine (HIB.out v2 hv2 (j + (a + b) / 2) (by have := HN.out; omega)).mono ?_
            rintro e v3 ⟨rfl, hv3⟩
            generalize hy : (NA d 4).getD (j + (a + b) / 2) ByteArray.empty = y'
            have HY' := hid hy
            clear hy hv2
            by_cases hxy : x' = y'
            · have hq' : (x'.toList == y'.toList) = true := by rw [toList_beq]; exact decide_eq_true hxy
              have hag2 := HAG.out ((a + b) / 2) (by have := HN.out; omega) (by rw [HX'.out, HY'.out]; exact hxy)
              have HAG2 := hid hag2
              clear hxy hag2
              go_wp2_with fail
              exact ⟨⟨(a + b) / 2 + 1, b, by omega, by omega, p3, by go_num, rfl, HAG2.out, hv3⟩, by simp [intOf]; omega⟩
            · have hq' : (x'.toList == y'.toList) = false := by rw [toList_beq]; exact decide_eq_false hxy
              clear hxy
              go_wp2_with fail
              exact ⟨⟨a, (a + b) / 2, p1, by omega, by omega, rfl, by go_num, HAGa.out, hv3⟩, by simp [intOf]; omega⟩
          · have hab' : ¬ (a : Int) < (b : Int) := by omega
            go_wp2_with fail
            go_ret
            exact ⟨⟨a, p1, HAGa.out, rfl⟩, hbr⟩
    · have hc' : ¬ ((2 * l : Nat) : Int) ≤ (n : Int) := by omega
      go_wp2_with fail
      go_loopw [10, 11] (fun lo hi wr => ∃ a b : Nat, 1 ≤ a ∧ a ≤ b ∧ b ≤ n ∧ lo = .int .i64 a ∧ hi = .int .i64 b ∧ AG f d s a ∧ Below w.heap.size w wr) (fun lo hi wr => (intOf hi - intOf lo).toNat)
      case atStart => exact ⟨l, n, l1, by omega, by omega, rfl, congrArg (Value.int .i64) (by omega), HAGl.out, hb⟩
      case round =>
        obtain ⟨a, b, p1, p2, p3, rfl, rfl, hag, hbr⟩ := hrel
        have HAGa := hid hag
        clear hag hb
        by_cases hab : a < b
        · have hab' : (a : Int) < (b : Int) := by omega
          go_wp2_with fail
          rw [show (i : Int) + ((a : Int) + b) / 2 = ((i + (a + b) / 2 : Nat) : Int) by omega]
          refine (HIA.out wr hbr (i + (a + b) / 2) (by have := HN.out; omega)).mono ?_
          rintro e v2 ⟨rfl, hv2⟩
          generalize hx : (NA f 4).getD (i + (a + b) / 2) ByteArray.empty = x'
          have HX' := hid hx
          clear hx hbr
          go_wp2_with fail
          rw [show (j : Int) + ((a : Int) + b) / 2 = ((j + (a + b) / 2 : Nat) : Int) by omega]
          refine (HIB.out v2 hv2 (j + (a + b) / 2) (by have := HN.out; omega)).mono ?_
          rintro e v3 ⟨rfl, hv3⟩
          generalize hy : (NA d 4).getD (j + (a + b) / 2) ByteArray.empty = y'
          have HY' := hid hy
          clear hy hv2
          by_cases hxy : x' = y'
          · have hq' : (x'.toList == y'.toList) = true := by rw [toList_beq]; exact decide_eq_true hxy
            have hag2 := HAG.out ((a + b) / 2) (by have := HN.out; omega) (by rw [HX'.out, HY'.out]; exact hxy)
            have HAG2 := hid hag2
            clear hxy hag2
            go_wp2_with fail
            exact ⟨⟨(a + b) / 2 + 1, b, by omega, by omega, p3, by go_num, rfl, HAG2.out, hv3⟩, by simp [intOf]; omega⟩
          · have hq' : (x'.toList == y'.toList) = false := by rw [toList_beq]; exact decide_eq_false hxy
            clear hxy
            go_wp2_with fail
            exact ⟨⟨a, (a + b) / 2, p1, by omega, by omega, rfl, by go_num, HAGa.out, hv3⟩, by simp [intOf]; omega⟩
        · have hab' : ¬ (a : Int) < (b : Int) := by omega
          go_wp2_with fail
          go_ret
          exact ⟨⟨a, p1, HAGa.out, rfl⟩, hbr⟩
end Go.Proofs.Ybulkgey
