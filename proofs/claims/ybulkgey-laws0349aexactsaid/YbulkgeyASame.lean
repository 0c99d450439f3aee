/- sameRun: the walk. -/
import Derived.Test.YbulkgeyAOrd
import Derived.BigRegion
namespace Go.Proofs.Ybulkgey
open Go.RowKit
set_option linter.unusedVariables false

/-- How many of the n ids from i and j on agree. -/
def agree (N M : List ByteArray) (i j : Nat) : Nat → Nat
  | 0 => 0
  | n + 1 => if agree N M i j n = n ∧ N.getD (i + n) ByteArray.empty = M.getD (j + n) ByteArray.empty then n + 1 else agree N M i j n

/-- Where an offset lies. -/
theorem off_at {w : World} {b o : Nat} {N : List ByteArray} {C : List Int} (h : ClkAt w b o N C) (hN : N ≠ []) : ∃ g go oc, w.cell? ⟨b, o + 1, none⟩ = some (.slice (some ⟨g, go, none⟩) (N.length + 1) oc) ∧ w.cell? ⟨b, o, none⟩ = some (.string (cat N)) ∧ N.length + 1 ≤ oc ∧ ∀ k, k ≤ N.length → w.cell? ⟨g, go + k, none⟩ = some (.int .u64 ((cat (N.take k)).size : Nat)) := by
  obtain ⟨ao, on, oc, ac, n, c, h0, h1, h2, h3⟩ := h
  rcases h3.2.2 with ⟨hn, _⟩ | ⟨_, hr⟩
  · exact absurd hn hN
  rcases hr with ⟨_, hx⟩ | ⟨g, go, cap, e, hg, hc, hm, hcell⟩
  · exact absurd (congrArg List.length hx) (by simp [u64s, offsL])
  · simp only [Value.slice.injEq] at e
    obtain ⟨rfl, rfl, rfl⟩ := e
    have hl : (u64s (offsL N)).length = N.length + 1 := by simp [u64s, offsL]
    rw [hl] at h1 hc
    exact ⟨g, go, oc, h1, h0, hc, fun k hk => (hcell k (by omega)).trans (offsL_at N k hk)⟩

theorem agree_eq (N M : List ByteArray) (i j : Nat) (m : Nat) (h : ∀ k, k < m → N.getD (i + k) ByteArray.empty = M.getD (j + k) ByteArray.empty) : ∀ n, m ≤ n → (m = n ∨ N.getD (i + m) ByteArray.empty ≠ M.getD (j + m) ByteArray.empty) → agree N M i j n = m := by
  intro n
  induction n generalizing m with
  | zero => intro hm _; simp [agree]; omega
  | succ n ih =>
    intro hm hd
    by_cases e : m = n + 1
    · subst e
      have h1 := ih n (fun k hk => h k (by omega)) (Nat.le_refl _) (.inl rfl)
      simp only [agree]
      rw [h1, if_pos ⟨rfl, h n (by omega)⟩]
    · have hd' : N.getD (i + m) ByteArray.empty ≠ M.getD (j + m) ByteArray.empty := by
        rcases hd with h' | h'
        · exact absurd h' e
        · exact h'
      have h1 := ih m h (by omega) (.inr hd')
      simp only [agree]
      rw [h1]
      refine if_neg fun hc => ?_
      obtain ⟨e1, e2⟩ := hc
      subst e1
      exact hd' e2
theorem take_snoc (N : List ByteArray) (k : Nat) (h : k < N.length) : cat (N.take (k + 1)) = cat (N.take k) ++ N.getD k ByteArray.empty := by
  rw [List.take_add_one, List.getElem?_eq_getElem h, cat_append]
  simp [cat_one, List.getD_eq_getElem?_getD, List.getElem?_eq_getElem h]
theorem part_one (N : List ByteArray) (k : Nat) (h : k < N.length) : (cat N).extract (cat (N.take k)).size (cat (N.take (k + 1))).size = N.getD k ByteArray.empty := by
  rw [cat_part N k (k + 1) (by omega) (by omega), show k + 1 - k = 1 by omega, List.drop_eq_getElem_cons h, List.take_succ_cons, List.take_zero, cat_one]
  simp [List.getD_eq_getElem?_getD, List.getElem?_eq_getElem h]

theorem part_pre (N : List ByteArray) (i : Nat) (E : Nat → ByteArray) (hE : ∀ k, E k = N.getD (i + k) ByteArray.empty) : ∀ m, i + m ≤ N.length → (cat N).extract (cat (N.take i)).size (cat (N.take (i + m))).size = cpre E m := by
  intro m hm
  rw [cat_part N i (i + m) (by omega) hm, show i + m - i = m by omega]
  induction m with
  | zero => simp [cpre, cat]
  | succ m ih =>
    have hlt : i + m < N.length := by omega
    rw [cpre, ← ih (by omega), List.take_add_one, cat_append, List.getElem?_drop, List.getElem?_eq_getElem hlt, hE]
    simp [cat_one, List.getD_eq_getElem?_getD, List.getElem?_eq_getElem hlt]

set_option maxRecDepth 100000 in
set_option maxHeartbeats 4000000 in
theorem sameRun_any (w : World) (ab ao bb bo i j n : Nat) (N M : List ByteArray) (C D : List Int) (hA : ClkAt w ab ao N C) (hB : ClkAt w bb bo M D) (hn : 1 ≤ n) (hi : i + n ≤ N.length) (hj : j + n ≤ M.length) (hN : N.length ≤ 10000) (hM : M.length ≤ 10000) (hsN : (cat N).size ≤ 100000) (hsM : (cat M).size ≤ 100000) :
    Calls Yba.prog 75 #[.pointer (some ⟨ab, ao, none⟩), .int .i64 i, .pointer (some ⟨bb, bo, none⟩), .int .i64 j, .int .i64 n] w fun e w' => e = .returned (.tuple #[.int .i64 (agree N M i j n : Nat), .bool (decide (agree N M i j n < n) && lessB (N.getD (i + agree N M i j n) ByteArray.empty) (M.getD (j + agree N M i j n) ByteArray.empty))]) ∧ ∃ q, w' = w.drewN q := by
  have HAG := hid (agree_eq N M i j)
  generalize hRR : agree N M i j n = R
  generalize hBB : (decide (R < n) && lessB (N.getD (i + R) ByteArray.empty) (M.getD (j + R) ByteArray.empty)) = Bv
  have HR := hid hRR
  have HBv := hid hBB
  clear hRR hBB
  obtain ⟨ag, ago, aoc, a1, a0, ac, aat⟩ := off_at hA (by intro h; subst h; simp at hi; omega)
  obtain ⟨bg, bgo, boc, b1, b0, bc, bat⟩ := off_at hB (by intro h; subst h; simp at hj; omega)
  have HA := hid aat
  have HB := hid bat
  clear hA hB aat bat
  have i1 : (i : Int) + (n : Int) + 1 ≤ (aoc : Int) := by omega
  have j1 : (j : Int) + (n : Int) + 1 ≤ (boc : Int) := by omega
  have i2 : (i : Int) ≤ (i : Int) + (n : Int) + 1 := by omega
  have j2 : (j : Int) ≤ (j : Int) + (n : Int) + 1 := by omega
  have nb : (n : Int) ≤ 10000 := by omega
  have ib : (i : Int) ≤ 10000 := by omega
  have jb : (j : Int) ≤ 10000 := by omega
  go_enter Yba.func75, Yba.ntmps75
  go_wp2_with fail
  go_quiet (fail)
  revert nq; intro nq_1
  rw [show i + n + 1 - i = n + 1 by omega, show j + n + 1 - j = n + 1 by omega]
  obtain ⟨S, hS⟩ : ∃ S : Nat → Nat, ∀ k, S k = (cat (N.take (i + k))).size := ⟨_, fun _ => rfl⟩
  obtain ⟨T, hT⟩ : ∃ T : Nat → Nat, ∀ k, T k = (cat (M.take (j + k))).size := ⟨_, fun _ => rfl⟩
  have hSc : ∀ k, k ≤ n → w.cell? ⟨ag, ago + i + k, none⟩ = some (.int .u64 (S k)) := fun k hk => by rw [hS, Nat.add_assoc]; exact HA.out (i + k) (by omega)
  have hTc : ∀ k, k ≤ n → w.cell? ⟨bg, bgo + j + k, none⟩ = some (.int .u64 (T k)) := fun k hk => by rw [hT, Nat.add_assoc]; exact HB.out (j + k) (by omega)
  have hSb : ∀ k, k ≤ n → S 0 ≤ S k ∧ S k ≤ 100000 := fun k hk => by rw [hS, hS]; exact ⟨cat_take_le N _ _ (by omega), Nat.le_trans (cat_take_size N _) hsN⟩
  have hTb : ∀ k, k ≤ n → T 0 ≤ T k ∧ T k ≤ 100000 := fun k hk => by rw [hT, hT]; exact ⟨cat_take_le M _ _ (by omega), Nat.le_trans (cat_take_size M _) hsM⟩
  have HSc := hid hSc
  have HTc := hid hTc
  have HSb := hid hSb
  have HTb := hid hTb
  have HS := hid hS
  have HT := hid hT
  have s0 : w.cell? ⟨ag, ago + i, none⟩ = some (.int .u64 (S 0)) := hSc 0 (by omega)
  have t0 : w.cell? ⟨bg, bgo + j, none⟩ = some (.int .u64 (T 0)) := hTc 0 (by omega)
  obtain ⟨E1, hE1⟩ : ∃ E : Nat → ByteArray, ∀ k, E k = N.getD (i + k) ByteArray.empty := ⟨_, fun _ => rfl⟩
  obtain ⟨E2, hE2⟩ : ∃ E : Nat → ByteArray, ∀ k, E k = M.getD (j + k) ByteArray.empty := ⟨_, fun _ => rfl⟩
  have HE1 := hid hE1
  have HE2 := hid hE2
  have HP := hid (show ∀ k, k < n → ((S k : Nat) : Int) ≤ (S (k + 1) : Nat) ∧ ((S (k + 1) : Nat) : Int) ≤ ((cat N).size : Int) ∧ (cat N).extract (S k) (S (k + 1)) = E1 k from fun k hk => by
    rw [hS, hS, hE1]
    have := cat_take_le N (i + k) (i + (k + 1)) (by omega)
    have := cat_take_size N (i + (k + 1))
    exact ⟨by omega, by omega, part_one N (i + k) (by omega)⟩)
  have HQ := hid (show ∀ k, k < n → ((T k : Nat) : Int) ≤ (T (k + 1) : Nat) ∧ ((T (k + 1) : Nat) : Int) ≤ ((cat M).size : Int) ∧ (cat M).extract (T k) (T (k + 1)) = E2 k from fun k hk => by
    rw [hT, hT, hE2]
    have := cat_take_le M (j + k) (j + (k + 1)) (by omega)
    have := cat_take_size M (j + (k + 1))
    exact ⟨by omega, by omega, part_one M (j + k) (by omega)⟩)
  have HL := hid (show ∀ k, k < n → S (k + 1) = S k + (N.getD (i + k) ByteArray.empty).size ∧ T (k + 1) = T k + (M.getD (j + k) ByteArray.empty).size from fun k hk => by
    rw [hS, hS, hT, hT, ← Nat.add_assoc, ← Nat.add_assoc, take_snoc N (i + k) (by omega), take_snoc M (j + k) (by omega), ByteArray.size_append, ByteArray.size_append]
    exact ⟨rfl, rfl⟩)
  have HPN := hid (show ∀ m, m ≤ n → (cat N).extract (S 0) (S m) = cpre E1 m ∧ (S m : Int) ≤ ((cat N).size : Int) ∧ (S 0 : Int) ≤ (S m : Int) from fun m hm => by
    obtain ⟨x1, x2⟩ := hSb m hm
    have := cat_take_size N (i + m)
    refine ⟨?_, by rw [hS]; omega, by omega⟩
    rw [hS, hS]
    exact part_pre N i E1 hE1 m (by omega))
  have HPM := hid (show ∀ m, m ≤ n → (cat M).extract (T 0) (T m) = cpre E2 m ∧ (T m : Int) ≤ ((cat M).size : Int) ∧ (T 0 : Int) ≤ (T m : Int) from fun m hm => by
    obtain ⟨x1, x2⟩ := hTb m hm
    have := cat_take_size M (j + m)
    refine ⟨?_, by rw [hT]; omega, by omega⟩
    rw [hT, hT]
    exact part_pre M j E2 hE2 m (by omega))
  have HZ := hid (show ∀ m, m ≤ n → (∀ k, k ≤ m → S k + T 0 = T k + S 0) → ∀ k, k < m → (E1 k).size = (E2 k).size from fun m hm heq k hk => by
    obtain ⟨q1, q2⟩ := HL.out k (by omega)
    have e1 := heq k (by omega)
    have e2 := heq (k + 1) (by omega)
    rw [hE1, hE2]
    omega)
  have HD := hid (show ∀ k, k < n → S k + T 0 = T k + S 0 → ¬ S (k + 1) + T 0 = T (k + 1) + S 0 → N.getD (i + k) ByteArray.empty ≠ M.getD (j + k) ByteArray.empty from fun k hk h1 h2 h3 => by
    obtain ⟨q1, q2⟩ := HL.out k hk
    rw [h3] at q1
    omega)
  clear hS hT hSc hTc hSb hTb HA HB hE1 hE2
  have n1 : (0 : Int) < (n : Int) + 1 := by omega
  go_wp2_with fail
  go_quiet (fail)
  rw [World.drewN_drewN]
  generalize nq_1 + nq = q0
  generalize hsh : IntKind.u64.wrap ((T 0 : Int) - (S 0 : Int)) = sh
  have hcmp : ∀ k, k ≤ n → (IntKind.u64.wrap ((S k : Int) + sh) == (T k : Int)) = decide (S k + T 0 = T k + S 0) := by
    intro k hk
    obtain ⟨x1, x2⟩ := HSb.out k hk
    obtain ⟨x3, x4⟩ := HTb.out k hk
    have y1 := HSb.out 0 (by omega)
    have y2 := HTb.out 0 (by omega)
    rw [← hsh, IntKind.wrap_u64, IntKind.wrap_u64, Bool.eq_iff_iff]
    simp only [beq_iff_eq, decide_eq_true_eq]
    omega
  have HCM := hid hcmp
  clear hcmp hsh s0 t0
  go_wp2_with fail
  go_loopw [15] (fun v ws => ∃ m : Nat, m ≤ n ∧ v = .int .i64 m ∧ (∀ k, k ≤ m → S k + T 0 = T k + S 0) ∧ ∃ q, ws = w.drewN q) (fun v ws => n - (intOf v).toNat)
  case atStart => exact ⟨0, by omega, rfl, fun k hk => by (obtain rfl : k = 0 := (by omega)); exact Nat.add_comm _ _, _, rfl⟩
  case round =>
    obtain ⟨m, hm, rfl, heq, q, rfl⟩ := hrel
    have HE := hid heq
    clear heq
    have hcase : (m < n ∧ S (m + 1) + T 0 = T (m + 1) + S 0) ∨ (m < n ∧ ¬ S (m + 1) + T 0 = T (m + 1) + S 0) ∨ m = n := by omega
    rcases hcase with ⟨hmn, hst⟩ | ⟨hmn, hst⟩ | hmn
    · have hmn' : (m : Int) < (n : Int) := by omega
      have s1 : w.cell? ⟨ag, ago + i + (m + 1), none⟩ = some (.int .u64 (S (m + 1))) := HSc.out (m + 1) (by omega)
      have t1 : w.cell? ⟨bg, bgo + j + (m + 1), none⟩ = some (.int .u64 (T (m + 1))) := HTc.out (m + 1) (by omega)
      have hc := HCM.out (m + 1) (by omega)
      have m1 : (m : Int) + 1 < (n : Int) + 1 := by omega
      rw [decide_eq_true hst] at hc
      go_wp2_with fail
      go_quiet (fail)
      go_wp2_with fail
      refine ⟨⟨m + 1, by omega, by go_num, ⟨fun k hk => ?_, _, rfl⟩⟩, by simp [intOf]; omega⟩
      by_cases e : k = m + 1
      · rw [e]; exact hst
      · exact HE.out k (by omega)
    · have hmn' : (m : Int) < (n : Int) := by omega
      have s1 : w.cell? ⟨ag, ago + i + (m + 1), none⟩ = some (.int .u64 (S (m + 1))) := HSc.out (m + 1) (by omega)
      have t1 : w.cell? ⟨bg, bgo + j + (m + 1), none⟩ = some (.int .u64 (T (m + 1))) := HTc.out (m + 1) (by omega)
      have hc := HCM.out (m + 1) (by omega)
      have m1 : (m : Int) + 1 < (n : Int) + 1 := by omega
      rw [decide_eq_false hst] at hc
      have HX := hid hst
      clear hst
      go_wp2_with fail
      go_quiet (fail)
      by_cases hm0 : m = 0
      · have hmz : ((m : Nat) : Int) = 0 := by omega
        simp only [hmz]
        clear hmz
        subst hm0
        have s0 : w.cell? ⟨ag, ago + i, none⟩ = some (.int .u64 (S 0)) := HSc.out 0 (by omega)
        have t0 : w.cell? ⟨bg, bgo + j, none⟩ = some (.int .u64 (T 0)) := HTc.out 0 (by omega)
        have s1' : w.cell? ⟨ag, ago + i + 1, none⟩ = some (.int .u64 (S 1)) := s1
        have t1' : w.cell? ⟨bg, bgo + j + 1, none⟩ = some (.int .u64 (T 1)) := t1
        clear s1 t1 hc
        have n2 : ((0 : Int) == (n : Int)) = false := by simp; omega
        have p1 := HP.out 0 (by omega)
        have p2 := HQ.out 0 (by omega)
        simp only [Nat.zero_add] at p1 p2
        have HG := hid (HAG.out 0 (fun k hk => by omega) n (by omega) (.inr (HD.out 0 (by omega) (HE.out 0 (by omega)) HX.out)))
        go_wp2_with fail
        go_quiet (fail)
        go_wp2_with fail
        go_ret2
        refine ⟨?_, _, by first | rfl | rw [World.drewN_drewN]⟩
        rw [← HBv.out, ← HR.out, HG.out, ← HE1.out, ← HE2.out, decide_eq_true (show 0 < n by omega)]
        rfl
      · skip
        have hm0' : (0 : Int) < (m : Int) := by omega
        have hmn1 : (m : Int) < (n : Int) + 1 := by omega
        have s0 : w.cell? ⟨ag, ago + i, none⟩ = some (.int .u64 (S 0)) := HSc.out 0 (by omega)
        have t0 : w.cell? ⟨bg, bgo + j, none⟩ = some (.int .u64 (T 0)) := HTc.out 0 (by omega)
        have sm : w.cell? ⟨ag, ago + i + m, none⟩ = some (.int .u64 (S m)) := HSc.out m (by omega)
        have tm : w.cell? ⟨bg, bgo + j + m, none⟩ = some (.int .u64 (T m)) := HTc.out m (by omega)
        obtain ⟨px, px1, px2⟩ := HPN.out m (by omega)
        obtain ⟨py, py1, py2⟩ := HPM.out m (by omega)
        have HCP := hid (cmp_pre E1 E2 m (HZ.out m (by omega) HE.out))
        have hsc := fun W => Yba.strings_Compare (cpre E1 m) (cpre E2 m) W
        unfold cmpB at HCP
        generalize hod : Lib.compareBytes (cpre E1 m).data.toList (cpre E2 m).data.toList = od at *
        clear hod
        go_wp2_with fail
        go_quiet ((go_at_call 37; refine (hsc _).mono ?_; rintro e w'' ⟨rfl, rfl⟩; exact ⟨rfl, _, rfl⟩))
        clear hsc px px1 px2 py py1 py2 sm tm
        by_cases hz : od = 0
        · subst hz
          have HEQ := hid (HCP.out.1 rfl)
          clear HCP
          have p1 := HP.out m hmn
          have p2 := HQ.out m hmn
          have sm : w.cell? ⟨ag, ago + i + m, none⟩ = some (.int .u64 (S m)) := HSc.out m (by omega)
          have tm : w.cell? ⟨bg, bgo + j + m, none⟩ = some (.int .u64 (T m)) := HTc.out m (by omega)
          have hmne : ((m : Int) == (n : Int)) = false := by simp; omega
          have HG := hid (HAG.out m (fun k hk => by rw [← HE1.out, ← HE2.out]; exact HEQ.out k hk) n (by omega) (.inr (HD.out m hmn (HE.out m (by omega)) HX.out)))
          go_wp2_with fail
          go_quiet (fail)
          go_wp2_with fail
          go_ret2
          refine ⟨?_, _, by first | rfl | rw [World.drewN_drewN]⟩
          rw [← HBv.out, ← HR.out, HG.out, ← HE1.out, ← HE2.out, decide_eq_true hmn]
          rfl
        · have hz' : (od == 0) = false := by simpa using hz
          obtain ⟨p, hp, hpe, hpd, hpo⟩ := HCP.out.2 hz
          have HPE := hid hpe
          have HPD := hid hpd
          have HPO := hid hpo
          clear hpe hpd hpo HCP s1 t1 hc hmn' m1 s0 t0
          go_wp2_with fail
          go_loopw [15] (fun v ws => ∃ k : Nat, k ≤ p ∧ v = .int .i64 k ∧ ∃ q, ws = w.drewN q) (fun v ws => p - (intOf v).toNat)
          case atStart => exact ⟨0, by omega, rfl, _, rfl⟩
          case round =>
            obtain ⟨k, hkp, rfl, q2, rfl⟩ := hrel
            have hk1 : (k : Int) < (n : Int) + 1 := by omega
            have hk2 : (k : Int) + 1 < (n : Int) + 1 := by omega
            have sk : w.cell? ⟨ag, ago + i + k, none⟩ = some (.int .u64 (S k)) := HSc.out k (by omega)
            have tk : w.cell? ⟨bg, bgo + j + k, none⟩ = some (.int .u64 (T k)) := HTc.out k (by omega)
            have sk1 : w.cell? ⟨ag, ago + i + (k + 1), none⟩ = some (.int .u64 (S (k + 1))) := HSc.out (k + 1) (by omega)
            have tk1 : w.cell? ⟨bg, bgo + j + (k + 1), none⟩ = some (.int .u64 (T (k + 1))) := HTc.out (k + 1) (by omega)
            obtain ⟨x1, x2, x3⟩ := HP.out k (by omega)
            obtain ⟨y1, y2, y3⟩ := HQ.out k (by omega)
            by_cases hlt : k < p
            · have hbq : ((E1 k).toList == (E2 k).toList) = true := by rw [HPE.out k hlt]; simp
              go_wp2_with fail
              go_quiet (fail)
              go_wp2_with fail
              exact ⟨⟨k + 1, by omega, by go_num, _, by first | rfl | rw [World.drewN_drewN]⟩, by simp [intOf]; omega⟩
            · obtain rfl : k = p := by omega
              have hbq : ((E1 k).toList == (E2 k).toList) = false := by rw [toList_beq]; exact decide_eq_false HPD.out
              have HG := hid (HAG.out k (fun k' hk' => by rw [← HE1.out, ← HE2.out]; exact HPE.out k' hk') n (by omega) (.inr (by rw [← HE1.out, ← HE2.out]; exact HPD.out)))
              have hfin : decide (od < 0) = lessB (E1 k) (E2 k) := by rw [HPO.out]; exact cmpB_less _ _
              have HFI := hid hfin
              clear hfin
              go_wp2_with fail
              go_quiet (fail)
              go_wp2_with fail
              go_ret2
              refine ⟨?_, _, by first | rfl | rw [World.drewN_drewN]⟩
              rw [← HBv.out, ← HR.out, HG.out, ← HE1.out, ← HE2.out, decide_eq_true (show k < n by omega), ← HFI.out]
              rfl
    · obtain rfl : n = m := hmn.symm
      have hm0 : 0 < n := by omega
      go_wp2_with fail
      go_quiet (fail)
      have hm0' : (0 : Int) < (n : Int) := by omega
      have hmn1 : (n : Int) < (n : Int) + 1 := by omega
      have s0 : w.cell? ⟨ag, ago + i, none⟩ = some (.int .u64 (S 0)) := HSc.out 0 (by omega)
      have t0 : w.cell? ⟨bg, bgo + j, none⟩ = some (.int .u64 (T 0)) := HTc.out 0 (by omega)
      have sm : w.cell? ⟨ag, ago + i + n, none⟩ = some (.int .u64 (S n)) := HSc.out n (by omega)
      have tm : w.cell? ⟨bg, bgo + j + n, none⟩ = some (.int .u64 (T n)) := HTc.out n (by omega)
      obtain ⟨px, px1, px2⟩ := HPN.out n (by omega)
      obtain ⟨py, py1, py2⟩ := HPM.out n (by omega)
      have HCP := hid (cmp_pre E1 E2 n (HZ.out n (by omega) HE.out))
      have hsc := fun W => Yba.strings_Compare (cpre E1 n) (cpre E2 n) W
      unfold cmpB at HCP
      generalize hod : Lib.compareBytes (cpre E1 n).data.toList (cpre E2 n).data.toList = od at *
      clear hod
      go_wp2_with fail
      go_quiet ((go_at_call 37; refine (hsc _).mono ?_; rintro e w'' ⟨rfl, rfl⟩; exact ⟨rfl, _, rfl⟩))
      clear hsc px px1 px2 py py1 py2 sm tm
      by_cases hz : od = 0
      · subst hz
        have HEQ := hid (HCP.out.1 rfl)
        clear HCP
        have HG := hid (HAG.out n (fun k hk => by rw [← HE1.out, ← HE2.out]; exact HEQ.out k hk) n (by omega) (.inl rfl))
        go_wp2_with fail
        go_ret2
        refine ⟨?_, _, by first | rfl | rw [World.drewN_drewN]⟩
        rw [← HBv.out, ← HR.out, HG.out, decide_eq_false (show ¬ n < n by omega)]
        rfl
      · have hz' : (od == 0) = false := by simpa using hz
        obtain ⟨p, hp, hpe, hpd, hpo⟩ := HCP.out.2 hz
        have HPE := hid hpe
        have HPD := hid hpd
        have HPO := hid hpo
        clear hpe hpd hpo HCP s0 t0
        go_wp2_with fail
        go_loopw [15] (fun v ws => ∃ k : Nat, k ≤ p ∧ v = .int .i64 k ∧ ∃ q, ws = w.drewN q) (fun v ws => p - (intOf v).toNat)
        case atStart => exact ⟨0, by omega, rfl, _, rfl⟩
        case round =>
          obtain ⟨k, hkp, rfl, q2, rfl⟩ := hrel
          have hk1 : (k : Int) < (n : Int) + 1 := by omega
          have hk2 : (k : Int) + 1 < (n : Int) + 1 := by omega
          have sk : w.cell? ⟨ag, ago + i + k, none⟩ = some (.int .u64 (S k)) := HSc.out k (by omega)
          have tk : w.cell? ⟨bg, bgo + j + k, none⟩ = some (.int .u64 (T k)) := HTc.out k (by omega)
          have sk1 : w.cell? ⟨ag, ago + i + (k + 1), none⟩ = some (.int .u64 (S (k + 1))) := HSc.out (k + 1) (by omega)
          have tk1 : w.cell? ⟨bg, bgo + j + (k + 1), none⟩ = some (.int .u64 (T (k + 1))) := HTc.out (k + 1) (by omega)
          obtain ⟨x1, x2, x3⟩ := HP.out k (by omega)
          obtain ⟨y1, y2, y3⟩ := HQ.out k (by omega)
          by_cases hlt : k < p
          · have hbq : ((E1 k).toList == (E2 k).toList) = true := by rw [HPE.out k hlt]; simp
            go_wp2_with fail
            go_quiet (fail)
            go_wp2_with fail
            exact ⟨⟨k + 1, by omega, by go_num, _, by first | rfl | rw [World.drewN_drewN]⟩, by simp [intOf]; omega⟩
          · obtain rfl : k = p := by omega
            have hbq : ((E1 k).toList == (E2 k).toList) = false := by rw [toList_beq]; exact decide_eq_false HPD.out
            have HG := hid (HAG.out k (fun k' hk' => by rw [← HE1.out, ← HE2.out]; exact HPE.out k' hk') n (by omega) (.inr (by rw [← HE1.out, ← HE2.out]; exact HPD.out)))
            have hfin : decide (od < 0) = lessB (E1 k) (E2 k) := by rw [HPO.out]; exact cmpB_less _ _
            have HFI := hid hfin
            clear hfin
            go_wp2_with fail
            go_quiet (fail)
            go_wp2_with fail
            go_ret2
            refine ⟨?_, _, by first | rfl | rw [World.drewN_drewN]⟩
            rw [← HBv.out, ← HR.out, HG.out, ← HE1.out, ← HE2.out, decide_eq_true (show k < n by omega), ← HFI.out]
            rfl
end Go.Proofs.Ybulkgey
