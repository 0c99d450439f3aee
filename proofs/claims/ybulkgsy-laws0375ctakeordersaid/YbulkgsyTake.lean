/- 'take': the walk. -/
import Derived.Test.YbulkgsyJoin
import Derived.Test.YbulkgsyPlain
namespace Go.Proofs.Ybulkgsy
open Go.RowKit
set_option linter.unusedVariables false

theorem hid {p : Prop} (h : p) : Hid p := h
theorem tie_le {H S N x h : Nat} {T C L : Nat → Int} (hg : GoodFrom (2 ^ H) 1 T C L) (hn : Node (2 ^ H) x h) (hS : S = 2 ^ H) (hN : N = 2 * S) : 0 < C x ∧ C x ≤ (N : Int) := by
  have g := hg x h (hn.pos (pow_pos' H)) hn
  have h1 := g.le
  have h2 := hn.end_le
  rw [Nat.add_mul, Nat.one_mul, ← hS, ← hN] at h2
  refine ⟨g.2.2, ?_⟩
  generalize 2 ^ h = q at *
  omega
theorem node_lt {H x h : Nat} (hn : Node (2 ^ H) x h) : x < 2 * 2 ^ H := by
  have h1 := hn.2
  have : x * 1 ≤ x * 2 ^ h := Nat.mul_le_mul_left _ (pow_pos' h)
  omega

set_option maxRecDepth 100000 in
set_option maxHeartbeats 4000000 in
theorem take_any (w : World) (R G H S N : Nat) (T C L : Nat → Int) (k0 : Int) (hS : S = 2 ^ H) (hNS : N = 2 * S) (hR : Ranks w R G N S) (hT : Tree w G N T C) (hg : GoodFrom (2 ^ H) 1 T C L) (hRG : R ≠ G) (hNb : N ≤ 10000) (h0 : 0 ≤ k0) (h1 : k0 < C 1) (htop : 0 ≤ T 1) :
    Calls Yba.prog 6 #[.pointer (some ⟨R, 0, none⟩), .int .i64 k0] w fun e w' => ∃ i : Nat, e = .returned (.int .i64 i) ∧ i < S ∧ L (S + i) = T 1 ∧ k0 = (cnt L S i (T 1) : Int) ∧
      (∃ T' C', Tree w' G N T' C' ∧ GoodFrom (2 ^ H) 1 T' C' (set L (S + i) (-1))) ∧ Step G w w' := by
  have hSp : 0 < S := by rw [hS]; exact pow_pos' H
  have c1 := (hT.1 1 (by omega)).1
  have r1 := hR.2
  have hi : (1 : Int) < (N : Int) := by omega
  have HS := hid hS
  have HNS := hid hNS
  have HR := hid hR
  have HT0 := hid hT
  have HG := hid hg
  have hNp : 1 < N := by omega
  clear hS hNS hR hT hg
  go_enter Yba.func6, Yba.ntmps6
  go_wp2
  go_loopw [1, 7] (fun vk vn wr => ∃ (k : Int) (n h : Nat), vk = .int .i64 k ∧ vn = .int .i64 n ∧ At H n h k k0 T C L ∧ Tree wr G N T C ∧ Step G w wr) (fun vk vn wr => N - (intOf vn).toNat)
  case atStart => exact ⟨k0, 1, H, rfl, rfl, at_start h0 h1, HT0.out, Step.refl _ _⟩
  case round =>
    obtain ⟨k, n, h, rfl, rfl, ha, hTr, hst⟩ := hrel
    have hRr := hst.ranks hRG HR.out
    have hn := ha.1
    have hnlt := node_lt hn
    rw [← HS.out, ← HNS.out] at hnlt
    obtain ⟨q0, q1⟩ := hRr
    by_cases hlt : n < S
    · obtain ⟨h, rfl⟩ := hn.height (HS.out ▸ hlt)
      have h2n : 2 * n < N := by have := HNS.out; omega
      obtain ⟨x0, x1⟩ := hTr.1 (2 * n) h2n
      have hlt' : (n : Int) < (S : Int) := by omega
      have hi1 : 2 * (n : Int) < (N : Int) := by omega
      obtain ⟨b1, b2⟩ := tie_le HG.out hn.left HS.out HNS.out
      have b3 := ha.2.2.1
      have b4 := ha.2.2.2.1
      obtain ⟨b5, b6⟩ := tie_le HG.out hn HS.out HNS.out
      have b2' : C (2 * n) ≤ 10000 := by omega
      have b6' : k ≤ 10000 := by omega
      have ht := ha.2.1
      have HA := hid ha
      have HT := hid hTr
      have HST := hid hst
      have hnp : 0 < n := hn.pos (pow_pos' H)
      clear ha hTr hst hn b2 b6
      by_cases e : T (2 * n) = T 1
      · by_cases hk : k < C (2 * n)
        · go_wp2
          exact ⟨⟨k, 2 * n, h, rfl, by go_num, HA.out.left HG.out (by rw [if_pos (e.trans ht.symm)]; exact hk), HT.out.alloc (by omega) _, HST.out.trans (Step.alloc _ _ _)⟩, by simp [intOf]; omega⟩
        · have hk' : C (2 * n) ≤ k := by omega
          go_wp2
          have hr := HA.out.right HG.out (by rw [if_pos (e.trans ht.symm)]; exact hk')
          rw [if_pos (e.trans ht.symm)] at hr
          exact ⟨⟨_, 2 * n + 1, h, rfl, by go_num, hr, HT.out.alloc (by omega) _, HST.out.trans (Step.alloc _ _ _)⟩, by simp [intOf]; omega⟩
      · have e' : (T (2 * n) == T 1) = false := by simpa using e
        go_wp2
        have hne : ¬ T (2 * n) = T n := fun h => e (h.trans ht)
        have hr := HA.out.right HG.out (by rw [if_neg hne]; exact b3)
        rw [if_neg hne, Int.sub_zero] at hr
        exact ⟨⟨_, 2 * n + 1, h, rfl, by go_num, hr, HT.out.alloc (by omega) _, HST.out.trans (Step.alloc _ _ _)⟩, by simp [intOf]; omega⟩
    · have hlt' : (S : Int) ≤ (n : Int) := by omega
      obtain rfl := hn.leaf (by rw [← HS.out]; omega)
      obtain ⟨p1, p2, p3, p4⟩ := ha.leaf HG.out
      obtain ⟨y0, y1⟩ := hTr.1 n hnlt
      have yf := hTr.2 (n * 2)
      have hnlt' : (n : Int) < (N : Int) := by omega
      have hTs := hTr.setTop n hnlt (-1)
      have HP := hid (And.intro p1 (And.intro p2 (And.intro p3 p4)))
      have HTS := hid hTs
      have HST := hid (hst.trans (Step.set G (n * 2) wr (.int .i64 (-1))))
      clear ha hTr hst hn p1 p2 p3 p4 hTs
      go_wp2
      go_loopw [11] (fun vu wq => ∃ (h : Nat) (T' C' : Nat → Int), vu = .int .i64 ((n / 2 ^ h : Nat) : Int) ∧ 1 ≤ h ∧ Mid H n h T' C' L ∧ Tree wq G N T' C' ∧ Step G w wq) (fun vu wq => (intOf vu).toNat)
      case atStart =>
        refine ⟨1, _, C, by go_num, Nat.le_refl _, mid_start HG.out HP.out.1 HP.out.2.1, HTS.out, HST.out⟩
      case round =>
        obtain ⟨h, T', C', rfl, hh1, hm, hTq, hsq⟩ := hrel
        obtain ⟨z0, z1⟩ := hsq.ranks hRG HR.out
        obtain ⟨p1, p2, p3, p4⟩ := HP.out
        by_cases hu : 0 < n / 2 ^ h
        · have hnode := node_up p1 p2 hu
          have hall : ∀ j, 2 ^ H ≤ j → j < 2 * 2 ^ H → L j ≤ L n := by
            intro j hj1 hj2
            have g := (HG.out 1 H (Nat.le_refl _) ⟨by omega, by have := pow_pos' H; omega⟩).1 (j - 2 ^ H) (by omega)
            rw [show 1 * 2 ^ H + (j - 2 ^ H) = j from by omega] at g
            rw [p3]; exact g
          obtain ⟨htop1, htop2⟩ := mid_top hm p1 p2 hu hall
          obtain ⟨h, rfl⟩ : ∃ j, h = j + 1 := ⟨h - 1, by omega⟩
          have hlN : ∀ x k c t, Node (2 ^ H) x k → IsTop (set L n (-1)) (x * 2 ^ k) (2 ^ k) t c → 0 ≤ c ∧ c ≤ 10000 := by
            intro x k c t hx hi
            have a1 := hi.le
            have a2 := hi.2.2
            have a3 := hx.end_le
            rw [Nat.add_mul, Nat.one_mul, ← HS.out, ← HNS.out] at a3
            generalize 2 ^ k = q at *
            omega
          have hcu : 0 < C' (n / 2 ^ (h + 1)) ∧ C' (n / 2 ^ (h + 1)) ≤ 10000 := by
            have a1 := htop1.le
            have a2 := htop1.2.2
            have a3 := hnode.end_le
            rw [Nat.add_mul, Nat.one_mul, ← HS.out, ← HNS.out] at a3
            generalize 2 ^ (h + 1) = q at *
            omega
          have hin1 : n / 2 ^ (h + 1) * 2 ^ (h + 1) ≤ n := Nat.div_mul_le_self _ _
          have hin2 : n < n / 2 ^ (h + 1) * 2 ^ (h + 1) + 2 ^ (h + 1) := by
            have := Nat.lt_mul_div_succ n (pow_pos' (h + 1))
            rw [Nat.mul_add, Nat.mul_one, Nat.mul_comm] at this
            exact this
          have hdd : n / 2 ^ (h + 1) / 2 = n / 2 ^ (h + 1 + 1) := by rw [Nat.div_div_eq_div_mul, ← Nat.pow_succ]
          have huS : 2 * (n / 2 ^ (h + 1)) + 1 < N := by
            have := node_lt hnode.right
            rw [← HS.out, ← HNS.out] at this
            exact this
          have hdec : C' (n / 2 ^ (h + 1)) ≠ 1 → IsTop (set L n (-1)) (n / 2 ^ (h + 1) * 2 ^ (h + 1)) (2 ^ (h + 1)) (L n) (C' (n / 2 ^ (h + 1)) - 1) :=
            fun hne => isTop_dec htop1 hin1 hin2 (by rw [p3]; exact htop) hne
          have ch1 := mid_child hm hnode.left
          have ch2 := mid_child hm hnode.right
          have hb0 := hlN _ _ _ _ hnode.left ch1
          have hb1 := hlN _ _ _ _ hnode.right ch2
          have hjoin := join_top hnode ch1 ch2
          have HMS := hid (fun t c T'' C'' hi hT hC => mid_step (T' := T'') (C' := C'') hm t c hnode hi hT hC)
          obtain ⟨hc1, hc2⟩ := hcu
          have HDD := hid hdd
          clear hm hnode htop1 hall hlN ch1 ch2 hin1 hin2 hdd
          generalize hug : n / 2 ^ (h + 1) = u at *
          obtain ⟨u0, u1⟩ := hTq.1 u (by omega)
          have uf := hTq.2 (u * 2 + 1)
          have hult : (u : Int) < (N : Int) := by omega
          have hu' : (0 : Int) < (u : Int) := by omega
          have hTd := hTq.setTies u (by omega) (C' u - 1)
          have HTD := hid hTd
          have HSQ := hid (hsq.trans (Step.set G (u * 2 + 1) _ (.int .i64 (C' u - 1))))
          have HQ := hid hTq
          clear hTq hsq hTd p1 p2 p3 p4
          by_cases hone : C' u = 1
          · have hj := join_any _ R G N S u T' _ ((Step.set G (u * 2 + 1) _ (.int .i64 (C' u - 1))).ranks hRG ⟨z0, z1⟩) HTD.out huS hNb hRG (by rw [upd_other _ _ (by omega)]; exact hb0) (by rw [upd_other _ _ (by omega)]; exact hb1)
            rw [hone] at hj u1 HTD HSQ
            have hj0 : (1 : Int) - 1 = 0 := by omega
            rw [hj0] at hj HTD HSQ
            go_wp2_with fail
            refine hj.mono ?_
            rintro e w3 ⟨rfl, hT3, hs3⟩
            clear hj
            go_wp2_with fail
            refine ⟨⟨h + 1 + 1, _, _, by rw [← HDD.out]; go_num, by omega, ?_, hT3, HSQ.out.trans hs3⟩, by simp [intOf]; omega⟩
            refine HMS.out (jT T' u) (jC T' C' u) _ _ (by unfold jT jC; exact hjoin) (fun x => rfl) (fun x => ?_)
            have e1 : jC T' (upd C' u 0) u = jC T' C' u := by
              unfold jC
              rw [upd_other _ _ (by omega), upd_other _ _ (by omega)]
            rw [e1]
            by_cases hx : x = u
            · rw [if_pos hx, hx, upd_same]
            · rw [if_neg hx, upd_other _ _ hx, upd_other _ _ hx]
          · have hone' : (C' u - 1 == 0) = false := by simp; omega
            go_wp2_with fail
            refine ⟨⟨h + 1 + 1, _, _, by rw [← HDD.out]; go_num, by omega, ?_, HTD.out, HSQ.out⟩, by simp [intOf]; omega⟩
            refine HMS.out (L n) (C' u - 1) _ _ (hdec hone) (fun x => ?_) (fun x => rfl)
            by_cases hx : x = u
            · rw [if_pos hx, hx]; exact htop2
            · rw [if_neg hx]
        · have hu0 : n / 2 ^ h = 0 := Nat.le_zero.1 (Nat.not_lt.1 hu)
          have hge := mid_end hm hu0
          have HM := hid hm
          have HGE := hid hge
          have HTQ := hid hTq
          have HSQ := hid hsq
          clear hm hge hTq hsq
          rw [hu0]
          go_wp2_with fail
          go_ret
          refine ⟨n - S, by go_num, ?_, ?_, ?_, ⟨T', C', HTQ.out, ?_⟩, HSQ.out⟩
          · have := HS.out; have := HNS.out; omega
          · rw [show S + (n - S) = n from by omega]; exact p3
          · rw [HS.out]; exact p4
          · rw [show S + (n - S) = n from by omega]; exact HGE.out
end Go.Proofs.Ybulkgsy
