/- LawS0375CTakeOrder: the walk. -/
import Derived.Test.YbulkgsyTake
import Derived.Test.YbulkgsyPlain2
namespace Go.Proofs.Ybulkgsy
open Go.RowKit
set_option linter.unusedVariables false

def IntRow (w : World) (B m : Nat) (F : Nat → Int) : Prop := (∀ j, j < m → w.cell? ⟨B, j, none⟩ = some (.int .i64 (F j))) ∧ ∀ j, w.frozen? ⟨B, j, none⟩ = false
def BoolRow (w : World) (B m : Nat) (F : Nat → Bool) : Prop := (∀ j, j < m → w.cell? ⟨B, j, none⟩ = some (.bool (F j))) ∧ ∀ j, w.frozen? ⟨B, j, none⟩ = false

theorem IntRow.setHere {w : World} {B m : Nat} {F : Nat → Int} (h : IntRow w B m F) (i : Nat) (hi : i < m) (v : Int) : IntRow (w.setCell ⟨B, i, none⟩ (.int .i64 v)) B m (set F i v) := by
  refine ⟨fun j hj => ?_, fun j => by rw [World.frozen?_setCell]; exact h.2 j⟩
  by_cases e : j = i
  · subst e
    rw [set_same]
    exact World.cell?_setCell_same _ _ _ (h.1 j hj)
  · rw [set_other _ _ e, World.cell?_setCell_other _ _ _ _ (by intro h; simp only [Addr.mk.injEq] at h; omega)]
    exact h.1 j hj
theorem IntRow.setElse {w : World} {B m : Nat} {F : Nat → Int} (h : IntRow w B m F) (D j : Nat) (v : Value) (hne : D ≠ B) : IntRow (w.setCell ⟨D, j, none⟩ v) B m F := by
  refine ⟨fun j hj => ?_, fun j => by rw [World.frozen?_setCell]; exact h.2 j⟩
  rw [World.cell?_setCell_other _ _ _ _ (by intro h; simp only [Addr.mk.injEq] at h; omega)]
  exact h.1 j hj
theorem Tree.setElse {w : World} {G N : Nat} {T C : Nat → Int} (h : Tree w G N T C) (D j : Nat) (v : Value) (hne : D ≠ G) : Tree (w.setCell ⟨D, j, none⟩ v) G N T C := by
  refine ⟨fun n hn => ?_, fun j => by rw [World.frozen?_setCell]; exact h.2 j⟩
  rw [World.cell?_setCell_other _ _ _ _ (by intro h; simp only [Addr.mk.injEq] at h; omega), World.cell?_setCell_other _ _ _ _ (by intro h; simp only [Addr.mk.injEq] at h; omega)]
  exact h.1 n hn
theorem Step.intRow {G : Nat} {w w' : World} (h : Step G w w') {B m : Nat} {F : Nat → Int} (hne : B ≠ G) (hB : B < w.heap.size) (hr : IntRow w B m F) : IntRow w' B m F :=
  ⟨fun j hj => h.cell hne (hr.1 j hj), fun j => by
    have := h.2.2 B hB hne
    have e := hr.2 j
    simp only [World.frozen?] at e ⊢
    rw [this]; exact e⟩
theorem Step.boolRow {G : Nat} {w w' : World} (h : Step G w w') {B m : Nat} {F : Nat → Bool} (hne : B ≠ G) (hB : B < w.heap.size) (hr : BoolRow w B m F) : BoolRow w' B m F :=
  ⟨fun j hj => h.cell hne (hr.1 j hj), fun j => by
    have := h.2.2 B hB hne
    have e := hr.2 j
    simp only [World.frozen?] at e ⊢
    rw [this]; exact e⟩
theorem IntRow.congr {w : World} {B m : Nat} {F F' : Nat → Int} (h : IntRow w B m F) (e : ∀ j, j < m → F j = F' j) : IntRow w B m F' := ⟨fun j hj => by rw [← e j hj]; exact h.1 j hj, h.2⟩
theorem BoolRow.setHere {w : World} {B m : Nat} {F : Nat → Bool} (h : BoolRow w B m F) (i : Nat) (hi : i < m) : BoolRow (w.setCell ⟨B, i, none⟩ (.bool true)) B m (bset F i) := by
  refine ⟨fun j hj => ?_, fun j => by rw [World.frozen?_setCell]; exact h.2 j⟩
  by_cases e : j = i
  · subst e
    rw [show bset F j j = true from by simp [bset]]
    exact World.cell?_setCell_same _ _ _ (h.1 j hj)
  · rw [show bset F i j = F j from by simp [bset, e], World.cell?_setCell_other _ _ _ _ (by intro h; simp only [Addr.mk.injEq] at h; omega)]
    exact h.1 j hj
theorem blockRow {w : World} {B m : Nat} {A : Array Value} {e : TypeId} (h : w.heap[B]? = some (.cells A e)) : (∀ j, w.cell? ⟨B, j, none⟩ = A[j]?) ∧ ∀ j, w.frozen? ⟨B, j, none⟩ = false :=
  ⟨fun j => by simp [World.cell?, h], fun j => by simp [World.frozen?, h]⟩

theorem node_ex (H : Nat) : ∀ d x, 0 < x → x < 2 * 2 ^ H → 2 ^ H - x = d → ∃ h, Node (2 ^ H) x h := by
  intro d
  induction d using Nat.strongRecOn with
  | _ d ih =>
    intro x h0 h1 hd
    by_cases hx : 2 ^ H ≤ x
    · exact ⟨0, by simpa using hx, by simpa using h1⟩
    · obtain ⟨h, hh⟩ := ih (2 ^ H - 2 * x) (by omega) (2 * x) (by omega) (by omega) rfl
      refine ⟨h + 1, ?_⟩
      unfold Node at hh ⊢
      rw [two_mul_pow] at hh
      exact hh
theorem below_alloc' (w : World) (o : Obj) : Below w.heap.size w (w.alloc o) := (Below.refl _ _).alloc (Nat.le_refl _) o
theorem Yba.info27 : (Yba.prog.info? 27).map (fun i => (i.zero, i.size, i.bytes)) = some (some (.agg #[.int .i64 0, .int .i64 0]), 2, 16) := by kernel_rfl
theorem Yba.info2 : (Yba.prog.info? 2).map (fun i => (i.zero, i.size, i.bytes)) = some (some (.int .i64 0), 1, 8) := by kernel_rfl
theorem Yba.info4 : (Yba.prog.info? 4).map (fun i => (i.zero, i.size, i.bytes)) = some (some (.bool false), 1, 1) := by kernel_rfl
theorem made_one (z : Value) (n j : Nat) (hj : j < n) : (madeCells #[z] n)[j]? = some z := by
  simp [madeCells, hj, Nat.mod_one]
theorem made_two (z : Value) (n j : Nat) (hj : j < n) : (madeCells #[z, z] n)[j]? = some z := by
  have h2 : j % 2 = 0 ∨ j % 2 = 1 := by omega
  rcases h2 with h | h <;> simp [madeCells, hj, h]
theorem make_nodes (S N : Nat) (hN : N = 2 * S) (hb : N ≤ 10000) : ∃ A : Array Value, (∀ w, (Instr.makeSlice 24 (.int .i64 (2 * (S : Int))) (.int .i64 (2 * (S : Int)))).run Yba.prog w = .ok (.slice (some ⟨w.heap.size, 0, none⟩) N N) (w.alloc (.cells A 27))) ∧ ∀ j, j < N * 2 → A[j]? = some (.int .i64 0) := by
  obtain ⟨i, hi, hz0, hz1, hz2⟩ := info_parts Yba.info27
  refine ⟨madeCells #[.int .i64 0, .int .i64 0] (N * 2), fun w => ?_, fun j hj => made_two _ _ _ hj⟩
  rw [run_make w 24 27 i _ Yba.underlying24 hi hz0 .i64 .i64 _ _ (by omega) (Int.le_refl _) (by rw [hz2]; omega) (by omega), hz1]
  rw [show (2 * (S : Int)).toNat = N from by omega]
  rfl
theorem make_vals (m : Nat) (hb : m ≤ 10000) : ∃ A : Array Value, (∀ w, (Instr.makeSlice 25 (.int .i64 (m : Int)) (.int .i64 (m : Int))).run Yba.prog w = .ok (.slice (some ⟨w.heap.size, 0, none⟩) m m) (w.alloc (.cells A 2))) ∧ ∀ j, j < m → A[j]? = some (.int .i64 0) := by
  obtain ⟨i, hi, hz0, hz1, hz2⟩ := info_parts Yba.info2
  refine ⟨madeCells #[.int .i64 0] (m * 1), fun w => ?_, fun j hj => made_one _ _ _ (by omega)⟩
  rw [run_make w 25 2 i _ Yba.underlying25 hi hz0 .i64 .i64 _ _ (by omega) (Int.le_refl _) (by rw [hz2]; omega) (by omega), hz1]
  rw [Int.toNat_natCast]
  rfl
theorem make_tried (m : Nat) (hb : m ≤ 10000) : ∃ A : Array Value, (∀ w, (Instr.makeSlice 32 (.int .i64 (m : Int)) (.int .i64 (m : Int))).run Yba.prog w = .ok (.slice (some ⟨w.heap.size, 0, none⟩) m m) (w.alloc (.cells A 4))) ∧ ∀ j, j < m → A[j]? = some (.bool false) := by
  obtain ⟨i, hi, hz0, hz1, hz2⟩ := info_parts Yba.info4
  refine ⟨madeCells #[.bool false] (m * 1), fun w => ?_, fun j hj => made_one _ _ _ (by omega)⟩
  rw [run_make w 32 4 i _ Yba.underlying32 hi hz0 .i64 .i64 _ _ (by omega) (Int.le_refl _) (by rw [hz2]; omega) (by omega), hz1]
  rw [Int.toNat_natCast]
  rfl

set_option maxRecDepth 100000 in
set_option maxHeartbeats 4000000 in
theorem law_walk (w : World) (ac ak : Option Addr) (m cap lk capk : Nat) (V : Nat → Int) (hm0 : 0 < m) (hm : m ≤ 1024) (hlk : lk ≤ 1024)
    (hcell : ∀ j, j < m → ∃ g o x, ac = some ⟨g, o, none⟩ ∧ w.cell? ⟨g, o + j, none⟩ = some (.int .u8 x) ∧ x.tmod 4 = V j ∧ 0 ≤ V j ∧ V j ≤ 3 ∧ 0 ≤ x ∧ x < 256)
    (hkell : ∀ j, j < lk → ∃ g o x, ak = some ⟨g, o, none⟩ ∧ w.cell? ⟨g, o + j, none⟩ = some (.int .u16 x) ∧ 0 ≤ x ∧ x < 65536) :
    Calls Yba.prog 3 #[.slice ac m cap, .slice ak lk capk] w fun e w' => e = .returned (.bool true) ∧ Below w.heap.size w w' := by
  have hd1 : decide ((1024 : Int) < (m : Int)) = false := by simp; omega
  have hd2 : decide ((1024 : Int) < (lk : Int)) = false := by simp; omega
  have hd3 : ((m : Int) == 0) = false := by simp; omega
  have HVb := hid (show ∀ j, j < m → 0 ≤ V j ∧ V j ≤ 3 from fun j hj => by obtain ⟨_, _, _, _, _, _, a, b, _⟩ := hcell j hj; exact ⟨a, b⟩)
  go_enter Yba.func3, Yba.ntmps3
  go_wp2
  go_loop [6] (fun v => ∃ (H S : Nat), v = .int .i64 S ∧ S = 2 ^ H ∧ S < 2 * m) (fun v => m - (intOf v).toNat)
  case atStart => exact ⟨0, 1, rfl, rfl, by omega⟩
  case round =>
    obtain ⟨H, S, rfl, hS, hS2⟩ := hrel
    have HS := hid hS
    have hSp : 0 < S := by rw [hS]; exact pow_pos' H
    clear hS
    by_cases hlt : S < m
    · have hlt' : (S : Int) < (m : Int) := by omega
      go_wp2
      exact ⟨⟨H + 1, S * 2, by go_num, by rw [HS.out, Nat.pow_succ], by omega⟩, by simp [intOf]; omega⟩
    · have hge : (m : Int) ≤ (S : Int) := by omega
      obtain ⟨N, hN⟩ : ∃ N, N = 2 * S := ⟨_, rfl⟩
      have hNb : N ≤ 10000 := by omega
      obtain ⟨A, hmkA, hA⟩ := make_nodes S N hN hNb
      obtain ⟨B, hmkB, hB⟩ := make_vals m (by omega)
      have HN := hid hN
      have HA := hid hA
      have HB := hid hB
      have HC := hid hcell
      have HK := hid hkell
      clear hN hA hB hcell hkell
      go_wp2_with fail
      go_loopw [9] (fun v wr => ∃ (i : Nat) (T C : Nat → Int), v = .int .i64 i ∧ i ≤ S ∧ Tree wr w.heap.size N T C ∧ (∀ j, j < i → T (S + j) = Lof S m V (fun _ => false) (S + j) ∧ C (S + j) = 1) ∧
        IntRow wr (w.heap.size + 1) m (fun j => if j < i then V j else 0) ∧ Below w.heap.size w wr ∧ w.heap.size + 2 ≤ wr.heap.size) (fun v wr => S - (intOf v).toNat)
      case atStart =>
        have bl : Below w.heap.size w ((w.alloc (.cells A 27)).alloc (.cells B 2)) := by go_grown
        have k0 : ((w.alloc (.cells A 27)).alloc (.cells B 2)).heap[w.heap.size]? = some (.cells A 27) := (heap_alloc_old _ _ (by simp)).trans (heap_alloc_new _ _)
        have k1 : ((w.alloc (.cells A 27)).alloc (.cells B 2)).heap[w.heap.size + 1]? = some (.cells B 2) := by
          have := heap_alloc_new (w.alloc (.cells A 27)) (.cells B 2)
          simpa using this
        obtain ⟨r0, r1⟩ := blockRow (m := 0) k0
        obtain ⟨r2, r3⟩ := blockRow (m := 0) k1
        refine ⟨0, fun _ => 0, fun _ => 0, rfl, by omega, ⟨fun n hn => ⟨?_, ?_⟩, r1⟩, fun j hj => by omega, ⟨fun j hj => ?_, r3⟩, bl, by simp⟩
        · rw [r0, HA.out _ (by omega)]
        · rw [r0, HA.out _ (by omega)]
        · rw [r2, HB.out j hj]; simp
      case round =>
        obtain ⟨i, T, C, rfl, hi, hT, hTC, hV, hb, hsz⟩ := hrel
        by_cases hiS : i < S
        · have hiN : S + i < N := by have := HN.out; omega
          obtain ⟨y0, y1⟩ := hT.1 (S + i) hiN
          have f0 := hT.2 ((S + i) * 2)
          have f1 := hT.2 ((S + i) * 2 + 1)
          have hiS' : (i : Int) < (S : Int) := by omega
          have hiN' : (S : Int) + (i : Int) < (N : Int) := by omega
          have HT := hid hT
          have HTC := hid hTC
          have HV := hid hV
          have HBl := hid hb
          by_cases him : i < m
          · obtain ⟨g, o, x, rfl, hc, htm, V0, V3, x0, x1⟩ := HC.out i him
            have hc' := cell_later hb hc
            have v0 := hV.1 i him
            have vf := hV.2 i
            have him' : (i : Int) < (m : Int) := by omega
            have hgl := block_lt_of_cell hc
            clear hT hTC hV hb hc
            go_wp2
            refine ⟨⟨i + 1, _, _, by go_num, by omega, (((HT.out.setTop (S + i) hiN (-1)).setTies (S + i) hiN 1).setElse (w.heap.size + 1) i _ (by omega)).setTop (S + i) hiN (V i), ?_, ?_, (((HBl.out.setCell (Nat.le_refl _) _).setCell (Nat.le_refl _) _).setCell (Nat.le_succ _) _).setCell (Nat.le_refl _) _, by simpa using hsz⟩, by simp [intOf]; omega⟩
            · intro j hj
              by_cases e : j = i
              · subst e
                rw [upd_same, upd_same, lof_in him rfl]
                exact ⟨rfl, rfl⟩
              · rw [upd_other _ _ (by omega), upd_other _ _ (by omega), upd_other _ _ (by omega)]
                exact HTC.out j (by omega)
            · have hr := (((HV.out.setElse w.heap.size ((S + i) * 2) (.int .i64 (-1)) (by omega)).setElse w.heap.size ((S + i) * 2 + 1) (.int .i64 1) (by omega)).setHere i him (V i)).setElse w.heap.size ((S + i) * 2) (.int .i64 (V i)) (by omega)
              have ef : set (fun j => if j < i then V j else 0) i (V i) = fun j => if j < i + 1 then V j else 0 := by
                funext j
                by_cases e : j = i
                · subst e; rw [set_same]; simp
                · rw [set_other _ _ e]
                  by_cases h : j < i
                  · rw [if_pos h, if_pos (by omega)]
                  · rw [if_neg h, if_neg (by omega)]
              rw [ef] at hr
              exact hr
          · have him' : (m : Int) ≤ (i : Int) := by omega
            clear hT hTC hV hb
            go_wp2
            refine ⟨⟨i + 1, _, _, by go_num, by omega, (HT.out.setTop (S + i) hiN (-1)).setTies (S + i) hiN 1, ?_, ?_, (HBl.out.setCell (Nat.le_refl _) _).setCell (Nat.le_refl _) _, by simpa using hsz⟩, by simp [intOf]; omega⟩
            · intro j hj
              by_cases e : j = i
              · subst e
                rw [upd_same, upd_same, lof_out (by omega)]
                exact ⟨rfl, rfl⟩
              · rw [upd_other _ _ (by omega), upd_other _ _ (by omega)]
                exact HTC.out j (by omega)
            · have hr := (HV.out.setElse w.heap.size ((S + i) * 2) (.int .i64 (-1)) (by omega)).setElse w.heap.size ((S + i) * 2 + 1) (.int .i64 1) (by omega)
              exact hr.congr fun j hj => by
                show (if j < i then V j else 0) = if j < i + 1 then V j else 0
                rw [if_pos (by omega), if_pos (by omega)]
        · obtain rfl : i = S := by omega
          have hge2 : (i : Int) ≤ (i : Int) := Int.le_refl _
          have hgood : GoodFrom (2 ^ H) (2 ^ H) T C (Lof i m V (fun _ => false)) := by
            refine goodFrom_leaves (fun x h1 h2 => ?_) (fun x h1 h2 => ?_)
            · rw [← HS.out] at h1 h2
              have := (hTC (x - i) (by omega)).1
              rwa [show i + (x - i) = x from by omega] at this
            · rw [← HS.out] at h1 h2
              have := (hTC (x - i) (by omega)).2
              rwa [show i + (x - i) = x from by omega] at this
          have hVV : IntRow wr (w.heap.size + 1) m V := hV.congr fun j hj => by
            show (if j < i then V j else 0) = V j
            rw [if_pos (by omega)]
          have hrk : Ranks (wr.alloc (.cells #[.int .i64 i, .slice (some ⟨w.heap.size, 0, none⟩) N N] 30)) wr.heap.size w.heap.size N i := by
            have k0 := heap_alloc_new wr (.cells #[.int .i64 i, .slice (some ⟨w.heap.size, 0, none⟩) N N] 30)
            exact ⟨(blockRow (m := 0) k0).1 0, (blockRow (m := 0) k0).1 1⟩
          have hN0 : 0 < N := by have := HN.out; omega
          have hTr2 := hT.alloc hN0 (.cells #[.int .i64 i, .slice (some ⟨w.heap.size, 0, none⟩) N N] 30)
          have hst := Step.alloc w.heap.size wr (.cells #[.int .i64 i, .slice (some ⟨w.heap.size, 0, none⟩) N N] 30)
          have hVr := hst.intRow (by omega) (by omega) hVV
          have hbl := hb.trans ((below_alloc' wr (.cells #[.int .i64 i, .slice (some ⟨w.heap.size, 0, none⟩) N N] 30)).mono (by omega))
          have HG := hid hgood
          have HT := hid hTr2
          have HR := hid hrk
          have HV := hid hVr
          have HBl := hid hbl
          clear hgood hTr2 hrk hVr hbl hst hVV hT hTC hV hb
          go_wp2_with fail
          generalize hRe : wr.heap.size = R at *
          go_loopw [11] (fun v wq => ∃ (n : Nat) (T C : Nat → Int), v = .int .i64 n ∧ n < i ∧ Tree wq w.heap.size N T C ∧ GoodFrom (2 ^ H) (n + 1) T C (Lof i m V (fun _ => false)) ∧ Ranks wq R w.heap.size N i ∧
            IntRow wq (w.heap.size + 1) m V ∧ Below w.heap.size w wq ∧ R + 1 ≤ wq.heap.size) (fun v wq => (intOf v).toNat)
          case atStart =>
            refine ⟨i - 1, T, C, by go_num, by omega, HT.out, ?_, HR.out, HV.out, HBl.out, by simp [hRe]⟩
            have := HG.out
            rw [show i - 1 + 1 = 2 ^ H from by have := HS.out; omega]
            exact this
          case round =>
            obtain ⟨n, T, C, rfl, hn, hT, hg, hR, hV, hb, hsz2⟩ := hrel
            by_cases hn0 : 0 < n
            · have hn0' : (0 : Int) < (n : Int) := by omega
              have hnS : n < 2 ^ H := by rw [← HS.out]; exact hn
              have h2n : 2 * n + 1 < N := by have := HN.out; omega
              have hbd : ∀ x, n + 1 ≤ x → x < N → 0 ≤ C x ∧ C x ≤ 10000 := by
                intro x hx1 hx2
                obtain ⟨k, hk⟩ := node_ex H (2 ^ H - x) x (by omega) (by rw [← HS.out, ← HN.out]; exact hx2) rfl
                have a1 := (hg x k hx1 hk).le
                have a2 := (hg x k hx1 hk).2.2
                have a3 := hk.end_le
                rw [Nat.add_mul, Nat.one_mul, ← HS.out, ← HN.out] at a3
                generalize 2 ^ k = q at *
                omega
              have hj := join_any _ R w.heap.size N i n T C hR hT h2n hNb (by omega) (hbd _ (by omega) (by omega)) (hbd _ (by omega) h2n)
              have HGN := hid (hg.step hn0 hnS)
              have HR2 := hid hR
              have HV2 := hid hV
              have HB2 := hid hb
              clear hT hg hR hV hb hbd
              go_wp2_with fail
              refine hj.mono ?_
              rintro e w3 ⟨rfl, hT3, hs3⟩
              clear hj
              go_wp2_with fail
              have hs4 := hs3.2.1
              refine ⟨⟨n - 1, _, _, by go_num, by omega, hT3, ?_, hs3.ranks (by omega) HR2.out, hs3.intRow (by omega) (by omega) HV2.out, HB2.out.trans (hs3.1 _ (Nat.le_refl _) (by omega)), by omega⟩, by simp [intOf]; omega⟩
              rw [show n - 1 + 1 = n from by omega]
              exact HGN.out
            · have hnz : n = 0 := by omega
              have hnI : ((n : Nat) : Int) = 0 := by omega
              simp only [hnI]
              clear hnI
              subst hnz
              obtain ⟨A3, hmkT, hA3⟩ := make_tried m (by omega)
              have HA3 := hid hA3
              have HT4 := hid hT
              have HG4 := hid hg
              have HR4 := hid hR
              have HV4 := hid hV
              have HB4 := hid hb
              clear hA3 hT hg hR hV hb
              go_wp2_with fail
              have atS : ∃ (wx : World) (TB : Nat), wx = wr.alloc (.cells A3 4) ∧ TB = wr.heap.size ∧ Tree wx w.heap.size N T C ∧ Ranks wx R w.heap.size N i ∧ IntRow wx (w.heap.size + 1) m V ∧ BoolRow wx TB m (fun _ => false) ∧ Below w.heap.size w wx ∧ R + 1 ≤ TB ∧ TB + 1 ≤ wx.heap.size := by
                have st := Step.alloc w.heap.size wr (.cells A3 4)
                refine ⟨_, _, rfl, rfl, HT4.out.alloc hN0 _, st.ranks (by omega) HR4.out, st.intRow (by omega) (by omega) HV4.out, ?_, HB4.out.trans ((below_alloc' _ _).mono (by omega)), hsz2, by simp⟩
                obtain ⟨r0, r1⟩ := blockRow (m := 0) (heap_alloc_new wr (.cells A3 4))
                exact ⟨fun j hj => by rw [r0]; exact HA3.out j hj, r1⟩
              obtain ⟨wx, TB, hwx, hTB, aT, aR, aV, aBo, aB, aRT, aTs⟩ := atS
              rw [← hwx, ← hTB]
              have aT := hid aT
              have aR := hid aR
              have aV := hid aV
              have aBo := hid aBo
              have aB := hid aB
              clear hwx hTB HA3 HT4 HR4 HV4 HB4 hmkT hmkB
              go_loopw [13] (fun v ws => ∃ (s : Nat) (T C : Nat → Int) (b : Nat → Bool), v = .int .i64 s ∧ s ≤ m ∧ nt b m = s ∧ Tree ws w.heap.size N T C ∧ GoodFrom (2 ^ H) 1 T C (Lof i m V b) ∧ Ranks ws R w.heap.size N i ∧
                IntRow ws (w.heap.size + 1) m V ∧ BoolRow ws TB m b ∧ Below w.heap.size w ws ∧ TB + 1 ≤ ws.heap.size) (fun v ws => m - (intOf v).toNat)
              case atStart =>
                refine ⟨0, T, C, fun _ => false, rfl, by omega, ?_, aT.out, HG4.out, aR.out, aV.out, aBo.out, aB.out, aTs⟩
                have : ∀ n, nt (fun _ => false) n = 0 := by
                  intro n
                  induction n with
                  | zero => rfl
                  | succ n ih => simp [nt, ih]
                exact this m
              case round =>
                obtain ⟨s, T, C, b, rfl, hs, hnt, hT, hg, hR, hV, hBo, hb, hsz3⟩ := hrel
                obtain ⟨t0, t1⟩ := hT.1 1 (by have := HN.out; omega)
                obtain ⟨r0, r1⟩ := hR
                have h1N : (1 : Int) < (N : Int) := by have := HN.out; omega
                have HT5 := hid hT
                have HG5 := hid hg
                have HR5 := hid (show Ranks _ R w.heap.size N i from ⟨r0, r1⟩)
                have HV5 := hid hV
                have HBo5 := hid hBo
                have HB5 := hid hb
                clear hT hg hV hBo hb
                by_cases hsm : s < m
                · have hsm' : (s : Int) < (m : Int) := by omega
                  go_wp2_with fail
                  go_loop [14, 15, 16] (fun vb vc vi => ∃ (x : Nat) (best c : Int), vi = .int .i64 x ∧ vb = .int .i64 best ∧ vc = .int .i64 c ∧ x ≤ m ∧ PB i m V b x best c ∧ 0 ≤ c ∧ c ≤ x) (fun _ _ vi => m - (intOf vi).toNat)
                  case atStart => exact ⟨0, -1, 0, rfl, rfl, rfl, by omega, pb_start, by omega, by omega⟩
                  case round =>
                    obtain ⟨x, best, c, rfl, rfl, rfl, hx, hpb, hc0, hc1⟩ := hrel
                    have HPB := hid hpb
                    clear hpb
                    by_cases hxm : x < m
                    · have hxm' : (x : Int) < (m : Int) := by omega
                      have b0 := HBo5.out.1 x hxm
                      have v0 := HV5.out.1 x hxm
                      obtain ⟨V0, V3⟩ := HVb.out x hxm
                      cases hbx : b x with
                      | true =>
                        rw [hbx] at b0
                        go_wp2_with fail
                        exact ⟨⟨x + 1, best, c, by go_num, rfl, rfl, by omega, pb_tried HPB.out hbx, hc0, by omega⟩, by simp [intOf]; omega⟩
                      | false =>
                        rw [hbx] at b0
                        rcases Int.lt_trichotomy (V x) best with h | h | h
                        · have h' : ¬ best < V x := by omega
                          have h'' : (V x == best) = false := by simp; omega
                          go_wp2_with fail
                          exact ⟨⟨x + 1, best, c, by go_num, rfl, rfl, by omega, pb_less HPB.out hxm hbx h, hc0, by omega⟩, by simp [intOf]; omega⟩
                        · have hcc : c + 1 ≤ 10000 := by omega
                          rw [h] at v0
                          go_wp2_with fail
                          exact ⟨⟨x + 1, best, c + 1, by go_num, rfl, by go_num, by omega, pb_same HPB.out hxm hbx h V0, by omega, by omega⟩, by simp [intOf]; omega⟩
                        · go_wp2_with fail
                          exact ⟨⟨x + 1, V x, 1, by go_num, rfl, rfl, by omega, pb_more HPB.out hxm hbx h, by omega, by omega⟩, by simp [intOf]; omega⟩
                    · obtain rfl : x = m := by omega
                      obtain ⟨q0, q1, q2, q3, q4⟩ : 0 ≤ best ∧ 0 < c ∧ T 1 = best ∧ C 1 = c ∧ c = (cnt (Lof i x V b) i x best : Int) := by
                        have hg' := HG5.out
                        have hp' := HPB.out
                        rw [HS.out] at hg' hp' ⊢
                        exact root_eq (by rw [← HS.out]; omega) (fun j hj => (HVb.out j hj).1) hg' hp' (by omega)
                      have hties := ties_any _ R w.heap.size N i T C HR5.out HT5.out (by omega)
                      rw [q3] at hties t1
                      rw [q2] at t0
                      have HQ4 := hid q4
                      have HQ2 := hid q2
                      have HQ3 := hid q3
                      have hcne : (c == 0) = false := by simp; omega
                      clear q2 q3 q4
                      go_wp2_with fail
                      refine hties.mono ?_
                      rintro e w5 ⟨rfl, rfl⟩
                      clear hties
                      by_cases hl0 : lk = 0
                      · have hdz : decide ((0 : Int) < (lk : Int)) = false := by simp [hl0]
                        clear hl0
                        have k0 : (0 : Int) ≤ 0 := Int.le_refl _
                        have k1 : (0 : Int) < c := q1
                        go_wp2_with fail
                        · exact absurd (of_decide_eq_false hdz) (by omega)
                        go_loop [18, 19, 20] (fun vw vs vi => ∃ (x6 : Nat), vi = .int .i64 x6 ∧ vw = .int .i64 (-1) ∧ vs = .int .i64 (cnt (Lof i x V b) i x6 best : Nat) ∧ x6 ≤ x ∧ ((cnt (Lof i x V b) i x6 best : Nat) : Int) ≤ 0) (fun _ _ vi => x - (intOf vi).toNat)
                        case atStart => exact ⟨0, rfl, rfl, rfl, by omega, by simp [cnt]⟩
                        case round =>
                          obtain ⟨x6, rfl, rfl, rfl, hx6, hk6⟩ := hrel
                          by_cases hxm6 : x6 < x
                          · have hxm6' : (x6 : Int) < (x : Int) := by omega
                            have b0 := HBo5.out.1 x6 hxm6
                            have v0 := HV5.out.1 x6 hxm6
                            have bf := HBo5.out.2 x6
                            obtain ⟨V0, V3⟩ := HVb.out x6 hxm6
                            have hcle := cnt_le (Lof i x V b) i best x6
                            have hsame : Lof i x V b (i + x6) ≠ best → cnt (Lof i x V b) i (x6 + 1) best = cnt (Lof i x V b) i x6 best := by
                              intro h; simp only [cnt, if_neg h, Nat.add_zero]
                            have hmore : Lof i x V b (i + x6) = best → cnt (Lof i x V b) i (x6 + 1) best = cnt (Lof i x V b) i x6 best + 1 := by
                              intro h; simp only [cnt, if_pos h]
                            have HSA := hid hsame
                            have HMO := hid hmore
                            clear hsame hmore
                            cases hbx : b x6 with
                            | true =>
                              rw [hbx] at b0
                              have hl := lof_tried (S := i) (m := x) (V := V) hbx
                              have e := HSA.out (by rw [hl]; omega)
                              clear hl
                              go_wp2_with fail
                              exact ⟨⟨x6 + 1, by go_num, rfl, by rw [e], by omega, by rw [e]; exact hk6⟩, by simp [intOf]; omega⟩
                            | false =>
                              rw [hbx] at b0
                              have hl := lof_in (S := i) (m := x) (V := V) hxm6 hbx
                              by_cases hve : V x6 = best
                              · rw [hve] at v0
                                have e := HMO.out (by rw [hl]; exact hve)
                                have HLL := hid (hl.trans hve)
                                by_cases hse : ((cnt (Lof i x V b) i x6 best : Nat) : Int) = 0
                                · have HCE := hid hse
                                  have hx60 : (0 : Int) ≤ (x6 : Int) := by omega
                                  have htk := take_any _ R w.heap.size H i N T C (Lof i x V b) 0 HS.out HN.out HR5.out HT5.out HG5.out (by omega) hNb k0 (by rw [HQ3.out]; exact k1) (by rw [HQ2.out]; exact q0)
                                  rw [hse]
                                  clear hl e hse hcle hk6
                                  go_wp2_with fail
                                  refine htk.mono ?_
                                  rintro e w6 ⟨jj, rfl, hjS, hLj, hkj, ⟨T6, C6, hT6, hG6⟩, hst6⟩
                                  clear htk
                                  rw [HQ2.out] at hLj hkj
                                  obtain rfl : jj = x6 := cnt_unique hLj HLL.out (by have := HCE.out; omega)
                                  have hBo6 := hst6.boolRow (by omega) (by omega) HBo5.out
                                  have bb0 := hBo6.1 jj hxm6
                                  have bbf := hBo6.2 jj
                                  have s6 := hst6.2.1
                                  rw [lof_set hxm6] at hG6
                                  have hR6 : Ranks (w6.setCell ⟨TB, jj, none⟩ (.bool true)) R w.heap.size N i := by
                                    have q := hst6.ranks (by omega) HR5.out
                                    exact ⟨(Step.set TB jj w6 _).cell (show R ≠ TB by omega) q.1, (Step.set TB jj w6 _).cell (show R ≠ TB by omega) q.2⟩
                                  have HF := hid (And.intro (hT6.setElse TB jj (.bool true) (by omega)) (And.intro hG6 (And.intro hR6 (And.intro ((hst6.intRow (by omega) (by omega) HV5.out).setElse TB jj (.bool true) (by omega)) (And.intro (hBo6.setHere jj hxm6) ((HB5.out.trans (hst6.1 _ (Nat.le_refl _) (by omega))).setCell (p := ⟨TB, jj, none⟩) (show w.heap.size ≤ TB by omega) (.bool true)))))))
                                  have HNT := hid (nt_set hbx x hxm6)
                                  clear hT6 hG6 hR6 hBo6 hst6 hLj hkj
                                  go_wp2_with fail
                                  obtain ⟨e1, e2, e3, e4, e5, e6⟩ := HF.out
                                  exact ⟨⟨s + 1, T6, C6, bset b jj, by go_num, by omega, by rw [HNT.out]; omega, e1, e2, e3, e4, e5, e6, by simp; omega⟩, by simp [intOf]; omega⟩
                                · have hse' : (((cnt (Lof i x V b) i x6 best : Nat) : Int) == 0) = false := by simpa using hse
                                  have hb6 : ((cnt (Lof i x V b) i x6 best : Nat) : Int) ≤ 10000 := by omega
                                  clear hl
                                  go_wp2_with fail
                                  exact ⟨⟨x6 + 1, by go_num, rfl, by rw [e]; go_num, by omega, by rw [e]; omega⟩, by simp [intOf]; omega⟩
                              · have hve' : (V x6 == best) = false := by simpa using hve
                                have e := HSA.out (by rw [hl]; exact hve)
                                clear hl
                                go_wp2_with fail
                                exact ⟨⟨x6 + 1, by go_num, rfl, by rw [e], by omega, by rw [e]; exact hk6⟩, by simp [intOf]; omega⟩
                          · obtain rfl : x6 = x := by omega
                            exfalso
                            have := HQ4.out
                            omega
                      · have hl0' : (0 : Int) < (lk : Int) := by omega
                        obtain ⟨g, o, y, rfl, hy, y0, y1⟩ := HK.out (s % lk) (Nat.mod_lt _ (by omega))
                        have hy' := cell_later HB5.out hy
                        have hm1 : 0 ≤ (s : Int) % (lk : Int) := Int.emod_nonneg _ (by omega)
                        have hm2 : (s : Int) % (lk : Int) < (lk : Int) := Int.emod_lt_of_pos _ hl0'
                        have htn : ((s : Int) % (lk : Int)).toNat = s % lk := by omega
                        clear hy
                        go_wp2_with fail
                        have k0 : 0 ≤ y % c := Int.emod_nonneg _ (by omega)
                        have k1 : y % c < c := Int.emod_lt_of_pos _ q1
                        have k2 : y % c ≤ 10000 := by omega
                        generalize y % c = k at *
                        go_loop [18, 19, 20] (fun vw vs vi => ∃ (x6 : Nat), vi = .int .i64 x6 ∧ vw = .int .i64 (-1) ∧ vs = .int .i64 (cnt (Lof i x V b) i x6 best : Nat) ∧ x6 ≤ x ∧ ((cnt (Lof i x V b) i x6 best : Nat) : Int) ≤ k) (fun _ _ vi => x - (intOf vi).toNat)
                        case atStart => exact ⟨0, rfl, rfl, rfl, by omega, by simpa [cnt] using k0⟩
                        case round =>
                          obtain ⟨x6, rfl, rfl, rfl, hx6, hk6⟩ := hrel
                          by_cases hxm6 : x6 < x
                          · have hxm6' : (x6 : Int) < (x : Int) := by omega
                            have b0 := HBo5.out.1 x6 hxm6
                            have v0 := HV5.out.1 x6 hxm6
                            have bf := HBo5.out.2 x6
                            obtain ⟨V0, V3⟩ := HVb.out x6 hxm6
                            have hcle := cnt_le (Lof i x V b) i best x6
                            have hsame : Lof i x V b (i + x6) ≠ best → cnt (Lof i x V b) i (x6 + 1) best = cnt (Lof i x V b) i x6 best := by
                              intro h; simp only [cnt, if_neg h, Nat.add_zero]
                            have hmore : Lof i x V b (i + x6) = best → cnt (Lof i x V b) i (x6 + 1) best = cnt (Lof i x V b) i x6 best + 1 := by
                              intro h; simp only [cnt, if_pos h]
                            have HSA := hid hsame
                            have HMO := hid hmore
                            clear hsame hmore
                            cases hbx : b x6 with
                            | true =>
                              rw [hbx] at b0
                              have hl := lof_tried (S := i) (m := x) (V := V) hbx
                              have e := HSA.out (by rw [hl]; omega)
                              clear hl
                              go_wp2_with fail
                              exact ⟨⟨x6 + 1, by go_num, rfl, by rw [e], by omega, by rw [e]; exact hk6⟩, by simp [intOf]; omega⟩
                            | false =>
                              rw [hbx] at b0
                              have hl := lof_in (S := i) (m := x) (V := V) hxm6 hbx
                              by_cases hve : V x6 = best
                              · rw [hve] at v0
                                have e := HMO.out (by rw [hl]; exact hve)
                                have HLL := hid (hl.trans hve)
                                by_cases hse : ((cnt (Lof i x V b) i x6 best : Nat) : Int) = k
                                · have HCE := hid hse
                                  have hx60 : (0 : Int) ≤ (x6 : Int) := by omega
                                  have htk := take_any _ R w.heap.size H i N T C (Lof i x V b) k HS.out HN.out HR5.out HT5.out HG5.out (by omega) hNb k0 (by rw [HQ3.out]; exact k1) (by rw [HQ2.out]; exact q0)
                                  rw [hse]
                                  clear hl e hse hcle hk6
                                  go_wp2_with fail
                                  refine htk.mono ?_
                                  rintro e w6 ⟨jj, rfl, hjS, hLj, hkj, ⟨T6, C6, hT6, hG6⟩, hst6⟩
                                  clear htk
                                  rw [HQ2.out] at hLj hkj
                                  obtain rfl : jj = x6 := cnt_unique hLj HLL.out (by have := HCE.out; omega)
                                  have hBo6 := hst6.boolRow (by omega) (by omega) HBo5.out
                                  have bb0 := hBo6.1 jj hxm6
                                  have bbf := hBo6.2 jj
                                  have s6 := hst6.2.1
                                  rw [lof_set hxm6] at hG6
                                  have hR6 : Ranks (w6.setCell ⟨TB, jj, none⟩ (.bool true)) R w.heap.size N i := by
                                    have q := hst6.ranks (by omega) HR5.out
                                    exact ⟨(Step.set TB jj w6 _).cell (show R ≠ TB by omega) q.1, (Step.set TB jj w6 _).cell (show R ≠ TB by omega) q.2⟩
                                  have HF := hid (And.intro (hT6.setElse TB jj (.bool true) (by omega)) (And.intro hG6 (And.intro hR6 (And.intro ((hst6.intRow (by omega) (by omega) HV5.out).setElse TB jj (.bool true) (by omega)) (And.intro (hBo6.setHere jj hxm6) ((HB5.out.trans (hst6.1 _ (Nat.le_refl _) (by omega))).setCell (p := ⟨TB, jj, none⟩) (show w.heap.size ≤ TB by omega) (.bool true)))))))
                                  have HNT := hid (nt_set hbx x hxm6)
                                  clear hT6 hG6 hR6 hBo6 hst6 hLj hkj
                                  go_wp2_with fail
                                  obtain ⟨e1, e2, e3, e4, e5, e6⟩ := HF.out
                                  exact ⟨⟨s + 1, T6, C6, bset b jj, by go_num, by omega, by rw [HNT.out]; omega, e1, e2, e3, e4, e5, e6, by simp; omega⟩, by simp [intOf]; omega⟩
                                · have hse' : (((cnt (Lof i x V b) i x6 best : Nat) : Int) == k) = false := by simpa using hse
                                  have hb6 : ((cnt (Lof i x V b) i x6 best : Nat) : Int) ≤ 10000 := by omega
                                  clear hl
                                  go_wp2_with fail
                                  exact ⟨⟨x6 + 1, by go_num, rfl, by rw [e]; go_num, by omega, by rw [e]; omega⟩, by simp [intOf]; omega⟩
                              · have hve' : (V x6 == best) = false := by simpa using hve
                                have e := HSA.out (by rw [hl]; exact hve)
                                clear hl
                                go_wp2_with fail
                                exact ⟨⟨x6 + 1, by go_num, rfl, by rw [e], by omega, by rw [e]; exact hk6⟩, by simp [intOf]; omega⟩
                          · obtain rfl : x6 = x := by omega
                            exfalso
                            have := HQ4.out
                            omega
                · obtain rfl : s = m := by omega
                  have hg' := HG5.out
                  rw [HS.out] at hg'
                  have hend := root_end hg' hnt
                  rw [hend] at t0
                  clear hg' hend t1
                  go_wp2_with fail
                  go_ret
                  exact ⟨rfl, HB5.out⟩
end Go.Proofs.Ybulkgsy
