/- LawS0352AModel: the walk. -/
import Derived.Test.YbulkggoDoorAny
import Derived.Lib.VarintBits
namespace Go.Proofs.YbulkggoDoor
open Go.RowKit
set_option linter.unusedVariables false

theorem equal_any (w : World) (p q : Option Addr) (c d n m : Nat) (l k : List UInt8) (h1 : Lib.BytesIn w p l.length (nums l)) (h2 : Lib.BytesIn w q k.length (nums k)) (hn : n = l.length) (hm : m = k.length) (hlk : l = k) :
    Calls Ybad.prog 9 #[.slice p n c, .slice q m d] w fun e w' => e = .returned (.bool true) ∧ w' = w := by
  subst hn hm hlk
  refine (Ybad.bytes_Equal_all p q _ c _ d (nums l) (nums l) w (nums_len l) (nums_len l) h1 h2).mono ?_
  rintro e w' ⟨rfl, rfl⟩
  refine ⟨?_, rfl⟩
  simp

theorem or_shift (k y b : Nat) (hk : k ≤ 9) (hy : y < 2 ^ (7 * k)) (hb : b < 128) (h9 : k = 9 → b ≤ 1) :
    bits .or .u64 (y : Int) (IntKind.u64.wrap (IntKind.u64.wrap (b : Int) * 2 ^ (7 * k))) = ((y + b * 2 ^ (7 * k) : Nat) : Int) := by
  have hs : k = 0 ∨ k = 1 ∨ k = 2 ∨ k = 3 ∨ k = 4 ∨ k = 5 ∨ k = 6 ∨ k = 7 ∨ k = 8 ∨ (k = 9 ∧ b ≤ 1) := by
    by_cases h : k = 9
    · exact .inr (.inr (.inr (.inr (.inr (.inr (.inr (.inr (.inr ⟨h, h9 h⟩))))))))
    · omega
  clear h9
  rcases hs with rfl | rfl | rfl | rfl | rfl | rfl | rfl | rfl | rfl | ⟨rfl, hb1⟩
  all_goals
    simp only [Nat.reduceMul, Nat.reducePow, Int.reducePow, Nat.mul_zero, Nat.pow_zero, Int.pow_zero] at hy ⊢
    simp (disch := omega) only [u64_wrap_id, u64_orv0, u64_orv7, u64_orv14, u64_orv21, u64_orv28, u64_orv35, u64_orv42, u64_orv49, u64_orv56, u64_orv63]
    omega
theorem shift_lt (k y b : Nat) (hy : y < 2 ^ (7 * k)) (hb : b < 128) : y + b * 2 ^ (7 * k) < 2 ^ (7 * (k + 1)) := by
  have e : 2 ^ (7 * (k + 1)) = 2 ^ (7 * k) * 128 := by rw [show 7 * (k + 1) = 7 * k + 7 from by omega, Nat.pow_add]
  rw [e]
  generalize 2 ^ (7 * k) = P at *
  have : b * P ≤ 127 * P := Nat.mul_le_mul_right P (by omega)
  omega

theorem read_short {w : World} {l : List UInt8} {a0 a1 : Addr} {r m d : Nat} {q : Option Addr} {err : Value} (h : Read w l a0 a1 r (.slice q m d) err) (hs : (Lib.uvarintDec l).2 ≤ 0) :
    r = 0 ∧ err = .iface 41 (.pointer (some a1)) ∧ m = l.length ∧ Lib.BytesIn w q l.length (nums l) := by
  rcases h with ⟨_, hr, he, p, c, e, _, hin⟩ | ⟨k, hk, _⟩ | ⟨k, hk, _⟩
  · simp only [Value.slice.injEq] at e
    obtain ⟨rfl, rfl, _⟩ := e
    exact ⟨hr, he, rfl, hin⟩
  · omega
  · omega
theorem read_pad {w : World} {l : List UInt8} {a0 a1 : Addr} {r m d : Nat} {q : Option Addr} {err : Value} (h : Read w l a0 a1 r (.slice q m d) err) (k : Nat) (hs : (Lib.uvarintDec l).2 = ((k + 1 : Nat) : Int)) (hk0 : 0 < k) (hz : l[k]? = some 0) :
    r = 0 ∧ err = .iface 41 (.pointer (some a0)) ∧ m = l.length ∧ Lib.BytesIn w q l.length (nums l) := by
  rcases h with ⟨h0, _⟩ | ⟨j, hj, _, hr, he, p, c, e, _, hin⟩ | ⟨j, hj, _, hn, _⟩
  · omega
  · simp only [Value.slice.injEq] at e
    obtain ⟨rfl, rfl, _⟩ := e
    exact ⟨hr, he, rfl, hin⟩
  · obtain rfl : j = k := by omega
    exact absurd hz (hn hk0)
theorem read_val {w : World} {l : List UInt8} {a0 a1 : Addr} {r m d : Nat} {q : Option Addr} {err : Value} (h : Read w l a0 a1 r (.slice q m d) err) (k : Nat) (hs : (Lib.uvarintDec l).2 = ((k + 1 : Nat) : Int)) (hz : 0 < k → l[k]? ≠ some 0) :
    r = (Lib.uvarintDec l).1 ∧ err = .nilIface ∧ m = (l.drop (k + 1)).length ∧ Lib.BytesIn w q (l.drop (k + 1)).length (nums (l.drop (k + 1))) := by
  rcases h with ⟨h0, _⟩ | ⟨j, hj, hjz, _⟩ | ⟨j, hj, _, hn, hr, he, p, c, e, _, hin⟩
  · omega
  · obtain rfl : k = j + 1 := by omega
    exact absurd hjz (hz (by omega))
  · obtain rfl : j = k := by omega
    simp only [Value.slice.injEq] at e
    obtain ⟨rfl, rfl, _⟩ := e
    exact ⟨hr, he, rfl, hin⟩

theorem hid {p : Prop} (h : p) : Hid p := h
theorem bytesIn_drewN {w : World} {p : Option Addr} {n : Nat} {xs : List Int} (h : Lib.BytesIn w p n xs) (k : Nat) : Lib.BytesIn (w.drewN k) p n xs := by
  intro hn
  obtain ⟨g, o, rfl, hc⟩ := h hn
  exact ⟨g, o, rfl, fun i hi => by rw [World.cell?_drewN]; exact hc i hi⟩

theorem Ybad.comp41 : (Ybad.prog.info? 41).map (·.comparable) = some true := by kernel_rfl
theorem Ybad.size61 : (Ybad.prog.info? 61).map (·.size) = some 1 := by kernel_rfl
theorem eql_sent (w : World) (a : Addr) : (binOp .eql 29 (.iface 41 (.pointer (some a))) (.iface 41 (.pointer (some a)))).run Ybad.prog w = .ok (.bool true) w := by
  obtain ⟨i, hi, hcmp⟩ := Option.map_eq_some_iff.1 Ybad.comp41
  obtain ⟨j, hj, _⟩ := Option.map_eq_some_iff.1 Ybad.size61
  exact run_eql_iface_ptr_same w a Ybad.underlying29 Ybad.underlying41 hi hcmp hj

set_option maxRecDepth 100000 in
set_option maxHeartbeats 400000 in
theorem model_set (w : World) (p : Option Addr) (c : Nat) (l : List UInt8) (a0 a1 : Addr) (hin : Lib.BytesIn w p l.length (nums l)) (hlc : l.length ≤ c) (hmax : l.length ≤ 1024)
    (g0 : w.cell? ⟨0, 0, none⟩ = some (.iface 41 (.pointer (some a0)))) (g1 : w.cell? ⟨1, 0, none⟩ = some (.iface 41 (.pointer (some a1)))) :
    Calls Ybad.prog 4 #[.slice p l.length c, .bool true] w fun e w' => e = .returned (.bool true) ∧ Below w.heap.size w w' := by
  have hcl := clone_any w p c l hin (by omega)
  have hes := eql_sent
  go_enter Ybad.func4, Ybad.ntmps4
  go_wp2_with fail
  refine hcl.mono ?_
  rintro e w1 ⟨v1, rfl, ⟨q, d, rfl, hqd, hq⟩, b1⟩
  clear hcl
  have g01 := cell_later b1 g0
  have hp0 : 0 < w1.heap.size := by have := block_lt_of_cell g01; simpa using this
  go_wp2_with fail
  have bel : Below w1.heap.size w1 (w1.alloc (.cells #[.slice q l.length d, .iface 41 (.pointer (some a0))] 36)) := below_alloc _ _ _ (Nat.le_refl _)
  have x0 : (w1.alloc (.cells #[.slice q l.length d, .iface 41 (.pointer (some a0))] 36)).cell? ⟨w1.heap.size, 0, none⟩ = some (.slice q l.length d) := cell_of_block (Go.heap_alloc_new _ _) 0
  have x1 : (w1.alloc (.cells #[.slice q l.length d, .iface 41 (.pointer (some a0))] 36)).cell? ⟨w1.heap.size, 1, none⟩ = some (.iface 41 (.pointer (some a0))) := cell_of_block (Go.heap_alloc_new _ _) 1
  generalize (w1.alloc (.cells #[.slice q l.length d, .iface 41 (.pointer (some a0))] 36)) = w2 at *
  refine (uint_held _ w2 _ _ x1).mono ?_
  rintro e w3 ⟨rfl, rfl⟩
  have g0' := cell_later bel g01
  have he := fun k => equal_any (w3.drewN k) q p d c _ _ l l (bytesIn_drewN (bytesIn_below hq bel) k) (bytesIn_drewN (bytesIn_below (bytesIn_below hin b1) bel) k) rfl rfl rfl
  go_wp2_with fail
  go_quiet ((go_at_call 9; exact Calls.quiet_of_same (he _)))
  go_wp2
  go_ret
  exact ⟨rfl, b1.trans ((below_drewN bel _).mono b1.size)⟩

set_option maxRecDepth 100000 in
set_option maxHeartbeats 4000000 in
theorem model_not (w : World) (p : Option Addr) (c : Nat) (l : List UInt8) (a0 a1 : Addr) (hin : Lib.BytesIn w p l.length (nums l)) (hlc : l.length ≤ c) (hmax : l.length ≤ 1024)
    (g0 : w.cell? ⟨0, 0, none⟩ = some (.iface 41 (.pointer (some a0)))) (g1 : w.cell? ⟨1, 0, none⟩ = some (.iface 41 (.pointer (some a1)))) :
    Calls Ybad.prog 4 #[.slice p l.length c, .bool false] w fun e w' => e = .returned (.bool true) ∧ Below w.heap.size w w' := by
  have hcl := clone_any w p c l hin (by omega)
  have hes := eql_sent
  go_enter Ybad.func4, Ybad.ntmps4
  go_wp2_with fail
  refine hcl.mono ?_
  rintro e w1 ⟨v1, rfl, ⟨q, d, rfl, hqd, hq⟩, b1⟩
  clear hcl
  have g01 := cell_later b1 g0
  have g11 := cell_later b1 g1
  go_wp2_with fail
  refine (uint_any w1 q d l a0 a1 hq hqd (by omega) g01 g11).mono ?_
  rintro e w2 ⟨r, q2, m2, d2, err, rfl, x0, x1, _, bel, hread⟩
  have HR := hid hread
  have g0' := cell_later bel g01
  have g1' := cell_later bel g11
  have hin2 := bytesIn_below (bytesIn_below hin b1) bel
  have bb := b1.trans (bel.mono b1.size)
  clear g01 g11 hq b1 bel hread g0 g1 hin
  go_wp2_with fail
  go_loop [8, 9, 10, 11, 12] (fun vx vs vn vb vi => ∃ (k acc : Nat) (y : Int), vi = .int .i64 k ∧ vs = .int .u64 ((7 * k : Nat) : Int) ∧ vx = .int .u64 y ∧ vn = .int .i64 0 ∧ vb = .bool false ∧ k ≤ 10 ∧ k ≤ l.length ∧ (k < 10 → y = (acc : Int) ∧ acc < 2 ^ (7 * k)) ∧ Lib.uvarintDec l = Lib.uvarintFrom k acc (l.drop k))
    (fun _ _ _ _ vi => l.length - (intOf vi).toNat)
  case atStart => exact ⟨0, 0, 0, rfl, rfl, rfl, rfl, rfl, by omega, by omega, fun _ => ⟨rfl, by decide⟩, rfl⟩
  case round =>
    obtain ⟨k, acc, y, rfl, rfl, rfl, rfl, rfl, hk10, hkn, hacc, hdec⟩ := hrel
    by_cases hk : k < l.length
    · obtain ⟨g, o, rfl, hx⟩ := hin2 (by omega)
      clear hx
      have hc := cell_at_nums hin2 hk
      have hlk : l[k]? = some l[k] := List.getElem?_eq_getElem hk
      have hdrop : l.drop k = l[k]'(by omega) :: l.drop (k + 1) := List.drop_eq_getElem_cons (by omega)
      rw [hdrop] at hdec
      generalize l[k]'(by omega) = b at hc hdec hlk
      have hb256 : b.toNat < 256 := b.toNat_lt
      clear hdrop
      by_cases hk10' : k = 10
      · subst hk10'
        obtain ⟨rfl, rfl, rfl, hq2⟩ := read_short HR.out (by rw [hdec]; simp [Lib.uvarintFrom])
        have he := fun k => equal_any (w2.drewN k) q2 _ d2 c _ _ l l (bytesIn_drewN hq2 k) (bytesIn_drewN hin2 k) rfl rfl rfl
        clear hin2 hq2 HR hdec hacc hlk
        go_wp2_with fail
        go_quiet ((go_at_call 9; exact Calls.quiet_of_same (he _)))
        go_wp2
        go_ret
        exact ⟨rfl, below_drewN bb _⟩
      · have hk9 : k < 10 := by omega
        have hne : (((k : Int)) == 10) = false := by simp; omega
        obtain ⟨rfl, hacc'⟩ := hacc hk9
        clear hacc
        have hacc := hacc'
        clear hacc'
        by_cases hb : b.toNat < 128
        · have hb' : ((b.toNat : Nat) : Int) < 128 := by omega
          by_cases h9 : k = 9 ∧ 1 < b.toNat
          · obtain ⟨rfl, hb1⟩ := h9
            obtain ⟨rfl, rfl, rfl, hq2⟩ := read_short HR.out (by rw [hdec]; simp [Lib.uvarintFrom, hb, hb1])
            have he := fun k => equal_any (w2.drewN k) q2 _ d2 c _ _ l l (bytesIn_drewN hq2 k) (bytesIn_drewN hin2 k) rfl rfl rfl
            clear hin2 hq2 HR hdec hacc hlk
            have hb1' : (1 : Int) < ((b.toNat : Nat) : Int) := by omega
            go_wp2_with fail
            go_quiet ((go_at_call 9; exact Calls.quiet_of_same (he _)))
            go_wp2
            go_ret
            exact ⟨rfl, below_drewN bb _⟩
          · have hF : Lib.uvarintDec l = (acc + b.toNat * 2 ^ (7 * k), ((k + 1 : Nat) : Int)) := by
              rw [hdec, Lib.uvarintFrom, if_neg hk10', if_pos hb, if_neg h9]; simp
            have hor := or_shift k acc b.toNat (by omega) hacc hb (by omega)
            have hF1 : (Lib.uvarintDec l).1 = acc + b.toNat * 2 ^ (7 * k) := by rw [hF]
            have hF2 : (Lib.uvarintDec l).2 = ((k + 1 : Nat) : Int) := by rw [hF]
            generalize acc + b.toNat * 2 ^ (7 * k) = X at *
            by_cases hp : 0 < k ∧ b = 0
            · obtain ⟨hk0, rfl⟩ := hp
              obtain ⟨rfl, rfl, rfl, hq2⟩ := read_pad HR.out k hF2 hk0 hlk
              have he := fun k => equal_any (w2.drewN k) q2 _ d2 c _ _ l l (bytesIn_drewN hq2 k) (bytesIn_drewN hin2 k) rfl rfl rfl
              clear hin2 hq2 HR hdec hacc hlk hF1 hF2 hF
              have hc0 : w2.cell? ⟨g, o + k, none⟩ = some (.int .u8 0) := hc
              clear hc hor hb hb' hb256
              by_cases h99 : k = 9
              · subst h99
                go_wp2_with fail
                go_quiet ((go_at_call 9; exact Calls.quiet_of_same (he _)))
                go_wp2
                go_ret
                exact ⟨rfl, below_drewN bb _⟩
              · have h9e : ((k : Int) == 9) = false := by simp; omega
                go_wp2_with fail
                go_quiet ((go_at_call 9; exact Calls.quiet_of_same (he _)))
                go_wp2
                go_ret
                exact ⟨rfl, below_drewN bb _⟩
            · obtain ⟨hr, rfl, rfl, hq2⟩ := read_val HR.out k hF2 (fun h0 h => hp ⟨h0, by rw [hlk] at h; exact Option.some.inj h⟩)
              rw [hF1] at hr
              subst hr
              have hz : 0 < k → ((b.toNat : Int) == 0) = false := by
                intro h0
                have : b ≠ 0 := fun h => hp ⟨h0, h⟩
                have : b.toNat ≠ 0 := fun h => this (UInt8.toNat_inj.1 (by simpa using h))
                simpa using this
              have hdl : (l.drop (k + 1)).length = l.length - (k + 1) := List.length_drop
              have hin3 : k + 1 < l.length → Lib.BytesIn w2 (some ⟨g, o + (k + 1), none⟩) (l.drop (k + 1)).length (nums (l.drop (k + 1))) := by
                intro h1 h2
                refine ⟨g, o + (k + 1), rfl, fun i hi => ?_⟩
                rw [hdl] at hi
                have h3 := cell_at_nums hin2 (k := k + 1 + i) (by omega)
                rw [nums_getD _ _ (by rw [List.length_drop]; omega), List.getElem_drop, ← h3, Nat.add_assoc]
              have he : ∀ j, Calls Ybad.prog 9 #[.slice q2 (l.length - (k + 1)) d2, .slice (if c = k + 1 then some ⟨g, o, none⟩ else some ⟨g, o + (k + 1), none⟩) (l.length - (k + 1)) (c - (k + 1))] (w2.drewN j) fun e w' => e = .returned (.bool true) ∧ w' = w2.drewN j := by
                intro j
                refine equal_any (w2.drewN j) q2 _ d2 _ _ _ (l.drop (k + 1)) (l.drop (k + 1)) (bytesIn_drewN hq2 j) ?_ hdl.symm hdl.symm rfl
                refine bytesIn_drewN ?_ j
                by_cases h1 : k + 1 < l.length
                · rw [if_neg (by omega)]
                  exact hin3 h1
                · have h2 : (l.drop (k + 1)).length = 0 := by omega
                  rw [h2]
                  exact Lib.BytesIn.nil _ _ _
              rw [hdl] at x0
              clear hin2 hq2 HR hdec hacc hlk hF1 hF2 hF hin3 hdl hp
              by_cases h99 : k = 9
              · subst h99
                have hz1 := hz (by omega)
                have hb2 : ((b.toNat : Nat) : Int) ≤ 1 := by omega
                clear hz
                have hor9 : bits .or .u64 (acc : Int) ((b.toNat : Int) * 9223372036854775808) = (r : Int) := by
                  rw [← hor]
                  simp (disch := omega) only [u64_wrap_id, Nat.reduceMul, Int.reducePow]
                clear hor
                simp only [Nat.reduceAdd] at he x0
                by_cases hck : c = 10
                · subst hck
                  simp only [if_pos, Nat.reduceSub] at he
                  clear hlc
                  go_wp2_with fail
                  go_quiet ((go_at_call 9; exact Calls.quiet_of_same (he _)))
                  go_wp2
                  go_ret
                  exact ⟨rfl, below_drewN bb _⟩
                · simp only [if_neg hck] at he
                  go_wp2_with fail
                  go_quiet ((go_at_call 9; exact Calls.quiet_of_same (he _)))
                  go_wp2
                  go_ret
                  exact ⟨rfl, below_drewN bb _⟩
              · have h9e : ((k : Int) == 9) = false := by simp; omega
                rcases Nat.eq_zero_or_pos k with rfl | hk0
                · clear hz
                  have horK : bits .or .u64 (acc : Int) (b.toNat : Int) = (r : Int) := by
                    rw [← hor]
                    simp (disch := omega) only [u64_wrap_id, Nat.mul_zero, Int.pow_zero, Int.mul_one]
                  clear hor
                  have hcz : w2.cell? ⟨g, o, none⟩ = some (.int .u8 (b.toNat : Int)) := hc
                  simp only [Nat.zero_add] at he x0
                  clear hc
                  by_cases hck : c = 1
                  · subst hck
                    simp only [if_pos, Nat.reduceSub] at he
                    clear hlc
                    go_wp2_with fail
                    go_quiet ((go_at_call 9; exact Calls.quiet_of_same (he _)))
                    go_wp2
                    go_ret
                    exact ⟨rfl, below_drewN bb _⟩
                  · simp only [if_neg hck] at he
                    go_wp2_with fail
                    go_quiet ((go_at_call 9; exact Calls.quiet_of_same (he _)))
                    go_wp2
                    go_ret
                    exact ⟨rfl, below_drewN bb _⟩
                · have hz1 := hz hk0
                  clear hz
                  have horK : bits .or .u64 (acc : Int) (IntKind.u64.wrap ((b.toNat : Int) * 2 ^ (7 * k))) = (r : Int) := by
                    rw [← hor]
                    simp (disch := omega) only [u64_wrap_id]
                  clear hor
                  by_cases hck : c = k + 1
                  · subst hck
                    simp only [if_pos, Nat.sub_self] at he
                    clear hlc
                    go_wp2_with fail
                    go_quiet ((go_at_call 9; exact Calls.quiet_of_same (he _)))
                    go_wp2
                    go_ret
                    exact ⟨rfl, below_drewN bb _⟩
                  · simp only [if_neg hck] at he
                    go_wp2_with fail
                    go_quiet ((go_at_call 9; exact Calls.quiet_of_same (he _)))
                    go_wp2
                    go_ret
                    exact ⟨rfl, below_drewN bb _⟩
        · have hb' : (128 : Int) ≤ ((b.toNat : Nat) : Int) := by omega
          clear hlk HR hin2
          go_wp2_with fail
          rw [Lib.uvarintFrom, if_neg hk10', if_neg hb] at hdec
          refine ⟨⟨k + 1, _, _, by go_num, by go_num, rfl, rfl, rfl, by omega, by omega, ?_, hdec⟩, by simp [intOf]; omega⟩
          intro h10
          refine ⟨?_, shift_lt k acc _ hacc (by omega)⟩
          rw [u8_and127 _ (by omega) (by omega)]
          have := or_shift k acc (b.toNat % 128) (by omega) hacc (by omega) (by omega)
          rw [← this]
          congr 4
    · obtain rfl : k = l.length := by omega
      obtain ⟨rfl, rfl, rfl, hq2⟩ := read_short HR.out (by rw [hdec]; simp [Lib.uvarintFrom])
      have he := fun k => equal_any (w2.drewN k) q2 _ d2 c _ _ l l (bytesIn_drewN hq2 k) (bytesIn_drewN hin2 k) rfl rfl rfl
      clear hin2 hq2 HR hdec hacc
      go_wp2_with fail
      go_quiet ((go_at_call 9; exact Calls.quiet_of_same (he _)))
      go_wp2
      go_ret
      exact ⟨rfl, below_drewN bb _⟩
end Go.Proofs.YbulkggoDoor
