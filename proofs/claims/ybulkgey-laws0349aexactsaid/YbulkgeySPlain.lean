/- Sync: the plain side: the writes by their codes. -/
import Derived.Test.YbulkgeyMRuns
namespace Go.Proofs.Ybulkgey
open Go.RowKit
set_option linter.unusedVariables false

/-- The write of a code: 16 times the node, and the counter. -/
def mkW (c : Nat) : Wr := ⟨an (c / 16), ((c % 16 : Nat) : Int), (c : Int)⟩
def cds : List Nat := (List.range 4).flatMap fun k => (List.range 8).map fun j => k * 16 + (j + 1)
/-- The codes that P holds, in order. -/
def codes (P : Nat → Bool) : List Nat := cds.filter P
def wlK (P : Nat → Bool) (k n : Nat) : List Nat := ((List.range n).map fun j => k * 16 + (j + 1)).filter P
def wl (P : Nat → Bool) (k : Nat) : List Nat := (List.range k).flatMap fun k => wlK P k 8
theorem wl_four (P : Nat → Bool) : wl P 4 = codes P := by simp [wl, wlK, codes, cds, List.filter_flatMap]
theorem wl_succ (P : Nat → Bool) (k : Nat) : wl P (k + 1) = wl P k ++ wlK P k 8 := by simp [wl, List.range_succ, List.flatMap_append]
theorem wlK_zero (P : Nat → Bool) (k : Nat) : wlK P k 0 = [] := rfl
theorem wlK_yes {P : Nat → Bool} {k n : Nat} (h : P (k * 16 + (n + 1)) = true) : wlK P k (n + 1) = wlK P k n ++ [k * 16 + (n + 1)] := by simp [wlK, List.range_succ, List.filter_append, h]
theorem wlK_no {P : Nat → Bool} {k n : Nat} (h : P (k * 16 + (n + 1)) = false) : wlK P k (n + 1) = wlK P k n := by simp [wlK, List.range_succ, List.filter_append, h]
theorem wlK_pre (P : Nat → Bool) (k : Nat) : ∀ {n m : Nat}, n ≤ m → wlK P k n <+: wlK P k m := by
  intro n m h
  induction m with
  | zero => obtain rfl : n = 0 := by omega
            exact List.prefix_refl _
  | succ m ih =>
    by_cases e : n = m + 1
    · subst e; exact List.prefix_refl _
    · refine (ih (by omega)).trans ?_
      cases hp : P (k * 16 + (m + 1))
      · rw [wlK_no hp]; exact List.prefix_refl _
      · rw [wlK_yes hp]; exact List.prefix_append _ _
theorem wl_pre (P : Nat → Bool) : ∀ {k m : Nat}, k ≤ m → wl P k <+: wl P m := by
  intro k m h
  induction m with
  | zero => obtain rfl : k = 0 := by omega
            exact List.prefix_refl _
  | succ m ih =>
    by_cases e : k = m + 1
    · subst e; exact List.prefix_refl _
    · refine (ih (by omega)).trans ?_
      rw [wl_succ]; exact List.prefix_append _ _
/-- The code that comes next in the list. -/
theorem wl_next {P : Nat → Bool} {k n : Nat} (hk : k < 4) (hn : n < 8) (h : P (k * 16 + (n + 1)) = true) : (codes P)[(wl P k ++ wlK P k n).length]? = some (k * 16 + (n + 1)) := by
  have h1 : wl P k ++ wlK P k (n + 1) <+: codes P := by
    rw [← wl_four]
    refine List.IsPrefix.trans ?_ (wl_pre P (show k + 1 ≤ 4 by omega))
    rw [wl_succ]
    obtain ⟨t, ht⟩ := wlK_pre P k (show n + 1 ≤ 8 by omega)
    exact ⟨t, by rw [← ht, List.append_assoc]⟩
  obtain ⟨t, ht⟩ := h1
  rw [← ht, wlK_yes h]
  simp
theorem cds_lt : cds.Pairwise (· < ·) := by decide
theorem cds_mem : ∀ c ∈ cds, c < 64 ∧ 1 ≤ c % 16 ∧ c % 16 ≤ 8 := by decide
theorem codes_lt (P : Nat → Bool) : (codes P).Pairwise (· < ·) := cds_lt.filter _
theorem codes_mem {P : Nat → Bool} {c : Nat} (h : c ∈ codes P) : c < 64 ∧ 1 ≤ c % 16 ∧ c % 16 ≤ 8 ∧ P c = true := by
  unfold codes at h
  rw [List.mem_filter] at h
  have := cds_mem c h.1
  exact ⟨this.1, this.2.1, this.2.2, h.2⟩
theorem mem_cds {k n : Nat} (hk : k < 4) (hn : n < 8) : k * 16 + (n + 1) ∈ cds := by
  unfold cds
  rw [List.mem_flatMap]
  exact ⟨k, by simpa using hk, by rw [List.mem_map]; exact ⟨n, by simpa using hn, rfl⟩⟩
theorem cds_code : ∀ c ∈ cds, ∃ k n, k < 4 ∧ n < 8 ∧ c = k * 16 + (n + 1) := by
  intro c hc
  unfold cds at hc
  rw [List.mem_flatMap] at hc
  obtain ⟨k, hk, hc⟩ := hc
  rw [List.mem_map] at hc
  obtain ⟨n, hn, rfl⟩ := hc
  exact ⟨k, n, by simpa using hk, by simpa using hn, rfl⟩
theorem codes_len (P : Nat → Bool) : (codes P).length ≤ 32 := List.length_filter_le _ _
theorem codes_congr {P Q : Nat → Bool} (h : ∀ c ∈ cds, P c = Q c) : codes P = codes Q := List.filter_congr h

/-- The byte arrays' writes. -/
def holdP (f m : Nat → Int) (c : Nat) : Bool := hold (f (c / 16)) (m (c / 16)) (c % 16)
theorem wrK_codes (f m : Nat → Int) (k n : Nat) (h : n ≤ 8) : wrK f m k n = (wlK (holdP f m) k n).map mkW := by
  unfold wrK wlK
  rw [List.filter_map, List.map_map]
  have e : (List.range n).filter (fun j => hold (f k) (m k) (j + 1)) = (List.range n).filter ((holdP f m) ∘ fun j => k * 16 + (j + 1)) := by
    apply List.filter_congr
    intro j hj
    rw [List.mem_range] at hj
    simp only [Function.comp, holdP]
    rw [show (k * 16 + (j + 1)) / 16 = k by omega, show (k * 16 + (j + 1)) % 16 = j + 1 by omega]
  rw [e]
  apply List.map_congr_left
  intro j hj
  rw [List.mem_filter, List.mem_range] at hj
  simp only [Function.comp, mkW]
  rw [show (k * 16 + (j + 1)) / 16 = k by omega, show (k * 16 + (j + 1)) % 16 = j + 1 by omega]
  congr 1 <;> omega
theorem wrs_codes (f m : Nat → Int) : wrs f m 4 = (codes (holdP f m)).map mkW := by
  rw [← wl_four]
  unfold wrs wl
  rw [List.map_flatMap]
  congr 1
  funext k
  exact wrK_codes f m k 8 (Nat.le_refl _)

/-- The codes' order is the dots'. -/
theorem an_cmp : ∀ p, p < 4 → ∀ q, q < 4 → Lib.compareBytes (an p).data.toList (an q).data.toList = if p < q then -1 else if q < p then 1 else 0 := by decide
theorem dot_code {a b : Nat} (ha : a < 64) (hb : b < 64) : dotCmp (mkW a).s (mkW a).c (mkW b).s (mkW b).c = if a < b then -1 else if b < a then 1 else 0 := by
  unfold dotCmp mkW
  dsimp only
  rw [an_cmp (a / 16) (by omega) (b / 16) (by omega)]
  unfold cmpI
  have h1 : a % 16 + 16 * (a / 16) = a := Nat.mod_add_div a 16
  have h2 : b % 16 + 16 * (b / 16) = b := Nat.mod_add_div b 16
  rcases Nat.lt_trichotomy (a / 16) (b / 16) with h3 | h3 | h3
  · rw [if_pos h3, if_pos (by decide), if_pos (by omega)]
  · rw [if_neg (show ¬ a / 16 < b / 16 by omega), if_neg (show ¬ b / 16 < a / 16 by omega), if_neg (show ¬ ((0 : Int) ≠ 0) by decide)]
    by_cases h4 : a % 16 < b % 16
    · rw [if_pos (show ((a % 16 : Nat) : Int) < ((b % 16 : Nat) : Int) by omega), if_pos (show a < b by omega)]
    · rw [if_neg (show ¬ ((a % 16 : Nat) : Int) < ((b % 16 : Nat) : Int) by omega), if_neg (show ¬ a < b by omega)]
      by_cases h5 : b % 16 < a % 16
      · rw [if_pos (show ((b % 16 : Nat) : Int) < ((a % 16 : Nat) : Int) by omega), if_pos (show b < a by omega)]
      · rw [if_neg (show ¬ ((b % 16 : Nat) : Int) < ((a % 16 : Nat) : Int) by omega), if_neg (show ¬ b < a by omega)]
  · rw [if_neg (show ¬ a / 16 < b / 16 by omega), if_pos h3, if_pos (by decide), if_neg (show ¬ a < b by omega), if_pos (show b < a by omega)]
theorem wc_code {a b : Nat} (ha : a < 64) (hb : b < 64) : wc (mkW a) (mkW b).s (mkW b).c = if a < b then -1 else if b < a then 1 else 0 := dot_code ha hb

/-- Where a code stands, or would stand, in the list. -/
def place (P : Nat → Bool) (c : Nat) : Nat := ((codes P).filter fun x => decide (x < c)).length
theorem sorted_place : ∀ (l : List Nat) (c : Nat), l.Pairwise (· < ·) → ∀ j (hj : j < l.length), (l[j] < c ↔ j < (l.filter fun x => decide (x < c)).length)
  | [], _, _, j, hj => by simp at hj
  | x :: l, c, h, j, hj => by
    rw [List.pairwise_cons] at h
    by_cases hx : x < c
    · rw [List.filter_cons_of_pos (by simpa using hx)]
      cases j with
      | zero => simp [hx]
      | succ j =>
        have := sorted_place l c h.2 j (by simpa using hj)
        simp only [List.getElem_cons_succ, List.length_cons]
        omega
    · have hn : l.filter (fun x => decide (x < c)) = [] := by
        rw [List.filter_eq_nil_iff]
        intro y hy
        have := h.1 y hy
        simp; omega
      rw [List.filter_cons_of_neg (by simpa using hx), hn]
      cases j with
      | zero => simp [hx]
      | succ j =>
        have := h.1 _ (List.getElem_mem (l := l) (n := j) (by simpa using hj))
        simp only [List.getElem_cons_succ, List.length_nil]
        omega
theorem place_le (P : Nat → Bool) (c : Nat) : place P c ≤ (codes P).length := List.length_filter_le _ _
theorem place_lt (P : Nat → Bool) {c : Nat} (hc : c < 64) (j : Nat) (hj : j < ((codes P).map mkW).length) : wc ((codes P).map mkW)[j] (mkW c).s (mkW c).c < 0 ↔ j < place P c := by
  have hj' : j < (codes P).length := by simpa using hj
  rw [List.getElem_map, wc_code (codes_mem (List.getElem_mem hj')).1 hc]
  refine Iff.trans ?_ (sorted_place (codes P) c (codes_lt P) j hj')
  generalize (codes P)[j] = x
  split
  · simp [*]
  · split <;> simp [*]
theorem place_found (P : Nat → Bool) {c : Nat} (hc : c ∈ cds) : decide (∃ h : place P c < ((codes P).map mkW).length, wc ((codes P).map mkW)[place P c] (mkW c).s (mkW c).c = 0) = P c := by
  have hc64 := (cds_mem c hc).1
  cases hp : P c
  · rw [decide_eq_false]
    rintro ⟨h, e⟩
    have h' : place P c < (codes P).length := by simpa using h
    rw [List.getElem_map, wc_code (codes_mem (List.getElem_mem h')).1 hc64] at e
    have hm := codes_mem (List.getElem_mem h')
    have e2 : (codes P)[place P c] = c := by
      generalize (codes P)[place P c] = x at *
      split at e
      · cases e
      · split at e
        · cases e
        · omega
    rw [e2] at hm
    rw [hm.2.2.2] at hp
    cases hp
  · rw [decide_eq_true]
    have hm : c ∈ codes P := by unfold codes; rw [List.mem_filter]; exact ⟨hc, hp⟩
    obtain ⟨j, hj, e⟩ := List.getElem_of_mem hm
    have h1 := sorted_place (codes P) c (codes_lt P) j hj
    have hpl : place P c = j := by
      have a1 : ¬ j < place P c := fun h => by have := h1.2 h; omega
      have a2 : ¬ place P c < j := fun h => by
        have h2 := sorted_place (codes P) c (codes_lt P) (place P c) (by omega)
        have h3 : (codes P)[place P c] < (codes P)[j] := List.pairwise_iff_getElem.1 (codes_lt P) _ _ (by omega) hj h
        rw [e] at h3
        have := h2.1 h3
        exact absurd this (Nat.lt_irrefl _)
      omega
    refine ⟨by rw [hpl]; simpa using hj, ?_⟩
    rw [List.getElem_map, wc_code (codes_mem (List.getElem_mem (by rw [hpl]; exact hj))).1 hc64]
    have : (codes P)[place P c]'(by rw [hpl]; exact hj) = c := by
      have : ∀ q (hq : q < (codes P).length), q = j → (codes P)[q] = c := fun q hq e' => by subst e'; exact e
      exact this _ _ hpl
    rw [this, if_neg (by omega), if_neg (by omega)]

/-- The clock's counter of a node. -/
theorem takeWhile_none {α : Type} {p : α → Bool} : ∀ {l : List α}, (∀ x ∈ l, p x = false) → l.takeWhile p = []
  | [], _ => rfl
  | x :: l, h => by simp [h x (by simp)]
theorem seg_mem {f : Nat → Int} {t u k : Nat} (h : k ∈ seg f t u) : t ≤ k ∧ k < u ∧ has f k = true := by
  unfold seg at h
  rw [List.mem_filter, List.mem_range'_1] at h
  exact ⟨h.1.1, by omega, h.2⟩
theorem NA_idx (f : Nat → Int) {k : Nat} (hk : k < 4) : idx (NA f 4) (an k) = cn f k := by
  unfold idx
  rw [NA_seg, ← seg_append f (Nat.zero_le k) (Nat.le_of_lt hk), List.map_append]
  rw [List.takeWhile_append_of_pos (fun x hx => by
    rw [List.mem_map] at hx
    obtain ⟨p, hp, rfl⟩ := hx
    have := seg_mem hp
    rw [an_less p (by omega) k hk]; simp; omega)]
  rw [takeWhile_none (fun x hx => by
    rw [List.mem_map] at hx
    obtain ⟨p, hp, rfl⟩ := hx
    have := seg_mem hp
    rw [an_less p (by omega) k hk]; simp; omega)]
  have := seg_len f (Nat.zero_le k)
  rw [cn_zero] at this
  simp; omega
theorem NA_order (f : Nat → Int) {k : Nat} (hk : k < 4) (j : Nat) (hj : j < (NA f 4).length) : lessB (NA f 4)[j] (an k) = decide (j < idx (NA f 4) (an k)) := by
  rw [NA_idx f hk]
  have hl := seg_len f (Nat.zero_le k)
  rw [cn_zero] at hl
  have e : ∀ x, (NA f 4)[j]? = some x → lessB x (an k) = decide (j < cn f k) := by
    intro x hx
    rw [NA_seg, ← seg_append f (Nat.zero_le k) (Nat.le_of_lt hk), List.map_append] at hx
    by_cases h : j < cn f k
    · rw [List.getElem?_append_left (by simp; omega), List.getElem?_map] at hx
      rw [Option.map_eq_some_iff] at hx
      obtain ⟨p, hp, rfl⟩ := hx
      have := seg_mem (List.mem_of_getElem? hp)
      rw [an_less p (by omega) k hk]; simp; omega
    · rw [List.getElem?_append_right (by simp; omega), List.getElem?_map] at hx
      rw [Option.map_eq_some_iff] at hx
      obtain ⟨p, hp, rfl⟩ := hx
      have := seg_mem (List.mem_of_getElem? hp)
      rw [an_less p (by omega) k hk]; simp; omega
  exact e _ (List.getElem?_eq_getElem hj)
theorem NA_get (f : Nat → Int) {k : Nat} (hk : k < 4) : getC (NA f 4) (CA f 4) (an k) = f k % 9 := by
  unfold getC
  rw [NA_idx f hk]
  have hl := seg_len f (Nat.zero_le k)
  rw [cn_zero] at hl
  have e1 : (NA f 4)[cn f k]? = ((seg f k 4).map an)[0]? := by
    rw [NA_seg, ← seg_append f (Nat.zero_le k) (Nat.le_of_lt hk), List.map_append, List.getElem?_append_right (by simp; omega)]
    congr 1; simp; omega
  have e2 : (CA f 4)[cn f k]? = ((seg f k 4).map fun q => f q % 9)[0]? := by
    rw [CA_seg, ← seg_append f (Nat.zero_le k) (Nat.le_of_lt hk), List.map_append, List.getElem?_append_right (by simp; omega)]
    congr 1; simp; omega
  rw [e1, List.getD_eq_getElem?_getD, e2, ← seg_append f (Nat.le_succ k) (show k + 1 ≤ 4 by omega)]
  have e3 : seg f k (k + 1) = if has f k = true then [k] else [] := by
    unfold seg
    rw [show k + 1 - k = 1 by omega]
    simp [List.range'_succ, List.filter_cons]
  cases hh : has f k
  · have h0 := not_has hh
    rw [hh] at e3
    rw [e3, h0]
    show (if (List.map an ([] ++ seg f (k + 1) 4))[0]? = some (an k) then _ else _) = _
    rw [List.nil_append]
    cases hs : seg f (k + 1) 4 with
    | nil => simp
    | cons q l =>
      have := seg_mem (show q ∈ seg f (k + 1) 4 by rw [hs]; simp)
      rw [if_neg]
      simp only [List.map_cons, List.getElem?_cons_zero, Option.some.injEq]
      intro he
      have := an_inj (by omega) hk he
      omega
  · rw [hh] at e3
    rw [e3]
    simp

/-- The two lists that Sync appends, and the one that it sorts them into. -/
def keep1 (Q : Nat → Bool) (d : Nat → Int) (c : Nat) : Bool := decide (d (c / 16) % 9 < ((c % 16 : Nat) : Int)) || Q c
def keep2 (f : Nat → Int) (c : Nat) : Bool := decide (f (c / 16) % 9 < ((c % 16 : Nat) : Int))
def syncP (f d : Nat → Int) (P Q : Nat → Bool) (c : Nat) : Bool := (P c && keep1 Q d c) || (Q c && keep2 f c)
theorem filter_two (a b : Nat → Bool) : ∀ (l : List Nat), (∀ x ∈ l, a x = true → b x = false) → (l.filter a ++ l.filter b).Perm (l.filter fun x => a x || b x)
  | [], _ => List.Perm.refl _
  | x :: l, h => by
    have ih := filter_two a b l (fun y hy => h y (by simp [hy]))
    cases ha : a x
    · cases hb : b x
      · simp [ha, hb, ih]
      · simp only [List.filter_cons, ha, hb, Bool.false_eq_true, if_false, if_true, Bool.or_true]
        exact List.perm_middle.trans (ih.cons x)
    · have hb := h x (by simp) ha
      simp [ha, hb, ih]
/-- The context covers the writes. -/
def Cov (f : Nat → Int) (P : Nat → Bool) : Prop := ∀ c ∈ cds, P c = true → ((c % 16 : Nat) : Int) ≤ f (c / 16) % 9
theorem sync_perm {f d : Nat → Int} {P Q : Nat → Bool} (hf : Cov f P) : ((codes P).filter (keep1 Q d) ++ (codes Q).filter (keep2 f)).Perm (codes (syncP f d P Q)) := by
  unfold codes
  rw [List.filter_filter, List.filter_filter]
  have := filter_two (fun c => keep1 Q d c && P c) (fun c => keep2 f c && Q c) cds (fun c hc h => by
    simp only [Bool.and_eq_true] at h
    have := hf c hc h.2
    unfold keep2
    rw [decide_eq_false (by omega)]; rfl)
  refine this.trans ?_
  rw [List.filter_congr (q := syncP f d P Q)]
  intro c _
  unfold syncP
  rw [Bool.and_comm (P c), Bool.and_comm (Q c)]
theorem sync_cov {f d : Nat → Int} {P Q : Nat → Bool} (hf : Cov f P) (hd : Cov d Q) : Cov (mx f d) (syncP f d P Q) := by
  intro c hc h
  rw [mx_mod]
  unfold syncP at h
  simp only [Bool.or_eq_true, Bool.and_eq_true] at h
  rcases h with h | h
  · have := hf c hc h.1; omega
  · have := hd c hc h.1; omega
theorem hold_cov (f m : Nat → Int) : Cov f (holdP f m) := by
  intro c hc h
  unfold holdP hold at h
  simp only [Bool.and_eq_true, decide_eq_true_eq] at h
  exact h.2.1
end Go.Proofs.Ybulkgey
