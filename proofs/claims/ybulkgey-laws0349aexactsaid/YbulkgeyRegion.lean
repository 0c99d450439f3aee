/- A region that draws its order, walked once: first the operations that give one value in every world of a class D and leave the world alone; then the others, one behind the other, each of which is forced. -/
import Derived.WalkKit
import Derived.Orders
namespace Go.Proofs.Ybulkgey
open Go

section
variable {P : Program} {ops : Array Oper} {Q : Exit → Act → World → Prop} {md : Region.Mode} {D : World → Prop} {late : Nat → Bool}

/-- In every world of D the operation leaves 'v' in its temporary, and the world as it is. -/
def YieldsD (P : Program) (ops : Array Oper) (D : World → Prop) (o : Oper) (v : Value) (a : Act) : Prop :=
  (Region.wanted o (yielded ops a.tmps) = true ∧ ∀ w, D w → (execOp a.eval o).run P w = .ok (.value v) w) ∨ (Region.wanted o (yielded ops a.tmps) = false ∧ v = undef)

/-- 'wpAny', and behind each operation that is not late the world is of D. -/
def wpAnyD (P : Program) (md : Region.Mode) (ops : Array Oper) (D : World → Prop) (late : Nat → Bool) (Q : Exit → Act → World → Prop) : Nat → Array Bool → Act → World → Prop
  | 0, listed, a, w => Region.ready md ops listed = [] ∧ Q .normal a w
  | fuel + 1, listed, a, w => (Region.ready md ops listed = [] → Q .normal a w) ∧
    ∀ i ∈ Region.ready md ops listed, wpOp P ops Q i (fun a' w' => (late i = false → D w') ∧ wpAnyD P md ops D late Q fuel (listed.setIfInBounds i true) a' w') a w

theorem wpAnyD.any : ∀ (fuel : Nat) (listed : Array Bool) (a : Act) (w : World), wpAnyD P md ops D late Q fuel listed a w → wpAny P md ops Q fuel listed a w
  | 0, _, _, _, h => h
  | fuel + 1, _, _, _, h => ⟨h.1, fun i hi => wpOp_mono (fun a' w' hk => wpAnyD.any fuel _ a' w' hk.2) (h.2 i hi)⟩

theorem YieldsD.same {o : Oper} {v : Value} {a a' : Act} (hy : YieldsD P ops D o v a) (he : execOp a'.eval o = execOp a.eval o) (hw : Region.wanted o (yielded ops a'.tmps) = Region.wanted o (yielded ops a.tmps)) : YieldsD P ops D o v a' := by
  unfold YieldsD at *
  rw [he, hw]
  exact hy

theorem YieldsD.wpOp {i : Nat} {o : Oper} {v : Value} {a : Act} {w : World} (hi : ops[i]? = some o) (hy : YieldsD P ops D o v a) (hD : D w) {K : Act → World → Prop} (h : K (a.put o.dst v) w) : Go.wpOp P ops Q i K a w := by
  unfold Go.wpOp
  simp only [hi]
  rcases hy with ⟨hw, hv⟩ | ⟨hw, rfl⟩
  · simp only [hw, if_true, Oper.wp, hv w hD, Oper.upon]; exact .inl h
  · simp only [hw, Bool.false_eq_true, if_false]; exact h

/-- What another operation does, does not hang on whether the value is there already. -/
theorem upon_put {oi oj : Oper} {v : Value} {a : Act} {K : Act → World → Prop} {Y : Act → Prop} (h2 : ∀ d, oi.dst = some d → oj.dst ≠ some d)
    (hQ : ∀ c a w, Q (.panic c) (a.put oi.dst v) w → Q (.panic c) a w) (keep : ∀ (a : Act), Y a → ∀ u, Y (a.put oj.dst u)) (keepD : ∀ d, Y { a with defers := d :: a.defers }) (hY : Y a) (r : Result Next)
    (h : oj.upon P (a.put oi.dst v) K Q r) : oj.upon P a (fun a' w' => Y a' ∧ K (a'.put oi.dst v) w') Q r := by
  have sw : ∀ u, (a.put oj.dst u).put oi.dst v = (a.put oi.dst v).put oj.dst u := fun u => (Act.put_comm a v u h2).symm
  cases r with
  | halt x w' => cases x <;> simp only [Oper.upon] at h ⊢ <;> exact hQ _ _ _ h
  | ok n w' =>
    cases n with
    | value u => exact ⟨keep a hY u, by rw [sw]; exact h⟩
    | skip => exact ⟨keep a hY _, by rw [sw]; exact h⟩
    | defer d =>
      refine ⟨keep _ (keepD d) _, ?_⟩
      have h' : K (({ a.put oi.dst v with defers := d :: (a.put oi.dst v).defers } : Act).put oj.dst undef) w' := h
      rw [Act.put_defers] at h'
      rw [← Act.put_comm _ v undef h2]
      exact h'
    | enter f args =>
      refine Calls.mono (show Calls P f args w' _ from h) fun e w'' he => ?_
      cases e with
      | returned u => exact ⟨keep a hY u, by rw [sw]; exact he⟩
      | panicked c => exact hQ _ _ _ he
      | outgrown => exact he
    | row row args => exact Rows.mono (show Rows P row args w' _ from h) fun u w'' he => ⟨keep a hY u, by rw [sw]; exact he⟩
    | _ => exact h

theorem wpOp_putD {j : Nat} {oi oj : Oper} {v : Value} (hj : ops[j]? = some oj) (hap : oi.apart ops oj = true) (hsi : ∀ cs b, oi.op ≠ .select cs b) (hsj : ∀ cs b, oj.op ≠ .select cs b)
    (hQ : ∀ c a w, Q (.panic c) (a.put oi.dst v) w → Q (.panic c) a w) {K : Act → World → Prop} {a : Act} {w : World} (hy : YieldsD P ops D oi v a) (h : wpOp P ops Q j K (a.put oi.dst v) w) :
    wpOp P ops Q j (fun a' w' => YieldsD P ops D oi v a' ∧ K (a'.put oi.dst v) w') a w := by
  obtain ⟨h1, h2, h3⟩ := Oper.apart_spec hap
  have keep : ∀ (a : Act), YieldsD P ops D oi v a → ∀ u, YieldsD P ops D oi v (a.put oj.dst u) := fun a hy u => hy.same (execOp_put oi hsi a oj.dst u h3) (wanted_put oi a oj.dst u h3)
  have keepD : ∀ d, YieldsD P ops D oi v { a with defers := d :: a.defers } := fun d => hy.same rfl rfl
  unfold wpOp at *
  simp only [hj] at *
  rw [wanted_put oj a oi.dst v h1] at h
  by_cases hw : Region.wanted oj (yielded ops a.tmps) = true
  · simp only [hw, if_true] at h ⊢
    rcases h with h | ⟨hasks, hlets⟩
    · refine .inl ?_
      unfold Oper.wp at *
      rw [execOp_put oj hsj a oi.dst v h1] at h
      exact upon_put h2 hQ keep keepD hy _ h
    · exact .inr ⟨by unfold Oper.asks at *; rw [execOp_put oj hsj a oi.dst v h1] at hasks; exact hasks, hlets⟩
  · simp only [hw] at h ⊢
    exact ⟨keep a hy _, by rw [← Act.put_comm a v undef h2]; exact h⟩

/-! ### What must have come up -/
/-- What operation j waits for, through at most n steps. -/
def anc (md : Region.Mode) (ops : Array Oper) : Nat → Nat → List Nat
  | 0, _ => []
  | n + 1, j => match ops[j]? with
    | none => []
    | some o => (o.after.toList.filter (Region.binds md)).flatMap fun e => e.on :: anc md ops n e.on

def Closed (md : Region.Mode) (ops : Array Oper) (listed : Array Bool) : Prop :=
  ∀ j o, listed.getD j false = true → ops[j]? = some o → ∀ e ∈ o.after, Region.binds md e = true → listed.getD e.on false = true

theorem Closed.anc {listed : Array Bool} (hc : Closed md ops listed) : ∀ (n j : Nat), (∀ o, ops[j]? = some o → ∀ e ∈ o.after, Region.binds md e = true → listed.getD e.on false = true) → ∀ i ∈ anc md ops n j, listed.getD i false = true
  | 0, _, _, i, hi => by simp [Ybulkgey.anc] at hi
  | n + 1, j, h, i, hi => by
    unfold Ybulkgey.anc at hi
    cases ho : ops[j]? with
    | none => rw [ho] at hi; simp at hi
    | some o =>
      rw [ho] at hi
      simp only [List.mem_flatMap, List.mem_filter, Array.mem_toList_iff, List.mem_cons] at hi
      obtain ⟨e, ⟨he, hb⟩, rfl | hi⟩ := hi
      · exact h o ho e he hb
      · exact Closed.anc hc n e.on (fun o' ho' e' he' hb' => hc e.on o' (h o ho e he hb) ho' e' he' hb') i hi

theorem Closed.set {listed : Array Bool} {i : Nat} (hc : Closed md ops listed) (hi : i ∈ Region.ready md ops listed) : Closed md ops (listed.setIfInBounds i true) := by
  obtain ⟨h0, o, ho, hall⟩ := mem_ready.1 hi
  intro j oj hj hoj e he hb
  refine getD_set_true ?_
  by_cases hij : i = j
  · subst hij
    rw [ho] at hoj
    cases hoj
    exact hall e he hb
  · rw [getD_set_ne false hij] at hj
    exact hc j oj hj hoj e he hb

/-- An operation that may come up, and yields its value in every world of D, may be taken first. -/
theorem wpAnyD_first {i n : Nat} {oi : Oper} {v : Value} (hi : ops[i]? = some oi) (hsel : ∀ (j : Nat) (o : Oper) cs b, ops[j]? = some o → o.op ≠ .select cs b)
    (hQ : ∀ c a w, Q (.panic c) (a.put oi.dst v) w → Q (.panic c) a w) (hlate : ∀ j, late j = true → i ∈ anc md ops n j) :
    ∀ (fuel : Nat) (listed : Array Bool) (a : Act) (w : World), Closed md ops listed →
      (∀ j oj, ops[j]? = some oj → j ≠ i → listed.getD j true = false → (∀ e ∈ oj.after, Region.binds md e = true → e.on ≠ i) → oi.apart ops oj = true) →
      i ∈ Region.ready md ops listed → YieldsD P ops D oi v a → D w →
      wpAnyD P md ops D late Q fuel (listed.setIfInBounds i true) (a.put oi.dst v) w → wpAnyD P md ops D late Q (fuel + 1) listed a w := by
  intro fuel
  induction fuel with
  | zero =>
    intro listed a w _ _ hr hy hD H
    refine ⟨fun h => (by rw [h] at hr; cases hr), fun j hj => ?_⟩
    by_cases hji : j = i
    · subst hji; exact hy.wpOp hi hD ⟨fun _ => hD, H⟩
    · have := ready_mono hj hji
      rw [H.1] at this
      cases this
  | succ fuel ih =>
    intro listed a w hcl hfree hr hy hD H
    refine ⟨fun h => (by rw [h] at hr; cases hr), fun j hj => ?_⟩
    by_cases hji : j = i
    · subst hji; exact hy.wpOp hi hD ⟨fun _ => hD, H⟩
    · have h1 := H.2 j (ready_mono hj hji)
      obtain ⟨hjun, oj, hoj, hall⟩ := mem_ready.1 hj
      have hiun : listed.getD i false = false := by
        have h0 := (mem_ready.1 hr).1
        rcases Nat.lt_or_ge i listed.size with h' | h'
        · simpa [h'] using h0
        · simp [Array.getElem?_eq_none h'] at h0
      have hnot : ∀ e ∈ oj.after, Region.binds md e = true → e.on ≠ i := fun e he hb heq => by
        have h1 := hall e he hb
        rw [heq, hiun] at h1
        cases h1
      have hjl : late j = false := by
        cases hl : late j
        · rfl
        · have := hcl.anc n j (fun o ho e he hb => by rw [hoj] at ho; cases ho; exact hall e he hb) i (hlate j hl)
          rw [hiun] at this
          cases this
      have h2 := wpOp_putD hoj (hfree j oj hoj hji hjun hnot) (fun cs b => hsel i oi cs b hi) (fun cs b => hsel j oj cs b hoj) hQ hy h1
      have hfree' : ∀ k ok, ops[k]? = some ok → k ≠ i → (listed.setIfInBounds j true).getD k true = false →
          (∀ e ∈ ok.after, Region.binds md e = true → e.on ≠ i) → oi.apart ops ok = true := fun k ok hk hki hun hno => by
        refine hfree k ok hk hki ?_ hno
        by_cases hjk : j = k
        · subst hjk; exact hjun
        · rw [getD_set_ne true hjk] at hun; exact hun
      refine wpOp_mono (fun a' w' h3 => ⟨fun _ => h3.2.1 hjl, ih (listed.setIfInBounds j true) a' w' (hcl.set hj) hfree' (ready_mono hr (Ne.symm hji)) h3.1 (h3.2.1 hjl) ?_⟩) h2
      rw [Array.setIfInBounds_comm _ _ hji]
      exact h3.2.2

/-! ### The walk: 'qs' first, then 'ts' -/
/-- The operations 'is', one behind the other, each one in the only world there is; behind each that is not late: D. -/
def wpTailD (P : Program) (ops : Array Oper) (D : World → Prop) (late : Nat → Bool) (Q : Exit → Act → World → Prop) : List Nat → Act → World → Prop
  | [], a, w => Q .normal a w
  | i :: is, a, w => wpOp P ops Q i (fun a' w' => (late i = false → D w') ∧ wpTailD P ops D late Q is a' w') a w

/-- The operations 'is': each yields its value in every world of D. -/
def wpHeadD (P : Program) (ops : Array Oper) (D : World → Prop) (K : Act → Prop) : List Nat → Act → Prop
  | [], a => K a
  | i :: is, a => ∃ o v, ops[i]? = some o ∧ YieldsD P ops D o v a ∧ wpHeadD P ops D K is (a.put o.dst v)

/-- The closed check on the order: the heads may come up and are free; the tails are forced; all have come up. -/
def forcedB (md : Region.Mode) (ops : Array Oper) : List Nat → Array Bool → Bool
  | [], listed => (Region.ready md ops listed).isEmpty
  | t :: ts, listed => (Region.ready md ops listed == [t]) && forcedB md ops ts (listed.setIfInBounds t true)
def orderB (md : Region.Mode) (ops : Array Oper) (ts : List Nat) : List Nat → Array Bool → Bool
  | [], listed => forcedB md ops ts listed
  | i :: qs, listed => (Region.ready md ops listed).contains i && Region.free md ops listed i && orderB md ops ts qs (listed.setIfInBounds i true)

/-- late: whatever waits for all of 'qs' (through at most n steps). -/
def lateB (md : Region.Mode) (ops : Array Oper) (n : Nat) (qs : List Nat) (j : Nat) : Bool := qs.all fun i => (anc md ops n j).contains i

theorem wpAnyD_tail : ∀ (ts : List Nat) (listed : Array Bool) (a : Act) (w : World), forcedB md ops ts listed = true → wpTailD P ops D late Q ts a w → wpAnyD P md ops D late Q ts.length listed a w
  | [], listed, a, w, hB, h => ⟨by simpa [forcedB] using hB, h⟩
  | t :: ts, listed, a, w, hB, h => by
    simp only [forcedB, Bool.and_eq_true, beq_iff_eq] at hB
    refine ⟨fun h0 => (by rw [hB.1] at h0; cases h0), fun i hi => ?_⟩
    rw [hB.1] at hi
    simp only [List.mem_singleton] at hi
    subst hi
    exact wpOp_mono (fun a' w' h1 => ⟨h1.1, wpAnyD_tail ts _ a' w' hB.2 h1.2⟩) h

theorem wpAnyD_head (n : Nat) (qs0 : List Nat) (hs : Region.noSelect ops = true) (hQ : ∀ c a w (d : Option Tmp) v, Q (.panic c) (a.put d v) w → Q (.panic c) a w) (ts : List Nat) (hl : late = lateB md ops n qs0) : ∀ (qs : List Nat), (∀ i ∈ qs, i ∈ qs0) →
    ∀ (listed : Array Bool) (a : Act) (w : World), Closed md ops listed → orderB md ops ts qs listed = true → D w → wpHeadD P ops D (fun a' => wpTailD P ops D late Q ts a' w) qs a → wpAnyD P md ops D late Q (qs.length + ts.length) listed a w
  | [], _, listed, a, w, _, hB, hD, h => by
    have := wpAnyD_tail (P := P) (D := D) (late := late) (Q := Q) ts listed a w hB h
    simpa using this
  | i :: qs, hin, listed, a, w, hc, hB, hD, h => by
    obtain ⟨o, v, ho, hy, hK⟩ := h
    simp only [orderB, Bool.and_eq_true] at hB
    obtain ⟨⟨hr, hf⟩, hB'⟩ := hB
    have hi : i ∈ Region.ready md ops listed := by simpa using hr
    have := wpAnyD_first (P := P) (D := D) (late := late) (Q := Q) (n := n) (v := v) ho (Region.noSelect_spec hs) (fun c a w hq => hQ c a w _ _ hq)
      (fun j hj => by
        subst hl
        have := List.all_eq_true.1 hj i (hin i (by simp))
        simpa using this)
      (qs.length + ts.length) listed a w hc (Region.free_spec ho hf) hi hy hD
      (wpAnyD_head n qs0 hs hQ ts hl qs (fun x hx => hin x (by simp [hx])) _ _ w (hc.set hi) hB' hD hK)
    rw [show (i :: qs).length + ts.length = qs.length + ts.length + 1 from by simp; omega]
    exact this

/-- THE REGION. -/
theorem wp_region_D {id : Nat} {a : Act} {w : World} {l : List Oper} (qs ts : List Nat) (n : Nat) (D : World → Prop) (hm : P.follows .mixedOrders = true) (hs : Region.noSelect l.toArray = true) (hlen : qs.length + ts.length = l.length)
    (hB : orderB .any l.toArray ts qs (Array.replicate l.length false) = true) (hQ : ∀ c a w (d : Option Tmp) v, Q (.panic c) (a.put d v) w → Q (.panic c) a w) (hD : D w.drew)
    (h : wpHeadD P l.toArray D (fun a' => wpTailD P l.toArray D (lateB .any l.toArray n qs) Q ts a' w.drew) qs a) : (Code.region id l.toArray true).wp P Q a w := by
  refine wp_region_any hm (wpAnyD.any (D := D) (late := lateB .any l.toArray n qs) _ _ _ _ ?_)
  have hcl : Closed .any l.toArray (Array.replicate l.length false) := by
    intro j o hj
    simp [Array.getElem?_replicate] at hj
    split at hj <;> simp at hj
  have := wpAnyD_head (md := .any) (P := P) (D := D) (Q := Q) n qs hs hQ ts rfl qs (fun _ h => h) (Array.replicate l.length false) a w.drew hcl hB hD h
  rw [hlen] at this
  simpa using this

theorem wpHeadD_cons {K : Act → Prop} {i : Nat} {is : List Nat} {a : Act} {o : Oper} (v : Value) (ho : ops[i]? = some o) (hw : Region.wanted o (yielded ops a.tmps) = true) (hy : ∀ w, D w → (execOp a.eval o).run P w = .ok (.value v) w)
    (h : wpHeadD P ops D K is (a.put o.dst v)) : wpHeadD P ops D K (i :: is) a := ⟨o, v, ho, .inl ⟨hw, hy⟩, h⟩
theorem wpHeadD_skip {K : Act → Prop} {i : Nat} {is : List Nat} {a : Act} {o : Oper} (ho : ops[i]? = some o) (hw : Region.wanted o (yielded ops a.tmps) = false) (h : wpHeadD P ops D K is (a.put o.dst undef)) : wpHeadD P ops D K (i :: is) a := ⟨o, undef, ho, .inr ⟨hw, rfl⟩, h⟩

/-- One head, what follows behind a variable. -/
theorem wpHeadD_step {K : Act → Prop} {i : Nat} {is : List Nat} {a : Act} {o : Oper} (ho : ops[i]? = some o) (hw : Region.wanted o (yielded ops a.tmps) = true)
    (w0 : World) (h : ∀ K' : Act → World → Prop, (∀ a' w', wpHeadD P ops D K is a' → K' a' w') → ∃ v, (∀ w, D w → (execOp a.eval o).run P w = .ok (.value v) w) ∧ K' (a.put o.dst v) w0) : wpHeadD P ops D K (i :: is) a := by
  obtain ⟨v, h1, h2⟩ := h (fun a' _ => wpHeadD P ops D K is a') (fun _ _ x => x)
  exact ⟨o, v, ho, .inl ⟨hw, h1⟩, h2⟩
theorem wpHeadD_nil {K : Act → Prop} {a : Act} (h : K a) : wpHeadD P ops D K [] a := h

/-- Tails that are all late: the plain walk. -/
theorem wpTailD_late {ts : List Nat} {a : Act} {w : World} (h : ts.all late = true) (hk : wpOps P ops Q ts a w) : wpTailD P ops D late Q ts a w := by
  induction ts generalizing a w with
  | nil => exact hk
  | cons t ts ih =>
    simp only [List.all_cons, Bool.and_eq_true] at h
    rw [wpOps_cons] at hk
    exact wpOp_mono (fun a' w' hx => ⟨(fun e => (by rw [h.1] at e; cases e)), ih h.2 hx⟩) hk

theorem wpOps_of_list : ∀ (ts : List Nat) (a : Act) (w : World), wpList P ops Q (ts.filterMap (fun i => ops[i]?)) a w → wpOps P ops Q ts a w
  | [], a, w, h => h
  | t :: ts, a, w, h => by
    cases ho : ops[t]? with
    | none =>
      rw [List.filterMap_cons_none ho] at h
      simp only [wpOps, ho]
      exact wpOps_of_list ts a w h
    | some o =>
      rw [List.filterMap_cons_some ho] at h
      simp only [wpOps, ho]
      simp only [wpList] at h
      by_cases hw : Region.wanted o (yielded ops a.tmps) = true
      · simp only [hw, if_true] at h ⊢
        exact h.imp (Oper.wp_mono (fun a' w' hx => wpOps_of_list ts a' w' hx)) (fun x => x)
      · simp only [hw] at h ⊢
        exact wpOps_of_list ts _ w h

/-- Tails that are all late: the plain walk of a list of operations. -/
theorem wpTailD_rest {l : List Oper} {ts : List Nat} {a : Act} {w : World} (h : ts.all late = true) (hk : wpList P l.toArray Q (ts.filterMap (fun i => l[i]?)) a w) : wpTailD P l.toArray D late Q ts a w :=
  wpTailD_late h (wpOps_of_list ts a w (by simpa using hk))

/-- One tail, what follows behind a variable. -/
theorem wpTailD_cons {i : Nat} {is : List Nat} {a : Act} {w : World} {o : Oper} (ho : ops[i]? = some o) (hw : Region.wanted o (yielded ops a.tmps) = true)
    (h : ∀ K : Act → World → Prop, (∀ a' w', (late i = false → D w') → wpTailD P ops D late Q is a' w' → K a' w') → o.wp P a w K Q) : wpTailD P ops D late Q (i :: is) a w := by
  unfold wpTailD wpOp
  simp only [ho, hw, if_true]
  exact .inl (h _ (fun a' w' h1 h2 => ⟨h1, h2⟩))
/-- One late tail. -/
theorem wpTailD_lone {i : Nat} {is : List Nat} {a : Act} {w : World} {o : Oper} (hl : late i = true) (ho : ops[i]? = some o) (hw : Region.wanted o (yielded ops a.tmps) = true)
    (h : ∀ K : Act → World → Prop, (∀ a' w', wpTailD P ops D late Q is a' w' → K a' w') → o.wp P a w K Q) : wpTailD P ops D late Q (i :: is) a w :=
  wpTailD_cons ho hw (fun K hK => h K (fun a' w' hx => hK a' w' (fun e => (by rw [hl] at e; cases e)) hx))
theorem wpTailD_nil {a : Act} {w : World} (h : Q .normal a w) : wpTailD P ops D late Q [] a w := h
end
end Go.Proofs.Ybulkgey
