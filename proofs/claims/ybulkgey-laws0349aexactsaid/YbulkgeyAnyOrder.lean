/- A region that draws its order, whose operations only read and draw, and may give one of SEVERAL values: one walk of the lexical order serves every order. (The kit's theorem on quiet regions, with sets of values in the place of one value; its two exchange proofs are turned to sets.) -/
import Derived.Deep.Quiet
import Derived.Tactics
namespace Go.Proofs.Ybulkgey
open Go

section
variable {P : Program} {ops : Array Oper} {md : Region.Mode} {C : World → Prop} {Ret : FuncId → Array Value → Value → Prop}

/-- What an operation's outcome must be like: a world of the class; a callee keeps to what is said of it. -/
def tameUpon (P : Program) (C : World → Prop) (Ret : FuncId → Array Value → Value → Prop) : Result Next → Prop
  | .ok (.value _) w' => C w'
  | .ok .skip w' => C w'
  | .ok (.enter f args) w' => C w' ∧ Calls P f args w' (fun e w'' => ∃ v, e = .returned v ∧ Ret f args v ∧ C w'')
  | _ => False
/-- The values that an outcome may stand for. -/
def gotUpon (Ret : FuncId → Array Value → Value → Prop) (v : Value) : Result Next → Prop
  | .ok (.value u) _ => v = u
  | .ok .skip _ => v = undef
  | .ok (.enter f args) _ => Ret f args v
  | _ => False
def Got (P : Program) (C : World → Prop) (Ret : FuncId → Array Value → Value → Prop) (s : Sem Next) (v : Value) : Prop := ∃ w, C w ∧ gotUpon Ret v (s.run P w)
def Tame (P : Program) (C : World → Prop) (Ret : FuncId → Array Value → Value → Prop) (s : Sem Next) : Prop := (∀ w, C w → tameUpon P C Ret (s.run P w)) ∧ ∃ v, Got P C Ret s v

/-- The operation is in order in state 'a'. -/
def Fit (P : Program) (ops : Array Oper) (C : World → Prop) (Ret : FuncId → Array Value → Value → Prop) (o : Oper) (a : Act) : Prop := Region.wanted o (yielded ops a.tmps) = true → Tame P C Ret (execOp a.eval o)
/-- What it may leave in its temporary. -/
def Vals (P : Program) (ops : Array Oper) (C : World → Prop) (Ret : FuncId → Array Value → Value → Prop) (o : Oper) (a : Act) (v : Value) : Prop :=
  (Region.wanted o (yielded ops a.tmps) = true ∧ Got P C Ret (execOp a.eval o) v) ∨ (Region.wanted o (yielded ops a.tmps) = false ∧ v = undef)

def wpTame (P : Program) (ops : Array Oper) (C : World → Prop) (Ret : FuncId → Array Value → Value → Prop) (Q : Act → Prop) : List Oper → Act → Prop
  | [], a => Q a
  | o :: rest, a => Fit P ops C Ret o a ∧ ∀ v, Vals P ops C Ret o a v → wpTame P ops C Ret Q rest (a.put o.dst v)

def tOp (P : Program) (ops : Array Oper) (C : World → Prop) (Ret : FuncId → Array Value → Value → Prop) (i : Nat) (K : Act → Prop) (a : Act) : Prop :=
  match ops[i]? with
  | none => K a
  | some o => Fit P ops C Ret o a ∧ ∀ v, Vals P ops C Ret o a v → K (a.put o.dst v)

theorem tOp_mono {i : Nat} {a : Act} {K K' : Act → Prop} (h : ∀ a, K a → K' a) (hh : tOp P ops C Ret i K a) : tOp P ops C Ret i K' a := by
  unfold tOp at *
  split
  · exact h _ (by simpa [*] using hh)
  · rename_i o ho
    simp only [ho] at hh
    exact ⟨hh.1, fun v hv => h _ (hh.2 v hv)⟩

def wpAnyT (P : Program) (md : Region.Mode) (ops : Array Oper) (C : World → Prop) (Ret : FuncId → Array Value → Value → Prop) (Q : Act → Prop) : Nat → Array Bool → Act → Prop
  | 0, listed, a => Region.ready md ops listed = [] ∧ Q a
  | fuel + 1, listed, a =>
    (Region.ready md ops listed = [] → Q a) ∧
    ∀ i ∈ Region.ready md ops listed, tOp P ops C Ret i (wpAnyT P md ops C Ret Q fuel (listed.setIfInBounds i true)) a

theorem wp_of_tame {o : Oper} {a : Act} {K : Act → Prop} {K' : Act → World → Prop} {Q' : Exit → Act → World → Prop} {w : World} (hw : C w) (h : ∀ a w', C w' → K a → K' a w')
    (h1 : Tame P C Ret (execOp a.eval o)) (h2 : ∀ v, Got P C Ret (execOp a.eval o) v → K (a.put o.dst v)) : o.wp P a w K' Q' := by
  have h3 := h1.1 w hw
  have h4 : ∀ v, gotUpon Ret v ((execOp a.eval o).run P w) → K (a.put o.dst v) := fun v hv => h2 v ⟨w, hw, hv⟩
  unfold Oper.wp
  generalize (execOp a.eval o).run P w = r at *
  cases r with
  | ok n w' =>
    cases n <;> simp only [tameUpon] at h3 <;> simp only [gotUpon] at h4 <;> simp only [Oper.upon]
    case value u => exact h _ _ h3 (h4 u rfl)
    case skip => exact h _ _ h3 (h4 undef rfl)
    case enter f args =>
      obtain ⟨hc, hcall⟩ := h3
      exact hcall.mono fun e w'' ⟨v, he, hr, hw''⟩ => by subst he; exact h _ _ hw'' (h4 v hr)
  | halt x w' => simp only [tameUpon] at h3

theorem wpOp_of_tOp {i : Nat} {a : Act} {K : Act → Prop} {K' : Act → World → Prop} {Q' : Exit → Act → World → Prop} {w : World} (hC : C w) (h : ∀ a w', C w' → K a → K' a w') (hh : tOp P ops C Ret i K a) : wpOp P ops Q' i K' a w := by
  unfold tOp at hh
  unfold wpOp
  split
  · rename_i ho; simp only [ho] at hh; exact h _ _ hC hh
  · rename_i o ho
    simp only [ho] at hh
    split
    · rename_i hw; exact .inl (wp_of_tame hC h (hh.1 hw) fun v hv => hh.2 v (.inl ⟨hw, hv⟩))
    · rename_i hw; exact h _ _ hC (hh.2 undef (.inr ⟨by simpa using hw, rfl⟩))

theorem wpAny_of_tame {Q : Act → Prop} {Q' : Exit → Act → World → Prop} (hQ : ∀ a w, C w → Q a → Q' .normal a w) : ∀ (fuel : Nat) (listed : Array Bool) (a : Act) (w : World), C w →
    wpAnyT P md ops C Ret Q fuel listed a → wpAny P md ops Q' fuel listed a w
  | 0, _, _, _, hw, h => ⟨h.1, hQ _ _ hw h.2⟩
  | fuel + 1, _, _, _, hw, h => ⟨fun h0 => hQ _ _ hw (h.1 h0), fun i hi => wpOp_of_tOp hw (fun a' w' hw' => wpAny_of_tame hQ fuel _ a' w' hw') (h.2 i hi)⟩

theorem Fit.of_same {o : Oper} {a a' : Act} (hy : Fit P ops C Ret o a) (he : execOp a'.eval o = execOp a.eval o)
    (hw : Region.wanted o (yielded ops a'.tmps) = Region.wanted o (yielded ops a.tmps)) : Fit P ops C Ret o a' := by
  unfold Fit at *
  rw [he, hw]
  exact hy
theorem Vals.of_same {o : Oper} {a a' : Act} {v : Value} (hy : Vals P ops C Ret o a v) (he : execOp a'.eval o = execOp a.eval o)
    (hw : Region.wanted o (yielded ops a'.tmps) = Region.wanted o (yielded ops a.tmps)) : Vals P ops C Ret o a' v := by
  unfold Vals at *
  rw [he, hw]
  exact hy
theorem Fit.some {o : Oper} {a : Act} (hy : Fit P ops C Ret o a) : ∃ v, Vals P ops C Ret o a v := by
  by_cases hw : Region.wanted o (yielded ops a.tmps) = true
  · obtain ⟨v, hv⟩ := (hy hw).2
    exact ⟨v, .inl ⟨hw, hv⟩⟩
  · exact ⟨undef, .inr ⟨by simpa using hw, rfl⟩⟩

theorem tOp_put {j : Nat} {oi oj : Oper} (hj : ops[j]? = some oj) (hap : oi.apart ops oj = true)
    (hsi : ∀ cs b, oi.op ≠ .select cs b) (hsj : ∀ cs b, oj.op ≠ .select cs b) {K : Act → Prop} {a : Act}
    (hy : Fit P ops C Ret oi a) (h : ∀ v, Vals P ops C Ret oi a v → tOp P ops C Ret j K (a.put oi.dst v)) :
    tOp P ops C Ret j (fun a' => Fit P ops C Ret oi a' ∧ ∀ v, Vals P ops C Ret oi a' v → K (a'.put oi.dst v)) a := by
  obtain ⟨h1, h2, h3⟩ := Oper.apart_spec hap
  have ei := fun u => execOp_put oi hsi a oj.dst u h3
  have wi := fun u => wanted_put (ops := ops) oi a oj.dst u h3
  have ej := fun v => execOp_put oj hsj a oi.dst v h1
  have wj := fun v => wanted_put (ops := ops) oj a oi.dst v h1
  unfold tOp at *
  simp only [hj] at *
  obtain ⟨v0, hv0⟩ := hy.some
  refine ⟨(h v0 hv0).1.of_same (ej v0).symm (wj v0).symm, fun u hu => ⟨hy.of_same (ei u) (wi u), fun v hv => ?_⟩⟩
  have hv' : Vals P ops C Ret oi a v := hv.of_same (ei u).symm (wi u).symm
  have := (h v hv').2 u (hu.of_same (ej v) (wj v))
  rwa [Act.put_comm a v u h2] at this

theorem wpAnyT_first {Q : Act → Prop} {i : Nat} {oi : Oper} (hi : ops[i]? = some oi) (hsel : ∀ (j : Nat) (o : Oper) cs b, ops[j]? = some o → o.op ≠ .select cs b) :
    ∀ (fuel : Nat) (listed : Array Bool) (a : Act),
      (∀ j oj, ops[j]? = some oj → j ≠ i → listed.getD j true = false → (∀ e ∈ oj.after, Region.binds md e = true → e.on ≠ i) → oi.apart ops oj = true) →
      i ∈ Region.ready md ops listed → Fit P ops C Ret oi a →
      (∀ v, Vals P ops C Ret oi a v → wpAnyT P md ops C Ret Q fuel (listed.setIfInBounds i true) (a.put oi.dst v)) → wpAnyT P md ops C Ret Q (fuel + 1) listed a := by
  intro fuel
  induction fuel with
  | zero =>
    intro listed a _ hr hy H
    refine ⟨fun h => (by rw [h] at hr; cases hr), fun j hj => ?_⟩
    by_cases hji : j = i
    · subst hji; unfold tOp; simp only [hi]; exact ⟨hy, H⟩
    · obtain ⟨v0, hv0⟩ := hy.some
      have := ready_mono hj hji
      rw [(H v0 hv0).1] at this
      cases this
  | succ fuel ih =>
    intro listed a hfree hr hy H
    refine ⟨fun h => (by rw [h] at hr; cases hr), fun j hj => ?_⟩
    by_cases hji : j = i
    · subst hji; unfold tOp; simp only [hi]; exact ⟨hy, H⟩
    · have h1 := fun v hv => (H v hv).2 j (ready_mono hj hji)
      obtain ⟨hjun, oj, hoj, hall⟩ := mem_ready.1 hj
      have hnot : ∀ e ∈ oj.after, Region.binds md e = true → e.on ≠ i := fun e he hb heq => by
        have h1 := hall e he hb
        have h0 := (mem_ready.1 hr).1
        rw [heq] at h1
        rcases Nat.lt_or_ge i listed.size with h' | h'
        · simp [h'] at h0 h1; rw [h0] at h1; cases h1
        · simp [Array.getElem?_eq_none h'] at h1
      have h2 := tOp_put hoj (hfree j oj hoj hji hjun hnot) (fun cs b => hsel i oi cs b hi) (fun cs b => hsel j oj cs b hoj) hy h1
      have hfree' : ∀ k ok, ops[k]? = some ok → k ≠ i → (listed.setIfInBounds j true).getD k true = false →
          (∀ e ∈ ok.after, Region.binds md e = true → e.on ≠ i) → oi.apart ops ok = true := fun k ok hk hki hun hno => by
        refine hfree k ok hk hki ?_ hno
        by_cases hjk : j = k
        · subst hjk; exact hjun
        · rw [getD_set_ne true hjk] at hun; exact hun
      refine tOp_mono (fun a' h3 => ih (listed.setIfInBounds j true) a' hfree' (ready_mono hr (Ne.symm hji)) h3.1 fun v hv => ?_) h2
      rw [Array.setIfInBounds_comm _ _ hji]
      exact h3.2 v hv

theorem wpAnyT_lex {Q : Act → Prop} (hs : Region.noSelect ops = true) : ∀ (l : List Oper) (k : Nat) (listed : Array Bool) (a : Act), (∀ j, l[j]? = ops[k + j]?) →
    Region.lexFrom md ops l.length k listed = true → wpTame P ops C Ret Q l a → wpAnyT P md ops C Ret Q l.length listed a
  | [], _, _, _, _, hB, h => ⟨by simpa [Region.lexFrom] using hB, h⟩
  | o :: l, k, listed, a, hl, hB, h => by
    have h0 : ops[k]? = some o := by simpa using (hl 0).symm
    simp only [List.length_cons, Region.lexFrom, Bool.and_eq_true] at hB
    obtain ⟨⟨hr, hf⟩, hB'⟩ := hB
    exact wpAnyT_first h0 (Region.noSelect_spec hs) l.length listed a (Region.free_spec h0 hf) (by simpa using hr) h.1
      (fun v hv => wpAnyT_lex hs l (k + 1) _ _ (fun j => by have := hl (j + 1); simpa [Nat.add_assoc, Nat.add_comm 1 j] using this) hB' (h.2 v hv))

theorem wp_region_tame {id : Nat} {Q : Exit → Act → World → Prop} {a : Act} {w : World} {l : List Oper} (C : World → Prop) (Ret : FuncId → Array Value → Value → Prop) (hm : P.follows .mixedOrders = true) (hB : Region.lexB .any l.toArray = true) (hC : C w.drew)
    (h : wpTame P l.toArray C Ret (fun a' => ∀ w', C w' → Q .normal a' w') l a) : (Code.region id l.toArray true).wp P Q a w := by
  simp only [Region.lexB, Bool.and_eq_true] at hB
  refine wp_region_any hm (wpAny_of_tame (C := C) (Ret := Ret) (Q := fun a' => ∀ w', C w' → Q .normal a' w') (fun _ w' hw' h => h w' hw') _ _ _ _ hC ?_)
  have := wpAnyT_lex (C := C) (Ret := Ret) (md := .any) hB.1 l 0 (Array.replicate l.toArray.size false) a (by simp) (by simpa using hB.2) h
  simpa using this

/-- One operation that gives one value in every world of the class. -/
theorem tame_one {Q : Act → Prop} {a : Act} {o : Oper} {rest : List Oper} {w : World} (hC : C w) (u : Value) (hw : Region.wanted o (yielded ops a.tmps) = true)
    (hr : ∀ w', C w' → (execOp a.eval o).run P w' = .ok (.value u) w') (h : ∀ K : Act → Prop, (∀ a, wpTame P ops C Ret Q rest a → K a) → K (a.put o.dst u)) :
    wpTame P ops C Ret Q (o :: rest) a := by
  refine ⟨fun _ => ⟨?_, u, w, hC, by rw [hr w hC]; rfl⟩, ?_⟩
  · intro w' hw'
    rw [hr w' hw']
    exact hw'
  · rintro v (⟨_, w', hw', hg⟩ | ⟨hf, _⟩)
    · rw [hr w' hw'] at hg
      obtain rfl : v = u := hg
      exact h _ fun _ h => h
    · rw [hw] at hf; cases hf
/-- One that its guard passes over. -/
theorem tame_skip {Q : Act → Prop} {a : Act} {o : Oper} {rest : List Oper} (hw : Region.wanted o (yielded ops a.tmps) = false)
    (h : ∀ K : Act → Prop, (∀ a, wpTame P ops C Ret Q rest a → K a) → K (a.put o.dst undef)) : wpTame P ops C Ret Q (o :: rest) a := by
  refine ⟨fun hf => (by rw [hw] at hf; cases hf), ?_⟩
  rintro v (⟨hf, _⟩ | ⟨_, rfl⟩)
  · rw [hw] at hf; cases hf
  · exact h _ fun _ h => h
/-- A call of which Ret tells the one value. -/
theorem tame_call {Q : Act → Prop} {a : Act} {o : Oper} {rest : List Oper} {w : World} (hC : C w) (f : FuncId) (args : Array Value) (u : Value) (hw : Region.wanted o (yielded ops a.tmps) = true)
    (hr : ∀ w', C w' → (execOp a.eval o).run P w' = .ok (.enter f args) w') (hc : ∀ w', C w' → Calls P f args w' fun e w'' => e = .returned u ∧ C w'')
    (hR : ∀ v, Ret f args v ↔ v = u) (h : ∀ K : Act → Prop, (∀ a, wpTame P ops C Ret Q rest a → K a) → K (a.put o.dst u)) :
    wpTame P ops C Ret Q (o :: rest) a := by
  refine ⟨fun _ => ⟨?_, u, w, hC, by rw [hr w hC]; exact (hR u).2 rfl⟩, ?_⟩
  · intro w' hw'
    rw [hr w' hw']
    exact ⟨hw', (hc w' hw').mono fun e w'' ⟨he, hm⟩ => ⟨u, he, (hR u).2 rfl, hm⟩⟩
  · rintro v (⟨_, w', hw', hg⟩ | ⟨hf, _⟩)
    · rw [hr w' hw'] at hg
      obtain rfl : v = u := (hR v).1 hg
      exact h _ fun _ h => h
    · rw [hw] at hf; cases hf
end
end Go.Proofs.Ybulkgey
