/- A range over a function whose rounds go from state to state: the caller's law; and regions within a round. -/
import Derived.Test.YbulkgeyASmall
import Derived.RangeFuncNested
import Derived.RangeFuncCalls
import Derived.RangeFuncLeaves
import Derived.RangeFuncBox
import Derived.Shelf.RegionOpen
import Derived.OwnWalkIn
import Derived.TacticsInMore
import Derived.LoopNIn
import Derived.LoopIn
namespace Go.Proofs.Ybulkgey
open Go.RowKit
set_option linter.unusedVariables false

/-- What a round keeps: all below n0, and the two blocks from B on. -/
def KeepB (n0 B : Nat) (W W' : World) : Prop := Below n0 W W' ∧ ∀ k, B ≤ k → k < B + 2 → W'.heap[k]? = W.heap[k]?
theorem KeepB.trans {n0 B : Nat} {x y z : World} (h : KeepB n0 B x y) (k : KeepB n0 B y z) : KeepB n0 B x z := ⟨h.1.trans k.1, fun j h1 h2 => (k.2 j h1 h2).trans (h.2 j h1 h2)⟩
theorem KeepB.refl (n0 B : Nat) (x : World) : KeepB n0 B x x := ⟨Below.refl _ _, fun _ _ _ => rfl⟩

/-- What an iterator owes whose rounds go from state to state: x may come in s and leads to s'. -/
def SeqSt {σ ρ : Type} (P : Program) (g : Nat) (lb : Array Value) (encs : ρ → Array Value) (n0 B : Nat) (Stp : σ → ρ → σ → Prop) (s0 : σ) (E : σ → Prop) (w : World) : Prop :=
  ∀ (n l : Nat) (J Jx : σ → World → Prop) (W : World), Below w.heap.size w W → (∀ s A B, J s A → A.grownBy B none → J s B) → (∀ s A B, Jx s A → A.grownBy B none → Jx s B) →
    (∀ s x s' W1, J s W1 → Stp s x s' → YieldAt Fence.wide (n - 1) P l (encs x) W1 fun e W' => (e = .returned (.bool true) ∧ J s' W' ∧ KeepB n0 B W1 W') ∨ (e = .returned (.bool false) ∧ Jx s' W')) →
    J s0 W → CallsIn Fence.wide n P g (#[.func (.yield l) #[] #[]] ++ lb) W fun e W' => (∃ v, e = .returned v) ∧ ((∃ s, E s ∧ J s W') ∨ (∃ s, Jx s W'))

/-- How a round's body may be left. -/
def stPost {σ : Type} (n0 B : Nat) (I : σ → World → Prop) (Ix : Code → σ → World → Prop) (s : σ) (W : World) : Exit → Act → World → Prop
  | .normal, _, W' => KeepsOthers W W' ∧ KeepB n0 B W W' ∧ I s W'
  | .ret, _, W' => KeepsOthers W W' ∧ Ix .ret s W'
  | .exit id, _, W' => KeepsOthers W W' ∧ Ix (.exit id) s W'
  | .goto t, _, W' => KeepsOthers W W' ∧ Ix (.goto t) s W'
  | .panic _, _, _ => False
  | .outgrown, _, _ => False

theorem rangeSt {σ ρ : Type} {n : Nat} {P : Program} {g : Operand} {ps : Array Tmp} {assign body : Code} {Q : Exit → Act → World → Prop} {a : Act} {w : World}
    {gf : Nat} {lb : Array Value} (hg : a.eval g = .func (.func gf) #[] lb) (eg : ∀ args w, (callFunc gf args).run P w = .ok (.enter gf args) w)
    {encs : ρ → Array Value} {n0 B : Nat} {Stp : σ → ρ → σ → Prop} {s0 : σ} {E : σ → Prop} {w0 : World} (hseq : SeqSt P gf lb encs n0 B Stp s0 E w0) (hn0 : n0 ≤ w.heap.size) (hB0 : B + 2 ≤ w.heap.size) (hb0 : Below w0.heap.size w0 w) (hps : ∀ x, (encs x).size = ps.size)
    (I : σ → World → Prop) (Ix : Code → σ → World → Prop) (hI : OwnFrom w.heap.size I) (hIx : ∀ c, OwnFrom w.heap.size (Ix c)) (h0 : I s0 w) (a1 : ρ → Act)
    (hassign : ∀ (l : Nat) (x : ρ) (W : World) (K : Act → World → Prop), K (a1 x) W →
      assign.wpIn (Fence.wide.inRound l) (n - 1 - 1) P (Exit.then K (fun _ _ _ => False)) { tmps := (ps.zip (encs x)).foldl (fun t (p, v) => t.setIfInBounds p v) a.tmps, defers := [] } W)
    (hbody : ∀ (l : Nat) (s : σ) (x : ρ) (s' : σ) (W : World), I s W → Stp s x s' → body.wpIn (Fence.wide.inRound l) (n - 1 - 1) P (stPost n0 B I Ix s' W) (a1 x) W)
    (hdone : ∀ (D : Nat) (s : σ) (W : World), w.heap.size ≤ D → E s → I s W → W.heap[D]? = some (.deferred (some [])) → Q .normal { a with defers := { target := .collected D, args := #[] } :: a.defers } W)
    (hstop : ∀ (D : Nat) (c : Code) (s : σ) (W : World), w.heap.size ≤ D → Ix c s W → W.heap[D]? = some (.deferred (some [])) → c.wpIn Fence.wide n P Q { a with defers := { target := .collected D, args := #[] } :: a.defers } W) :
    (Code.rangeFunc g ps assign body).wpIn Fence.wide n P Q a w := by
  refine wpIn_rangeFunc fun fn hfn => ?_
  let rec' : LoopState → Option Code → Loop := fun st pe => { state := st, pending := pe, fn := fn, tmps := a.tmps, params := ps, assign := assign, body := body, defers := w.heap.size }
  have hsz1 : ((w.alloc (.deferred (some []))).alloc (.loop (rec' .ready none))).heap.size = w.heap.size + 2 := by simp
  have hI1 := hI.alloc (.loop (rec' .ready none)) (hI.alloc (.deferred (some [])) h0)
  have hL1 : ((w.alloc (.deferred (some []))).alloc (.loop (rec' .ready none))).heap[w.heap.size + 1]? = some (.loop (rec' .ready none)) := heap_new_at _ _ (by simp)
  have hK1 : ((w.alloc (.deferred (some []))).alloc (.loop (rec' .ready none))).heap[w.heap.size]? = some (.deferred (some [])) := (Go.heap_alloc_old _ _ (by simp)).trans (Go.heap_alloc_new _ _)
  have hb1 : Below w0.heap.size w0 ((w.alloc (.deferred (some []))).alloc (.loop (rec' .ready none))) := hb0.trans ((((Below.refl _ w).alloc (Nat.le_refl _) _).alloc (by simp) _).mono hb0.size)
  have hent : (Instr.enterLoop fn a.tmps ps assign body Fence.wide.round).run P w = .ok (w.heap.size + 1, [{ target := .collected w.heap.size, args := #[] }]) ((w.alloc (.deferred (some []))).alloc (.loop (rec' .ready none))) := run_enterLoop_outer _ _ _ _ _
  generalize ((w.alloc (.deferred (some []))).alloc (.loop (rec' .ready none))) = W1 at *
  refine ⟨w.heap.size + 1, [{ target := .collected w.heap.size, args := #[] }], W1, { target := .fn (.func gf) lb, args := #[.func (.yield (w.heap.size + 1)) #[] #[]] }, W1, gf, #[.func (.yield (w.heap.size + 1)) #[] #[]] ++ lb, W1, hent, ?_, fun _ _ => trivial, ?_, fun h => (by cases h), ?_⟩
  · simp only [resolve, hg]
    simp [go_sem]
  · simp [invoke, go_sem, eg]
  refine (hseq (n - 1) (w.heap.size + 1)
    (fun s W => I s W ∧ W.heap[w.heap.size + 1]? = some (.loop (rec' .ready none)) ∧ W.heap[w.heap.size]? = some (.deferred (some [])))
    (fun s W => ∃ c, Ix c s W ∧ W.heap[w.heap.size + 1]? = some (.loop (rec' .done (some c))) ∧ W.heap[w.heap.size]? = some (.deferred (some [])))
    W1 hb1
    (fun s A B hs hg' => ⟨hI s A B none hs.1 hg' (fun r e => by cases e), (hg'.block _ (block_lt hs.2.1) (by simp)).trans hs.2.1, (hg'.block _ (block_lt hs.2.2) (by simp)).trans hs.2.2⟩)
    (fun s A B hs hg' => by
      obtain ⟨c, hc, hl, hk⟩ := hs
      exact ⟨c, hIx c s A B none hc hg' (fun r e => by cases e), (hg'.block _ (block_lt hl) (by simp)).trans hl, (hg'.block _ (block_lt hk) (by simp)).trans hk⟩)
    ?_ ⟨hI1, hL1, hK1⟩).mono ?_
  · rintro s x s' W ⟨hi, hl, hk⟩ hstp
    have hlt := block_lt hl
    have hy := run_yield (P := P) (args := encs x) hl (hps x)
    refine ⟨fn, _, assign, body, hy, roundIn_of_wpIn hfn (hassign _ x W _ ⟨_, run_beginRound hl rfl, ?_⟩)⟩
    have hl2 : (W.putObj (w.heap.size + 1) (.loop { rec' .ready none with state := .busy })).heap[w.heap.size + 1]? = some (.loop { rec' .ready none with state := .busy }) := World.putObj_heap_same hlt
    have hk2 : (W.putObj (w.heap.size + 1) (.loop { rec' .ready none with state := .busy })).heap[w.heap.size]? = some (.deferred (some [])) := (World.putObj_heap_other (by omega)).trans hk
    have hw2 : KeepB n0 B W (W.putObj (w.heap.size + 1) (.loop { rec' .ready none with state := .busy })) := ⟨belowK_b hn0 _ _ _ _ (by omega) hl rfl rfl, fun k _ hk => World.putObj_heap_other (by omega)⟩
    refine wpIn_mono (hbody _ s x s' _ (hI.putObj _ hi (by omega) hl rfl) hstp) ?_
    have fin : ∀ (jump : Option Code) (W3 : World), KeepsOthers (W.putObj (w.heap.size + 1) (.loop { rec' .ready none with state := .busy })) W3 →
        (Instr.endRound (w.heap.size + 1) jump).run P W3 = .ok (.bool jump.isNone) (W3.putObj (w.heap.size + 1) (.loop (rec' (if jump.isNone then .ready else .done) jump))) ∧
        W3.heap[w.heap.size + 1]? = some (.loop { rec' .ready none with state := .busy }) ∧
        (W3.putObj (w.heap.size + 1) (.loop (rec' (if jump.isNone then .ready else .done) jump))).heap[w.heap.size + 1]? = some (.loop (rec' (if jump.isNone then .ready else .done) jump)) ∧
        (W3.putObj (w.heap.size + 1) (.loop (rec' (if jump.isNone then .ready else .done) jump))).heap[w.heap.size]? = some (.deferred (some [])) := fun jump W3 hk3 => by
      have hl3 := hk3.same _ _ hl2 rfl
      exact ⟨run_endRound (P := P) jump hl3, hl3, World.putObj_heap_same (block_lt hl3), (World.putObj_heap_other (by omega)).trans (hk3.same _ _ hk2 rfl)⟩
    rintro e a3 W3 hp
    cases e with
    | normal =>
      obtain ⟨hk3, hkp3, hi3⟩ := hp
      obtain ⟨hr, hl3, hl4, hk4⟩ := fin none W3 hk3
      exact ⟨_, _, hr, .inl ⟨rfl, ⟨hI.putObj _ hi3 (by omega) hl3 rfl, hl4, hk4⟩, (hw2.trans hkp3).trans ⟨belowK_b hn0 _ _ _ _ (by omega) hl3 rfl rfl, fun k _ hk => World.putObj_heap_other (by omega)⟩⟩⟩
    | ret =>
      obtain ⟨hr, hl3, hl4, hk4⟩ := fin (some .ret) W3 hp.1
      exact ⟨_, _, hr, .inr ⟨rfl, .ret, (hIx _).putObj _ hp.2 (by omega) hl3 rfl, hl4, hk4⟩⟩
    | exit id =>
      obtain ⟨hr, hl3, hl4, hk4⟩ := fin (some (.exit id)) W3 hp.1
      exact ⟨_, _, hr, .inr ⟨rfl, .exit id, (hIx _).putObj _ hp.2 (by omega) hl3 rfl, hl4, hk4⟩⟩
    | goto t =>
      obtain ⟨hr, hl3, hl4, hk4⟩ := fin (some (.goto t)) W3 hp.1
      exact ⟨_, _, hr, .inr ⟨rfl, .goto t, (hIx _).putObj _ hp.2 (by omega) hl3 rfl, hl4, hk4⟩⟩
    | panic ch => exact hp.elim
    | outgrown => exact hp.elim
  · rintro e W2 ⟨⟨v, rfl⟩, (⟨s, hS, hi, hl, hk⟩ | ⟨s, c, hi, hl, hk⟩)⟩
    · exact ⟨none, _, run_endLoop (P := P) hl (by simp [rec']), hdone _ s _ (Nat.le_refl _) hS (hI.putObj _ hi (by omega) hl rfl) ((World.putObj_heap_other (by omega)).trans hk)⟩
    · exact ⟨some c, _, run_endLoop (P := P) hl (by simp [rec']), hstop _ c s _ (Nat.le_refl _) ((hIx c).putObj _ hi (by omega) hl rfl) ((World.putObj_heap_other (by omega)).trans hk)⟩

/-- Within a round of the wide fence an operation that is no defer is carried out as everywhere. -/
theorem oper_inRound {P : Program} {l n : Nat} {o : Oper} {a : Act} {w : World} {K : Act → World → Prop} {Q : Exit → Act → World → Prop} (hnd : ∀ c, o.op ≠ .defer c) (h : o.wp P a w K Q) : o.wpIn (Fence.wide.inRound l) n P a w K Q := by
  refine ⟨fun _ _ => trivial, ?_⟩
  rw [Oper.semAt_plain _ _ _ hnd]
  unfold Oper.wp at h
  generalize (execOp a.eval o).run P w = r at *
  cases r with
  | ok x w' =>
    cases x with
    | enter f args => exact ⟨fun h => (by cases h), CallsIn.inRound l (callsIn_wide.2 h)⟩
    | row r args => exact ⟨fun h => (by cases h), fun c cs _ => let ⟨v, w', r, st⟩ := h c cs; ⟨v, w', r, stepsIn_wide.2 st⟩⟩
    | round => exact h.elim
    | _ => exact h
  | halt x w' =>
    cases x with
    | panic v => exact h
    | _ => exact h.elim

def noDefers (ops : Array Oper) : Bool := ops.all fun o => match o.op with | .defer _ => false | _ => true
theorem noDefers_spec {ops : Array Oper} (h : noDefers ops = true) {i : Nat} {o : Oper} (ho : ops[i]? = some o) : ∀ c, o.op ≠ .defer c := by
  intro c hc
  have := (Array.all_eq_true.1 h) i (Array.getElem?_eq_some_iff.1 ho).1
  rw [(Array.getElem?_eq_some_iff.1 ho).2, hc] at this
  cases this

theorem any_inRound {P : Program} {l n : Nat} {md : Region.Mode} {ops : Array Oper} {Q : Exit → Act → World → Prop} (hlo : ¬ LetsOut Q) (hnd : noDefers ops = true) : ∀ (fuel : Nat) (listed : Array Bool) (a : Act) (w : World), wpAny P md ops Q fuel listed a w → wpAnyIn (Fence.wide.inRound l) n P md ops Q fuel listed a w
  | 0, _, _, _, h => h
  | fuel + 1, listed, a, w, h => by
    refine ⟨h.1, fun i hi => ?_⟩
    have h' := h.2 i hi
    unfold wpOp at h'
    unfold wpOpIn
    cases ho : ops[i]? with
    | none => simp only [ho] at h' ⊢; exact any_inRound hlo hnd fuel _ _ _ h'
    | some o =>
      simp only [ho] at h' ⊢
      split
      · rename_i hw
        simp only [hw, if_true] at h'
        exact Oper.wpIn_mono (fun a w => any_inRound hlo hnd fuel _ a w) (oper_inRound (noDefers_spec hnd ho) (h'.resolve_right fun h => hlo h.2))
      · rename_i hw
        simp only [hw] at h'
        exact ⟨fun _ _ => trivial, any_inRound hlo hnd fuel _ _ _ h'⟩

/-- A region within a round, as one without: from the walk over all orders. -/
theorem region_inRound {P : Program} {l n id : Nat} {ops : Array Oper} {Q : Exit → Act → World → Prop} {a : Act} {w : World} (hlo : ¬ LetsOut Q) (hm : P.follows .mixedOrders = true) (hnd : noDefers ops = true)
    (h : wpAny P .any ops Q ops.size (Array.replicate ops.size false) a { w with drawn := w.drawn + 1 }) : (Code.region id ops true).wpIn (Fence.wide.inRound l) n P Q a w :=
  wpIn_region_any hm (any_inRound hlo hnd _ _ _ _ h)

theorem region_quietR {P : Program} {l n id : Nat} {Q : Exit → Act → World → Prop} {a : Act} {w : World} {ls : List Oper} (hlo : ¬ LetsOut Q) (hm : P.follows .mixedOrders = true) (hnd : noDefers ls.toArray = true) (hB : Region.lexB .any ls.toArray = true)
    (h : wpQuiet P ls.toArray (fun w' => ∃ n, w' = w.drewN n) (fun a' => ∀ w', (∃ n, w' = w.drewN n) → Q .normal a' w') ls a) : (Code.region id ls.toArray true).wpIn (Fence.wide.inRound l) n P Q a w := by
  simp only [Region.lexB, Bool.and_eq_true] at hB
  refine region_inRound hlo hm hnd (wpAny_of_quiet (C := fun w' => ∃ n, w' = w.drewN n) (Q := fun a' => ∀ w', (∃ n, w' = w.drewN n) → Q .normal a' w') (fun _ w' hw' h => h w' hw') _ _ _ _ ⟨1, rfl⟩ ?_)
  have := wpAnyQ_lex (C := fun w' => ∃ n, w' = w.drewN n) (md := .any) hB.1 ls 0 (Array.replicate ls.toArray.size false) a (by simp) (by simpa using hB.2) h
  simpa using this

theorem region_DR {P : Program} {l n0 id : Nat} {Q : Exit → Act → World → Prop} {a : Act} {w : World} {ls : List Oper} (hlo : ¬ LetsOut Q) (qs ts : List Nat) (n : Nat) (D : World → Prop) (hm : P.follows .mixedOrders = true) (hnd : noDefers ls.toArray = true) (hs : Region.noSelect ls.toArray = true) (hlen : qs.length + ts.length = ls.length)
    (hB : orderB .any ls.toArray ts qs (Array.replicate ls.length false) = true) (hQ : ∀ c a w (d : Option Tmp) v, Q (.panic c) (a.put d v) w → Q (.panic c) a w) (hD : D w.drew)
    (h : wpHeadD P ls.toArray D (fun a' => wpTailD P ls.toArray D (lateB .any ls.toArray n qs) Q ts a' w.drew) qs a) : (Code.region id ls.toArray true).wpIn (Fence.wide.inRound l) n0 P Q a w := by
  refine region_inRound hlo hm hnd (wpAnyD.any (D := D) (late := lateB .any ls.toArray n qs) _ _ _ _ ?_)
  have hcl : Closed .any ls.toArray (Array.replicate ls.length false) := by
    intro j o hj
    simp [Array.getElem?_replicate] at hj
    split at hj <;> simp at hj
  have := wpAnyD_head (md := .any) (P := P) (D := D) (Q := Q) n qs hs hQ ts rfl qs (fun _ h => h) (Array.replicate ls.length false) a w.drew hcl hB hD h
  rw [hlen] at this
  simpa using this
end Go.Proofs.Ybulkgey
