import PyProof.Rows.All
import Wide.All
import OpenK.AllK
import Wide.FinOn
import PySem.Challenge.RW_pg0117_02
section
open PySem PySem.W PyProof.Rows
set_option Elab.async false
set_option maxRecDepth 100000
set_option maxHeartbeats 8000000
namespace Mine
open_top hd for PySem.Challenge.rw_pg0117_02
end Mine
end
section
open PySem PySem.W PySem.W.X PyProof.Rows
set_option Elab.async false
set_option maxRecDepth 100000
namespace Mine
open PySem

section seg
variable {prog : Program} {w : World} {A : Around} {c : Code} {fs : List Frame} {P : End → Shared → Prop} {s : Shared} {env : Env}
  {K : Flow → Sem Fin} {H : Value → Sem Fin} {gd : Bool → Bool} {lv : List Value → List Value}

theorem sx_wrap {α : Type} {m : Sem α} {K : α → Sem Fin} {H : Value → Sem Fin} {gd lv}
    (h : wpAny (model prog w) (A.over c fs) m (fun a s' => SegX (model prog w) A c (K a) fs s' P) (fun x s' => SegX (model prog w) A c (H x) fs s' P) s) :
    SegX (model prog w) A c (m.wrap K H gd lv) fs s P := by
  rintro Γ p rfl hΓ
  exact runs_wrap_of_wp (Φ := fun e s' => e.quiet = true ∧ P e s') K H gd lv m (h (Γ.over fs) p (hΓ.over fs)) (fun a p' s' h' => h' Γ p' rfl hΓ) (fun x p' s' h' => h' Γ p' rfl hΓ)

theorem sx_bind {α β : Type} {m : Sem α} {K : α → Sem β} {K' : β → Sem Fin} {H' : Value → Sem Fin} {gd lv}
    (h : wpAny (model prog w) (A.over c fs) m (fun a s' => SegX (model prog w) A c ((K a).wrap K' H' gd lv) fs s' P) (fun x s' => SegX (model prog w) A c (H' x) fs s' P) s) :
    SegX (model prog w) A c ((m >>= K).wrap K' H' gd lv) fs s P := by
  rw [Sem.bind_eq_wrap', Sem.wrap_wrap]; exact sx_wrap h

theorem sx_at {p' : Pos} {k : Unit → Sem Fin} (h : SegX (model prog w) A c (k ()) fs s P) : SegX (model prog w) A c (.at p' k) fs s P :=
  sx_wrap (m := standAt p') (K := k) (H := .raise) (gd := id) (lv := id) (wpAny_standAt h)
theorem sx_point {l : List Value} {k : Unit → Sem Fin} (h : SegX (model prog w) A c (k ()) fs s P) : SegX (model prog w) A c (.point l k) fs s P :=
  sx_wrap (m := point) (K := k) (H := .raise) (gd := id) (lv := fun _ => l) (wpAny_point h)

theorem sx_execs_nil (h : SegX (model prog w) A c (K .next) fs s P) : SegX (model prog w) A c ((execs [] env).wrap K H gd lv) fs s P := h
theorem sx_execs_cons {st : Stmt} {rest : List Stmt}
    (h : SegX (model prog w) A c ((exec st env).wrap (fun f => match f with | .next => (execs rest env).wrap K H gd lv | f => K f) H gd lv) fs s P) :
    SegX (model prog w) A c ((execs (st :: rest) env).wrap K H gd lv) fs s P := by rw [execs_cons_wrap]; exact h

theorem sx_If {test : Expr} {body orelse : List Stmt} {pos : Pos}
    (h : wpAny (model prog w) (A.over c fs) (isTrue test env (eval test env)) (fun b s' => SegX (model prog w) A c ((execs (if b = true then body else orelse) env).wrap K H gd lv) fs s' P) (fun _ _ => False) s) :
    SegX (model prog w) A c ((exec (.If test body orelse pos) env).wrap K H gd lv) fs s P := by
  rw [exec_If]
  refine sx_bind (wpAny_standAt ?_)
  refine sx_bind (wpAny_mono h (fun b s' hb => ?_) fun _ _ x => x.elim)
  cases b <;> exact hb

theorem sx_Yield {e : Expr} {ypos pos : Pos} (hfs : splitAtGen fs = none) (hgd : gd false = false) (hfg : fs.any Frame.guarded = false)
    (h : wpAny (model prog w) (A.over c fs) (eval e env) (fun v s' => ∀ (l : List Value) (k : Resume → Sem Fin) (p : Pos),
        k (.send .none) = K .next →
        P (.susp v false l k c p fs) s')
      (fun _ _ => False) s) (hco : env.scope.isCoroutine = false := by rfl) (hi : interactive env = false := by rfl) :
    SegX (model prog w) A c ((exec (.Expr (.Yield (some e) ypos) pos) env).wrap K H gd lv) fs s P := by
  rw [exec_Expr env _ pos hi rfl]
  show SegX (model prog w) A c (.at pos fun _ => ((eval e env >>= fun v => (standAt ypos >>= fun _ => yieldOut env v)) >>= fun x =>
    dropValue (.Yield (some e) ypos) pos x).wrap K H gd lv) fs s P
  have hy : ∀ v, yieldOut env v = yieldValue v := fun v => by simp only [yieldOut, hco, Bool.false_eq_true, if_false]
  simp only [hy]
  refine sx_at ?_
  rw [Sem.bind_eq_wrap', Sem.bind_eq_wrap', Sem.wrap_wrap, Sem.wrap_wrap]
  refine sx_wrap (wpAny_mono h (fun v s' h' => ?_) fun _ _ x => x.elim)
  refine sx_at ?_
  rintro Γ p rfl _
  refine ⟨_, s', Runs.yield' fs hfs, ?_, ?_⟩
  · simp [End.quiet, hgd, hfg]
  · have e1 : gd (id false) = false := hgd
    show P (End.susp v (gd (id false)) _ _ Γ.code p fs) s'
    rw [e1]
    exact h' _ _ p rfl

theorem sx_For {target iter : Expr} {body orelse : List Stmt} {pos : Pos}
    (h : wpAny (model prog w) (A.over c fs) (eval iter env) (fun x s₁ => wpAny (model prog w) (A.over c fs) (pyIter x) (fun it s₂ =>
      ∀ p, SegX (model prog w) A (.forLoop target it body orelse env) ((model prog w).den (.forLoop target it body orelse env))
      (.ret (fun r => ((match r with | .ok f => (.pure f : Sem Flow) | .error e => .raise e).onRaise fun (x : Value) => do
        if (← field x 1) == Value.none then unsupported "frame.own-activation:exception-without-traceback"
        setFlight x env.frame).wrap K H gd lv) none (gd false) (lv []) c p [] :: fs) s₂ P) (fun _ _ => False) s₁) (fun _ _ => False) s)
    (hs : ∀ x, foldedSetIterable iter env x = pure x := by intro _; rfl) :
    SegX (model prog w) A c ((exec (.For target iter body orelse pos) env).wrap K H gd lv) fs s P := by
  rw [exec_For]
  refine sx_bind (wpAny_standAt ?_)
  refine sx_bind (wpAny_mono h (fun x s₁ h₁ => ?_) fun _ _ x => x.elim)
  refine sx_bind (wpAny_of_eq (hs x) ?_)
  refine sx_bind (wpAny_standAt ?_)
  refine sx_bind (wpAny_holding (wpAny_mono h₁ (fun it s₂ h₂ => ?_) fun _ _ x => x.elim))
  exact s_call prog w A c fs P s₂ _ none (gd false) (lv []) _ h₂

theorem sx_forTurn {target : Expr} {it : Value} {body orelse : List Stmt}
    (h : wpAny (model prog w) (A.over (.forLoop target it body orelse env) fs) (pyNext it) (fun r s₁ => match r with
      | none => SegX (model prog w) A (.block orelse env) ((model prog w).den (.block orelse env)) fs s₁ P
      | some v => wpAny (model prog w) (A.over (.forLoop target it body orelse env) fs) (letOwnedTupleGo target it v) (fun _ s₂ =>
          wpAny (model prog w) (A.over (.forLoop target it body orelse env) fs) (assign target env v) (fun _ s₃ =>
          SegX (model prog w) A (.forLoop target it body orelse env) ((execs body env).wrap (fun f => match f with
            | .next | .cont => .pure (.again (.forLoop target it body orelse env))
            | .brk => .pure (.done .next)
            | .ret v => .pure (.done (.ret v))) (fun e => (do noteFrame e env; theTreesLotGoes e : Sem Unit).wrap (fun _ => .raise e) .raise id id) id id) fs s₃ P) (fun _ _ => False) s₂) (fun _ _ => False) s₁) (fun _ _ => False) s) :
    SegX (model prog w) A (.forLoop target it body orelse env) ((model prog w).den (.forLoop target it body orelse env)) fs s P := by
  show SegX _ A _ ((forTurn target it body orelse env).onRaise (fun x => do noteFrame x env; theTreesLotGoes x)) fs s P
  unfold forTurn
  rw [Sem.onRaise_eq_wrap]
  refine sx_bind (wpAny_standAt ?_)
  refine sx_bind (wpAny_onRaise (wpAny_mono h (fun r s₁ h₁ => ?_) fun _ _ x => x.elim))
  cases r with
  | none => exact s_again prog w A _ fs P s₁ _ rfl h₁
  | some v =>
    refine sx_bind (wpAny_mono h₁ (fun _ s₂ h₂ => ?_) fun _ _ x => x.elim)
    refine sx_bind (wpAny_mono h₂ (fun _ s₃ h₃ => ?_) fun _ _ x => x.elim)
    rw [Sem.bind_eq_wrap', Sem.wrap_wrap]
    rw [Sem.wrap_congr (execs body env) _ _ (K' := fun f => match f with
            | .next | .cont => .pure (.again (.forLoop target it body orelse env))
            | .brk => .pure (.done .next)
            | .ret v => .pure (.done (.ret v))) (H' := (fun e => (do noteFrame e env; theTreesLotGoes e : Sem Unit).wrap (fun _ => .raise e) .raise id id))
        (fun f => by cases f <;> rfl)
        (fun e => by first | exact Sem.bind_eq_wrap _ _ | (show (do noteFrame e env; theTreesLotGoes e : Sem Unit).bind (fun _ => .raise e) = _; rw [Sem.bind_eq_wrap]))]
    exact h₃

theorem sx_block_nil (hk : SegX (model prog w) A c (K .next) fs s P) {p : Pos} {gg ll kp} :
    SegX (model prog w) A (.block [] env) ((model prog w).den (.block [] env)) (.ret (fun r => ((match r with | .ok f => (.pure f : Sem Flow) | .error e => .raise e).onRaise fun (x : Value) => do
        if (← field x 1) == Value.none then unsupported "frame.own-activation:exception-without-traceback"
        setFlight x env.frame).wrap K H gd lv) none gg ll c p kp :: fs) s P :=
  s_pop prog w A _ fs P s (.ok .next) _ rfl _ none gg ll c p kp hk

theorem sx_func {body : List Stmt}
    (h : SegX (model prog w) A (.func body env) ((execs body env).wrap (fun f => .pure (.done (.ret (match f with | .ret v => v | _ => .none))))
      (fun e => (leaving env e).wrap (fun _ => .raise e) .raise id id) id id) fs s P) :
    SegX (model prog w) A (.func body env) ((model prog w).den (.func body env)) fs s P := by
  show SegX _ A _ (.point [] fun _ => ((execs body env).onRaise (leaving env)) >>= _) fs s P
  refine sx_point ?_
  rw [Sem.onRaise_eq_wrap, Sem.bind_eq_wrap', Sem.wrap_wrap]
  rw [Sem.wrap_congr (execs body env) _ _ (K' := fun f => .pure (.done (.ret (match f with | .ret v => v | _ => .none))))
    (H' := fun e => (leaving env e).wrap (fun _ => .raise e) .raise id id) (fun f => by cases f <;> rfl)
    (fun e => by rw [Sem.bind_eq_wrap, Sem.wrap_wrap]; rfl)]
  exact h
end seg
end Mine
end
section
open PySem PySem.W PySem.W.X PyProof.Rows
set_option Elab.async false
set_option maxRecDepth 100000
namespace Mine
open PySem

/-- what a generator of pairs (an int, a text) yields: the int, the text's codes -/
abbrev Item := Nat × List Nat
abbrev tupObj (vs : List Value) : Obj := { cls := .type "tuple", data := .seq vs.toArray }
def Owned (own : List (Addr × Obj)) (h : Heap) : Prop := ∀ p ∈ own, h.get? p.1 = some p.2
def BaseIn (base h : Heap) : Prop := ∀ b o, base.get? b = some o → h.get? b = some o

/-- what one waking of a generator changes -/
structure Woke (own : List (Addr × Obj)) (s s' : Shared) : Prop where
  heap : ∀ b o, (∀ p ∈ own, p.1 ≠ b) → s.heap.get? b = some o → s'.heap.get? b = some o
  os : s'.os = s.os

def Starts (prog : Program) (w : World) (A : Around) (gs : GenState) (s : Shared) (P : End → Shared → Prop) : Prop :=
  match gs with
  | .fresh c => SegX (model prog w) A c ((model prog w).den c) [] s P
  | .suspended k _ c _ fs _ => SegX (model prog w) A c (k (.send .none)) fs s P
  | _ => False

structure Yielded (own : List (Addr × Obj)) (it : Item) (s s' : Shared) (T : Addr) (own' : List (Addr × Obj)) : Prop where
  tup : ∃ t u, s'.heap.get? T = some (tupObj [.int it.1 t, .str ⟨it.2.toArray⟩ u])
  new : s.heap.get? T = none
  apart : ∀ p ∈ own', p.1 ≠ T
  woke : Woke own s s'
  owned : Owned own' s'.heap
  from' : ∀ p ∈ own', (∃ q ∈ own, q.1 = p.1) ∨ s.heap.get? p.1 = none

def GenP (prog : Program) (w : World) (base : Heap) : List Item → List (Addr × Obj) → GenState → Prop
  | [], own, gs => ∀ (A : Around) (s : Shared), A.handled = none → BaseIn base s.heap → Owned own s.heap → Starts prog w A gs s (fun e s' => e = .ret (.ok (.ret .none)) ∧ s'.gens = s.gens ∧ Woke own s s')
  | it :: rest, own, gs => ∀ (A : Around) (s : Shared), A.handled = none → BaseIn base s.heap → Owned own s.heap →
      Starts prog w A gs s (fun e s' => ∃ T own', e.result = .yielded (.ref T) ∧ s'.gens = s.gens ∧ Yielded own it s s' T own' ∧ GenP prog w base rest own' e.genState)

section
variable {prog : Program} {w : World} {A : Around} {E : Value → Shared → Prop} {s : Shared} {base : Heap} {own : List (Addr × Obj)} {a : Addr} {g : Nat} {gs : GenState}

theorem wake_starts {α : Type} {Q : α → Shared → Prop} {l : List Value} {k : GenResult → Sem α} (hg : s.gens[g]? = some gs) {P : End → Shared → Prop} (h : Starts prog w A gs (s.setGen g .running) P)
    (hP : ∀ e s₁, e.quiet = true → P e s₁ → wpAny (model prog w) A (k e.result) Q E (s₁.setGen g e.genState)) :
    wpAny (model prog w) A (.resume g (.send .none) l k) Q E s := by
  have key : ∀ {c₀ : Code} {t₀ : Sem Fin} {fs₀ : List Frame}, SegX (model prog w) A c₀ t₀ fs₀ (s.setGen g .running) P → SegX (model prog w) A c₀ t₀ fs₀ (s.setGen g .running) (fun e s₁ => ∀ Γ p, Γ.In A → Sem.wp (model prog w) Γ (k e.result) (fun a _ s' => Q a s') (fun e _ s' => E e s') p (s₁.setGen g e.genState)) := by
    intro c₀ t₀ fs₀ x Γ p hc hΓ
    obtain ⟨e, s', hr, hq, hp⟩ := x Γ p hc hΓ
    exact ⟨e, s', hr, hq, hP e s' hq hp⟩
  cases gs with
  | fresh c => exact wake_any α prog w hg (.inl ⟨rfl, rfl, rfl, rfl⟩) (fun Γ => Γ.In A) (fun _ h => h) (key h)
  | suspended k₀ l₀ c₀ p₀ fs₀ cl => exact wake_any α prog w hg (.inr ⟨k₀, l₀, p₀, cl, rfl, rfl⟩) (fun Γ => Γ.In A) (fun _ h => h) (key h)
  | running => exact h.elim
  | finished => exact h.elim

theorem next_gen {P : End → Shared → Prop} {Q : Option Value → Shared → Prop} (hh : A.handled = none) (hl : s.heap.NoLimit) (hroom : A.depth < recursionLimit) (hg : s.heap.IsGen a g) (hgs : s.gens[g]? = some gs)
    (h : Starts prog w A.in1 gs (s.setGen g .running) P)
    (hP : ∀ e s₁, e.quiet = true → P e s₁ → (∃ v, e.result = .yielded v ∧ Q (some v) (s₁.setGen g e.genState)) ∨ (e = .ret (.ok (.ret .none)) ∧ ∀ h', (∀ b o, s₁.heap.get? b = some o → h'.get? b = some o) → Q none { s₁.setGen g .finished with heap := h' })) :
    wpAny (model prog w) A (pyNext (.ref a)) Q E s := by
  unfold pyNext
  refine wpAny_bind (wpAny_attempt (wpAny_callSpecial?_slot (name := Str.ofString "__next__") hg.typeIs slot_gen_next
    (wpAny_call_entry slot_gen_next hg.typeIs entry_gen_next ?_ (args_gen_next _))))
  show wpAny _ _ (Builtin.Generator.genWake (.ref a) (.send .none)) _ _ s
  unfold Builtin.Generator.genWake
  refine wpAny_bind (wpAny_holding (wpAny_genNumber hg (wpAny_bind (wpAny_genState hgs ?_))))
  cases gs with
  | running => exact h.elim
  | finished => exact h.elim
  | _ =>
    refine wpAny_bind (wpAny_roomToWake hl hroom ?_)
    show wpAny _ A.in1 (.resume g (.send .none) [] _) _ _ s
    refine wake_starts hgs h (fun e s₁ hq hp => ?_)
    rcases hP e s₁ hq hp with ⟨v, hv, hQ⟩ | ⟨rfl, hQ⟩
    · rw [hv]
      exact wpAny_pure ⟨v, rfl, wpAny_pure hQ⟩
    · show wpAny _ A.in1 (newExc (.type "StopIteration") [] >>= _) _ _ _
      refine wpAny_bind ?_
      simp only [newExc, newTuple]
      refine wpAny_bind (wpAny_newObj_type ?_ (by size_fits))
      refine wpAny_bind (m := firstArgMember _ _) (wpAny_of_eq (a := Value.none) (by first | rfl | (simp only [firstArgMember]; rfl)) ?_)
      refine wpAny_newObj_type ?_ (by size_fits)
      simp only [raiseNew]
      refine wpAny_bind (wpAny_bind (wpAny_handled ?_))
      rw [show A.in1.handled = none from hh]
      refine wpAny_throw ?_
      refine wpAny_bind (wpAny_isInstance (T := "StopIteration") (b := true) ⟨_, Heap.get?_push_size _ rfl, rfl⟩ isSubtype_stop ?_)
      exact wpAny_pure (hQ _ fun b o hb => Heap.get?_push_of_some _ (Heap.get?_push_of_some _ hb))

/-- the state of an iterator of this kind in the consumer's hands -/
structure Itr (prog : Program) (w : World) (base : Heap) (a : Addr) (g : Nat) (items : List Item) (own : List (Addr × Obj)) (s : Shared) : Prop where
  gen : s.heap.IsGen a g
  off : ∀ p ∈ own, p.1 ≠ a
  owned : Owned own s.heap
  live : ∃ gs, s.gens[g]? = some gs ∧ GenP prog w base items own gs

theorem Itr.keep {a : Addr} {g : Nat} {items : List Item} (I : Itr prog w base a g items own s) {s' : Shared} (hk : ∀ b o, (b = a ∨ ∃ p ∈ own, p.1 = b) → s.heap.get? b = some o → s'.heap.get? b = some o) (hg : s'.gens[g]? = s.gens[g]?) : Itr prog w base a g items own s' :=
  ⟨let ⟨o, nm, qn, ho, r⟩ := I.gen; ⟨o, nm, qn, hk _ _ (.inl rfl) ho, r⟩, I.off, fun p hp => hk _ _ (.inr ⟨p, hp, rfl⟩) (I.owned p hp), hg ▸ I.live⟩

theorem Itr.next {it : Item} {rest : List Item} {Q : Option Value → Shared → Prop} (I : Itr prog w base a g (it :: rest) own s) (hh : A.handled = none) (hl : s.heap.NoLimit) (hroom : A.depth < recursionLimit) (hb : BaseIn base s.heap)
    (hQ : ∀ T own' s', Yielded own it s s' T own' → T ≠ a → Itr prog w base a g rest own' s' → GenOnlyQ g s.gens s'.gens → s'.os = s.os → Q (some (.ref T)) s') :
    wpAny (model prog w) A (pyNext (.ref a)) Q E s := by
  obtain ⟨hg, hoff, ho, gs, hgs, hG⟩ := I
  refine next_gen hh hl hroom hg hgs (hG A.in1 (s.setGen g .running) hh hb ho) fun e s₁ hq hp => .inl ?_
  obtain ⟨T, own', hr, hgn, hy, hG'⟩ := hp
  refine ⟨_, hr, ?_⟩
  obtain ⟨tup, new, apart, woke, owned, from'⟩ := hy
  obtain ⟨oa, ha⟩ : ∃ o, s.heap.get? a = some o := by obtain ⟨o, _, _, h1, _⟩ := hg; exact ⟨o, h1⟩
  have hTa : T ≠ a := fun q => by
    have h1 : s.heap.get? T = none := new
    rw [q, ha] at h1; cases h1
  have hgen : s₁.heap.IsGen a g := let ⟨o, nm, qn, ho', r⟩ := hg; ⟨o, nm, qn, woke.heap a o hoff ho', r⟩
  have hself : (s₁.setGen g e.genState).gens[g]? = some e.genState := by
    refine setGen_self (gs := .running) ?_
    rw [hgn]; exact setGen_self hgs
  refine hQ T own' _ ⟨tup, new, apart, ⟨woke.heap, woke.os⟩, owned, from'⟩ hTa ⟨hgen, ?_, owned, e.genState, hself, hG'⟩ ?_ woke.os
  · intro p hp q
    rcases from' p hp with ⟨q', hq', e'⟩ | h1
    · exact hoff q' hq' (e'.trans q)
    · have h1 : s.heap.get? p.1 = none := h1
      rw [q, ha] at h1; cases h1
  · refine GenOnlyQ.of (y := e.genState) ?_ hself (End.bare_of_quiet hq)
    have h1 := GenOnly.setGen s g .running
    have h2 := GenOnly.setGen s₁ g e.genState
    rw [hgn] at h2
    exact h1.trans h2

theorem Itr.done {Q : Option Value → Shared → Prop} (I : Itr prog w base a g [] own s) (hh : A.handled = none) (hl : s.heap.NoLimit) (hroom : A.depth < recursionLimit) (hb : BaseIn base s.heap)
    (hQ : ∀ s', Woke own s s' → GenOnlyQ g s.gens s'.gens → s'.os = s.os → Q none s') :
    wpAny (model prog w) A (pyNext (.ref a)) Q E s := by
  obtain ⟨hg, hoff, ho, gs, hgs, hG⟩ := I
  refine next_gen hh hl hroom hg hgs (hG A.in1 (s.setGen g .running) hh hb ho) fun e s₁ hq hp => .inr ?_
  obtain ⟨rfl, hgn, woke⟩ := hp
  refine ⟨rfl, fun h' hk => hQ _ ⟨fun b o hb' e => hk b o (woke.heap b o hb' e), woke.os⟩ ?_ woke.os⟩
  have hself : (s₁.setGen g .finished).gens[g]? = some .finished := by
    refine setGen_self (gs := .running) ?_
    rw [hgn]; exact setGen_self hgs
  refine GenOnlyQ.of (y := .finished) ?_ hself rfl
  have h1 := GenOnly.setGen s g .running
  have h2 := GenOnly.setGen s₁ g .finished
  rw [hgn] at h2
  exact h1.trans h2
end
end Mine
end
section
open PySem PySem.W PySem.W.X PyProof.Rows
set_option Elab.async false
set_option maxRecDepth 100000
namespace Mine
open PySem

/-- what the generator of escaped signs yields of the codes r, from place i on, e: the sign ahead was a backslash -/
def escGo : Bool → Nat → List Nat → List Item
  | false, _, [] => []
  | true, i, [] => [(i - 1, [92])]
  | true, i, c :: r => (i, [92, c]) :: escGo false (i + 1) r
  | false, i, c :: r => if c = 92 then escGo true (i + 1) r else (i, [c]) :: escGo false (i + 1) r
def escs (x : Str) : List Item := escGo false 0 x.cps.toList

def EndP (prog : Program) (w : World) (base : Heap) (items : List Item) (own : List (Addr × Obj)) (s : Shared) : End → Shared → Prop := match items with
  | [] => fun e s' => e = .ret (.ok (.ret .none)) ∧ s'.gens = s.gens ∧ Woke own s s'
  | it :: rest => fun e s' => ∃ T own', e.result = .yielded (.ref T) ∧ s'.gens = s.gens ∧ Yielded own it s s' T own' ∧ GenP prog w base rest own' e.genState
theorem genP_iff {prog : Program} {w : World} {base : Heap} {items : List Item} {own : List (Addr × Obj)} {gs : GenState} :
    GenP prog w base items own gs ↔ ∀ (A : Around) (s : Shared), A.handled = none → BaseIn base s.heap → Owned own s.heap → Starts prog w A gs s (EndP prog w base items own s) := by
  cases items <;> (rw [GenP]; exact Iff.rfl)

theorem sx_induct {prog : Program} {w : World} {c : Code} {fs : List Frame} (I : Nat → Around → Shared → (End → Shared → Prop) → Prop)
    (step : ∀ k, (∀ k' < k, ∀ A s P, I k' A s P → SegX (model prog w) A c ((model prog w).den c) fs s P) → ∀ A s P, I k A s P → SegX (model prog w) A c ((model prog w).den c) fs s P) :
    ∀ k A s P, I k A s P → SegX (model prog w) A c ((model prog w).den c) fs s P := by
  intro k
  induction k using Nat.strongRecOn with
  | ind k ih => exact step k ih

/-- a frame's names as a list -/
def mOf : List (Str × Option Value) → Str → Option Value
  | [], _ => none
  | (k, v) :: r, y => if y = k then v else mOf r y
def setL (k : Str) (v : Option Value) : List (Str × Option Value) → List (Str × Option Value)
  | [] => [(k, v)]
  | (k', v') :: r => if k = k' then (k', v) :: r else (k', v') :: setL k v r
theorem mOf_setL (k : Str) (v : Option Value) : ∀ (l : List (Str × Option Value)) (y : Str), (if y = k then v else mOf l y) = mOf (setL k v l) y
  | [], y => rfl
  | (k', v') :: r, y => by
    by_cases h : k = k'
    · subst h
      by_cases h2 : y = k <;> simp [mOf, setL, h2]
    · have ih := mOf_setL k v r y
      by_cases h2 : y = k
      · subst h2
        have e : setL y v ((k', v') :: r) = (k', v') :: setL y v r := by simp [setL, h]
        rw [e]
        simp only [mOf, if_neg h, if_true] at ih ⊢
        exact ih
      · have e : setL k v ((k', v') :: r) = (k', v') :: setL k v r := by simp [setL, h]
        rw [e, if_neg h2]
        rw [if_neg h2] at ih
        simp only [mOf, ih]
theorem mOf_set (k : Str) (v : Option Value) (l : List (Str × Option Value)) : (fun y => if y = k then v else mOf l y) = mOf (setL k v l) := funext (mOf_setL k v l)
theorem mOf_none (k : Str) : ∀ l : List (Str × Option Value), mOf (l ++ [(k, none)]) = mOf l
  | [] => by funext y; by_cases h : y = k <;> simp [mOf, h]
  | (k', v) :: r => by funext y; have ih := congrFun (mOf_none k r) y; simp only [List.cons_append, mOf, ih]
theorem mOf_lookup (l : List (Str × Value)) : (fun y => l.lookup y) = mOf (l.map fun p => (p.1, some p.2)) := by
  funext y
  induction l with
  | nil => rfl
  | cons p r ih =>
    obtain ⟨k, v⟩ := p
    by_cases h : y = k
    · subst h; simp [mOf]
    · have e : (y == k) = false := by simpa using h
      simp only [List.lookup_cons, e, List.map_cons, mOf, if_neg h]; exact ih
theorem frTo {h₀ h : Heap} {L : Addr} {m m' : Str → Option Value} (F : Fr h₀ L h m) (e : m = m') : Fr h₀ L h m' := e ▸ F
/-- the generator's locals -/
abbrev gm (x : Str) (t : Tok) (pv : Int) (tp : Tok) (esc : Bool) (ch : Option Value) : Str → Option Value :=
  mOf [("addr", some (.str x t)), ("pos", some (.int pv tp)), ("escape", some (.bool esc)), ("ch", ch)]
example {x : Str} {t : Tok} {pv pv' : Int} {tp tp' : Tok} {esc : Bool} {ch : Option Value} : (fun y : Str => if y = "pos" then some (.int pv' tp') else gm x t pv tp esc ch y) = gm x t pv' tp' esc ch := by
  rw [mOf_set]; rfl
end Mine
end
section
open PySem PySem.W PySem.W.X PyProof.Rows
set_option Elab.async false
set_option maxRecDepth 100000
namespace Mine
open PySem

def Wr (own : List (Addr × Obj)) (hs : Heap) (b : Addr) : Prop := (∃ p ∈ own, p.1 = b) ∨ hs.get? b = none
structure Moving (own : List (Addr × Obj)) (hs h : Heap) : Prop where
  keep : ∀ b o, (∀ p ∈ own, p.1 ≠ b) → hs.get? b = some o → h.get? b = some o
theorem Moving.refl (own : List (Addr × Obj)) (h : Heap) : Moving own h h := ⟨fun _ _ _ e => e⟩
theorem Moving.but {own : List (Addr × Obj)} {hs h h' : Heap} (M : Moving own hs h) (W : Addr → Prop) (hW : ∀ b, W b → Wr own hs b) (hk : ∀ b o, ¬ W b → h.get? b = some o → h'.get? b = some o) : Moving own hs h' :=
  ⟨fun b o hb e => hk b o (fun hw => by
    rcases hW b hw with ⟨p, hp, q⟩ | h1
    · exact hb p hp q
    · rw [e] at h1; cases h1) (M.keep b o hb e)⟩
theorem Moving.same {own : List (Addr × Obj)} {hs h h' : Heap} {L : Addr} (M : Moving own hs h) (hL : Wr own hs L) (hk : Heap.SameBut L h h') : Moving own hs h' :=
  M.but (fun b => b = L) (fun _ e => e ▸ hL) (fun b o hb e => hk.extBut b o hb e)
theorem Moving.keeps {own : List (Addr × Obj)} {hs h h' : Heap} (M : Moving own hs h) (hk : ∀ b o, h.get? b = some o → h'.get? b = some o) : Moving own hs h' :=
  M.but (fun _ => False) (fun _ e => e.elim) (fun b o _ e => hk b o e)
theorem Moving.push {own : List (Addr × Obj)} {hs h : Heap} (M : Moving own hs h) (o : Obj) : Moving own hs (h.push o) := M.keeps fun _ _ e => Heap.get?_push_of_some _ e
theorem Moving.woke {own : List (Addr × Obj)} {s s' : Shared} (M : Moving own s.heap s'.heap) (ho : s'.os = s.os) : Woke own s s' := ⟨M.keep, ho⟩
/-- what lies beyond the heap at hand is new, if what is owned lies in it -/
theorem Moving.fresh {own : List (Addr × Obj)} {hs h : Heap} (M : Moving own hs h) (ho : ∀ p ∈ own, p.1 < h.objs.size) {b : Addr} (hb : h.objs.size ≤ b) : hs.get? b = none := by
  cases e : hs.get? b with
  | none => rfl
  | some o =>
    have := Heap.lt_size (M.keep b o (fun p hp q => absurd (ho p hp) (by rw [q]; exact Nat.not_lt.mpr hb)) e)
    exact absurd this (Nat.not_lt.mpr hb)

section
variable {M : Model} {A : Around} {E : Value → Shared → Prop} {s : Shared} {name : Str} {scope : Scope} {L a : Addr} {cd : Value} {h₀ hs : Heap} {m : Str → Option Value} {news own : List (Addr × Obj)}
theorem stM {x : Str} {v : Value} {l : List (Str × Option Value)} {Q : Unit → Shared → Prop} (F : Fr h₀ L s.heap (mOf l)) (N : News h₀ L s.heap news) (Mv : Moving own hs s.heap) (hL : Wr own hs L)
    (h : ∀ h', Fr h₀ L h' (mOf (setL x (some v) l)) → News h₀ L h' news → Moving own hs h' → Q () { s with heap := h', toks := s.toks + 1 })
    (hk : scope.kind = .function := by rfl) (hl : (envOf name scope L a cd).kindOf x = some .local := by rfl) :
    wpAny M A (storeName (envOf name scope L a cd) x v) Q E s :=
  wpAny_storeName_local hl F.ns (fun h' hn hs => h h' (frTo (F.set hn hs) (mOf_set x (some v) l)) (N.set hs) (Mv.same hL hs))
    (by show (scope.kind == .class || (scope.kind == .module && L != mainGlobals)) = false; rw [hk]; rfl)
theorem newTupleM {vs : List Value} {Q : Value → Shared → Prop} (F : Fr h₀ L s.heap m) (N : News h₀ L s.heap news) (Mv : Moving own hs s.heap)
    (h : ∀ h', Fr h₀ L h' m → News h₀ L h' ((s.heap.objs.size, tupObj vs) :: news) → Moving own hs h' → h'.objs.size = s.heap.objs.size + 1 → Q (.ref s.heap.objs.size) { s with heap := h' }) (hsz : vs.length ≤ sizeLine := by size_fits) :
    wpAny M A (newTuple vs) Q E s := wpAny_newObj_type (h _ (F.push _) (N.push F _) (Mv.push _) (Heap.size_push ..)) (by show vs.toArray.size ≤ sizeLine; rw [List.size_toArray]; exact hsz)
end

theorem stL {x : Str} {v : Value} {l : List (Str × Option Value)} {M : Model} {A : Around} {E : Value → Shared → Prop} {s : Shared} {name : Str} {scope : Scope} {L a : Addr} {cd : Value} {h₀ : Heap} {news : List (Addr × Obj)} {Q : Unit → Shared → Prop} (F : Fr h₀ L s.heap (mOf l)) (N : News h₀ L s.heap news)
    (h : ∀ h', Fr h₀ L h' (mOf (setL x (some v) l)) → News h₀ L h' news → Q () { s with heap := h', toks := s.toks + 1 })
    (hk : scope.kind = .function := by rfl) (hl : (envOf name scope L a cd).kindOf x = some .local := by rfl) :
    wpAny M A (storeName (envOf name scope L a cd) x v) Q E s :=
  wpAny_storeName_local hl F.ns (fun h' hn hs => h h' (frTo (F.set hn hs) (mOf_set x (some v) l)) (N.set hs))
    (by show (scope.kind == .class || (scope.kind == .module && L != mainGlobals)) = false; rw [hk]; rfl)
abbrev enumO (it : Addr) (i : Nat) (old : Value) : Obj := { cls := .type "enumerate", dict := none, data := .fields #[.none, .bool false, .ref it, rawInt i, .none, old], slots := #[] }

theorem extBut_new {h h' : Heap} (hx : Heap.ExtBut h.objs.size h h') : ∀ b o, h.get? b = some o → h'.get? b = some o := fun b o e => hx b o (Nat.ne_of_lt (Heap.lt_size e)) e
section
variable {prog : Program} {w : World} {A : Around} {E : Value → Shared → Prop} {s : Shared} {name : Str} {scope : Scope} {L a : Addr} {cd : Value} {h₀ : Heap} {news : List (Addr × Obj)}
theorem assign2 {l : List (Str × Option Value)} {x1 x2 : Str} {p1 p2 pos : Pos} {k : Nat} {T : Addr} {v1 v2 : Value} {Q : Unit → Shared → Prop} (hh : A.handled = none) (F : Fr h₀ L s.heap (mOf l)) (N : News h₀ L s.heap news) (ht : s.heap.IsTuple T #[v1, v2])
    (h : ∀ h', Fr h₀ L h' (mOf (setL x2 (some v2) (setL x1 (some v1) l))) → News h₀ L h' news → (∀ b o, b ≠ L → s.heap.get? b = some o → h'.get? b = some o) → Q () { s with heap := h', toks := s.toks + 1 + 1 })
    (hk : scope.kind = .function := by rfl) (hl1 : (envOf name scope L a cd).kindOf x1 = some .local := by rfl) (hl2 : (envOf name scope L a cd).kindOf x2 = some .local := by rfl) :
    wpAny (model prog w) A (assign (.Tuple [.Name x1 p1, .Name x2 p2] k pos) (envOf name scope L a cd) (.ref T)) Q E s := by
  have hp : ((envOf name scope L a cd).scope.kind == .class || ((envOf name scope L a cd).scope.kind == .module && (envOf name scope L a cd).locals != (envOf name scope L a cd).globals)) = false := by
    show (scope.kind == .class || (scope.kind == .module && L != mainGlobals)) = false; rw [hk]; rfl
  refine wpAny_assign_Tuple hh ht rfl rfl fun h₃ hx₃ => ?_
  replace hx₃ := extBut_new hx₃
  show wpAny _ A (do holding [v2] (assign (.Name x1 p1) (envOf name scope L a cd) v1); do holding [] (assign (.Name x2 p2) (envOf name scope L a cd) v2); pure ()) _ _ _
  have F₃ : Fr h₀ L h₃ (mOf l) := F.keeps hx₃
  have N₃ : News h₀ L h₃ news := fun p hp' => ⟨hx₃ _ _ (N p hp').1, (N p hp').2⟩
  refine wpAny_bind (wpAny_holding (wpAny_assign_Name (wpAny_storeName_local hl1 F₃.ns (fun h₄ hn₄ hs₄ => ?_) hp)))
  have F₄ := frTo (F₃.set hn₄ hs₄) (mOf_set x1 (some v1) l)
  refine wpAny_bind (wpAny_holding (wpAny_assign_Name (wpAny_storeName_local hl2 F₄.ns (fun h₅ hn₅ hs₅ => wpAny_pure ?_) hp)))
  have F₅ := frTo (F₄.set hn₅ hs₅) (mOf_set x2 (some v2) _)
  exact h h₅ F₅ ((N₃.set hs₄).set hs₅) (fun b o hb e => hs₅.extBut b o hb (hs₄.extBut b o hb (hx₃ b o e)))
end

theorem Draws.strU {prog : Program} {w : World} {A : Around} (hh : A.handled = none) (it : Addr) (x : Str) (t : Tok) :
    Draws prog w A it [it] x.cps.size (fun i v => ∃ c u, x.cps[i]? = some c ∧ v = .str ⟨#[c]⟩ u) (fun i h => h.IsStrIter it (strIterType x) x t i) := by
  unfold strIterType
  cases ha : x.cps.all (· < 128)
  · exact Draws.strWide hh it x t
  · exact Draws.strAscii hh it x t
theorem esc_end_false {i : Nat} : escGo false i [] = [] := rfl
theorem esc_end_true {i : Nat} : escGo true i [] = [(i - 1, [92])] := rfl
theorem esc_true {i c : Nat} {r : List Nat} : escGo true i (c :: r) = (i, [92, c]) :: escGo false (i + 1) r := rfl
theorem esc_back {i c : Nat} {r : List Nat} (h : c = 92) : escGo false i (c :: r) = escGo true (i + 1) r := by simp [escGo, h]
theorem esc_sign {i c : Nat} {r : List Nat} (h : ¬ c = 92) : escGo false i (c :: r) = (i, [c]) :: escGo false (i + 1) r := by simp [escGo, h]
theorem drop_of {l : List Nat} {i c : Nat} (h : l[i]? = some c) : l.drop i = c :: l.drop (i + 1) := by
  obtain ⟨hi, rfl⟩ := List.getElem?_eq_some_iff.mp h
  exact List.drop_eq_getElem_cons hi

theorem gen_yield {prog : Program} {w : World} {h₀ : Heap} {C it T : Addr} {own₀ : List (Addr × Obj)} {s₀ s' : Shared} {eo so : Obj} {l : List (Str × Option Value)} {i : Nat} {cs : List Nat} {t u : Tok} {rest : List Item} {c : Code} {fs : List Frame} {lv : List Value} {k : Resume → Sem Fin} {p : Pos} {Kn : Sem Fin}
    (F : Fr h₀ C s'.heap (mOf l)) (N : News h₀ C s'.heap [(T, tupObj [.int i t, .str ⟨cs.toArray⟩ u]), (it + 1, eo), (it, so)]) (hT1 : T ≠ it + 1) (hT2 : T ≠ it) (hTf : s₀.heap.get? T = none) (Mv : Moving own₀ s₀.heap s'.heap) (hg : s'.gens = s₀.gens) (ho : s'.os = s₀.os)
    (W1 : Wr own₀ s₀.heap C) (W2 : Wr own₀ s₀.heap (it + 1)) (W3 : Wr own₀ s₀.heap it) (hk : k (.send .none) = Kn)
    (hrest : ∀ A s'' own', A.handled = none → (∀ p ∈ own', p.1 = C ∨ p.1 = it + 1 ∨ p.1 = it) → Wr own' s''.heap C → Wr own' s''.heap (it + 1) → Wr own' s''.heap it → Fr h₀ C s''.heap (mOf l) → News h₀ C s''.heap [(it + 1, eo), (it, so)] →
      SegX (model prog w) A c Kn fs s'' (EndP prog w h₀ rest own' s'')) :
    EndP prog w h₀ ((i, cs) :: rest) own₀ s₀ (.susp (.ref T) false lv k c p fs) s' := by
  obtain ⟨oC, es, ep, hoC, hr⟩ := id F.ns
  have n0 := N _ (.head _)
  have n1 := N _ (.tail _ (.head _))
  have n2 := N _ (.tail _ (.tail _ (.head _)))
  have hall : ∀ {P : Addr × Obj → Prop}, P (C, oC) → P (it + 1, eo) → P (it, so) → ∀ q ∈ [(C, oC), (it + 1, eo), (it, so)], P q := by
    intro P a b c q hq
    rcases List.mem_cons.mp hq with rfl | hq
    · exact a
    · rcases List.mem_cons.mp hq with rfl | hq
      · exact b
      · rw [List.mem_singleton.mp hq]; exact c
  refine ⟨T, [(C, oC), (it + 1, eo), (it, so)], rfl, hg, ⟨⟨t, u, n0.1⟩, hTf, hall (Ne.symm n0.2.1) (Ne.symm hT1) (Ne.symm hT2), ⟨Mv.keep, ho⟩, hall hoC n1.1 n2.1, hall W1 W2 W3⟩, ?_⟩
  rw [genP_iff]
  intro A s'' hh hb ho''
  show SegX (model prog w) A c (k (.send .none)) fs s'' _
  rw [hk]
  refine hrest A s'' _ hh (hall (.inl rfl) (.inr (.inl rfl)) (.inr (.inr rfl))) (.inl ⟨_, .head _, rfl⟩) (.inl ⟨_, .tail _ (.head _), rfl⟩) (.inl ⟨_, .tail _ (.tail _ (.head _)), rfl⟩) ⟨⟨oC, es, ep, ho'' _ (.head _), hr⟩, hb, F.above⟩ ?_
  intro q hq
  rcases List.mem_cons.mp hq with rfl | hq
  · exact ⟨ho'' _ (.tail _ (.head _)), n1.2⟩
  · rw [List.mem_singleton.mp hq]
    exact ⟨ho'' _ (.tail _ (.tail _ (.head _))), n2.2⟩

theorem gen_yield0 {prog : Program} {w : World} {h₀ : Heap} {C T : Addr} {own₀ : List (Addr × Obj)} {s₀ s' : Shared} {l : List (Str × Option Value)} {i : Nat} {cs : List Nat} {t u : Tok} {rest : List Item} {c : Code} {fs : List Frame} {lv : List Value} {k : Resume → Sem Fin} {p : Pos} {Kn : Sem Fin} {pv : Int} (hpv : pv = (i : Int))
    (F : Fr h₀ C s'.heap (mOf l)) (N : News h₀ C s'.heap [(T, tupObj [.int pv t, .str ⟨cs.toArray⟩ u])]) (hTf : s₀.heap.get? T = none) (Mv : Moving own₀ s₀.heap s'.heap) (hg : s'.gens = s₀.gens) (ho : s'.os = s₀.os)
    (W1 : Wr own₀ s₀.heap C) (hk : k (.send .none) = Kn)
    (hrest : ∀ A s'' own', A.handled = none → Wr own' s''.heap C → Fr h₀ C s''.heap (mOf l) → SegX (model prog w) A c Kn fs s'' (EndP prog w h₀ rest own' s'')) :
    EndP prog w h₀ ((i, cs) :: rest) own₀ s₀ (.susp (.ref T) false lv k c p fs) s' := by
  subst hpv
  obtain ⟨oC, es, ep, hoC, hr⟩ := id F.ns
  have n0 := N _ (.head _)
  have hall : ∀ {P : Addr × Obj → Prop}, P (C, oC) → ∀ q ∈ [(C, oC)], P q := by
    intro P a q hq
    rw [List.mem_singleton.mp hq]; exact a
  refine ⟨T, [(C, oC)], rfl, hg, ⟨⟨t, u, n0.1⟩, hTf, hall (Ne.symm n0.2.1), ⟨Mv.keep, ho⟩, hall hoC, hall W1⟩, ?_⟩
  rw [genP_iff]
  intro A s'' hh hb ho''
  show SegX (model prog w) A c (k (.send .none)) fs s'' _
  rw [hk]
  exact hrest A s'' _ hh (.inl ⟨_, .head _, rfl⟩) ⟨⟨oC, es, ep, ho'' _ (.head _), hr⟩, hb, F.above⟩
end Mine
end
section
open PySem PySem.W PySem.W.X PyProof.Rows
set_option Elab.async false
set_option maxRecDepth 100000
namespace Mine
open PySem

/-- generators: the elder ones stand as they stood, the new ones are bare -/
structure GensGrow (a b : Array GenState) : Prop where
  size : a.size ≤ b.size
  old : ∀ k, k < a.size → b[k]? = a[k]?
  new : ∀ k x, a.size ≤ k → b[k]? = some x → x.bare = true
theorem GensGrow.refl (a : Array GenState) : GensGrow a a := ⟨Nat.le_refl _, fun _ _ => rfl, fun k x hk e => by rw [Array.getElem?_eq_none hk] at e; cases e⟩
theorem GensGrow.trans {a b c : Array GenState} (x : GensGrow a b) (y : GensGrow b c) : GensGrow a c :=
  ⟨Nat.le_trans x.size y.size, fun k hk => (y.old k (Nat.lt_of_lt_of_le hk x.size)).trans (x.old k hk), fun k z hk e => by
    rcases Nat.lt_or_ge k b.size with h | h
    · rw [y.old k h] at e; exact x.new k z hk e
    · exact y.new k z h e⟩
theorem GensGrow.only {a b c : Array GenState} {g : Nat} (x : GensGrow a b) (hg : a.size ≤ g) (y : GenOnlyQ g b c) : GensGrow a c := by
  rcases y with rfl | ⟨⟨hz, ho⟩, hb⟩
  · exact x
  · refine ⟨by rw [hz]; exact x.size, fun k hk => (ho k (fun q => absurd hk (by rw [q]; exact Nat.not_lt.mpr hg))).trans (x.old k hk), fun k z hk e => ?_⟩
    by_cases q : k = g
    · subst q; exact hb z e
    · rw [ho k q] at e; exact x.new k z hk e

theorem GensGrow.push (a : Array GenState) {x : GenState} (hx : x.bare = true) : GensGrow a (a.push x) :=
  ⟨by simp, fun k hk => by simp [Array.getElem?_push, Nat.ne_of_lt hk], fun k y hk e => by
    rw [Array.getElem?_push] at e
    split at e
    · cases e; exact hx
    · rw [Array.getElem?_eq_none hk] at e; cases e⟩

/-- what a call leaves: all that stood stands -/
structure Keep (s s' : Shared) : Prop where
  heap : ∀ b o, s.heap.get? b = some o → s'.heap.get? b = some o
  os : s'.os = s.os
  gens : GensGrow s.gens s'.gens
theorem Keep.refl (s : Shared) : Keep s s := ⟨fun _ _ e => e, rfl, .refl _⟩
theorem Keep.trans {s s' s'' : Shared} (x : Keep s s') (y : Keep s' s'') : Keep s s'' := ⟨fun b o e => y.heap b o (x.heap b o e), y.os.trans x.os, x.gens.trans y.gens⟩
theorem Keep.fr {h₀ : Heap} {L : Addr} {m : Str → Option Value} {s s' : Shared} (k : Keep s s') (F : Fr h₀ L s.heap m) : Fr h₀ L s'.heap m := F.keeps k.heap
theorem Keep.news {h₀ : Heap} {L : Addr} {news : List (Addr × Obj)} {s s' : Shared} (k : Keep s s') (N : News h₀ L s.heap news) : News h₀ L s'.heap news := fun p hp => ⟨k.heap _ _ (N p hp).1, (N p hp).2⟩

section
variable {prog : Program} {w : World} {A : Around} {s : Shared}
/-- a call of a def: its frame is new, all else is kept -/
theorem enter {Q E : Value → Shared → Prop} {name qual : Str} {params : Arguments} {body : List Stmt} {scope : Scope} {dV kV doc pm cdv ct oc : Value} {an od : Option Addr} {osl : Array (Option Value)} {f : Addr} {pos : List Value} {kw : List (Str × Value)} {binds : List (Str × Value)}
    (ho : s.heap.get? f = some ⟨oc, od, .func (fnOf name qual params body scope dV kV doc pm an cdv ct), osl⟩) (hcd : s.heap.CodeRec cdv qual) (hNL : s.heap.NoLimit) (hroom : A.depth < recursionLimit)
    (hbind : BindsTo s (fnOf name qual params body scope dV kV doc pm an cdv ct) ⟨pos, kw⟩ binds) (hloc : ∀ y ∈ binds, scope.names.lookup y.1 = some .local)
    (hco : scope.isCoroutine = false) (hgen : scope.isGenerator = false) (hk : scope.kind = .function) (hcell : ∀ x ∈ scope.names, x.2 ≠ .cell)
    (h : ∀ h₁, Fr s.heap s.heap.objs.size h₁ (mOf (binds.reverse.map fun p => (p.1, some p.2))) → News s.heap s.heap.objs.size h₁ [] →
      wpAny (model prog w) (A.deeper (envOf qual scope s.heap.objs.size f cdv)) (execs body (envOf qual scope s.heap.objs.size f cdv))
        (fun fl s' => Q (match fl with | .ret v => v | _ => .none) s') (fun _ _ => False)
        { s with heap := h₁, toks := s.toks + binds.length }) :
    wpAny (model prog w) A (call (.ref f) pos kw) Q E s := by
  refine wpAny_call ?_
  refine codeAny_call_function hroom ho rfl hco hgen rfl hcd ?_
  refine hbind _ _ _ _ ?_
  refine wpAny_newFunctionEnv hcell hloc (fun h₁ hns hsb => ⟨hNL.fresh _ hsb, ?_⟩) hk
  show codeAny _ _ (.func body (envOf qual scope s.heap.objs.size f cdv)) _ _
  refine codeAny_func (wpAny_mono (h h₁ (frTo ⟨hns, fun b o e => hsb.extBut b o (Nat.ne_of_lt (Heap.lt_size e)) (Heap.get?_push_of_some _ e), Nat.le_refl _⟩ (mOf_lookup _)) News.nil) (fun fl s' hq => hq) fun _ _ x => x.elim)
end

theorem let_go_gen {prog : Program} {w : World} {A : Around} {E : Value → Shared → Prop} {s : Shared} {elts : List Expr} {k : Nat} {pos : Pos} {a T : Addr} {g : Nat} {Q : Unit → Shared → Prop} (hg : s.heap.IsGen a g) (h : Q () s) :
    wpAny (model prog w) A (letOwnedTupleGo (.Tuple elts k pos) (.ref a) (.ref T)) Q E s := by
  obtain ⟨o, nm, qn, ho, hc, hd, _⟩ := hg
  unfold letOwnedTupleGo
  refine wpAny_bind (wpAny_load ho ?_)
  rw [hc, hd]
  refine wpAny_ite ?_
  rw [if_neg (by simp)]
  exact wpAny_pure h

section
variable {prog : Program} {w : World} {A : Around} {s : Shared} {name : Str} {scope : Scope} {L f : Addr} {cd : Value} {h₀ : Heap} {x1 x2 : Str} {body : List Stmt} {Q : Flow → Shared → Prop}

def GenTurn (h₀ : Heap) (L : Addr) (J : List (Str × Option Value) → List (Addr × Obj) → Prop) (ext : List (Addr × Obj)) (Q : Flow → Shared → Prop) (s₂ : Shared) (fl : Flow) (s₃ : Shared) : Prop := match fl with
  | .ret v => Q (.ret v) s₃
  | .brk => Q .next s₃
  | _ => ∃ l₂ news₂, Fr h₀ L s₃.heap (mOf l₂) ∧ News h₀ L s₃.heap (news₂ ++ ext) ∧ (∀ p ∈ ext, ∀ q ∈ news₂, p.1 ≠ q.1) ∧ s₃.gens = s₂.gens ∧ s₃.os = s₂.os ∧ J l₂ news₂

theorem loop_gen {a : Addr} {g : Nat} {items : List Item} {own : List (Addr × Obj)} {l : List (Str × Option Value)} {news : List (Addr × Obj)} {p1 p2 pt : Pos} {k : Nat} {R : Result → Shared → Prop}
    (hh : A.handled = none) (hroom : A.depth < recursionLimit) (hNL : h₀.NoLimit) (J : List Item → List (Str × Option Value) → List (Addr × Obj) → Prop)
    (F : Fr h₀ L s.heap (mOf l)) (N : News h₀ L s.heap news) (I : Itr prog w h₀ a g items own s) (hna : ∀ p ∈ news, p.1 ≠ a) (hno : ∀ p ∈ own, ∀ q ∈ news, p.1 ≠ q.1) (hoL : ∀ p ∈ own, p.1 ≠ L ∧ h₀.get? p.1 = none) (haL : a ≠ L) (ha0 : h₀.get? a = none) (h0 : J items l news)
    (turn : ∀ it rest l₁ news₁ s₂ t u ext, J (it :: rest) l₁ news₁ → GenOnlyQ g s.gens s₂.gens → s₂.os = s.os → (∀ p ∈ ext, ∀ q ∈ news₁, p.1 ≠ q.1) →
      Fr h₀ L s₂.heap (mOf (setL x2 (some (.str ⟨it.2.toArray⟩ u)) (setL x1 (some (.int it.1 t)) l₁))) → News h₀ L s₂.heap (news₁ ++ ext) →
      wpAny (model prog w) A (execs body (envOf name scope L f cd)) (GenTurn h₀ L (J rest) ext (fun fl s' => R (.ok fl) s') s₂) (fun _ _ => False) s₂)
    (done : ∀ l₁ news₁ s₂, J [] l₁ news₁ → GenOnlyQ g s.gens s₂.gens → s₂.os = s.os → Fr h₀ L s₂.heap (mOf l₁) → News h₀ L s₂.heap news₁ → R (.ok .next) s₂)
    (hk : scope.kind = .function := by rfl) (hl1 : (envOf name scope L f cd).kindOf x1 = some .local := by rfl) (hl2 : (envOf name scope L f cd).kindOf x2 = some .local := by rfl) :
    codeAny (model prog w) A (.forLoop (.Tuple [.Name x1 p1, .Name x2 p2] k pt) (.ref a) body [] (envOf name scope L f cd)) R s := by
  refine codeAny_forLoop_any (fun n s' => ∃ items' own' l₁ news₁, n = items'.length + 1 ∧ Itr prog w h₀ a g items' own' s' ∧ Fr h₀ L s'.heap (mOf l₁) ∧ News h₀ L s'.heap news₁ ∧ (∀ p ∈ news₁, p.1 ≠ a) ∧ (∀ p ∈ own', ∀ q ∈ news₁, p.1 ≠ q.1) ∧ (∀ p ∈ own', p.1 ≠ L ∧ h₀.get? p.1 = none) ∧
    J items' l₁ news₁ ∧ GenOnlyQ g s.gens s'.gens ∧ s'.os = s.os) ?_ (items.length + 1) ⟨items, own, l, news, rfl, I, F, N, hna, hno, hoL, h0, .inl rfl, rfl⟩
  rintro n s' ⟨items', own', l₁, news₁, rfl, I', F', N', hna', hno', hoL', hJ, hgq, hos⟩
  have hNL' : s'.heap.NoLimit := hNL.keeps F'.keep
  cases items' with
  | nil =>
    refine I'.done hh hNL' hroom F'.keep fun s₂ woke gq os => wpAny_execs_nil (done l₁ news₁ s₂ hJ (hgq.trans gq) (os.trans hos) ?_ ?_)
    · exact ⟨F'.ns.at' fun o e => woke.heap L o (fun p hp => (hoL' p hp).1) e, fun b o e => woke.heap b o (fun p hp q => by rw [← q, (hoL' p hp).2] at e; cases e) (F'.keep b o e), F'.above⟩
    · exact fun p hp => ⟨woke.heap _ _ (fun q hq => hno' q hq p hp) (N' p hp).1, (N' p hp).2⟩
  | cons it rest =>
    refine I'.next hh hNL' hroom F'.keep fun T own₂ s₂ hy hTa I₂ gq os => ?_
    have woke := hy.woke
    have F₂ : Fr h₀ L s₂.heap (mOf l₁) := ⟨F'.ns.at' fun o e => woke.heap L o (fun p hp => (hoL' p hp).1) e, fun b o e => woke.heap b o (fun p hp q => by rw [← q, (hoL' p hp).2] at e; cases e) (F'.keep b o e), F'.above⟩
    obtain ⟨og, nm, qn, hog, hgr⟩ := id I₂.gen
    obtain ⟨oL, _, _, hoLL, _⟩ := id F'.ns
    have fresh : ∀ p ∈ own₂, p.1 ≠ L ∧ h₀.get? p.1 = none ∧ ∀ q ∈ news₁, p.1 ≠ q.1 := by
      intro p hp
      rcases hy.from' p hp with ⟨q, hq, e⟩ | e
      · rw [← e]; exact ⟨(hoL' q hq).1, (hoL' q hq).2, fun r hr => hno' q hq r hr⟩
      · refine ⟨(fun q => by rw [q, hoLL] at e; cases e), ?_, (fun q hq e' => by rw [e', (N' q hq).1] at e; cases e)⟩
        cases e0 : h₀.get? p.1 with
        | none => rfl
        | some o => rw [F'.keep _ _ e0] at e; cases e
    have N₂ : News h₀ L s₂.heap (news₁ ++ ((a, og) :: own₂)) := by
      intro p hp
      rcases List.mem_append.mp hp with hp | hp
      · exact ⟨woke.heap _ _ (fun q hq => hno' q hq p hp) (N' p hp).1, (N' p hp).2⟩
      · rcases List.mem_cons.mp hp with rfl | hp
        · exact ⟨hog, haL, ha0⟩
        · exact ⟨I₂.owned p hp, (fresh p hp).1, (fresh p hp).2.1⟩
    have hsep : ∀ p ∈ (a, og) :: own₂, ∀ q ∈ news₁, p.1 ≠ q.1 := by
      intro p hp q hq
      rcases List.mem_cons.mp hp with rfl | hp
      · exact Ne.symm (hna' q hq)
      · exact (fresh p hp).2.2 q hq
    refine let_go_gen I₂.gen ?_
    obtain ⟨t, u, htup⟩ := hy.tup
    refine assign2 hh F₂ N₂ ⟨_, htup, rfl, _, rfl⟩ (fun h₃ F₃ N₃ hk₃ => ?_) hk hl1 hl2
    refine wpAny_mono (turn it rest l₁ news₁ _ t u ((a, og) :: own₂) hJ (hgq.trans gq) (os.trans hos) hsep F₃ N₃) (fun fl s₃ h => ?_) fun _ _ x => x.elim
    have key : (∃ l₂ news₂, Fr h₀ L s₃.heap (mOf l₂) ∧ News h₀ L s₃.heap (news₂ ++ ((a, og) :: own₂)) ∧ (∀ p ∈ (a, og) :: own₂, ∀ q ∈ news₂, p.1 ≠ q.1) ∧ s₃.gens = s₂.gens ∧ s₃.os = s₂.os ∧ J rest l₂ news₂) → ∃ m, m < (it :: rest).length + 1 ∧
        ∃ items' own' l₁ news₁, m = items'.length + 1 ∧ Itr prog w h₀ a g items' own' s₃ ∧ Fr h₀ L s₃.heap (mOf l₁) ∧ News h₀ L s₃.heap news₁ ∧ (∀ p ∈ news₁, p.1 ≠ a) ∧ (∀ p ∈ own', ∀ q ∈ news₁, p.1 ≠ q.1) ∧ (∀ p ∈ own', p.1 ≠ L ∧ h₀.get? p.1 = none) ∧ J items' l₁ news₁ ∧ GenOnlyQ g s.gens s₃.gens ∧ s₃.os = s.os := by
      rintro ⟨l₂, news₂, F₄, N₄, hsep₄, hg₄, ho₄, hJ₄⟩
      refine ⟨rest.length + 1, by simp, rest, own₂, l₂, news₂, rfl, I₂.keep ?_ (by rw [hg₄]), F₄, fun p hp => N₄ p (List.mem_append_left _ hp), fun p hp => Ne.symm (hsep₄ _ (.head _) p hp), fun p hp q hq => hsep₄ p (.tail _ hp) q hq, fun p hp => ⟨(fresh p hp).1, (fresh p hp).2.1⟩, hJ₄, ?_, ho₄.trans (os.trans hos)⟩
      · rintro b o (rfl | ⟨p, hp, rfl⟩) e
        · rw [hog] at e; cases e
          exact (N₄ _ (List.mem_append_right _ (.head _))).1
        · rw [I₂.owned p hp] at e; cases e
          exact (N₄ _ (List.mem_append_right _ (.tail _ hp))).1
      · rw [hg₄]; exact hgq.trans gq
    cases fl with
    | next => exact key h
    | cont => exact key h
    | brk => exact h
    | ret v => exact h

theorem loop_gen2 {hs : Heap} {m₀ : Str → Option Value} {a : Addr} {g : Nat} {items : List Item} {own : List (Addr × Obj)} {l : List (Str × Option Value)} {news : List (Addr × Obj)} {p1 p2 pt : Pos} {k : Nat} {R : Result → Shared → Prop} (F₀ : Fr h₀ L hs m₀) (N₀ : News h₀ L hs news) (hown : ∀ p ∈ own, hs.objs.size ≤ p.1) (hao : hs.objs.size ≤ a)
    (hh : A.handled = none) (hroom : A.depth < recursionLimit) (hNL : h₀.NoLimit) (J : List Item → List (Str × Option Value) → List (Addr × Obj) → Prop)
    (F : Fr h₀ L s.heap (mOf l)) (N : News h₀ L s.heap news) (I : Itr prog w h₀ a g items own s) (h0 : J items l news)
    (turn : ∀ it rest l₁ news₁ s₂ t u ext, J (it :: rest) l₁ news₁ → GenOnlyQ g s.gens s₂.gens → s₂.os = s.os → (∀ p ∈ ext, ∀ q ∈ news₁, p.1 ≠ q.1) →
      Fr h₀ L s₂.heap (mOf (setL x2 (some (.str ⟨it.2.toArray⟩ u)) (setL x1 (some (.int it.1 t)) l₁))) → News h₀ L s₂.heap (news₁ ++ ext) →
      wpAny (model prog w) A (execs body (envOf name scope L f cd)) (GenTurn h₀ L (J rest) ext (fun fl s' => R (.ok fl) s') s₂) (fun _ _ => False) s₂)
    (done : ∀ l₁ news₁ s₂, J [] l₁ news₁ → GenOnlyQ g s.gens s₂.gens → s₂.os = s.os → Fr h₀ L s₂.heap (mOf l₁) → News h₀ L s₂.heap news₁ → R (.ok .next) s₂)
    (hk : scope.kind = .function := by rfl) (hl1 : (envOf name scope L f cd).kindOf x1 = some .local := by rfl) (hl2 : (envOf name scope L f cd).kindOf x2 = some .local := by rfl) :
    codeAny (model prog w) A (.forLoop (.Tuple [.Name x1 p1, .Name x2 p2] k pt) (.ref a) body [] (envOf name scope L f cd)) R s := by
  have hn0 : ∀ b, hs.objs.size ≤ b → h₀.get? b = none := fun b hb => by
    cases q : h₀.get? b with
    | none => rfl
    | some o' => exact absurd (Heap.lt_size (F₀.keep b o' q)) (Nat.not_lt.mpr hb)
  have nlt : ∀ {a b : Nat}, a < hs.objs.size → hs.objs.size ≤ b → a ≠ b := fun h1 h2 => by omega
  exact loop_gen hh hroom hNL J F N I (fun p hp => nlt (Heap.lt_size (N₀ p hp).1) hao) (fun p hp q hq => Ne.symm (nlt (Heap.lt_size (N₀ q hq).1) (hown p hp))) (fun p hp => ⟨Ne.symm (nlt F₀.ns.lt (hown p hp)), hn0 _ (hown p hp)⟩) (Ne.symm (nlt F₀.ns.lt hao)) (hn0 _ hao) h0 turn done hk hl1 hl2

theorem for_gen {iter : Expr} {p1 p2 pt pos : Pos} {k : Nat} 
    (h : wpAny (model prog w) A (eval iter (envOf name scope L f cd)) (fun v s₁ => ∃ a g, v = .ref a ∧ s₁.heap.IsGen a g ∧
      codeAny (model prog w) A (.forLoop (.Tuple [.Name x1 p1, .Name x2 p2] k pt) (.ref a) body [] (envOf name scope L f cd)) (fun r s' => match r with | .ok f => Q f s' | .error _ => False) s₁) (fun _ _ => False) s)
    (hs : ∀ x, foldedSetIterable iter (envOf name scope L f cd) x = pure x := by intro _; rfl) :
    wpAny (model prog w) A (exec (.For (.Tuple [.Name x1 p1, .Name x2 p2] k pt) iter body [] pos) (envOf name scope L f cd)) Q (fun _ _ => False) s := by
  refine wpAny_For (wpAny_mono h (fun v s₁ h₁ => ?_) fun _ _ x => x.elim) hs
  obtain ⟨a, g, rfl, hg, hc⟩ := h₁
  refine wpAny_pyIter_gen hg (codeAny_mono hc fun r s' x => ?_)
  cases r with
  | ok f => exact x
  | error e => exact x.elim
end
end Mine
end
section
open PySem PySem.W PySem.W.X PyProof.Rows
set_option Elab.async false
namespace Mine
open PySem

/-- the state of _strip_quoted_realnames: start, open_pos, the pieces -/
structure StripSt where
  start : Nat
  op : Option Nat
  res : List (List Nat)
def cut (xs : List Nat) (a b : Nat) : List Nat := (xs.take b).drop a
def stripStep (xs : List Nat) (s : StripSt) (it : Item) : StripSt :=
  if it.2 = [34] then
    match s.op with
    | none => { s with op := some it.1 }
    | some o => { start := it.1 + 1, op := none, res := if s.start = o then s.res else s.res ++ [cut xs s.start o] }
  else s
def stripRun (xs : List Nat) : List Item → StripSt → StripSt
  | [], s => s
  | it :: r, s => stripRun xs r (stripStep xs s it)
def stripEnd (xs : List Nat) (s : StripSt) : List Nat := (if s.start < xs.length then s.res ++ [cut xs s.start xs.length] else s.res).flatten
def strip (x : Str) : Str := if 34 ∈ x.cps.toList then ⟨(stripEnd x.cps.toList (stripRun x.cps.toList (escs x) ⟨0, none, []⟩)).toArray⟩ else x
def chkRun : List Item → Int → Bool
  | [], o => decide (o = 0)
  | it :: r, o => if it.2 = [40] then chkRun r (o + 1) else if it.2 = [41] then (if o - 1 < 0 then false else chkRun r (o - 1)) else chkRun r o
def checkP (x : Str) : Bool := chkRun (escs (strip x)) 0

/-- a list's texts -/
inductive Texts : List Value → List (List Nat) → Prop where
  | nil : Texts [] []
  | cons {v vs c cs} {u : Tok} : v = .str ⟨c.toArray⟩ u → Texts vs cs → Texts (v :: vs) (c :: cs)
theorem Texts.snoc {vs : List Value} {cs : List (List Nat)} (h : Texts vs cs) {c : List Nat} {u : Tok} : Texts (vs ++ [.str ⟨c.toArray⟩ u]) (cs ++ [c]) := by
  induction h with
  | nil => exact .cons rfl .nil
  | cons e _ ih => exact .cons e ih
theorem Texts.length {vs : List Value} {cs : List (List Nat)} (h : Texts vs cs) : vs.length = cs.length := by
  induction h with
  | nil => rfl
  | cons _ _ ih => simp [ih]
def opV : Option Nat → Tok → Value
  | none, _ => .none
  | some o, t => .int o t
abbrev lS (x : Str) (t : Tok) (st : Nat) (ts : Tok) (op : Value) (R : Addr) (pv cv : Option Value) : List (Str × Option Value) :=
  [("addr", some (.str x t)), ("start", some (.int st ts)), ("open_pos", some op), ("result", some (.ref R)), ("pos", pv), ("ch", cv)]
theorem str_inj {a b : List Nat} (h : (⟨a.toArray⟩ : Str) = ⟨b.toArray⟩) : a = b := by
  have := congrArg (fun z : Str => z.cps.toList) h
  simpa using this
theorem strEq1 (ic : List Nat) (c : Nat) (y : Str) (hy : y = ⟨[c].toArray⟩) : ((⟨ic.toArray⟩ : Str) == y) = decide (ic = [c]) := by
  subst hy
  by_cases h : ic = [c]
  · subst h; simp
  · rw [decide_eq_false h]
    cases e : ((⟨ic.toArray⟩ : Str) == ⟨[c].toArray⟩) with
    | false => rfl
    | true => exact absurd (str_inj (by simpa using e)) h
theorem escGo_length : ∀ (r : List Nat) (e : Bool) (i : Nat), (escGo e i r).length ≤ r.length + (if e then 1 else 0)
  | [], true, _ => by simp [escGo]
  | [], false, _ => by simp [escGo]
  | c :: r, true, i => by have := escGo_length r false (i + 1); simp [escGo] at *; omega
  | c :: r, false, i => by
    by_cases h : c = 92
    · have := escGo_length r true (i + 1); rw [esc_back h]; simp at *; omega
    · have := escGo_length r false (i + 1); rw [esc_sign h]; simp at *; omega
theorem escs_length (x : Str) : (escs x).length ≤ x.cps.size := by have := escGo_length x.cps.toList false 0; simpa [escs] using this
theorem appendHead {prog : Program} {w : World} {A : Around} {E : Value → Shared → Prop} {s : Shared} {h₀ : Heap} {L : Addr} {m : Str → Option Value} {D : Addr} {its : Array Value} {n : Nat} {x : Value} {tail : List (Addr × Obj)} {Q : Value → Shared → Prop}
    (F : Fr h₀ L s.heap m) (N : News h₀ L s.heap ((D, W.listOf its n) :: tail)) (hd : ∀ p ∈ tail, p.1 ≠ D) (hsz : its.size ≤ sizeLine)
    (h : ∀ h', Fr h₀ L h' m → News h₀ L h' ((D, W.listOf (its.push x) (n + 1)) :: tail) → Q .none { s with heap := h' }) : wpAny (model prog w) A (call (.builtin "list.append") [.ref D, x]) Q E s :=
  append_K F N (Upd.head hd) h hsz
end Mine
end
section
open PySem PySem.W PySem.W.X PyProof.Rows
open PySem.Builtin PySem.Builtin.Str
set_option Elab.async false
namespace Mine
open PySem

theorem pick_range (arr : Array Nat) (i : Nat) : ∀ k : Nat, (((List.range k).map fun j => i + j).filterMap fun j => arr[j]?) = (arr.toList.drop i).take k
  | 0 => by simp
  | k + 1 => by
    rw [List.range_succ, List.map_append, List.filterMap_append, pick_range arr i k, List.take_add_one]
    congr 1
    simp only [List.map_cons, List.map_nil, List.getElem?_drop]
    have e : arr.toList[i + k]? = arr[i + k]? := by simp
    rw [e, List.filterMap_cons, List.filterMap_nil]
    cases arr[i + k]? <;> simp only [Option.toList]
theorem slice_idx (a b n : Nat) : strSliceIndices (some (a : Int)) (some (b : Int)) 1 n = (List.range (min b n - min a n)).map fun j => min a n + j := by
  unfold strSliceIndices sliceRange
  have h1 : ¬ ((a : Int) < 0) := by omega
  have h2 : ¬ ((b : Int) < 0) := by omega
  simp only [show (1 : Int) > 0 by decide, if_true, if_neg h1, if_neg h2]
  have e1 : max 0 (min (a : Int) n) = ((min a n : Nat) : Int) := by omega
  have e2 : max 0 (min (b : Int) n) = ((min b n : Nat) : Int) := by omega
  rw [e1, e2]
  have e3 : (if ((min a n : Nat) : Int) < ((min b n : Nat) : Int) then (((min b n : Nat) : Int) - ((min a n : Nat) : Int) + 1 - 1) / 1 else 0).toNat = min b n - min a n := by
    split
    · rw [Int.ediv_one]; omega
    · omega
  rw [e3]
  apply List.map_congr_left
  intro k _
  omega
theorem slice_idx' (a n : Nat) : strSliceIndices (some (a : Int)) none 1 n = (List.range (n - min a n)).map fun j => min a n + j := by
  unfold strSliceIndices sliceRange
  have h1 : ¬ ((a : Int) < 0) := by omega
  simp only [show (1 : Int) > 0 by decide, if_true, if_neg h1]
  have e1 : max 0 (min (a : Int) n) = ((min a n : Nat) : Int) := by omega
  rw [e1]
  have e3 : (if ((min a n : Nat) : Int) < (n : Int) then ((n : Int) - ((min a n : Nat) : Int) + 1 - 1) / 1 else 0).toNat = n - min a n := by
    split
    · rw [Int.ediv_one]; omega
    · omega
  rw [e3]
  apply List.map_congr_left
  intro k _
  omega
theorem cut_eq (xs : List Nat) (a b : Nat) : cut xs a b = (xs.drop (min a xs.length)).take (min b xs.length - min a xs.length) := by
  unfold cut
  rw [List.drop_take]
  rcases Nat.le_total a xs.length with h | h
  · rw [Nat.min_eq_left h]
    rcases Nat.le_total b xs.length with h2 | h2
    · rw [Nat.min_eq_left h2]
    · rw [Nat.min_eq_right h2, List.take_of_length_le (by rw [List.length_drop]; omega), List.take_of_length_le (by rw [List.length_drop]; omega)]
  · rw [Nat.min_eq_right h]
    have e1 : xs.drop a = [] := List.drop_eq_nil_of_le h
    have e2 : xs.drop xs.length = [] := List.drop_eq_nil_of_le (Nat.le_refl _)
    rw [e1, e2]; simp
theorem slice_cut (x : Str) (a b : Nat) : Txt.slice x (some (a : Int)) (some (b : Int)) = ⟨(cut x.cps.toList a b).toArray⟩ := by
  have hl : x.cps.toList.length = x.length := by simp [Str.length]
  unfold Txt.slice
  rw [slice_idx, cut_eq, hl, pick_range]
  split
  · rename_i h
    simp only [beq_self_eq_true, Bool.true_and, List.length_map, List.length_range, beq_iff_eq] at h
    rcases Nat.eq_zero_or_pos x.length with h0 | h0
    · have : x.cps = #[] := by rw [← Array.size_eq_zero_iff]; exact h0
      obtain ⟨c⟩ := x
      subst this
      simp
    · have e1 : min a x.length = 0 := by omega
      rw [h, e1, List.drop_zero, List.take_of_length_le (by rw [hl]; exact Nat.le_refl _)]
  · rfl
theorem slice_cut' (x : Str) (a : Nat) : Txt.slice x (some (a : Int)) none = ⟨(cut x.cps.toList a x.cps.toList.length).toArray⟩ := by
  have hl : x.cps.toList.length = x.length := by simp [Str.length]
  unfold Txt.slice
  rw [slice_idx', cut_eq, hl, pick_range, Nat.min_self]
  split
  · rename_i h
    simp only [beq_self_eq_true, Bool.true_and, List.length_map, List.length_range, beq_iff_eq] at h
    rcases Nat.eq_zero_or_pos x.length with h0 | h0
    · have : x.cps = #[] := by rw [← Array.size_eq_zero_iff]; exact h0
      obtain ⟨c⟩ := x
      subst this
      simp
    · have e1 : min a x.length = 0 := by omega
      rw [h, e1, List.drop_zero, List.take_of_length_le (by rw [hl]; exact Nat.le_refl _)]
  · rfl
theorem join_flat : ∀ (cs : List (List Nat)), Txt.join (Str.ofString "") (cs.map fun c => (⟨c.toArray⟩ : Str)) = ⟨cs.flatten.toArray⟩ := by
  have key : ∀ (r : List (List Nat)) (a : Array Nat), (r.map fun c => (⟨c.toArray⟩ : Str)).foldl (fun acc p => acc ++ (Str.ofString "").cps ++ p.cps) a = a ++ r.flatten.toArray := by
    intro r
    induction r with
    | nil => intro a; simp
    | cons c r ih =>
      intro a
      rw [List.map_cons, List.foldl_cons, ih]
      have e : (Str.ofString "").cps = #[] := by decide
      rw [e]
      simp
  intro cs
  cases cs with
  | nil => decide
  | cons c r =>
    show (⟨(((c :: r).map fun c => (⟨c.toArray⟩ : Str)).drop 1).foldl (fun acc p => acc ++ (Str.ofString "").cps ++ p.cps) c.toArray⟩ : Str) = _
    rw [List.map_cons, List.drop_succ_cons, List.drop_zero, key]
    simp
theorem Texts.strs {vs : List Value} {cs : List (List Nat)} (h : Texts vs cs) : StrsAre vs (cs.map fun c => (⟨c.toArray⟩ : Str)) := by
  induction h with
  | nil => exact .nil
  | cons e _ ih => subst e; exact .cons _ _ ih
theorem sum_le {n : Nat} : ∀ (cs : List (List Nat)), (∀ c ∈ cs, c.length ≤ n) → ((cs.map fun c => (⟨c.toArray⟩ : Str)).map (·.length)).sum ≤ cs.length * n
  | [], _ => by simp
  | c :: cs, h => by
    have ih := sum_le cs fun c hc => h c (.tail _ hc)
    have h1 := h c (.head _)
    simp only [List.map_cons, List.sum_cons, List.length_cons, Nat.add_mul, Nat.one_mul]
    have e : (⟨c.toArray⟩ : Str).length = c.length := by simp [Str.length]
    omega
theorem cut_le (xs : List Nat) (a b : Nat) : (cut xs a b).length ≤ xs.length := by unfold cut; rw [List.length_drop, List.length_take]; omega
theorem join_texts {prog : Program} {w : World} {A : Around} {E : Value → Shared → Prop} {s : Shared} {h₀ : Heap} {L D : Addr} {vals : List Value} {cs : List (List Nat)} {n N : Nat} {t : Tok} {tail : List (Addr × Obj)} {Q : Value → Shared → Prop}
    (Nw : News h₀ L s.heap ((D, W.listOf vals.toArray n) :: tail)) (ht : Texts vals cs) (hc : ∀ c ∈ cs, c.length ≤ N) (hN : cs.length * N ≤ 16777216)
    (h : ∀ t' k, Q (.str ⟨cs.flatten.toArray⟩ t') { s with toks := k }) : wpAny (model prog w) A (call (.builtin "str.join") [.str (Str.ofString "") t, .ref D]) Q E s := by
  refine join_list ⟨_, (Nw _ (.head _)).1, rfl, n, rfl⟩ (by simpa using ht.strs) ?_ (fun t' k => by rw [join_flat]; exact h t' k)
  have e : (Str.ofString "").length = 0 := by decide
  have := sum_le cs hc
  rw [e, Nat.mul_zero, Nat.add_zero]
  omega
end Mine
end
section
open PySem PySem.W PySem.W.X PyProof.Rows
set_option Elab.async false
set_option maxRecDepth 100000
namespace Mine
open PySem

/-- a mark at which the walk stops -/
def Halt (p : Prop) : Prop := p
theorem Halt.mk {p : Prop} (h : Halt p) : p := h
theorem Halt.go {p : Prop} (h : p) : Halt p := h

def Again (I : Nat → Shared → Prop) (n : Nat) (s : Shared) : Prop := ∃ m, m < n ∧ I m s
theorem while_inv {prog : Program} {w : World} {A : Around} {s : Shared} {env : Env} {test : Expr} {body : List Stmt} {pos : Pos} {Q : Flow → Shared → Prop} (I : Nat → Shared → Prop)
    (turn : ∀ n s, I n s → wpAny (model prog w) A (isTrue test env (eval test env)) (fun b s₂ => if b = true then wpAny (model prog w) A (execs body env) (fun f s₃ => match f with
            | .next | .cont => Again I n s₃
            | .brk => Q .next s₃
            | .ret v => Q (.ret v) s₃) (fun _ _ => False) s₂ else Q .next s₂) (fun _ _ => False) s)
    (n : Nat) (h : I n s) : wpAny (model prog w) A (exec (.While test body [] pos) env) Q (fun _ _ => False) s := by
  refine wpAny_While (codeAny_mono (codeAny_whileLoop (R := fun r s' => match r with | .ok f => Q f s' | .error _ => False) I (fun n s hI => ?_) n h) fun r s' x => ?_)
  · refine wpAny_mono (turn n s hI) (fun b s₂ h₂ => ?_) fun _ _ x => x.elim
    cases b with
    | true =>
      simp only [if_true] at h₂ ⊢
      exact wpAny_mono h₂ (fun f s₃ h₃ => h₃) fun _ _ x => x.elim
    | false =>
      simp only [Bool.false_eq_true, if_false] at h₂ ⊢
      exact wpAny_execs_nil h₂
  · cases r with
    | ok f => exact x
    | error e => exact x.elim

theorem binds_kw {s : Shared} {fd : FuncData} {args : Args} {binds : List (Str × Value)} {T d : Addr} {o : Obj} {items : Array Value} {n : Nat} {m : Str → Option Value} {nm : Str} {k : Option (Array Value) → Sem (List (Str × Value))} {k2 : Option Value → Sem (List (Str × Value))}
    (hd : fd.defaults = .ref T) (ho : s.heap.get? T = some o) (hs : o.data = .seq items n) (hns : s.heap.Ns d m) (h₁ : bindArgs fd args = seqItems? fd.defaults >>= k) (h₂ : k (some items) = (nsGet d nm >>= k2)) (h₃ : k2 (m nm) = pure binds) : BindsTo s fd args binds := by
  intro M A Q E hq
  rw [h₁, hd]
  refine wpAny_bind (wpAny_seqItems ho hs ?_)
  rw [h₂]
  refine wpAny_bind (wpAny_nsGet hns ?_)
  rw [h₃]
  exact wpAny_pure hq

/-- the two halvings, as the texts do them; p: what is asked at a place -/
def halve (p : Nat → Bool) : Nat → Nat → Nat → Nat
  | 0, lo, _ => lo
  | f + 1, lo, hi => if lo < hi then (if p ((lo + hi) / 2) = true then halve p f lo ((lo + hi) / 2) else halve p f ((lo + hi) / 2 + 1) hi) else lo
theorem halve_done (p : Nat → Bool) (f lo hi : Nat) (h : ¬ lo < hi) : halve p f lo hi = lo := by
  cases f with
  | zero => rfl
  | succ f => simp [halve, h]
theorem halve_more (p : Nat → Bool) : ∀ (f g lo hi : Nat), hi - lo ≤ f → hi - lo ≤ g → halve p f lo hi = halve p g lo hi
  | 0, g, lo, hi, h1, _ => by rw [halve_done _ _ _ _ (by omega), halve_done _ _ _ _ (by omega)]
  | f + 1, 0, lo, hi, _, h2 => by rw [halve_done _ _ _ _ (by omega), halve_done _ _ _ _ (by omega)]
  | f + 1, g + 1, lo, hi, h1, h2 => by
    by_cases h : lo < hi
    · simp only [halve, if_pos h]
      split
      · exact halve_more p f g _ _ (by omega) (by omega)
      · exact halve_more p f g _ _ (by omega) (by omega)
    · rw [halve_done _ _ _ _ h, halve_done _ _ _ _ h]
def halved (p : Nat → Bool) (n : Nat) : Nat := halve p n 0 n
theorem halve_step (p : Nat → Bool) (lo hi : Nat) (h : lo < hi) : halve p (hi - lo) lo hi = if p ((lo + hi) / 2) = true then halve p ((lo + hi) / 2 - lo) lo ((lo + hi) / 2) else halve p (hi - ((lo + hi) / 2 + 1)) ((lo + hi) / 2 + 1) hi := by
  obtain ⟨k, hk⟩ : ∃ k, hi - lo = k + 1 := ⟨hi - lo - 1, by omega⟩
  rw [hk]
  simp only [halve, if_pos h]
  split
  · exact halve_more p _ _ _ _ (by omega) (by omega)
  · exact halve_more p _ _ _ _ (by omega) (by omega)
theorem halve_le (p : Nat → Bool) : ∀ (f lo hi : Nat), lo ≤ hi → halve p f lo hi ≤ hi ∧ lo ≤ halve p f lo hi
  | 0, lo, hi, h => ⟨h, Nat.le_refl _⟩
  | f + 1, lo, hi, h => by
    by_cases h2 : lo < hi
    · simp only [halve, if_pos h2]
      split
      · have := halve_le p f lo ((lo + hi) / 2) (by omega); omega
      · have := halve_le p f ((lo + hi) / 2 + 1) hi (by omega); omega
    · rw [halve_done _ _ _ _ h2]; omega

/-- a list of ints at an address -/
def IntList (h : Heap) (a : Addr) (ns : List Int) : Prop := ∃ vs : List Value, h.IsList a vs.toArray ∧ IntsAre vs ns
theorem IntList.keep {h h' : Heap} {a : Addr} {ns : List Int} (x : IntList h a ns) (k : ∀ b o, h.get? b = some o → h'.get? b = some o) : IntList h' a ns :=
  let ⟨vs, hl, hi⟩ := x; ⟨vs, hl.at fun o e => k a o e, hi⟩
theorem itemL {prog : Program} {w : World} {A : Around} {E : Value → Shared → Prop} {s : Shared} {value slice : Expr} {l : Addr} {vs : List Value} {k : Int} {u : Tok} {v : Value} {Q : Value → Shared → Prop}
    (hl : s.heap.IsList l vs.toArray) (h0 : 0 ≤ k) (hhi : k < 2 ^ 63) (hx : vs[k.toNat]? = some v) (h : Q v s)
    (hs : subscripted slice false (.ref l) (.int k u) = operate [.ref l, .int k u] (getItem (.ref l) (.int k u)) := by with_unfolding_all rfl) :
    wpAny (model prog w) A (subscriptTail value slice (.ref l) (.int k u)) Q E s :=
  tail_any hl.typeIs slot_list_getitem.lookup (wpAny_getItem_list hl h0 hhi (by simpa using hx) h) hs
abbrev lB (a : Addr) (xv : Value) (kv : Value) (lo : Nat) (tl : Tok) (hi : Nat) (th : Tok) (mv : Option Value) : List (Str × Option Value) :=
  [("key", some kv), ("hi", some (.int hi th)), ("lo", some (.int lo tl)), ("x", some xv), ("a", some (.ref a)), ("mid", mv)]
theorem half_eq (lo hi : Nat) : Int.fdiv ((lo : Int) + (hi : Int)) 2 = (((lo + hi) / 2 : Nat) : Int) := by
  rw [Int.fdiv_eq_ediv_of_nonneg _ (by omega)]; omega
theorem lenI {prog : Program} {w : World} {A : Around} {E : Value → Shared → Prop} {s : Shared} {a : Addr} {ns : List Int} {Q : Value → Shared → Prop} (hl : IntList s.heap a ns) (hn : ns.length ≤ 1000) (h : Q (.int ns.length (s.toks + 1)) { s with toks := s.toks + 1 + 1 }) :
    wpAny (model prog w) A (call (.builtin "len") [.ref a]) Q E s := by
  obtain ⟨vs, hl, hI⟩ := hl
  have e : vs.toArray.size = ns.length := by rw [List.size_toArray]; exact hI.length
  refine Calls.call_len_list hl (by rw [e]; omega) ?_
  rw [e]; exact h
theorem itemI {prog : Program} {w : World} {A : Around} {E : Value → Shared → Prop} {s : Shared} {value slice : Expr} {l : Addr} {ns : List Int} {k : Nat} {kk : Int} {u : Tok} {Q : Value → Shared → Prop}
    (hl : IntList s.heap l ns) (hk : k < ns.length) (hn : ns.length ≤ 1000) (hkk : kk = (k : Int)) (h : ∀ t, Q (.int (ns.getD k 0) t) s)
    (hs : subscripted slice false (.ref l) (.int kk u) = operate [.ref l, .int kk u] (getItem (.ref l) (.int kk u)) := by with_unfolding_all rfl) :
    wpAny (model prog w) A (subscriptTail value slice (.ref l) (.int kk u)) Q E s := by
  subst hkk
  obtain ⟨vs, hl, hI⟩ := hl
  obtain ⟨t, hx⟩ := hI.get k ns[k] (by simp [hk])
  have e : ns.getD k 0 = ns[k] := by simp [List.getD, hk]
  exact itemL hl (by omega) (by omega) (by simpa using hx) (e ▸ h t) hs
theorem keeps_F {M : Model} {kf : Addr} {oc : Value} {od : Option Addr} {fd : FuncData} {sl : Array (Option Value)} (h : Heap) (x : h.get? kf = some ⟨oc, od, .func fd, sl⟩) : ∃ k, (k = Keeper.frame ∨ k = Keeper.machine ∨ k = Keeper.boundFrame) ∧ Looks M h (keeperOf (.ref kf)) k :=
  ⟨.frame, .inl rfl, (Looks.ld (part := none) x).andThen .now⟩
theorem callWithF {M : Model} {A : Around} {E : Value → Shared → Prop} {s : Shared} {env : Env} {pos : Pos} {kf : Addr} {first : List Value} {Q : Value → Shared → Prop} {oc : Value} {od : Option Addr} {fd : FuncData} {sl : Array (Option Value)} {e : Expr} {rest : List Expr}
    (h : wpAny M A (spliced (backTo pos (starEach (e :: rest) env))) (fun vs s₁ => s₁.heap.get? kf = some ⟨oc, od, .func fd, sl⟩ ∧ wpAny M A (call (.ref kf) (first ++ vs)) Q E s₁) E s)
    (he : starEach (e :: rest) env = (false, eval e env) :: starEach rest env := by rfl) (hplain : (backTo pos (starEach rest env)).any (·.1) = false := by rfl) :
    wpAny M A (callWith pos (.ref kf) first (backTo pos (starEach (e :: rest) env)) []) Q E s := by
  rw [he] at h ⊢
  exact callWith_of (P := fun h => h.get? kf = some ⟨oc, od, .func fd, sl⟩) (by show ((false || (backTo pos (starEach rest env)).any (·.1)) || false) = false; rw [hplain]; rfl) keeps_F (Calls.evalArgs_plain h)
theorem lenL {prog : Program} {w : World} {A : Around} {E : Value → Shared → Prop} {s : Shared} {a : Addr} {vs : List Value} {Q : Value → Shared → Prop} (hl : s.heap.IsList a vs.toArray) (hn : vs.length ≤ 1000) (h : Q (.int vs.length (s.toks + 1)) { s with toks := s.toks + 1 + 1 }) :
    wpAny (model prog w) A (call (.builtin "len") [.ref a]) Q E s := by
  have e : vs.toArray.size = vs.length := List.size_toArray
  refine Calls.call_len_list hl (by rw [e]; omega) ?_
  rw [e]; exact h
/-- a list of any values at an address -/
def ValList (h : Heap) (a : Addr) (vs : List Value) : Prop := h.IsList a vs.toArray
theorem ValList.keep {h h' : Heap} {a : Addr} {vs : List Value} (x : ValList h a vs) (k : ∀ b o, h.get? b = some o → h'.get? b = some o) : ValList h' a vs := Heap.IsList.at x fun o e => k a o e
end Mine
end
section
open PySem PySem.W PySem.W.X PyProof.Rows
set_option Elab.async false
set_option maxRecDepth 100000
namespace Mine
open PySem

/-- one way to step through an iterable: P says what is drawn, St how the iterator stands -/
structure Steps (prog : Program) (w : World) (A : Around) (target : Expr) (it : Value) (fp wr : List Addr) (n : Nat) (P : Nat → Value → Heap → Prop) (St : Nat → Heap → Prop) : Prop where
  sub : ∀ b ∈ wr, b ∈ fp
  live : ∀ i h, St i h → ∀ b ∈ wr, ∃ o, h.get? b = some o
  frame : ∀ i h h', St i h → (∀ b ∈ fp, ∀ o, h.get? b = some o → h'.get? b = some o) → St i h'
  item : ∀ i (s : Shared) (Q : Value → Shared → Prop) (E : Value → Shared → Prop), i < n → St i s.heap →
    (∀ v h' tk, P i v h' → St (i + 1) h' → (∀ b o, b ∉ wr → s.heap.get? b = some o → h'.get? b = some o) → Q v { s with heap := h', toks := tk }) →
    wpAny (model prog w) A (pyNext it) (fun r s₁ => ∃ v, r = some v ∧ wpAny (model prog w) A (letOwnedTupleGo target it v) (fun _ s₂ => Q v s₂) E s₁) E s
  done : ∀ (s : Shared) (Q : Shared → Prop) (E : Value → Shared → Prop), St n s.heap →
    (∀ h' tk, (∀ b o, b ∉ wr → s.heap.get? b = some o → h'.get? b = some o) → Q { s with heap := h', toks := tk }) → wpAny (model prog w) A (pyNext it) (fun r s₁ => r = none ∧ Q s₁) E s

theorem Steps.ofWalks {prog : Program} {w : World} {A : Around} {I : Addr} {fp wr : List Addr} {n : Nat} {P : Nat → Value → Prop} {St : Nat → Heap → Prop} {x : Str} {px : Pos} (W : Walks prog w A I fp wr n P St)
    (hl : ∀ i h, St i h → ∀ b ∈ wr, ∃ o, h.get? b = some o) : Steps prog w A (.Name x px) (.ref I) fp wr n (fun i v _ => P i v) St where
  sub := W.sub
  live := hl
  frame := W.frame
  item := fun i s _ _ hi st hQ => W.item i s _ _ hi st fun v h' tk hP st' hk => ⟨v, rfl, wpAny_of_eq (a := ()) rfl (hQ v h' tk hP st' hk)⟩
  done := fun s _ _ st hQ => W.done s _ _ st fun h' tk hk => ⟨rfl, hQ h' tk hk⟩

theorem Steps.ofWalksU {prog : Program} {w : World} {A : Around} {I : Addr} {fp wr : List Addr} {n : Nat} {Pt : Nat → Array Value → Prop} {St : Nat → Heap → Prop} {Mid : Nat → Addr → Heap → Prop} {elts : List Expr} {k : Nat} {pos : Pos} (W : WalksU prog w A I fp wr n Pt St Mid)
    (hl : ∀ i h, St i h → ∀ b ∈ wr, ∃ o, h.get? b = some o) : Steps prog w A (.Tuple elts k pos) (.ref I) fp wr n (fun i v h => ∃ T vals, v = .ref T ∧ Pt i vals ∧ h.IsTuple T vals) St where
  sub := W.sub
  live := hl
  frame := W.frame
  item := fun i s _ _ hi st hQ => W.item i s _ _ hi st fun T vals h' tk hP hT hm hk => ⟨_, rfl, W.go elts k pos i T _ _ _ hm fun h'' st' hk' =>
    hQ (.ref T) h'' tk ⟨T, vals, rfl, hP, (let ⟨o, e, r⟩ := hT; ⟨o, hk' T o (W.apart i T _ hm) e, r⟩)⟩ st' fun b o hb e => hk' b o hb (hk b o hb e)⟩
  done := fun s _ _ st hQ => W.done s _ _ st fun h' tk hk => ⟨rfl, hQ h' tk hk⟩

/-- what a turn leaves -/
def TurnX (h₀ : Heap) (L : Addr) (own : List (Addr × Obj)) (J : List (Str × Option Value) → List (Addr × Obj) → Prop) (Q : Flow → Shared → Prop) (s₁ : Shared) (fl : Flow) (s₃ : Shared) : Prop := match fl with
  | .ret v => Q (.ret v) s₃
  | .brk => Q .next s₃
  | _ => ∃ l₂ news₂, Fr h₀ L s₃.heap (mOf l₂) ∧ News h₀ L s₃.heap (news₂ ++ own) ∧ (∀ p ∈ own, ∀ q ∈ news₂, p.1 ≠ q.1) ∧ GensGrow s₁.gens s₃.gens ∧ s₃.os = s₁.os ∧ J l₂ news₂

section
variable {prog : Program} {w : World} {A : Around} {s : Shared} {env : Env} {h₀ : Heap} {target : Expr} {it : Value} {body : List Stmt} {fp wr : List Addr} {n : Nat} {P : Nat → Value → Heap → Prop} {St : Nat → Heap → Prop}

theorem loop_any {l : List (Str × Option Value)} {news : List (Addr × Obj)} {R : Result → Shared → Prop} (S : Steps prog w A target it fp wr n P St) (J : Nat → List (Str × Option Value) → List (Addr × Obj) → Prop)
    (hL : env.locals ∉ wr) (hwr : ∀ b ∈ wr, h₀.get? b = none) (hst : St 0 s.heap) (F : Fr h₀ env.locals s.heap (mOf l)) (N : News h₀ env.locals s.heap news) (hnw : ∀ q ∈ news, q.1 ∉ wr) (h0 : J 0 l news)
    (hfix : ∀ b ∈ fp, b ∈ wr ∨ (∃ o, h₀.get? b = some o) ∨ ∃ o, ∀ i l₁ news₁, J i l₁ news₁ → (b, o) ∈ news₁)
    (turn : ∀ i v l₁ news₁ s₁ own, i < n → P i v s₁.heap → J i l₁ news₁ → (∀ p ∈ own, ∀ q ∈ news₁, p.1 ≠ q.1) → GensGrow s.gens s₁.gens → s₁.os = s.os → Fr h₀ env.locals s₁.heap (mOf l₁) → News h₀ env.locals s₁.heap (news₁ ++ own) →
      wpAny (model prog w) A (assign target env v) (fun _ s₂ => wpAny (model prog w) A (execs body env) (TurnX h₀ env.locals own (J (i + 1)) (fun fl s' => R (.ok fl) s') s) (fun _ _ => False) s₂) (fun _ _ => False) s₁)
    (done : ∀ l₁ news₁ s₁, J n l₁ news₁ → GensGrow s.gens s₁.gens → s₁.os = s.os → Fr h₀ env.locals s₁.heap (mOf l₁) → News h₀ env.locals s₁.heap news₁ → R (.ok .next) s₁) :
    codeAny (model prog w) A (.forLoop target it body [] env) R s := by
  refine codeAny_forLoop_any (fun k s' => ∃ i l₁ news₁, k = n + 1 - i ∧ i ≤ n ∧ St i s'.heap ∧ Fr h₀ env.locals s'.heap (mOf l₁) ∧ News h₀ env.locals s'.heap news₁ ∧ (∀ q ∈ news₁, q.1 ∉ wr) ∧ J i l₁ news₁ ∧ GensGrow s.gens s'.gens ∧ s'.os = s.os) ?_ (n + 1)
    ⟨0, l, news, rfl, Nat.zero_le _, hst, F, N, hnw, h0, .refl _, rfl⟩
  rintro k s' ⟨i, l₁, news₁, rfl, hi, hst', F', N', hnw', hJ, hg, hos⟩
  have moveF : ∀ h₁ : Heap, (∀ b o, b ∉ wr → s'.heap.get? b = some o → h₁.get? b = some o) → Fr h₀ env.locals h₁ (mOf l₁) ∧ News h₀ env.locals h₁ news₁ := fun h₁ hk₁ =>
    ⟨⟨F'.ns.at' fun o e => hk₁ _ o hL e, fun b o e => hk₁ b o (fun hb => by rw [hwr b hb] at e; cases e) (F'.keep b o e), F'.above⟩, fun p hp => ⟨hk₁ _ _ (hnw' p hp) (N' p hp).1, (N' p hp).2⟩⟩
  by_cases hlt : i < n
  · refine wpAny_mono (S.item i s' (fun v s₂ => wpAny (model prog w) A (assign target env v) (fun _ s₂ => wpAny (model prog w) A (execs body env) (fun f s₃ => match f with
            | .next | .cont => ∃ m, m < n + 1 - i ∧ ∃ i' l₁ news₁, m = n + 1 - i' ∧ i' ≤ n ∧ St i' s₃.heap ∧ Fr h₀ env.locals s₃.heap (mOf l₁) ∧ News h₀ env.locals s₃.heap news₁ ∧ (∀ q ∈ news₁, q.1 ∉ wr) ∧ J i' l₁ news₁ ∧ GensGrow s.gens s₃.gens ∧ s₃.os = s.os
            | .brk => R (.ok .next) s₃
            | .ret v => R (.ok (.ret v)) s₃) (fun _ _ => False) s₂) (fun _ _ => False) s₂) (fun _ _ => False) hlt hst' fun v h₁ tk hP st₁ hk₁ => ?_) (fun r s₁ h₁ => ?_) fun _ _ x => x.elim
    · obtain ⟨F₁, N₁⟩ := moveF h₁ hk₁
      have Nown : News h₀ env.locals h₁ (ownOf h₀ wr h₁) := news_ownOf hL
      have N₂ : News h₀ env.locals h₁ (news₁ ++ ownOf h₀ wr h₁) := fun p hp => (List.mem_append.mp hp).elim (N₁ p) (Nown p)
      refine wpAny_mono (turn i v l₁ news₁ _ (ownOf h₀ wr h₁) hlt hP hJ (fun p hp q hq e => hnw' q hq (by rw [← e]; exact ownOf_sub p hp)) hg hos F₁ N₂) (fun _ s₂ h₂ => wpAny_mono h₂ (fun f s₃ h₃ => ?_) fun _ _ x => x.elim) fun _ _ x => x.elim
      have fin : (∃ l₂ news₂, Fr h₀ env.locals s₃.heap (mOf l₂) ∧ News h₀ env.locals s₃.heap (news₂ ++ ownOf h₀ wr h₁) ∧ (∀ p ∈ ownOf h₀ wr h₁, ∀ q ∈ news₂, p.1 ≠ q.1) ∧ GensGrow s.gens s₃.gens ∧ s₃.os = s.os ∧ J (i + 1) l₂ news₂) →
          ∃ m, m < n + 1 - i ∧ ∃ i' l₁ news₁, m = n + 1 - i' ∧ i' ≤ n ∧ St i' s₃.heap ∧ Fr h₀ env.locals s₃.heap (mOf l₁) ∧ News h₀ env.locals s₃.heap news₁ ∧ (∀ q ∈ news₁, q.1 ∉ wr) ∧ J i' l₁ news₁ ∧ GensGrow s.gens s₃.gens ∧ s₃.os = s.os := by
        rintro ⟨l₂, news₂, F₃, N₃, hsep₃, hg₃, hos₃, hJ₃⟩
        refine ⟨n + 1 - (i + 1), by omega, i + 1, l₂, news₂, rfl, hlt, S.frame _ _ _ st₁ fun b hb o e => ?_, F₃, fun p hp => N₃ p (List.mem_append_left _ hp), fun q hq hw => ?_, hJ₃, hg₃, hos₃⟩
        · rcases hfix b hb with hw | ⟨o', e'⟩ | ⟨o', e'⟩
          · exact (N₃ (b, o) (List.mem_append_right _ (mem_ownOf hw (hwr b hw) e))).1
          · have e2 := F₁.keep b o' e'
            exact (F₃.keep b o' e').trans (e2.symm.trans e)
          · exact ((N₃ (b, o') (List.mem_append_left _ (e' _ _ _ hJ₃))).1).trans ((N₁ (b, o') (e' _ _ _ hJ)).1.symm.trans e)
        · obtain ⟨o, e⟩ := S.live _ _ st₁ _ hw
          exact hsep₃ (q.1, o) (mem_ownOf hw (hwr _ hw) e) q hq rfl
      cases f with
      | next => exact fin h₃
      | cont => exact fin h₃
      | brk => exact h₃
      | ret v => exact h₃
    · obtain ⟨v, rfl, h₁⟩ := h₁
      exact wpAny_mono h₁ (fun _ s₂ h₂ => wpAny_mono h₂ (fun _ s₃ h₃ => wpAny_mono h₃ (fun f s₄ h₄ => h₄) fun _ _ x => x.elim) fun _ _ x => x.elim) fun _ _ x => x.elim
  · have hin : i = n := by omega
    subst hin
    refine wpAny_mono (S.done s' (fun s₁ => R (.ok .next) s₁) (fun _ _ => False) hst' fun h₁ tk hk₁ => ?_) (fun r s₁ h₁ => ?_) fun _ _ x => x.elim
    · obtain ⟨F₁, N₁⟩ := moveF h₁ hk₁
      exact done l₁ news₁ _ hJ hg hos F₁ N₁
    · obtain ⟨rfl, h₁⟩ := h₁
      exact wpAny_execs_nil h₁

theorem for_any {iter : Expr} {pos : Pos} {Q : Flow → Shared → Prop}
    (h : wpAny (model prog w) A (eval iter env) (fun v s₁ => wpAny (model prog w) A (pyIter v) (fun it s₂ => codeAny (model prog w) A (.forLoop target it body [] env) (fun r s' => match r with | .ok f => Q f s' | .error _ => False) s₂) (fun _ _ => False) s₁) (fun _ _ => False) s)
    (hs : ∀ x, foldedSetIterable iter env x = pure x := by intro _; rfl) :
    wpAny (model prog w) A (exec (.For target iter body [] pos) env) Q (fun _ _ => False) s := by
  refine wpAny_For (wpAny_mono h (fun v s₁ h₁ => wpAny_mono h₁ (fun it s₂ h₂ => codeAny_mono h₂ fun r s' x => ?_) fun _ _ x => x.elim) fun _ _ x => x.elim) hs
  cases r with
  | ok f => exact x
  | error e => exact x.elim

/-- a name's store in any frame of a def -/
theorem stE {x : Str} {v : Value} {l : List (Str × Option Value)} {L : Addr} {M : Model} {E : Value → Shared → Prop} {news : List (Addr × Obj)} {Q : Unit → Shared → Prop} (F : Fr h₀ L s.heap (mOf l)) (N : News h₀ L s.heap news)
    (h : ∀ h', Fr h₀ L h' (mOf (setL x (some v) l)) → News h₀ L h' news → (∀ b o, b ≠ L → s.heap.get? b = some o → h'.get? b = some o) → Q () { s with heap := h', toks := s.toks + 1 }) (hL : env.locals = L)
    (hk : env.scope.kind = .function) (hl : env.kindOf x = some .local) :
    wpAny M A (storeName env x v) Q E s := by
  subst hL
  exact wpAny_storeName_local hl F.ns (fun h' hn hs => h h' (frTo (F.set hn hs) (mOf_set x (some v) l)) (N.set hs) fun b o hb e => hs.extBut b o hb e)
    (by rw [hk]; rfl)

theorem list_live {I l : Addr} {items : Array Value} : ∀ i (h : Heap), (h.IsListIter I l i ∧ h.IsList l items) → ∀ b ∈ [I], ∃ o, h.get? b = some o := fun i h st b hb => by
  rw [List.mem_singleton.mp hb]; obtain ⟨o, e, _⟩ := st.1; exact ⟨o, e⟩

/-- for x in a list -/
theorem iter_list {a : Addr} {vs : List Value} {x : Str} {px : Pos} {l : List (Str × Option Value)} {news : List (Addr × Obj)} {R : Result → Shared → Prop} (J : Nat → List (Str × Option Value) → List (Addr × Obj) → Prop)
    (hh : A.handled = none) (F : Fr h₀ env.locals s.heap (mOf l)) (N : News h₀ env.locals s.heap news) (hl : s.heap.IsList a vs.toArray) (h0 : J 0 l news)
    (hfix : (∃ o, h₀.get? a = some o) ∨ ∃ o, ∀ i l₁ news₁, J i l₁ news₁ → (a, o) ∈ news₁)
    (turn : ∀ i v l₁ news₁ s₁ own, vs[i]? = some v → J i l₁ news₁ → (∀ p ∈ own, ∀ q ∈ news₁, p.1 ≠ q.1) → GensGrow s.gens s₁.gens → s₁.os = s.os → Fr h₀ env.locals s₁.heap (mOf (setL x (some v) l₁)) → News h₀ env.locals s₁.heap (news₁ ++ own) →
      wpAny (model prog w) A (execs body env) (TurnX h₀ env.locals own (J (i + 1)) (fun fl s' => R (.ok fl) s') s) (fun _ _ => False) s₁)
    (done : ∀ l₁ news₁ s₁, J vs.length l₁ news₁ → GensGrow s.gens s₁.gens → s₁.os = s.os → Fr h₀ env.locals s₁.heap (mOf l₁) → News h₀ env.locals s₁.heap news₁ → R (.ok .next) s₁)
    (hk : env.scope.kind = .function) (hx : env.kindOf x = some .local) :
    wpAny (model prog w) A (pyIter (.ref a)) (fun it s₂ => codeAny (model prog w) A (.forLoop (.Name x px) it body [] env) R s₂) (fun _ _ => False) s := by
  obtain ⟨oa, hoa, _⟩ := id hl
  have hne : a ≠ s.heap.objs.size := Nat.ne_of_lt (Heap.lt_size hoa)
  refine wpAny_pyIter_list hl ?_
  have W := Walks.list (prog := prog) (w := w) (A := A) hh s.heap.objs.size a hne vs.toArray
  refine loop_any (Steps.ofWalks W list_live) J ?_ ?_ ⟨⟨_, Heap.get?_push_size _ rfl, rfl, rfl⟩, hl.at fun o e => Heap.get?_push_of_some _ e⟩ (F.push _) (fun p hp => ⟨Heap.get?_push_of_some _ (N p hp).1, (N p hp).2⟩) ?_ h0 ?_ ?_ ?_
  · intro hm; exact absurd F.ns.lt ((List.mem_singleton.mp hm) ▸ Nat.lt_irrefl _)
  · intro b hb; rw [List.mem_singleton.mp hb]; exact next_is_new F
  · intro p hp hm; exact absurd (Heap.lt_size (N p hp).1) ((List.mem_singleton.mp hm) ▸ Nat.lt_irrefl _)
  · intro b hb
    rcases List.mem_cons.mp hb with rfl | hb
    · exact .inl (.head _)
    · rw [List.mem_singleton.mp hb]; exact .inr hfix
  · intro i v l₁ news₁ s₁ own hi hP hJ hsep hg hos F₁ N₁
    refine wpAny_assign_Name (stE F₁ N₁ (fun h' F₂ N₂ _ => ?_) rfl hk hx)
    exact turn i v l₁ news₁ _ own (by simpa using hP) hJ hsep hg hos F₂ N₂
  · intro l₁ news₁ s₁ hJ
    rw [List.size_toArray] at hJ
    exact done l₁ news₁ s₁ hJ
end
end Mine
end
section
open PySem PySem.W PySem.W.X PyProof.Rows PySem.Calls
set_option Elab.async false
set_option maxRecDepth 100000
namespace Mine
open PySem

section
variable {prog : Program} {w : World} {A : Around} {s : Shared}
/-- a call of a def with cells; hid: what may change of the elder objects -/
theorem enterC {Q E : Value → Shared → Prop} {name qual : Str} {params : Arguments} {body : List Stmt} {scope : Scope} {dV kV doc pm cdv ct oc : Value} {an od : Option Addr} {osl : Array (Option Value)} {f : Addr} {pos : List Value} {kw : List (Str × Value)} {binds : List (Str × Value)}
    (hid : List (Addr × Obj)) (hhid : ∀ p ∈ hid, s.heap.get? p.1 = some p.2)
    (ho : s.heap.get? f = some ⟨oc, od, .func (fnOf name qual params body scope dV kV doc pm an cdv ct), osl⟩) (hcd : s.heap.CodeRec cdv qual) (hNL : s.heap.NoLimit) (hroom : A.depth < recursionLimit)
    (hbind : BindsTo s (fnOf name qual params body scope dV kV doc pm an cdv ct) ⟨pos, kw⟩ binds)
    (hkind : (binds.all fun y => scope.names.lookup y.1 == some .local || scope.names.lookup y.1 == some .cell) = true)
    (hnd : ((cellsFrom 0 scope.names []).map (·.1)).Nodup)
    (hco : scope.isCoroutine = false) (hgen : scope.isGenerator = false) (hk : scope.kind = .function)
    (h : ∀ h₁ tk cells, Fr (hideAll s.heap (hid.map (·.1))) s.heap.objs.size h₁ (bindL (envOfC qual scope s.heap.objs.size f cdv).kindOf binds fun _ => none) → News (hideAll s.heap (hid.map (·.1))) s.heap.objs.size h₁ (cells ++ hid) →
      CellsAre (bindC (envOfC qual scope s.heap.objs.size f cdv).kindOf binds fun _ => none) (cellsFrom (s.heap.objs.size + 1) scope.names []) cells →
      (∀ b o, s.heap.get? b = some o → h₁.get? b = some o) →
      wpAny (model prog w) (A.deeper (envOfC qual scope s.heap.objs.size f cdv)) (execs body (envOfC qual scope s.heap.objs.size f cdv))
        (fun fl s' => Q (match fl with | .ret v => v | _ => .none) s') (fun _ _ => False) { s with heap := h₁, toks := tk }) :
    wpAny (model prog w) A (call (.ref f) pos kw) Q E s := by
  refine wpAny_call ?_
  refine codeAny_call_function hroom ho rfl hco hgen rfl hcd (hbind _ _ _ _ ?_)
  refine wpAny_newFunctionEnv_cells hk (kindsX hkind _) fun env' he s' x => ?_
  subst he
  refine ⟨hNL.keeps x.toInCall.keep, codeAny_func ?_⟩
  obtain ⟨h₁, tk, rfl, _⟩ := x.done
  have hk₁ := x.toInCall.keep
  obtain ⟨cells, NC, Y⟩ := Cl.news (h₀ := s.heap) (Nat.le_refl _) fun n c hm => ⟨x.cell n c (lookup_of_mem_nodup (cellsFrom_names scope.names 0 (s.heap.objs.size + 1) [] [] rfl ▸ hnd) hm), x.above n c hm⟩
  refine wpAny_mono (h h₁ tk cells ⟨x.toInCall.ns, fun b o e => hk₁ b o (of_hideAll _ e), Nat.le_of_eq (hideAll_size _ _)⟩ (fun p hp => ?_) Y hk₁) (fun fl s' hl => hl) fun _ _ y => y.elim
  rcases List.mem_append.mp hp with hp | hp
  · refine ⟨(NC p hp).1, (NC p hp).2.1, ?_⟩
    cases q : (hideAll s.heap (hid.map (·.1))).get? p.1 with
    | none => rfl
    | some o => have := of_hideAll _ q; rw [(NC p hp).2.2] at this; cases this
  · exact ⟨hk₁ _ _ (hhid p hp), Nat.ne_of_lt (Heap.lt_size (hhid p hp)), hideAll_none _ (List.mem_map_of_mem hp)⟩

/-- a call of a lambda -/
theorem enterLam {Q E : Value → Shared → Prop} {name qual : Str} {params : Arguments} {body : Expr} {scope : Scope} {cl : List (Str × Addr)} {pm ctv oc : Value} {od : Option Addr} {osl : Array (Option Value)} {c' : Addr} {f : Addr} {pos : List Value} {kw : List (Str × Value)} {binds : List (Str × Value)}
    (ho : s.heap.get? f = some ⟨oc, od, .func (kla_fn name qual params body scope cl pm (.ref c') ctv), osl⟩) (hcd : s.heap.CodeRec (.ref c') qual) (hNL : s.heap.NoLimit) (hroom : A.depth < recursionLimit)
    (hbind : bindArgs (kla_fn name qual params body scope cl pm (.ref c') ctv) ⟨pos, kw⟩ = pure binds) (hloc : ∀ y ∈ binds, scope.names.lookup y.1 = some .local)
    (hco : scope.isCoroutine = false) (hgen : scope.isGenerator = false) (hk : scope.kind = .function) (hcell : ∀ x ∈ scope.names, x.2 ≠ .cell)
    (h : ∀ h₁, Fr s.heap s.heap.objs.size h₁ (mOf (binds.reverse.map fun p => (p.1, some p.2))) → News s.heap s.heap.objs.size h₁ [] →
      wpAny (model prog w) (A.deeper (envX qual scope s.heap.objs.size f (.ref c') cl)) (eval body (envX qual scope s.heap.objs.size f (.ref c') cl))
        (fun v s' => Q v s') (fun _ _ => False) { s with heap := h₁, toks := s.toks + binds.length }) :
    wpAny (model prog w) A (call (.ref f) pos kw) Q E s := by
  refine wpAny_call ?_
  refine kla_callFunE hroom ho rfl hco hgen rfl hcd ?_
  rw [hbind]
  refine wpAny_pure (wpAny_newFunctionEnv hcell hloc (fun h₁ hns hsb => ⟨hNL.fresh _ hsb, ?_⟩) hk)
  show codeAny _ _ (.expr body (envX qual scope s.heap.objs.size f (.ref c') cl)) _ _
  exact kla_codeExpr (wpAny_mono (h h₁ (frTo ⟨hns, fun b o e => hsb.extBut b o (Nat.ne_of_lt (Heap.lt_size e)) (Heap.get?_push_of_some _ e), Nat.le_refl _⟩ (mOf_lookup _)) News.nil) (fun v s' hl => hl) fun _ _ y => y.elim)
end

/-- a free name whose cell is of the elder objects -/
theorem nameFB {M : Model} {A : Around} {E : Value → Shared → Prop} {s : Shared} {h₀ : Heap} {L a : Addr} {m : Str → Option Value} {cn : Str} {cs : Scope} {ccd : Value} {cl : List (Str × Addr)} {x : Str} {pos : Pos} {v : Value} {Q : Value → Shared → Prop} {c : Addr} {o : Obj}
    (F : Fr h₀ L s.heap m) (hc : cl.lookup x = some c) (hv : h₀.get? c = some o) (hd : o.data = .cell (some v)) (h : Q v s)
    (hk : cs.kind = .function := by rfl) (hx : (envX cn cs L a ccd cl).kindOf x = some .free := by rfl) (hb : (x == ("__debug__" : Str)) = false := by decide) (hn : (x == ("__classdict__" : Str)) = false := by decide) :
    wpAny M A (eval (.Name x pos) (envX cn cs L a ccd cl)) Q E s := wpAny_Name (wpAny_loadName_free hk hx hc ⟨_, F.keep _ _ hv, hd⟩ h hn) hb

/-- the code table of a def that makes one lambda: as it stood, or with the lambda's code -/
def TabSt (h : Heap) (P : Addr) (line col : Nat) (qual : Str) : Prop := h.get? P = some (tabObj #[]) ∨ ∃ c', c' ≠ P ∧ h.get? P = some (tabObj #[rawInt line, rawInt col, .ref c']) ∧ h.CodeRec (.ref c') qual
theorem mkLam {M : Model} {A : Around} {E : Value → Shared → Prop} {s : Shared} {h₀ : Heap} {L a c P : Addr} {m mg mb : Str → Option Value} {cn : Str} {cs : Scope} {ccd : Value} {cl : List (Str × Addr)} {news : List (Addr × Obj)} {g : Obj → List (Addr × Obj)}
    {p : Program} {loose : List Str} {mean : ExcName → Option Value} {name qual : Str} {params : Arguments} {body : Expr} {scope : Scope} {ps : Array Value} {pos : Pos} {firstLine : Nat} {clos : List (Str × Addr)} {Q : Value → Shared → Prop}
    (F : Fr h₀ L s.heap m) (N : News h₀ L s.heap news) (T : Top p loose mean mg mb h₀) (C : CodeHd h₀ c P) (hcd : ccd = .ref c) (U : UpdF P (tabObj ps) news g)
    (hps : ps = #[] ∨ ∃ c', ps = #[rawInt pos.line, rawInt pos.col, .ref c'] ∧ s.heap.CodeRec (.ref c') qual)
    (hcl : closureFor scope (envX cn cs L a ccd cl) = pure clos)
    (h : ∀ f c' ctv h' tk, Fr h₀ L h' m → News h₀ L h' ((f, kla_obj name qual params body scope clos ((mg "__name__").getD .none) c' ctv) :: g (tabObj #[rawInt pos.line, rawInt pos.col, .ref c'])) →
      h'.CodeRec (.ref c') qual → (∀ q ∈ news, q.1 < f) → Q (.ref f) { s with heap := h', toks := tk }) :
    wpAny M A (makeFunction name qual params (.expr body) scope (envX cn cs L a ccd cl) [] [] [] pos firstLine) Q E s := by
  rcases hps with rfl | ⟨c', rfl, hrec⟩
  · refine kla_nest F N T C hcd U trivial rfl hcl fun f c' oc vs t ctv h' tk F' N' d1 d2 l1 l2 => ?_
    refine h f c' ctv h' tk F' (fun q hq => ?_) (codeRec_news N' (.tail _ (.head _)) d1 d2) fun q hq => Nat.lt_trans (l1 q hq) l2
    rcases List.mem_cons.mp hq with rfl | hq
    · exact N' _ (.head _)
    · exact N' q (List.mem_cons_of_mem _ (List.mem_cons_of_mem _ (by simpa using hq)))
  · obtain ⟨own, rest, rfl, hgr, h1, h2⟩ := U.split
    have hmem : (P, tabObj #[rawInt pos.line, rawInt pos.col, .ref c']) ∈ own ++ (P, tabObj #[rawInt pos.line, rawInt pos.col, .ref c']) :: rest := List.mem_append_right _ (.head _)
    have hm := N _ hmem
    have hgs := T.g.keeps F.keep
    obtain ⟨bm, ob, b1, b2, b3, b4, b5, b6⟩ := T.bmain
    have hbP : bm ≠ P := fun q => by
      have e := F.keep _ _ b3
      rw [q, hm.1] at e; cases e; cases b4
    have hbG : bm ≠ mainGlobals := fun q => by
      obtain ⟨o, es, ep, e, hd, _⟩ := T.g
      rw [q, e] at b3; cases b3; rw [hd] at b6; cases b6
    refine kla_makeFunctionHit (mg := mg) hcl rfl hgs hcd (C.keeps F.keep) hm.1 (by simp [TriplesOk, rawInt]) (cv := .ref c') (by simp [codeAmong, rawInt]) ⟨bm, ob, b1, b2, hbG, hbP, F.keep _ _ b3, b4, b5, b6⟩ fun ctv h' tk hk hsz => ?_
    have hLs : L < h'.objs.size := Nat.lt_of_lt_of_le F.ns.lt hsz
    have fresh : ∀ b, L < b → h₀.get? b = none := fun b hb => Heap.get?_none_of_le (Nat.le_trans F.above (Nat.le_of_lt hb))
    refine h h'.objs.size c' ctv _ tk ⟨(F.ns.keeps hk).push _, fun b o e => Heap.get?_push_of_some _ (hk b o (F.keep b o e)), F.above⟩ (fun q hq => ?_) ?_ (fun q hq => Nat.lt_of_lt_of_le (Heap.lt_size (N q hq).1) hsz)
    · rw [hgr] at hq
      rcases List.mem_cons.mp hq with rfl | hq
      · exact ⟨Heap.get?_push_size _ rfl, Nat.ne_of_gt hLs, fresh _ hLs⟩
      · exact ⟨Heap.get?_push_of_some _ (hk _ _ (N q hq).1), (N q hq).2⟩
    · obtain ⟨c₂, oc, vs, t, e1, e2, r⟩ := hrec
      exact ⟨c₂, oc, vs, t, e1, Heap.get?_push_of_some _ (hk _ _ e2), r⟩
end Mine
end
section
open PySem PySem.W PySem.W.X PyProof.Rows
set_option Elab.async false
set_option maxRecDepth 100000
namespace Mine
open PySem

/-- a list of texts at an address -/
def TextList (h : Heap) (a : Addr) (cs : List (List Nat)) : Prop := ∃ vs : List Value, h.IsList a vs.toArray ∧ Texts vs cs
theorem TextList.keep {h h' : Heap} {a : Addr} {cs : List (List Nat)} (x : TextList h a cs) (k : ∀ b o, h.get? b = some o → h'.get? b = some o) : TextList h' a cs :=
  let ⟨vs, hl, hi⟩ := x; ⟨vs, hl.at fun o e => k a o e, hi⟩
theorem offOf {own news : List (Addr × Obj)} (h : ∀ p ∈ own, ∀ q ∈ news, p.1 ≠ q.1) : OwnOff own (news.map (·.1)) := fun p hp b hb => by
  obtain ⟨q, hq, rfl⟩ := List.mem_map.mp hb
  exact h p hp q hq
end Mine
namespace Mine
open PySem
theorem Texts.push {vs : List Value} {cs : List (List Nat)} (h : Texts vs cs) {c : List Nat} {y : Str} {u : Tok} (e : y = ⟨c.toArray⟩) : Texts (vs ++ [.str y u]) (cs ++ [c]) := by
  subst e; exact h.snoc
theorem Texts.get {vs : List Value} {cs : List (List Nat)} (h : Texts vs cs) : ∀ {k : Nat}, k < cs.length → ∃ t, vs[k]? = some (.str ⟨(cs.getD k []).toArray⟩ t) := by
  induction h with
  | nil => intro k hk; simp at hk
  | cons e _ ih =>
    intro k hk
    cases k with
    | zero => exact ⟨_, by simp [e]; rfl⟩
    | succ k =>
      obtain ⟨t, ht⟩ := ih (k := k) (by simpa using hk)
      exact ⟨t, by simpa using ht⟩
theorem Texts.append {vs ws : List Value} {cs ds : List (List Nat)} (h : Texts vs cs) (h' : Texts ws ds) : Texts (vs ++ ws) (cs ++ ds) := by
  induction h with
  | nil => exact h'
  | cons e _ ih => exact .cons e ih
theorem itemT {prog : Program} {w : World} {A : Around} {E : Value → Shared → Prop} {s : Shared} {value slice : Expr} {l : Addr} {cs : List (List Nat)} {k : Nat} {kk : Int} {u : Tok} {Q : Value → Shared → Prop}
    (hl : TextList s.heap l cs) (hk : k < cs.length) (hn : cs.length ≤ 1000) (hkk : kk = (k : Int)) (h : ∀ t, Q (.str ⟨(cs.getD k []).toArray⟩ t) s)
    (hs : subscripted slice false (.ref l) (.int kk u) = operate [.ref l, .int kk u] (getItem (.ref l) (.int kk u)) := by with_unfolding_all rfl) :
    wpAny (model prog w) A (subscriptTail value slice (.ref l) (.int kk u)) Q E s := by
  subst hkk
  obtain ⟨vs, hl, hI⟩ := hl
  obtain ⟨t, hx⟩ := hI.get hk
  exact itemL hl (by omega) (by omega) (by simpa using hx) (h t) hs
theorem take_succ_of {α : Type} {l : List α} {i : Nat} {x : α} (h : l[i]? = some x) : l.take (i + 1) = l.take i ++ [x] := by rw [List.take_add_one, h]; rfl
theorem isList_of {h : Heap} {a : Addr} {its : Array Value} {n : Nat} (e : h.get? a = some (W.listOf its n)) : h.IsList a its := ⟨_, e, rfl, n, rfl⟩
theorem sepAt {own news news' : List (Addr × Obj)} (h : ∀ p ∈ own, ∀ q ∈ news, p.1 ≠ q.1) (e : news'.map (·.1) = news.map (·.1)) : ∀ p ∈ own, ∀ q ∈ news', p.1 ≠ q.1 := fun p hp q hq => by
  have h1 : q.1 ∈ news'.map (·.1) := List.mem_map.mpr ⟨q, hq, rfl⟩
  rw [e] at h1
  obtain ⟨r, hr, e2⟩ := List.mem_map.mp h1
  rw [← e2]; exact h p hp r hr
theorem itemNeg {prog : Program} {w : World} {A : Around} {E : Value → Shared → Prop} {s : Shared} {value slice : Expr} {l : Addr} {vs : List Value} {k : Int} {u : Tok} {v : Value} {Q : Value → Shared → Prop}
    (hl : s.heap.IsList l vs.toArray) (h0 : k < 0) (h1 : -(vs.length : Int) ≤ k) (hfit : -(2 ^ 63) ≤ k) (hx : vs[(k + vs.length).toNat]? = some v) (h : Q v s)
    (hs : subscripted slice false (.ref l) (.int k u) = operate [.ref l, .int k u] (getItem (.ref l) (.int k u)) := by with_unfolding_all rfl) :
    wpAny (model prog w) A (subscriptTail value slice (.ref l) (.int k u)) Q E s :=
  tail_any hl.typeIs slot_list_getitem.lookup (wpAny_getItem_list_neg hl h0 (by simpa using h1) hfit (by simpa using hx) h) hs
theorem ints_last {vs : List Value} {ns : List Int} (h : IntsAre vs ns) (hn : ns ≠ []) : ∃ t, vs[((-1 : Int) + vs.length).toNat]? = some (.int (ns.getLastD 0) t) := by
  have hl := h.length
  have hp : 0 < ns.length := List.length_pos_iff.mpr hn
  have e : ((-1 : Int) + vs.length).toNat = ns.length - 1 := by omega
  obtain ⟨t, ht⟩ := h.get (ns.length - 1) (ns.getLastD 0) (by
    rw [List.getLastD_eq_getLast?, List.getLast?_eq_getElem?]
    have : ns.length - 1 < ns.length := by omega
    rw [List.getElem?_eq_getElem this]; rfl)
  exact ⟨t, by rw [e]; exact ht⟩
theorem getD_last (l : List Int) : l.getD ((-1 : Int) + (l.length : Int)).toNat 0 = l.getLastD 0 := by
  have e : ((-1 : Int) + l.length).toNat = l.length - 1 := by omega
  rw [e, List.getLastD_eq_getLast?, List.getLast?_eq_getElem?]; rfl
end Mine
end
section
open PySem PySem.W PySem.W.X PyProof.Rows
set_option Elab.async false
set_option maxRecDepth 100000
namespace Mine
open PySem

/-- laying x into rows; p x y: y is pushed out by x -/
def insR (p : Int → Int → Bool) : List (List Int) → Int → List (List Int)
  | [], _ => []
  | r :: rest, x => if halved (fun i => p x (r.getD i 0)) r.length = r.length then (r ++ [x]) :: rest else r.set (halved (fun i => p x (r.getD i 0)) r.length) x :: insR p rest (r.getD (halved (fun i => p x (r.getD i 0)) r.length) 0)
theorem insR_full {p : Int → Int → Bool} {r : List Int} {rest : List (List Int)} {x : Int} (h : halved (fun i => p x (r.getD i 0)) r.length = r.length) : insR p (r :: rest) x = (r ++ [x]) :: rest := by rw [insR, if_pos h]
theorem insR_push {p : Int → Int → Bool} {r : List Int} {rest : List (List Int)} {x : Int} (h : ¬ halved (fun i => p x (r.getD i 0)) r.length = r.length) :
    insR p (r :: rest) x = r.set (halved (fun i => p x (r.getD i 0)) r.length) x :: insR p rest (r.getD (halved (fun i => p x (r.getD i 0)) r.length) 0) := by rw [insR, if_neg h]
theorem insR_length (p : Int → Int → Bool) : ∀ (rs : List (List Int)) (x : Int), (insR p rs x).length = rs.length
  | [], _ => rfl
  | r :: rest, x => by
    rw [insR]; split
    · rfl
    · rw [List.length_cons, insR_length p rest, List.length_cons]
def sizes (rs : List (List Int)) : Nat := (rs.map (·.length)).sum
theorem insR_sizes (p : Int → Int → Bool) : ∀ (rs : List (List Int)) (x : Int), sizes (insR p rs x) ≤ sizes rs + 1
  | [], _ => by simp [insR, sizes]
  | r :: rest, x => by
    rw [insR]; split
    · simp only [sizes, List.map_cons, List.sum_cons, List.length_append, List.length_singleton]; omega
    · have := insR_sizes p rest (r.getD (halved (fun i => p x (r.getD i 0)) r.length) 0)
      simp only [sizes, List.map_cons, List.sum_cons, List.length_set] at this ⊢; omega
theorem length_le_sizes {rs : List (List Int)} {r : List Int} (h : r ∈ rs) : r.length ≤ sizes rs := by
  induction rs with
  | nil => cases h
  | cons a rs ih =>
    simp only [sizes, List.map_cons, List.sum_cons]
    rcases List.mem_cons.mp h with rfl | h
    · omega
    · have := ih h; simp only [sizes] at this; omega

/-- rows of ints in the ledger -/
inductive RowsAt : List Addr → List (List Int) → List (Addr × Obj) → Prop where
  | nil : RowsAt [] [] []
  | cons {a : Addr} {r : List Int} {vs : List Value} {n : Nat} {as : List Addr} {rs : List (List Int)} {os : List (Addr × Obj)} : IntsAre vs r → RowsAt as rs os → RowsAt (a :: as) (r :: rs) ((a, W.listOf vs.toArray n) :: os)
theorem RowsAt.adr {as : List Addr} {rs : List (List Int)} {os : List (Addr × Obj)} (h : RowsAt as rs os) : os.map (·.1) = as := by
  induction h with
  | nil => rfl
  | cons _ _ ih => simp [ih]
theorem RowsAt.length {as : List Addr} {rs : List (List Int)} {os : List (Addr × Obj)} (h : RowsAt as rs os) : as.length = rs.length := by
  induction h with
  | nil => rfl
  | cons _ _ ih => simp [ih]
theorem RowsAt.append {as bs : List Addr} {rs ss : List (List Int)} {os ps : List (Addr × Obj)} (h : RowsAt as rs os) (h' : RowsAt bs ss ps) : RowsAt (as ++ bs) (rs ++ ss) (os ++ ps) := by
  induction h with
  | nil => exact h'
  | cons e _ ih => exact .cons e ih
theorem RowsAt.split {as : List Addr} {rs : List (List Int)} {os : List (Addr × Obj)} (h : RowsAt as rs os) : ∀ {i : Nat} {a : Addr} {r : List Int}, as[i]? = some a → rs[i]? = some r →
    ∃ o₁ vs n o₂, os = o₁ ++ (a, W.listOf vs.toArray n) :: o₂ ∧ IntsAre vs r ∧ o₁.map (·.1) = as.take i ∧ o₂.map (·.1) = as.drop (i + 1) ∧ ∀ vs' r' n', IntsAre vs' r' → RowsAt as (rs.take i ++ r' :: rs.drop (i + 1)) (o₁ ++ (a, W.listOf vs'.toArray n') :: o₂) := by
  induction h with
  | nil => intro i a r h; simp at h
  | @cons a₀ r₀ vs₀ n₀ as rs os e h ih =>
    intro i a r ha hr
    cases i with
    | zero =>
      simp only [List.getElem?_cons_zero, Option.some.injEq] at ha hr
      subst ha hr
      exact ⟨[], vs₀, n₀, os, rfl, e, rfl, h.adr, fun vs' r' n' h' => .cons h' h⟩
    | succ i =>
      simp only [List.getElem?_cons_succ] at ha hr
      obtain ⟨o₁, vs, n, o₂, rfl, hi, h1, h2, f⟩ := ih ha hr
      exact ⟨_ :: o₁, vs, n, o₂, rfl, hi, by simp [h1], by simp [h2], fun vs' r' n' h' => .cons e (f vs' r' n' h')⟩
theorem updMid {d : Addr} {o o' : Obj} : ∀ {l₁ l₂ : List (Addr × Obj)}, (∀ p ∈ l₁, p.1 ≠ d) → (∀ p ∈ l₂, p.1 ≠ d) → Upd d o o' (l₁ ++ (d, o) :: l₂) (l₁ ++ (d, o') :: l₂)
  | [], _, _, h2 => .head h2
  | p :: r, _, h1, h2 => .tail (h1 p (.head _)) (updMid (fun q hq => h1 q (.tail _ hq)) h2)
theorem news_sub {h₀ h : Heap} {L : Addr} {l l' : List (Addr × Obj)} (N : News h₀ L h l) (s : ∀ p ∈ l', p ∈ l) : News h₀ L h l' := fun p hp => N p (s p hp)
theorem notin_of_nodup {as : List Addr} (h : as.Nodup) {i : Nat} {a : Addr} (ha : as[i]? = some a) : a ∉ as.take i ∧ a ∉ as.drop (i + 1) := by
  obtain ⟨hi, rfl⟩ := List.getElem?_eq_some_iff.mp ha
  have e : as.take i ++ as[i] :: as.drop (i + 1) = as := by rw [← List.drop_eq_getElem_cons hi, List.take_append_drop]
  rw [← e] at h
  generalize as[i] = b at h
  rw [List.nodup_append] at h
  obtain ⟨_, h2, h3⟩ := h
  rw [List.nodup_cons] at h2
  exact ⟨fun hm => h3 _ hm _ (.head _) rfl, h2.1⟩
/-- rows of ints in a heap, met from a list of them -/
def RowList (h : Heap) (b : Addr) (rs : List (List Int)) : Prop := ∃ as : List Addr, h.IsList b (as.map Value.ref).toArray ∧ as.length = rs.length ∧ ∀ (i : Nat) (a : Addr) (r : List Int), as[i]? = some a → rs[i]? = some r → IntList h a r
theorem RowList.keep {h h' : Heap} {b : Addr} {rs : List (List Int)} (x : RowList h b rs) (k : ∀ b o, h.get? b = some o → h'.get? b = some o) : RowList h' b rs :=
  let ⟨as, hl, hn, hi⟩ := x; ⟨as, hl.at fun o e => k b o e, hn, fun i a r ha hr => (hi i a r ha hr).keep k⟩
theorem RowsAt.list {h₀ h : Heap} {L : Addr} {as : List Addr} {rs : List (List Int)} {os news : List (Addr × Obj)} (x : RowsAt as rs os) (N : News h₀ L h news) (s : ∀ p ∈ os, p ∈ news) : ∀ (i : Nat) (a : Addr) (r : List Int), as[i]? = some a → rs[i]? = some r → IntList h a r := fun i a r ha hr => by
  obtain ⟨o₁, vs, n, o₂, rfl, hi, _⟩ := x.split ha hr
  exact ⟨vs, isList_of (N _ (s _ (List.mem_append_right _ (.head _)))).1, hi⟩
theorem ints_set {vs : List Value} {r : List Int} (h : IntsAre vs r) (i : Nat) (x : Int) (t : Tok) : IntsAre (vs.set i (.int x t)) (r.set i x) := by
  induction h generalizing i with
  | nil => exact .nil
  | cons n t' _ ih =>
    cases i with
    | zero => exact .cons _ _ (by assumption)
    | succ i => exact .cons _ _ (ih i)
theorem ints_snoc {vs : List Value} {r : List Int} (h : IntsAre vs r) (x : Int) (t : Tok) : IntsAre (vs ++ [.int x t]) (r ++ [x]) := by
  induction h with
  | nil => exact .cons _ _ .nil
  | cons n t' _ ih => exact .cons _ _ ih
theorem appendMid {prog : Program} {w : World} {A : Around} {E : Value → Shared → Prop} {s : Shared} {h₀ : Heap} {L : Addr} {m : Str → Option Value} {D : Addr} {its : Array Value} {n : Nat} {x : Value} {l₁ l₂ : List (Addr × Obj)} {Q : Value → Shared → Prop}
    (F : Fr h₀ L s.heap m) (N : News h₀ L s.heap (l₁ ++ (D, W.listOf its n) :: l₂)) (h1 : ∀ p ∈ l₁, p.1 ≠ D) (h2 : ∀ p ∈ l₂, p.1 ≠ D) (hsz : its.size ≤ sizeLine)
    (h : ∀ h', Fr h₀ L h' m → News h₀ L h' (l₁ ++ (D, W.listOf (its.push x) (n + 1)) :: l₂) → Q .none { s with heap := h' }) : wpAny (model prog w) A (call (.builtin "list.append") [.ref D, x]) Q E s :=
  append_K F N (updMid h1 h2) h hsz
theorem mem_shuffle {α : Type} {x b q : α} {l₁ l₂ : List α} (h : q ∈ x :: (l₁ ++ [b]) ++ l₂) : q ∈ [b] ++ x :: (l₁ ++ l₂) := by
  simp only [List.mem_append, List.mem_cons, List.not_mem_nil, or_false] at h ⊢
  rcases h with (h | h | h) | h
  · exact .inr (.inl h)
  · exact .inr (.inr (.inl h))
  · exact .inl h
  · exact .inr (.inr (.inr h))
theorem setMid {prog : Program} {w : World} {A : Around} {E : Value → Shared → Prop} {s : Shared} {h₀ : Heap} {L : Addr} {m : Str → Option Value} {D : Addr} {its : Array Value} {n k : Nat} {kk : Int} {t : Tok} {x : Value} {l₁ l₂ : List (Addr × Obj)} {Q : Unit → Shared → Prop}
    (F : Fr h₀ L s.heap m) (N : News h₀ L s.heap (l₁ ++ (D, W.listOf its n) :: l₂)) (h1 : ∀ p ∈ l₁, p.1 ≠ D) (h2 : ∀ p ∈ l₂, p.1 ≠ D) (hkk : kk = (k : Int)) (hk : k < its.size) (hsz : its.size ≤ 1000000)
    (h : ∀ h', Fr h₀ L h' m → News h₀ L h' (l₁ ++ (D, W.listOf (its.setIfInBounds k x) n) :: l₂) → Q () { s with heap := h' }) : wpAny (model prog w) A (setItem (.ref D) (.int kk t) x) Q E s := by
  subst hkk
  have z := N (D, W.listOf its n) (List.mem_append.mpr (.inr (.head _)))
  refine ki_setAt z.1 (by omega) (by omega) (by omega) (h _ (F.change (Heap.SameBut.update ..) z.2.1 z.2.2) (ki_turn _ N h1 h2 (by simp) (by simp)))
theorem assignPair {prog : Program} {w : World} {A : Around} {E : Value → Shared → Prop} {s : Shared} {env : Env} {t1 t2 : Expr} {k : Nat} {pos : Pos} {T : Addr} {v1 v2 : Value} {h₀ : Heap} {L : Addr} {m : Str → Option Value} {news : List (Addr × Obj)} {Q : Unit → Shared → Prop}
    (hh : A.handled = none) (F : Fr h₀ L s.heap m) (N : News h₀ L s.heap news) (ht : s.heap.IsTuple T #[v1, v2]) (he : assignEach [t1, t2] env = [(false, assign t1 env), (false, assign t2 env)])
    (h : ∀ h₃, Fr h₀ L h₃ m → News h₀ L h₃ news → (∀ b o, s.heap.get? b = some o → h₃.get? b = some o) → wpAny (model prog w) A (assign t1 env v1) (fun _ s₂ => wpAny (model prog w) A (assign t2 env v2) Q E s₂) E { s with heap := h₃ }) :
    wpAny (model prog w) A (assign (.Tuple [t1, t2] k pos) env (.ref T)) Q E s := by
  refine wpAny_assign_Tuple hh ht (by rw [he]; rfl) (by rw [he]; rfl) fun h₃ hx₃ => ?_
  replace hx₃ := extBut_new hx₃
  rw [he]
  show wpAny _ A (do holding [v2] (assign t1 env v1); do holding [] (assign t2 env v2); pure ()) _ _ _
  refine wpAny_bind (wpAny_holding (wpAny_mono (h h₃ (F.keeps hx₃) (fun p hp' => ⟨hx₃ _ _ (N p hp').1, (N p hp').2⟩) hx₃) (fun _ s₂ h₂ => ?_) fun _ _ e => e))
  exact wpAny_bind (wpAny_holding (wpAny_mono h₂ (fun _ s₃ h₃ => wpAny_pure h₃) fun _ _ e => e))
theorem take_mid {α : Type} {pre d : List α} {z : α} {j : Nat} (h : pre.length = j) : (pre ++ z :: d).take (j + 1) = pre ++ [z] := by
  subst h; rw [List.take_length_add_append]; rfl
theorem drop_mid {α : Type} {pre d : List α} {z : α} {j : Nat} (h : pre.length = j) : (pre ++ z :: d).drop (j + 1) = d := by
  subst h; rw [List.drop_length_add_append]; rfl
theorem sizes_mid {rs : List (List Int)} {j : Nat} {r r' : List Int} (h : rs[j]? = some r) (e : r'.length = r.length) : sizes (rs.take j ++ r' :: rs.drop (j + 1)) = sizes rs := by
  obtain ⟨hj, rfl⟩ := List.getElem?_eq_some_iff.mp h
  have e2 : rs.take j ++ rs[j] :: rs.drop (j + 1) = rs := by rw [← List.drop_eq_getElem_cons hj, List.take_append_drop]
  conv => rhs; rw [← e2]
  simp only [sizes, List.map_append, List.map_cons, List.sum_append, List.sum_cons, e]
theorem sizes_put {rs : List (List Int)} {j : Nat} {r : List Int} {x : Int} (h : rs[j]? = some r) : sizes (rs.take j ++ (r ++ [x]) :: rs.drop (j + 1)) = sizes rs + 1 := by
  obtain ⟨hj, rfl⟩ := List.getElem?_eq_some_iff.mp h
  have e2 : rs.take j ++ rs[j] :: rs.drop (j + 1) = rs := by rw [← List.drop_eq_getElem_cons hj, List.take_append_drop]
  conv => rhs; rw [← e2]
  simp only [sizes, List.map_append, List.map_cons, List.sum_append, List.sum_cons, List.length_append, List.length_singleton]
  omega
end Mine
end
section
open PySem PySem.W PySem.W.X PyProof.Rows
set_option Elab.async false
set_option maxRecDepth 100000
namespace Mine
open PySem

/-- which rows of a list of lists hold something -/
def holds (as : List Addr) (rs : List (List Int)) (v : Value) : Bool := match v with
  | .ref a => ((as.zip rs).find? fun p => p.1 == a).any fun p => decide (p.2 ≠ [])
  | _ => false
theorem holds_at : ∀ {as : List Addr} {rs : List (List Int)}, as.Nodup → ∀ {i : Nat} {a : Addr} {r : List Int}, as[i]? = some a → rs[i]? = some r → holds as rs (.ref a) = decide (r ≠ [])
  | [], _, _, i, a, r, ha, _ => by simp at ha
  | _ :: _, [], _, i, a, r, _, hr => by simp at hr
  | b :: as, q :: rs, hnd, i, a, r, ha, hr => by
    rw [List.nodup_cons] at hnd
    cases i with
    | zero =>
      simp only [List.getElem?_cons_zero, Option.some.injEq] at ha hr
      subst ha hr
      simp [holds]
    | succ i =>
      simp only [List.getElem?_cons_succ] at ha hr
      have hne : b ≠ a := fun e => hnd.1 (e ▸ List.mem_of_getElem? ha)
      have ih := holds_at hnd.2 ha hr
      have : holds (b :: as) (q :: rs) (.ref a) = holds as rs (.ref a) := by
        simp only [holds, List.zip_cons_cons, List.find?_cons]
        rw [show (b == a) = false from by simpa using hne]
      rw [this, ih]
theorem holds_filter : ∀ {as : List Addr} {rs : List (List Int)}, as.Nodup → as.length = rs.length → ∃ bs : List Addr, (as.map Value.ref).filter (holds as rs) = bs.map Value.ref ∧ bs.length = (rs.filter fun r => decide (r ≠ [])).length ∧
    ∀ (i : Nat) (a : Addr) (r : List Int), bs[i]? = some a → (rs.filter fun r => decide (r ≠ []))[i]? = some r → ∃ j : Nat, as[j]? = some a ∧ rs[j]? = some r
  | [], [], _, _ => ⟨[], rfl, rfl, fun i a r ha _ => by simp at ha⟩
  | [], _ :: _, _, hl => by simp at hl
  | _ :: _, [], _, hl => by simp at hl
  | b :: as, q :: rs, hnd, hl => by
    have hnd' := hnd
    rw [List.nodup_cons] at hnd'
    obtain ⟨bs, e1, e2, e3⟩ := holds_filter (as := as) (rs := rs) hnd'.2 (by simpa using hl)
    have h0 : holds (b :: as) (q :: rs) (.ref b) = decide (q ≠ []) := holds_at (i := 0) hnd rfl rfl
    have hrest : (as.map Value.ref).filter (holds (b :: as) (q :: rs)) = (as.map Value.ref).filter (holds as rs) := by
      apply List.filter_congr
      intro v hv
      obtain ⟨a, ha, rfl⟩ := List.mem_map.mp hv
      have hne : b ≠ a := fun e => hnd'.1 (e ▸ ha)
      simp only [holds, List.zip_cons_cons, List.find?_cons]
      rw [show (b == a) = false from by simpa using hne]
    rw [List.map_cons, List.filter_cons, List.filter_cons, h0, hrest, e1]
    cases hq : decide (q ≠ []) with
    | false =>
      simp only [Bool.false_eq_true, if_false]
      exact ⟨bs, rfl, e2, fun i a r ha hr => let ⟨j, h1, h2⟩ := e3 i a r ha hr; ⟨j + 1, h1, h2⟩⟩
    | true =>
      simp only [if_true]
      refine ⟨b :: bs, rfl, by simp [e2], fun i a r ha hr => ?_⟩
      cases i with
      | zero => exact ⟨0, by simpa using ha, by simpa using hr⟩
      | succ i => obtain ⟨j, h1, h2⟩ := e3 i a r (by simpa using ha) (by simpa using hr); exact ⟨j + 1, h1, h2⟩

theorem paired_eq {l₁ l₂ : List Value} (h : Paired (fun v y => y = v) l₁ l₂) : l₂ = l₁ := by
  induction h with
  | nil => rfl
  | cons e _ ih => rw [e, ih]

section
variable {prog : Program} {w : World} {A : Around} {env : Env} {s : Shared}
theorem quiet_nonempty {scope : Scope} {x : Str} {px pe pl pc : Pos} {as : List Addr} {rs : List (List Int)} {wr : List Addr} (hu : A.units + 64 < cLine) (hk : scope.kind = .function) (hx : scope.names.lookup x = some .local) (hdb : (x == ("__debug__" : Str)) = false) (hnd : as.Nodup) (hlen : as.length = rs.length)
    (hrows : ∀ (i : Nat) (a : Addr) (r : List Int), as[i]? = some a → rs[i]? = some r → IntList s.heap a r) (hwr : ∀ a ∈ as, a ∉ wr) :
    QuietOn prog w A env scope x [.Compare (.Name x px) [.NotEq] [.List [] pl] pc] (.Name x pe) wr (fun i v => (as.map Value.ref).toArray[i]? = some v) (holds as rs) (fun v y => y = v) s where
  tests := fun C i v s₃ m₃ E' hP hn hm hkp _ => by
    rw [List.getElem?_toArray, List.getElem?_map] at hP
    obtain ⟨a, ha, rfl⟩ := Option.map_eq_some_iff.mp hP
    have hi : i < rs.length := by have := (List.getElem?_eq_some_iff.mp ha).1; omega
    have hr : rs[i]? = some rs[i] := List.getElem?_eq_getElem hi
    have hh := holds_at hnd ha hr
    obtain ⟨vs, hl, hI⟩ := hrows i a _ ha hr
    have hl₃ : s₃.heap.IsList a vs.toArray := hl.at fun o e => hkp a o (hwr a (List.mem_of_getElem? ha)) e
    refine wpAny_tests_one (wpAny_isTrue_Compare1 (wpAny_Name (wpAny_loadName_local (by exact hk) (by exact hx) hn hm ?_) hdb))
    refine wpAny_List (wpAny_pure ⟨by simp, ?_⟩)
    have hp : ∀ b o, s₃.heap.get? b = some o → (s₃.heap.push { cls := .type "list", data := .seq ([] : List Value).toArray }).get? b = some o := fun b o e => Heap.get?_push_of_some _ e
    refine ne_intsK (vs := vs) (us := []) (hl₃.at fun o e => hp a o e) hI ⟨_, Heap.get?_push_size _ rfl, rfl, _, rfl⟩ .nil hu ?_
    refine wpAny_truthy_bool ⟨?_, _, _, rfl, hp⟩
    rw [hh]
    by_cases e : rs[i] = [] <;> simp [e]
  elt := fun C i v s₃ m₃ E' _ _ hn hm _ _ => wpAny_Name (wpAny_loadName_local (by exact hk) (by exact hx) hn hm ⟨rfl, _, _, rfl, fun _ _ e => e⟩) hdb
end
end Mine
end
section
open PySem PySem.W PySem.W.X PyProof.Rows
set_option Elab.async false
set_option maxRecDepth 100000
namespace Mine
open PySem

theorem Steps.moreWr {prog : Program} {w : World} {A : Around} {target : Expr} {it : Value} {fp wr wr' : List Addr} {n : Nat} {P : Nat → Value → Heap → Prop} {St : Nat → Heap → Prop} (S : Steps prog w A target it fp wr n P St)
    (h1 : ∀ b ∈ wr, b ∈ wr') (h2 : ∀ b ∈ wr', b ∈ fp) (hl : ∀ i h, St i h → ∀ b ∈ wr', ∃ o, h.get? b = some o) : Steps prog w A target it fp wr' n P St where
  sub := h2
  live := hl
  frame := S.frame
  item := fun i s Q E hi st hQ => S.item i s Q E hi st fun v h' tk hP st' hk => hQ v h' tk hP st' fun b o hb => hk b o fun h => hb (h1 b h)
  done := fun s Q E st hQ => S.done s Q E st fun h' tk hk => hQ h' tk fun b o hb => hk b o fun h => hb (h1 b h)

theorem Steps.listT {prog : Program} {w : World} {A : Around} {elts : List Expr} {k : Nat} {pos : Pos} (hh : A.handled = none) (I a : Addr) (hne : a ≠ I) (items : Array Value) (hr : ∀ (i : Nat) (v : Value), items[i]? = some v → ∃ T, v = Value.ref T) :
    Steps prog w A (.Tuple elts k pos) (.ref I) [I, a] [I] items.size (fun i v _ => items[i]? = some v) (fun i h => h.IsListIter I a i ∧ h.IsList a items) :=
  let W := Walks.list (prog := prog) (w := w) (A := A) hh I a hne items
  { sub := W.sub
    live := list_live
    frame := W.frame
    item := fun i s _ _ hi st hQ => W.item i s _ _ hi st fun v h' tk hP st' hk => ⟨v, rfl, by
      obtain ⟨T, rfl⟩ := hr i v hP
      exact wpAny_letOwnedTupleGo_listiter st'.1 (hQ _ h' tk hP st' hk)⟩
    done := fun s _ _ st hQ => W.done s _ _ st fun h' tk hk => ⟨rfl, hQ h' tk hk⟩ }

section
variable {prog : Program} {w : World} {A : Around} {s : Shared} {env : Env} {h₀ : Heap} {body : List Stmt}

theorem assignLL {L : Addr} {E : Value → Shared → Prop} {x1 x2 : Str} {p1 p2 pos : Pos} {k : Nat} {T : Addr} {v1 v2 : Value} {l : List (Str × Option Value)} {news : List (Addr × Obj)} {Q : Unit → Shared → Prop} (hh : A.handled = none) (F : Fr h₀ L s.heap (mOf l)) (N : News h₀ L s.heap news) (ht : s.heap.IsTuple T #[v1, v2])
    (h : ∀ h', Fr h₀ L h' (mOf (setL x2 (some v2) (setL x1 (some v1) l))) → News h₀ L h' news → Q () { s with heap := h', toks := s.toks + 1 + 1 })
    (hL : env.locals = L) (hk : env.scope.kind = .function) (hl1 : env.kindOf x1 = some .local) (hl2 : env.kindOf x2 = some .local) :
    wpAny (model prog w) A (assign (.Tuple [.Name x1 p1, .Name x2 p2] k pos) env (.ref T)) Q E s := by
  refine assignPair hh F N ht rfl fun h₃ F₃ N₃ _ => ?_
  refine wpAny_assign_Name (stE F₃ N₃ (fun h₄ F₄ N₄ _ => ?_) hL hk hl1)
  exact wpAny_assign_Name (stE F₄ N₄ (fun h₅ F₅ N₅ _ => h h₅ F₅ N₅) hL hk hl2)

/-- enumerate(list), gone over -/
theorem enum_list {a : Addr} {vs : List Value} {target : Expr} {elts : List Expr} {kk : Nat} {pt : Pos} {l : List (Str × Option Value)} {news : List (Addr × Obj)} {R : Result → Shared → Prop} (J : Nat → List (Str × Option Value) → List (Addr × Obj) → Prop)
    (htg : target = .Tuple elts kk pt) (hh : A.handled = none) (F : Fr h₀ env.locals s.heap (mOf l)) (N : News h₀ env.locals s.heap news) (hl : s.heap.IsList a vs.toArray) (h0 : J 0 l news)
    (hfix : (∃ o, h₀.get? a = some o) ∨ ∃ o, ∀ i l₁ news₁, J i l₁ news₁ → (a, o) ∈ news₁)
    (turn : ∀ i v T t l₁ news₁ s₁ own, vs[i]? = some v → s₁.heap.IsTuple T #[.int (i : Nat) t, v] → J i l₁ news₁ → (∀ p ∈ own, ∀ q ∈ news₁, p.1 ≠ q.1) → GensGrow s.gens s₁.gens → s₁.os = s.os → Fr h₀ env.locals s₁.heap (mOf l₁) → News h₀ env.locals s₁.heap (news₁ ++ own) →
      wpAny (model prog w) A (assign target env (.ref T)) (fun _ s₂ => wpAny (model prog w) A (execs body env) (TurnX h₀ env.locals own (J (i + 1)) (fun fl s' => R (.ok fl) s') s) (fun _ _ => False) s₂) (fun _ _ => False) s₁)
    (done : ∀ l₁ news₁ s₁, J vs.length l₁ news₁ → GensGrow s.gens s₁.gens → s₁.os = s.os → Fr h₀ env.locals s₁.heap (mOf l₁) → News h₀ env.locals s₁.heap news₁ → R (.ok .next) s₁) :
    wpAny (model prog w) A (call (.type "enumerate") [.ref a]) (fun v s₁ => wpAny (model prog w) A (pyIter v) (fun it s₂ => codeAny (model prog w) A (.forLoop target it body [] env) R s₂) (fun _ _ => False) s₁) (fun _ _ => False) s := by
  subst htg
  obtain ⟨oa, hoa, _⟩ := id hl
  have hlt : a < s.heap.objs.size := Heap.lt_size hoa
  have hLs : env.locals < s.heap.objs.size := F.ns.lt
  refine call_enumerate_list hl fun h₁ he hit hz hk₁ => wpAny_pyIter_enum he ?_
  have n1 : a ≠ s.heap.objs.size := Nat.ne_of_lt hlt
  have D := Draws.list (prog := prog) (w := w) (A := A.in1) hh s.heap.objs.size a n1 vs.toArray
  have W := (WalksT.enumerateD D (s.heap.objs.size + 1) (Nat.succ_ne_self _) (by
    intro hm
    rcases List.mem_cons.mp hm with e | hm
    · exact absurd e (Nat.succ_ne_self _)
    · have e := List.mem_singleton.mp hm
      rw [← e] at hlt; exact absurd hlt (Nat.not_lt.mpr (Nat.le_succ _))) (.head _)).toU
  have hold : ∀ b, s.heap.objs.size ≤ b → h₀.get? b = none := fun b hb => Heap.get?_none_of_le (Nat.le_trans F.above (Nat.le_of_lt (Nat.lt_of_lt_of_le hLs hb)))
  refine loop_any (s := { s with heap := h₁ }) (Steps.ofWalksU W ?_) J ?_ ?_ ⟨⟨_, he⟩, hit, hl.at fun o e => hk₁ a o e⟩ (F.keeps hk₁) (fun p hp => ⟨hk₁ _ _ (N p hp).1, (N p hp).2⟩) ?_ h0 ?_ ?_ ?_
  · rintro i h ⟨⟨old, e1⟩, ⟨o, e2, _⟩, _⟩ b hb
    rcases List.mem_cons.mp hb with rfl | hb
    · exact ⟨_, e1⟩
    · rw [List.mem_singleton.mp hb]; exact ⟨o, e2⟩
  · intro hm
    rcases List.mem_cons.mp hm with e | hm
    · rw [e] at hLs; exact absurd hLs (Nat.not_lt.mpr (Nat.le_succ _))
    · have e := List.mem_singleton.mp hm; rw [e] at hLs; exact absurd hLs (Nat.lt_irrefl _)
  · intro b hb
    rcases List.mem_cons.mp hb with rfl | hb
    · exact hold _ (Nat.le_succ _)
    · rw [List.mem_singleton.mp hb]; exact hold _ (Nat.le_refl _)
  · intro p hp hm
    have hp' : p.1 < s.heap.objs.size := Heap.lt_size (N p hp).1
    rcases List.mem_cons.mp hm with e | hm
    · rw [e] at hp'; exact absurd hp' (Nat.not_lt.mpr (Nat.le_succ _))
    · have e := List.mem_singleton.mp hm; rw [e] at hp'; exact absurd hp' (Nat.lt_irrefl _)
  · intro b hb
    rcases List.mem_cons.mp hb with rfl | hb
    · exact .inl (.head _)
    · rcases List.mem_cons.mp hb with rfl | hb
      · exact .inl (.tail _ (.head _))
      · rw [List.mem_singleton.mp hb]; exact .inr hfix
  · rintro i v l₁ news₁ s₁ own hi ⟨T, vals, rfl, ⟨t, x, hx, rfl⟩, hT⟩ hJ hsep hg hos F₁ N₁
    exact turn i x T t l₁ news₁ s₁ own (by simpa using hx) hT hJ hsep hg hos F₁ N₁
  · intro l₁ news₁ s₁ hJ
    rw [List.size_toArray] at hJ
    exact done l₁ news₁ s₁ hJ

/-- a list of tuples, gone over -/
theorem iter_pairs {a : Addr} {vs : List Value} {target : Expr} {elts : List Expr} {kk : Nat} {pt : Pos} {l : List (Str × Option Value)} {news : List (Addr × Obj)} {R : Result → Shared → Prop} (J : Nat → List (Str × Option Value) → List (Addr × Obj) → Prop)
    (htg : target = .Tuple elts kk pt) (hh : A.handled = none) (F : Fr h₀ env.locals s.heap (mOf l)) (N : News h₀ env.locals s.heap news) (hl : s.heap.IsList a vs.toArray) (hrf : ∀ (i : Nat) (v : Value), vs[i]? = some v → ∃ T, v = Value.ref T) (h0 : J 0 l news)
    (hfix : (∃ o, h₀.get? a = some o) ∨ ∃ o, ∀ i l₁ news₁, J i l₁ news₁ → (a, o) ∈ news₁)
    (turn : ∀ i v l₁ news₁ s₁ own, vs[i]? = some v → J i l₁ news₁ → (∀ p ∈ own, ∀ q ∈ news₁, p.1 ≠ q.1) → GensGrow s.gens s₁.gens → s₁.os = s.os → Fr h₀ env.locals s₁.heap (mOf l₁) → News h₀ env.locals s₁.heap (news₁ ++ own) →
      wpAny (model prog w) A (assign target env v) (fun _ s₂ => wpAny (model prog w) A (execs body env) (TurnX h₀ env.locals own (J (i + 1)) (fun fl s' => R (.ok fl) s') s) (fun _ _ => False) s₂) (fun _ _ => False) s₁)
    (done : ∀ l₁ news₁ s₁, J vs.length l₁ news₁ → GensGrow s.gens s₁.gens → s₁.os = s.os → Fr h₀ env.locals s₁.heap (mOf l₁) → News h₀ env.locals s₁.heap news₁ → R (.ok .next) s₁) :
    wpAny (model prog w) A (pyIter (.ref a)) (fun it s₂ => codeAny (model prog w) A (.forLoop target it body [] env) R s₂) (fun _ _ => False) s := by
  subst htg
  obtain ⟨oa, hoa, _⟩ := id hl
  have hne : a ≠ s.heap.objs.size := Nat.ne_of_lt (Heap.lt_size hoa)
  refine wpAny_pyIter_list hl ?_
  refine loop_any (Steps.listT hh s.heap.objs.size a hne vs.toArray (fun i v e => hrf i v (by simpa using e))) J ?_ ?_ ⟨⟨_, Heap.get?_push_size _ rfl, rfl, rfl⟩, hl.at fun o e => Heap.get?_push_of_some _ e⟩ (F.push _) (fun p hp => ⟨Heap.get?_push_of_some _ (N p hp).1, (N p hp).2⟩) ?_ h0 ?_ ?_ ?_
  · intro hm; exact absurd F.ns.lt ((List.mem_singleton.mp hm) ▸ Nat.lt_irrefl _)
  · intro b hb; rw [List.mem_singleton.mp hb]; exact next_is_new F
  · intro p hp hm; exact absurd (Heap.lt_size (N p hp).1) ((List.mem_singleton.mp hm) ▸ Nat.lt_irrefl _)
  · intro b hb
    rcases List.mem_cons.mp hb with rfl | hb
    · exact .inl (.head _)
    · rw [List.mem_singleton.mp hb]; exact .inr hfix
  · intro i v l₁ news₁ s₁ own hi hP hJ hsep hg hos F₁ N₁
    exact turn i v l₁ news₁ s₁ own (by simpa using hP) hJ hsep hg hos F₁ N₁
  · intro l₁ news₁ s₁ hJ
    rw [List.size_toArray] at hJ
    exact done l₁ news₁ s₁ hJ

/-- range(a, a + n), gone over -/
theorem iter_range {r : Addr} {a b : Int} {t u v : Tok} {n : Nat} {x : Str} {px : Pos} {l : List (Str × Option Value)} {news : List (Addr × Obj)} {R : Result → Shared → Prop} (J : Nat → List (Str × Option Value) → List (Addr × Obj) → Prop)
    (hh : A.handled = none) (F : Fr h₀ env.locals s.heap (mOf l)) (N : News h₀ env.locals s.heap news) (hr : IsRange s.heap r a b 1 t u v) (hsmall : Builtin.Range.small a b 1 = true) (hn : Builtin.Range.rangeSize a b 1 = ((n : Nat) : Int)) (h0 : J 0 l news)
    (turn : ∀ i t l₁ news₁ s₁ own, i < n → J i l₁ news₁ → (∀ p ∈ own, ∀ q ∈ news₁, p.1 ≠ q.1) → GensGrow s.gens s₁.gens → s₁.os = s.os → Fr h₀ env.locals s₁.heap (mOf l₁) → News h₀ env.locals s₁.heap (news₁ ++ own) →
      wpAny (model prog w) A (assign (.Name x px) env (.int (a + (i : Nat)) t)) (fun _ s₂ => wpAny (model prog w) A (execs body env) (TurnX h₀ env.locals own (J (i + 1)) (fun fl s' => R (.ok fl) s') s) (fun _ _ => False) s₂) (fun _ _ => False) s₁)
    (done : ∀ l₁ news₁ s₁, J n l₁ news₁ → GensGrow s.gens s₁.gens → s₁.os = s.os → Fr h₀ env.locals s₁.heap (mOf l₁) → News h₀ env.locals s₁.heap news₁ → R (.ok .next) s₁) :
    wpAny (model prog w) A (pyIter (.ref r)) (fun it s₂ => codeAny (model prog w) A (.forLoop (.Name x px) it body [] env) R s₂) (fun _ _ => False) s := by
  refine wpAny_pyIter_range hr hsmall ?_
  have W := LCg.range_walks (prog := prog) (w := w) (A := A) (I := s.heap.objs.size) hh a n
  refine loop_any (Steps.ofWalks W (fun i h st b hb => ?_)) J ?_ ?_ ?_ (F.push _) (fun p hp => ⟨Heap.get?_push_of_some _ (N p hp).1, (N p hp).2⟩) ?_ h0 ?_ ?_ ?_
  · rw [List.mem_singleton.mp hb]; exact ⟨_, st⟩
  · intro hm; exact absurd F.ns.lt ((List.mem_singleton.mp hm) ▸ Nat.lt_irrefl _)
  · intro b hb; rw [List.mem_singleton.mp hb]; exact next_is_new F
  · show IsRangeIter _ _ _ _ _
    rw [hn]; simpa using Heap.get?_push_size _ rfl
  · intro p hp hm; exact absurd (Heap.lt_size (N p hp).1) ((List.mem_singleton.mp hm) ▸ Nat.lt_irrefl _)
  · intro b hb; exact .inl hb
  · rintro i _ l₁ news₁ s₁ own hi ⟨t, rfl⟩ hJ hsep hg hos F₁ N₁
    exact turn i t l₁ news₁ s₁ own hi hJ hsep hg hos F₁ N₁
  · intro l₁ news₁ s₁ hJ
    exact done l₁ news₁ s₁ hJ
end
end Mine
end
section
open PySem PySem.W PySem.W.X PyProof.Rows PySem.Calls
set_option Elab.async false
set_option maxRecDepth 100000
namespace Mine
open PySem

theorem updFMid {d : Addr} {o : Obj} : ∀ {l₁ l₂ : List (Addr × Obj)}, (∀ p ∈ l₁, p.1 ≠ d) → (∀ p ∈ l₂, p.1 ≠ d) → UpdF d o (l₁ ++ (d, o) :: l₂) (fun o' => l₁ ++ (d, o') :: l₂)
  | [], _, _, h2 => .head h2
  | _ :: _, _, h1, h2 => .tail (h1 _ (.head _)) (updFMid (fun q hq => h1 q (.tail _ hq)) h2)

/-- the state of the table of a def that makes one lambda, and what of it lies in the ledger -/
def TabIs (ps : Array Value) (extra : List (Addr × Obj)) (line col : Nat) (qual : Str) : Prop :=
  (ps = #[] ∧ extra = []) ∨ ∃ c' oc vs t, ps = #[rawInt line, rawInt col, .ref c'] ∧ oc.data = .fields vs ∧ vs[1]? = some (.str qual t) ∧ extra = [(c', oc)]

theorem mkLam2 {M : Model} {A : Around} {E : Value → Shared → Prop} {s : Shared} {h₀ : Heap} {L a c P : Addr} {m mg mb : Str → Option Value} {cn : Str} {cs : Scope} {ccd : Value} {cl : List (Str × Addr)} {l₁ l₂ extra : List (Addr × Obj)}
    {p : Program} {loose : List Str} {mean : ExcName → Option Value} {name qual : Str} {params : Arguments} {body : Expr} {scope : Scope} {ps : Array Value} {pos : Pos} {firstLine : Nat} {clos : List (Str × Addr)} {Q : Value → Shared → Prop}
    (F : Fr h₀ L s.heap m) (N : News h₀ L s.heap (l₁ ++ (P, tabObj ps) :: (extra ++ l₂))) (T : Top p loose mean mg mb h₀) (C : CodeHd h₀ c P) (hcd : ccd = .ref c) (h1 : ∀ p ∈ l₁, p.1 ≠ P) (h2 : ∀ p ∈ extra ++ l₂, p.1 ≠ P)
    (hps : TabIs ps extra pos.line pos.col qual)
    (hcl : closureFor scope (envX cn cs L a ccd cl) = pure clos)
    (h : ∀ f c' oc ps' extra' ctv h' tk, Fr h₀ L h' m → News h₀ L h' ((f, kla_obj name qual params body scope clos ((mg "__name__").getD .none) c' ctv) :: (l₁ ++ (P, tabObj ps') :: (extra' ++ l₂))) →
      TabIs ps' extra' pos.line pos.col qual → h'.CodeRec (.ref c') qual → extra' = [(c', oc)] → (extra' = extra ∨ ∀ q ∈ l₁ ++ (P, tabObj ps) :: (extra ++ l₂), q.1 < c') → (∀ q ∈ l₁ ++ (P, tabObj ps) :: (extra ++ l₂), q.1 < f) → Q (.ref f) { s with heap := h', toks := tk }) :
    wpAny M A (makeFunction name qual params (.expr body) scope (envX cn cs L a ccd cl) [] [] [] pos firstLine) Q E s := by
  rcases hps with ⟨rfl, rfl⟩ | ⟨c', oc, vs, t, rfl, hd, hv, rfl⟩
  · refine kla_nest F N T C hcd (updFMid h1 h2) trivial rfl hcl fun f c' oc vs t ctv h' tk F' N' d1 d2 l1 l2 => ?_
    refine h f c' oc _ [(c', oc)] ctv h' tk F' (fun q hq => ?_) (.inr ⟨c', oc, vs, t, rfl, d1, d2, rfl⟩) (codeRec_news N' (.tail _ (.head _)) d1 d2) rfl (.inr l1) fun q hq => Nat.lt_trans (l1 q hq) l2
    rcases List.mem_cons.mp hq with rfl | hq
    · exact N' _ (.head _)
    · rcases List.mem_append.mp hq with hq | hq
      · exact N' q (.tail _ (.tail _ (List.mem_append_left _ hq)))
      · rcases List.mem_cons.mp hq with rfl | hq
        · exact N' _ (.tail _ (.tail _ (List.mem_append_right _ (by simp))))
        · rcases List.mem_append.mp hq with hq | hq
          · rw [List.mem_singleton.mp hq]; exact N' _ (.tail _ (.head _))
          · exact N' q (.tail _ (.tail _ (List.mem_append_right _ (.tail _ hq))))
  · have hps : TabIs #[rawInt pos.line, rawInt pos.col, .ref c'] [(c', oc)] pos.line pos.col qual := .inr ⟨c', oc, vs, t, rfl, hd, hv, rfl⟩
    refine kla_hit F N T C hcd (List.mem_append_right _ (.head _)) (by simp [TriplesOk, rawInt]) (c' := c') (by simp [codeAmong, rawInt]) hcl fun f ctv h' tk F' N' l1 => ?_
    exact h f c' oc _ [(c', oc)] ctv h' tk F' N' hps (codeRec_news N' (.tail _ (List.mem_append_right _ (.tail _ (.head _)))) hd hv) rfl (.inl rfl) l1
theorem codeRec_keep {h h' : Heap} {c : Value} {qual : Str} (x : h.CodeRec c qual) (k : ∀ b o, h.get? b = some o → h'.get? b = some o) : h'.CodeRec c qual := by
  obtain ⟨c₂, oc, vs, t, e1, e2, r⟩ := x
  exact ⟨c₂, oc, vs, t, e1, k _ _ e2, r⟩
/-- what a call leaves that grows one code table -/
structure KeepBut (P : Addr) (s s' : Shared) : Prop where
  heap : ∀ b o, b ≠ P → s.heap.get? b = some o → s'.heap.get? b = some o
  os : s'.os = s.os
  gens : GensGrow s.gens s'.gens
def TabHeap (h : Heap) (P : Addr) (line col : Nat) (qual : Str) : Prop := ∃ tab extra, TabIs tab extra line col qual ∧ h.get? P = some (tabObj tab) ∧ ∀ q ∈ extra, h.get? q.1 = some q.2
end Mine
end
section
open PySem PySem.W PySem.W.X PyProof.Rows
set_option Elab.async false
set_option maxRecDepth 100000
namespace Mine
open PySem

theorem str_eta (x : Str) : x = ⟨x.cps.toList.toArray⟩ := by cases x; simp
theorem mulS {prog : Program} {w : World} {A : Around} {E : Value → Shared → Prop} {s : Shared} {x : Str} {c : Nat} {t u : Tok} {Q : Value → Shared → Prop} {n : Int} (hx : x = ⟨[c].toArray⟩) (h1 : -1000 ≤ n) (h2 : n ≤ 1000)
    (h : ∀ t' k, Q (.str ⟨(List.replicate n.toNat c).toArray⟩ t') { s with toks := k }) : wpAny (model prog w) A (binaryOp .Mult (.str x t) (.int n u)) Q E s := by
  subst hx
  refine SB.mul (mulOk_of 1 1000 (Nat.le_refl _) (by omega) (by omega) (by omega) (by omega)) fun t' k => ?_
  have e := mul_one_list c n
  have e2 : Txt.mul ⟨[c].toArray⟩ n = ⟨(List.replicate n.toNat c).toArray⟩ := by
    rw [str_eta (Txt.mul ⟨[c].toArray⟩ n)]
    exact congrArg (fun l => (⟨l.toArray⟩ : Str)) e
  rw [e2]; exact h t' k
theorem addS {prog : Program} {w : World} {A : Around} {E : Value → Shared → Prop} {s : Shared} {a b : List Nat} {t u : Tok} {Q : Value → Shared → Prop} (h1 : a.length + b.length ≤ 1000000)
    (h : ∀ t' k, Q (.str ⟨(a ++ b).toArray⟩ t') { s with toks := k }) : wpAny (model prog w) A (binaryOp .Add (.str ⟨a.toArray⟩ t) (.str ⟨b.toArray⟩ u)) Q E s := by
  refine SBL.add (fun t' k _ => ?_) (by rw [sizeLine_eq]; simp only [Str.length, List.size_toArray]; omega)
  have e : ((⟨a.toArray⟩ : Str) ++ (⟨b.toArray⟩ : Str)) = ⟨(a ++ b).toArray⟩ := by
    show (⟨a.toArray ++ b.toArray⟩ : Str) = _
    rw [List.append_toArray]
  rw [e]; exact h t' k
theorem Texts.drop {vs : List Value} {cs : List (List Nat)} (h : Texts vs cs) : ∀ k, Texts (vs.drop k) (cs.drop k) := by
  induction h with
  | nil => intro k; simp; exact .nil
  | cons e t ih => intro k; cases k with
    | zero => exact .cons e t
    | succ k => exact ih k
theorem Texts.take {vs : List Value} {cs : List (List Nat)} (h : Texts vs cs) : ∀ k, Texts (vs.take k) (cs.take k) := by
  induction h with
  | nil => intro k; simp; exact .nil
  | cons e t ih => intro k; cases k with
    | zero => exact .nil
    | succ k => exact .cons e (ih k)
theorem flat_le {n : Nat} : ∀ (cs : List (List Nat)), (∀ c ∈ cs, c.length ≤ n) → cs.flatten.length ≤ cs.length * n
  | [], _ => by simp
  | c :: cs, h => by
    have ih := flat_le cs fun c hc => h c (.tail _ hc)
    have h1 := h c (.head _)
    simp only [List.flatten_cons, List.length_append, List.length_cons, Nat.add_mul, Nat.one_mul]
    omega
/-- xs[a:b] of a list whose items are any values -/
theorem sliceAB {prog : Program} {w : World} {A : Around} {E : Value → Shared → Prop} {s : Shared} {h₀ : Heap} {L : Addr} {m : Str → Option Value} {news : List (Addr × Obj)} {value slice : Expr} {l : Addr} {vs : List Value} {x y : Int} {t u : Tok} {a b : Nat} {ops : List Value} {Q : Value → Shared → Prop}
    (F : Fr h₀ L s.heap m) (N : News h₀ L s.heap news) (hl : s.heap.IsList l vs.toArray) (hx : x = (a : Int)) (hy : y = (b : Int)) (hab : a ≤ b) (hb : b ≤ vs.length) (hsz : vs.length ≤ 1000000)
    (h : ∀ h', Fr h₀ L h' m → News h₀ L h' ((s.heap.objs.size + 1, W.listOf ((vs.drop a).take (b - a)).toArray 0) :: news) → Q (.ref (s.heap.objs.size + 1)) { s with heap := h' })
    (hs : subscripted slice false (.ref l) (.ref s.heap.objs.size) = operate ops (getItem (.ref l) (.ref s.heap.objs.size)) := by with_unfolding_all rfl)
    (ht : ∀ r, letTemporaryGo value (.ref l) r = pure () := by intro _; with_unfolding_all rfl) :
    wpAny (model prog w) A (subscriptTail value slice (.ref l) (.ref s.heap.objs.size)) Q E { s with heap := s.heap.push { cls := .type "slice", data := .fields #[.int x t, .int y u, .none] } } := by
  subst hx hy
  refine slice_list3 F N hl (.int _ _) (.int _ _) .none (by simp) (fun h' F' N' => ?_) hs ht (by rw [List.size_toArray, sizeLine_eq]; omega)
  rw [slicePick_run _ a b (by rw [List.size_toArray]; exact hb) hab] at N'
  exact h h' F' N'
theorem range_small {a b : Int} (ha : 0 ≤ a) (ha' : a ≤ 1000000) (hb : 0 ≤ b) (hb' : b ≤ 1000000) : Builtin.Range.small a b 1 = true := by
  unfold Builtin.Range.small
  rw [rangeSize_nat]
  have e : ∀ x : Int, 0 ≤ x → x ≤ 2000000 → Builtin.Range.rangeFitsLong x = true := fun x h1 h2 => by
    unfold Builtin.Range.rangeFitsLong
    simp only [Bool.and_eq_true, decide_eq_true_eq]; omega
  rw [e a ha (by omega), e b hb (by omega), e 1 (by decide) (by decide), e _ (by omega) (by omega), e (b + (1 - 1)) (by omega) (by omega)]
  simp
/-- list(range(a, b)) -/
theorem listRange {prog : Program} {w : World} {A : Around} {E : Value → Shared → Prop} {s : Shared} {h₀ : Heap} {L : Addr} {m : Str → Option Value} {news : List (Addr × Obj)} {r : Addr} {a b : Int} {t u v : Tok} {Q : Value → Shared → Prop}
    (hh : A.handled = none) (F : Fr h₀ L s.heap m) (N : News h₀ L s.heap news) (hr : IsRange s.heap r a b 1 t u v) (ha : 0 ≤ a) (ha' : a ≤ 1000000) (hb : 0 ≤ b) (hb' : b ≤ 1000000)
    (h : ∀ D h' tk ys c, Fr h₀ L h' m → News h₀ L h' ((D, W.listOf (ys : List Value).toArray c) :: news) → IntsAre ys (rangeInts a 1 (b - a).toNat) → (∀ p ∈ news, p.1 < D) → Q (.ref D) { s with heap := h', toks := tk }) :
    wpAny (model prog w) A (call (.type "list") [.ref r]) Q E s := by
  refine list_rangeD hh F N hr (range_small ha ha' hb hb') (rangeSize_nat a b) (by omega) fun h' tk ys F' N' hk hn hl hp hc => ?_
  obtain ⟨c, e⟩ := hp.1
  refine h s.heap.objs.size h' tk ys c F' (fun q hq => ?_) (by simpa using (CarriedAll.intsOf (f := id) (by simpa using hc))) fun p hp => Heap.lt_size (N p hp).1
  rcases List.mem_cons.mp hq with rfl | hq
  · exact ⟨e, Nat.ne_of_gt F.ns.lt, hn⟩
  · exact N' q hq
end Mine
end
section
set_option Elab.async false
set_option maxRecDepth 100000
namespace Mine
open PySem

/-- a piece of text that mail reads as it lies: one bracket, or none -/
inductive OkP : List Nat → Prop where
  | nil : OkP []
  | op : OkP [40]
  | cl : OkP [41]
  | quo (c : Nat) (h : c = 40 ∨ c = 41) : OkP [34, c, 34]
  | esc (c : Nat) : OkP [92, c]
def par (p : List Nat) : List Nat := if p = [40] ∨ p = [41] then p else []
/-- the brackets alone -/
def chkC : List Nat → Int → Bool
  | [], o => decide (o = 0)
  | c :: r, o => if c = 40 then chkC r (o + 1) else if c = 41 then (if o - 1 < 0 then false else chkC r (o - 1)) else chkC r o
def quo (p : List Nat) : Bool := decide (p.head? = some 34)
/-- what is left of a piece when what stands between quotation marks is cut out -/
def bare (p : List Nat) : List Nat := if quo p then [] else p

theorem chk_bare : ∀ (cs : List (List Nat)) (i : Nat) (o : Int), (∀ p ∈ cs, OkP p) → chkRun (escGo false i (cs.map bare).flatten) o = chkC (cs.flatMap par) o
  | [], i, o, _ => by simp [escGo, chkRun, chkC]
  | p :: cs, i, o, h => by
    have ih := fun i o => chk_bare cs i o fun q hq => h q (.tail _ hq)
    have hp := h p (.head _)
    rw [List.map_cons, List.flatten_cons, List.flatMap_cons]
    cases hp with
    | nil => simpa [bare, quo, par] using ih i o
    | op => simp [bare, quo, par, escGo, chkRun, chkC, ih]
    | cl => simp [bare, quo, par, escGo, chkRun, chkC, ih]
    | quo c hc => simpa [bare, quo, par] using ih i o
    | esc c => simp [bare, quo, par, escGo, chkRun, chkC, ih]

theorem escGo_append {p r : List Nat} {i : Nat} (h : OkP p) : escGo false i (p ++ r) = escGo false i p ++ escGo false (i + p.length) r := by
  cases h with
  | nil => simp [escGo]
  | op => simp [escGo]
  | cl => simp [escGo]
  | quo c hc => rcases hc with rfl | rfl <;> simp [escGo]
  | esc c => simp [escGo]

/-- the state between two pieces -/
theorem strip_pieces (xs : List Nat) : ∀ (cs : List (List Nat)) (pre : List Nat) (st : StripSt), (∀ p ∈ cs, OkP p) → xs = pre ++ cs.flatten → st.op = none → st.start ≤ pre.length →
    stripEnd xs (stripRun xs (escGo false pre.length cs.flatten) st) = st.res.flatten ++ pre.drop st.start ++ (cs.map bare).flatten
  | [], pre, st, _, hx, ho, hs => by
    rw [List.flatten_nil, List.append_nil] at hx
    subst hx
    rw [List.flatten_nil, esc_end_false, stripRun]
    simp only [stripEnd, List.map_nil, List.flatten_nil, List.append_nil]
    split
    · rw [List.flatten_append, List.flatten_singleton, cut, List.take_length]
    · rw [List.drop_eq_nil_of_le (by omega), List.append_nil]
  | p :: cs, pre, st, h, hx, ho, hs => by
    have hp := h p (.head _)
    have hcs := fun q hq => h q (List.mem_cons_of_mem _ hq)
    have hx' : xs = (pre ++ p) ++ cs.flatten := by rw [hx, List.flatten_cons, List.append_assoc]
    have ih := fun st' => strip_pieces xs cs (pre ++ p) st' hcs hx'
    rw [List.flatten_cons, escGo_append hp, List.map_cons, List.flatten_cons]
    rw [List.length_append] at ih
    cases hp with
    | nil =>
      have := ih st ho (by simpa using hs)
      simpa [escGo, bare, quo] using this
    | op =>
      have := ih st ho (by simp; omega)
      rw [List.drop_append_of_le_length hs] at this
      simpa [escGo, stripRun, stripStep, bare, quo] using this
    | cl =>
      have := ih st ho (by simp; omega)
      rw [List.drop_append_of_le_length hs] at this
      simpa [escGo, stripRun, stripStep, bare, quo] using this
    | esc c =>
      have := ih st ho (by simp; omega)
      rw [List.drop_append_of_le_length hs] at this
      simpa [escGo, stripRun, stripStep, bare, quo] using this
    | quo c hc =>
      have hcut : cut xs st.start pre.length = pre.drop st.start := by rw [cut, hx, List.take_left']; rfl
      have hc' : ¬ [c] = [34] := by rcases hc with rfl | rfl <;> decide
      have hc2 : ¬ c = 92 := by rcases hc with rfl | rfl <;> decide
      have hc3 : ¬ c = 34 := by rcases hc with rfl | rfl <;> decide
      have key := ih ⟨pre.length + 2 + 1, none, if st.start = pre.length then st.res else st.res ++ [cut xs st.start pre.length]⟩ rfl (by simp)
      have e1 : escGo false pre.length [34, c, 34] = [(pre.length, [34]), (pre.length + 1, [c]), (pre.length + 2, [34])] := by simp [escGo, hc2]
      rw [e1]
      have e2 : stripRun xs ([(pre.length, [34]), (pre.length + 1, [c]), (pre.length + 2, [34])] ++ escGo false (pre.length + [34, c, 34].length) cs.flatten) st =
          stripRun xs (escGo false (pre.length + [34, c, 34].length) cs.flatten) ⟨pre.length + 2 + 1, none, if st.start = pre.length then st.res else st.res ++ [cut xs st.start pre.length]⟩ := by
        obtain ⟨sa, so, sr⟩ := st
        simp only at ho
        subst ho
        simp [stripRun, stripStep, hc3]
      rw [e2, key]
      have e3 : bare [34, c, 34] = [] := by simp [bare, quo]
      rw [e3]
      have e4 : (pre ++ [34, c, 34]).drop (pre.length + 2 + 1) = [] := List.drop_eq_nil_of_le (by simp)
      rw [show (⟨pre.length + 2 + 1, none, if st.start = pre.length then st.res else st.res ++ [cut xs st.start pre.length]⟩ : StripSt).start = pre.length + 2 + 1 from rfl, e4]
      simp only [List.nil_append, List.append_nil]
      congr 1
      split
      · rename_i e
        rw [List.drop_eq_nil_of_le (by omega), List.append_nil]
      · rw [List.flatten_append, List.flatten_singleton, hcut]

theorem bare_self : ∀ (cs : List (List Nat)), (∀ p ∈ cs, OkP p) → 34 ∉ cs.flatten → (cs.map bare).flatten = cs.flatten
  | [], _, _ => rfl
  | p :: cs, h, hn => by
    rw [List.flatten_cons] at hn
    rw [List.map_cons, List.flatten_cons, List.flatten_cons, bare_self cs (fun q hq => h q (.tail _ hq)) (fun hm => hn (List.mem_append_right _ hm))]
    congr 1
    have hp := h p (.head _)
    cases hp with
    | quo c hc => exact absurd (List.mem_append_left _ (by simp)) hn
    | _ => simp [bare, quo]

/-- _check_parenthesis of such pieces sees the brackets alone -/
theorem checkP_pieces (cs : List (List Nat)) (h : ∀ p ∈ cs, OkP p) : checkP ⟨cs.flatten.toArray⟩ = chkC (cs.flatMap par) 0 := by
  have hs : strip ⟨cs.flatten.toArray⟩ = ⟨(cs.map bare).flatten.toArray⟩ := by
    unfold strip
    split
    · have := strip_pieces cs.flatten cs [] ⟨0, none, []⟩ h (by simp) rfl (Nat.le_refl _)
      simp only [List.length_nil, List.flatten_nil, List.drop_nil, List.nil_append] at this
      rw [← this]
      simp [escs]
    · rename_i hn
      rw [bare_self cs h (by simpa using hn)]
  rw [checkP, hs, escs]
  have := chk_bare cs 0 0 h
  simpa using this
end Mine
end
section
open PySem PySem.W PySem.W.X PyProof.Rows PyProof.V PySem.Spec PySem.SeqAt
set_option Elab.async false
set_option maxRecDepth 100000
namespace Mine
open PySem

def rowD (r : List Int) : PyData := .list (r.map PyData.int)
theorem rowsD_lay : ∀ rs : List (List Int), PyData.canLayAll0 (rs.map rowD) = true
  | [] => by simp [PyData.canLayAll0]
  | r :: rs => by simp [PyData.canLayAll0, PyData.canLay0, rowD, canLayAll0_ints r, rowsD_lay rs]
theorem rowsD_depth : ∀ rs : List (List Int), PyData.depthAll (rs.map rowD) ≤ 2
  | [] => by simp [PyData.depthAll]
  | r :: rs => by
    have h1 := rowsD_depth rs
    have h2 := PySem.W.depthAll_ints r
    simp only [List.map_cons, PyData.depthAll, PyData.depth, rowD]
    omega
theorem rowsD_shaped (rs : List (List Int)) : shaped (.list (rs.map rowD)) = true := by
  have h1 := rowsD_depth rs
  have h2 : PyData.depth (.list (rs.map rowD)) ≤ 64 := by simp only [PyData.depth]; omega
  show (PyData.canLay0 (.list (rs.map rowD)) && decide (PyData.depth (.list (rs.map rowD)) ≤ 64)) = true
  rw [Bool.and_eq_true]
  exact ⟨by simp only [PyData.canLay0]; exact rowsD_lay rs, decide_eq_true h2⟩
theorem rowsD_mix : ∀ rs qs : List (List Int), noMixAll (rs.map rowD) (qs.map rowD) = true
  | [], [] => by simp [noMixAll]
  | [], _ :: _ => by simp [noMixAll]
  | _ :: _, [] => by simp [noMixAll]
  | r :: rs, q :: qs => by simp [noMixAll, noMix, rowD, noMix_ints r q, rowsD_mix rs qs]
theorem rowsD_same : ∀ rs qs : List (List Int), PySem.Spec.sameAll (rs.map rowD) (qs.map rowD) = decide (rs = qs)
  | [], [] => by simp [PySem.Spec.sameAll]
  | [], _ :: _ => by simp [PySem.Spec.sameAll]
  | _ :: _, [] => by simp [PySem.Spec.sameAll]
  | r :: rs, q :: qs => by
    simp only [List.map_cons, PySem.Spec.sameAll, rowD, PySem.Spec.same]
    rw [same_ints, show PySem.Spec.sameAll (rs.map rowD) (qs.map rowD) = decide (rs = qs) from rowsD_same rs qs]
    by_cases h : r = q <;> simp [h]
theorem rows_readAll {h : Heap} : ∀ {as : List Addr} {rs : List (List Int)}, as.length = rs.length → (∀ (i : Nat) (a : Addr) (r : List Int), as[i]? = some a → rs[i]? = some r → IntList h a r) → ∃ bs, ReadsAll h (as.map Value.ref) (rs.map rowD) bs
  | [], [], _, _ => ⟨_, .nil⟩
  | [], _ :: _, e, _ => by simp at e
  | _ :: _, [], e, _ => by simp at e
  | a :: as, r :: rs, e, k => by
    obtain ⟨bs, hb⟩ := rows_readAll (as := as) (rs := rs) (by simpa using e) fun i b q hb hq => k (i + 1) b q hb hq
    obtain ⟨vs, hl, hi⟩ := k 0 a r rfl rfl
    exact ⟨_, .cons (reads_of_ints hl hi) hb⟩
theorem rows_reads {h : Heap} {a : Addr} {rs : List (List Int)} (x : RowList h a rs) : ∃ bs, Reads h (.ref a) (.list (rs.map rowD)) bs := by
  obtain ⟨as, hl, hn, hi⟩ := x
  obtain ⟨bs, hb⟩ := rows_readAll hn hi
  obtain ⟨o, ho, hc, n, hd⟩ := hl
  exact ⟨_, Reads.list ho hc hd (by simpa using hb)⟩
theorem eq_rows {prog : Program} {w : World} {A : Around} {E : Value → Shared → Prop} {s : Shared} {a b : Addr} {rs qs : List (List Int)} {Q : Value → Shared → Prop} (x : RowList s.heap a rs) (y : RowList s.heap b qs) (hu : A.units + 64 < cLine)
    (h : Q (.bool (decide (rs = qs))) s) : wpAny (model prog w) A (compareOp .Eq (.ref a) (.ref b)) Q E s := by
  obtain ⟨as, ra⟩ := rows_reads x
  obtain ⟨bs, rb⟩ := rows_reads y
  exact eq_dataH_same ra rb (rowsD_shaped rs) (rowsD_shaped qs) hu (by simp only [noMix]; exact rowsD_mix rs qs) (by simp only [PySem.Spec.same]; rw [rowsD_same]; exact h)

/-- the end of a law that leaves generators and one grown table -/
theorem postT {M : Model} {A : Around} {cd : Code} {s s₁ : Shared} {cw : ClaimW} {cl : Str → Option Addr} {mean : ExcName → Option Value} {args : List WData} {tabs : List (Addr × Addr)} (hT : TabsAt tabs s₁.heap) (hr : ∀ a x, cw.raises a x = false) (hp : cw.post args (.bool true) args = true) (hg0 : s₁.gens = #[])
    (h : codeAny M A cd (fun r s' => r = .ok (.ret (.bool true)) ∧ (∀ b o, (ghostOf s₁.heap tabs).get? b = some o → s'.heap.get? b = some o) ∧ s'.os = s₁.os ∧ GensGrow s₁.gens s'.gens ∧ GrownAll tabs s'.heap) s) : codeAny M A cd (GoodWG cw cl mean args s₁) s :=
  codeAny_mono h fun r s' hh => by
    obtain ⟨rfl, hk, hos, hg, hgr⟩ := hh
    have keep : ∀ b o, b ∉ tabs.map (·.2) → s₁.heap.get? b = some o → s'.heap.get? b = some o := fun b o hb e => hk b o (ghost_ne e hb)
    have grown : ∀ b o, b ∈ tabs.map (·.2) → s₁.heap.get? b = some o → isCodeTable s₁.heap b ∧ o = tabObj #[] ∧ ∃ ps, s'.heap.get? b = some (tabObj ps) := fun b o hb e => by
      obtain ⟨q, hq, rfl⟩ := List.mem_map.mp hb
      have e2 := (hT q hq).2
      rw [e] at e2
      exact ⟨((hT q hq).1.tab (hT q hq).2).isCodeTable, Option.some.inj e2, hgr.get q hq⟩
    refine ⟨.inl ⟨_, _, [], rfl, fun cls => hr _ _, .bool true, hp, fun _ => ⟨List.nodup_nil, fun _ h => nomatch h⟩⟩, ⟨fun b o e => ?_, fun b o e => ?_⟩, hos, ?_⟩
    · by_cases hb : b ∈ tabs.map (·.2)
      · obtain ⟨ht, rfl, ps, hP⟩ := grown b o hb e
        exact .inr (.inl ⟨ht, rfl, #[], ps, rfl, by rw [Array.empty_append]; exact hP⟩)
      · exact .inl (keep b o hb e)
    · by_cases hb : b ∈ tabs.map (·.2)
      · obtain ⟨_, _, ps, hP⟩ := grown b o hb e
        exact ⟨_, hP⟩
      · exact ⟨o, keep b o hb e⟩
    · intro y hy
      obtain ⟨k, hk', rfl⟩ := Array.mem_iff_getElem.mp hy
      exact hg.new k _ (by rw [hg0]; exact Nat.zero_le _) (Array.getElem?_eq_getElem hk')
end Mine
end
section
open PySem PySem.W PySem.W.X PyProof.Rows
set_option Elab.async false
set_option maxRecDepth 100000
set_option maxHeartbeats 4000000
namespace Mine
open PySem

section
theorem reset_Iter02 : True := by
  w_top off
  trivial
local macro_rules | `(tactic| walk_at "storeName") => `(tactic| (k_here; k_dflt (refine' stM ?k1 ?k2 ?k3 ?k4 ?_; (case k1 => assumption); (case k2 => assumption); (case k3 => assumption); (case k4 => assumption); k_whole); intro h' F' N' Mv'; (try dsimp only)))
local macro_rules | `(tactic| walk_at "newTuple") => `(tactic| (k_here; k_dflt (refine' newTupleM ?k1 ?k2 ?k3 ?_; (case k1 => assumption); (case k2 => assumption); (case k3 => assumption); k_whole); intro h' F' N' Mv' hz'; (try dsimp only)))
theorem iter_call {w : World} {p : Program} {loose : List Str} {mean : ExcName → Option Value} {mg mb : Str → Option Value} {A : Around} {h₀ : Heap} {L : Addr} {m : Str → Option Value} {news : List (Addr × Obj)} {s : Shared} {x : Str} {t : Tok}
    {Q E : Value → Shared → Prop} (F : Fr h₀ L s.heap m) (X : (hd.heap_39 w.params).In h₀) (T : Top p loose mean mg mb h₀) (N : News h₀ L s.heap news) (hroom : A.depth < recursionLimit)
    (hQ : ∀ a own s', Fr h₀ L s'.heap m → News h₀ L s'.heap news → Itr PySem.Challenge.rw_pg0117_02.row.prog w h₀ a s.gens.size (escs x) own s' → (∀ p ∈ own, s.heap.objs.size ≤ p.1) → s.heap.objs.size ≤ a →
      GensGrow s.gens s'.gens → s'.os = s.os → Q (.ref a) s') :
    wpAny (model PySem.Challenge.rw_pg0117_02.row.prog w) A (call (.ref 21) [.str x t]) Q E s := by
  revert X
  k_fill
  intro X
  refine wpAny_call ?_
  have XS := X.keeps F.keep
  have TS := T.keeps F.keep
  obtain ⟨o, ho⟩ : ∃ o, (hd.heap_39 w.params).lookup 21 = some o := ⟨_, by k_is⟩
  have hcd : codeIn (hd.heap_39 w.params) (.ref 20) (Str.ofString "_iter_escaped_chars") = true := by k_is
  refine codeAny_call_generator hroom (XS 21 _ (by k_is)) rfl rfl rfl rfl (codeRec_of XS hcd) ?_
  refine wpAny_of_eq (by exact rfl) ?_
  refine wpAny_newFunctionEnv (by decide) (locs rfl) (fun h₁ hn₁ hs₁ => ?_) rfl
  have hC : s.heap.objs.size < h₁.objs.size := hn₁.lt
  have keep₁ : ∀ b o, s.heap.get? b = some o → h₁.get? b = some o := fun b o e => hs₁.extBut b o (Nat.ne_of_lt (Heap.lt_size e)) (Heap.get?_push_of_some _ e)
  refine ⟨TS.nolimit.keeps keep₁, ?_⟩
  obtain ⟨oC, es, ep, hoC, hdC, hkC, hmC⟩ := id hn₁
  have hC0 : h₀.objs.size ≤ s.heap.objs.size := Nat.le_of_lt (Nat.lt_of_le_of_lt F.above F.ns.lt)
  have F₁ := F.keeps keep₁
  refine hQ _ [(s.heap.objs.size, oC)] _ (F₁.push _) (fun q hq => ⟨Heap.get?_push_of_some _ (keep₁ _ _ (N q hq).1), (N q hq).2⟩) ⟨⟨_, _, _, Heap.get?_push_size _ rfl, rfl, rfl, rfl⟩, ?_, ?_, _, Array.getElem?_push_size .., ?_⟩ ?_ (Nat.le_of_lt hC) (GensGrow.push _ rfl) rfl
  · intro q hq
    rw [List.mem_singleton.mp hq]
    exact Nat.ne_of_lt hC
  · intro q hq
    rw [List.mem_singleton.mp hq]
    exact Heap.get?_push_of_some _ hoC
  rotate_left
  · intro q hq
    rw [List.mem_singleton.mp hq]
    exact Nat.le_refl _
  rw [genP_iff]
  intro A' s' hh hb ho'
  show SegX _ A' _ _ _ _ _
  refine sx_func ?_
  have hgC : s'.heap.get? s.heap.objs.size = some oC := ho' _ (List.mem_singleton.mpr rfl)
  have FC : Fr h₀ s.heap.objs.size s'.heap (mOf [("addr", some (.str x t))]) := ⟨⟨oC, es, ep, hgC, hdC, hkC, fun n => (hmC n).trans (congrFun (mOf_lookup _) n)⟩, hb, hC0⟩
  have NC : News h₀ s.heap.objs.size s'.heap [] := News.nil
  have MvC : Moving [(s.heap.objs.size, oC)] s'.heap s'.heap := Moving.refl _ _
  have WC : Wr [(s.heap.objs.size, oC)] s'.heap s.heap.objs.size := .inl ⟨_, List.mem_singleton.mpr rfl, rfl⟩
  change SegX _ _ _ (Sem.wrap _ _ _ _ (execs _ (envOf _ _ s.heap.objs.size 21 (.ref 20)))) _ _ _
  refine sx_execs_cons (sx_wrap ?_)
  k_steps
  refine sx_execs_cons (sx_wrap ?_)
  k_steps
  refine sx_execs_cons (sx_For ?_)
  k_steps
  rename_i h₂ F₂ N₂ Mv₂
  refine call_enumerate_str fun h₃ he hit hz hk₃ => wpAny_pyIter_enum he fun p' => ?_
  have F₃ := F₂.keeps hk₃
  obtain ⟨oS, hoS, hcS, hdS⟩ := hit
  have Mv₃ := Mv₂.keeps hk₃
  have hCl : s.heap.objs.size < h₂.objs.size := F₂.ns.lt
  have hfr : ∀ b, h₂.objs.size ≤ b → s'.heap.get? b = none := fun b hb' => Mv₂.fresh (fun q hq => by rw [List.mem_singleton.mp hq]; exact hCl) hb'
  have hnew : ∀ b, h₂.objs.size ≤ b → h₀.get? b = none := fun b hb' => by
    cases q : h₀.get? b with
    | none => rfl
    | some o' => exact absurd (Heap.lt_size (F₂.keep b o' q)) (Nat.not_lt.mpr hb')
  have N₃ : News h₀ s.heap.objs.size h₃ [(h₂.objs.size + 1, enumO h₂.objs.size 0 .none), (h₂.objs.size, oS)] := by
    intro q hq
    rcases List.mem_cons.mp hq with rfl | hq
    · exact ⟨he, by show h₂.objs.size + 1 ≠ s.heap.objs.size; omega, hnew _ (Nat.le_succ _)⟩
    · rw [List.mem_singleton.mp hq]
      exact ⟨hoS, by show h₂.objs.size ≠ s.heap.objs.size; omega, hnew _ (Nat.le_refl _)⟩
  generalize hCe : s.heap.objs.size = C at *
  generalize hie : h₂.objs.size = it at *
  have hni : News h₀ C h₃ [(it + 1, enumO it 0 .none), (it, oS)] := N₃
  refine sx_induct (I := fun k A s P => ∃ i esc own₀ s₀ pv tp ch old oS, k = x.cps.size + 1 - i ∧ i ≤ x.cps.size ∧ A.handled = none ∧ Fr h₀ C s.heap (gm x t pv tp esc ch) ∧ oS.cls = .type (strIterType x) ∧ oS.data = .fields #[.str x t, .int (i : Nat) 0] ∧
    News h₀ C s.heap [(it + 1, enumO it i old), (it, oS)] ∧ Moving own₀ (Shared.heap s₀) s.heap ∧ s.gens = s₀.gens ∧ s.os = s₀.os ∧ (∀ p ∈ own₀, p.1 = C ∨ p.1 = it + 1 ∨ p.1 = it) ∧ Wr own₀ s₀.heap C ∧ Wr own₀ s₀.heap (it + 1) ∧ Wr own₀ s₀.heap it ∧ (esc = true → 1 ≤ i ∧ pv = (i : Int) - 1) ∧
    P = EndP PySem.Challenge.rw_pg0117_02.row.prog w h₀ (escGo esc i (x.cps.toList.drop i)) own₀ s₀) ?_ (x.cps.size + 1) A' _ _
    ⟨0, false, _, s', 0, _, none, .none, oS, rfl, Nat.zero_le _, hh, frTo F₃ ((mOf_none "ch" [("addr", some (.str x t)), ("pos", some (.int 0 s'.toks)), ("escape", some (.bool false))]).symm), hcS, hdS, N₃, Mv₃, rfl, rfl, (fun q hq => .inl (by rw [List.mem_singleton.mp hq])), WC, .inr (hfr _ (Nat.le_succ _)), .inr (hfr _ (Nat.le_refl _)), (fun e => nomatch e), rfl⟩
  clear F₃ N₃ Mv₃ hni hnew hfr hoS hk₃ he hz Mv₂ N₂ F₂ WC MvC NC FC hgC hcS hdS ho' hb hh
  rintro k ih A s P ⟨i, esc, own₀, s₀, pv, tp, ch, old, oS, rfl, hi, hh, F, hcS, hdS, N, Mv, hg, hos, W0, W1, W2, W3, hesc, rfl⟩
  refine sx_forTurn ?_
  have hit : s.heap.get? it = some oS := (N _ (.tail _ (.head _))).1
  have hen : IsEnum s.heap (it + 1) it i old := (N _ (.head _)).1
  have hnC : it ≠ C := (N _ (.tail _ (.head _))).2.1
  have hnC1 : it + 1 ≠ C := (N _ (.head _)).2.1
  by_cases hlt : i < x.cps.size
  · refine wpAny_pyNext_enum_itemD (Draws.strU (by exact hh) it x t) hen ⟨oS, hit, hcS, hdS⟩ hlt (Nat.succ_ne_self it) (by simp) fun v h₁ tk₁ hP heo hst₁ hT hz₁ hk₁ => ?_
    obtain ⟨c, u, hc, rfl⟩ := hP
    refine wpAny_letOwnedTupleGo_enum heo fun h₂ he₂ hs₂ => ?_
    obtain ⟨oS', hoS', hcS', hdS'⟩ := hst₁
    replace hs₂ : Heap.SameBut (it + 1) h₁ h₂ := hs₂
    have k12 : ∀ b o, b ≠ it + 1 → b ≠ it → s.heap.get? b = some o → h₂.get? b = some o := fun b o q1 q2 e => hs₂.extBut b o q1 (hk₁ b o q1 q2 e)
    have hW : ∀ b o, h₀.get? b = some o → b ≠ it + 1 ∧ b ≠ it := fun b o e => ⟨(fun q => by rw [q, (N _ (.head _)).2.2] at e; cases e), (fun q => by rw [q, (N _ (.tail _ (.head _))).2.2] at e; cases e)⟩
    have F2 : Fr h₀ C h₂ (gm x t pv tp esc ch) := ⟨F.ns.at' fun o e => k12 C o hnC1.symm hnC.symm e, fun b o e => k12 b o (hW b o e).1 (hW b o e).2 (F.keep b o e), F.above⟩
    have N2 : News h₀ C h₂ [(it + 1, enumO it (i + 1) (.str ⟨#[c]⟩ u)), (it, oS')] := by
      intro q hq
      rcases List.mem_cons.mp hq with rfl | hq
      · exact ⟨he₂, hnC1, (N _ (.head _)).2.2⟩
      · rw [List.mem_singleton.mp hq]
        exact ⟨hs₂.extBut _ _ (by show it ≠ it + 1; omega) hoS', hnC, (N _ (.tail _ (.head _))).2.2⟩
    have Mv2 : Moving own₀ s₀.heap h₂ := Mv.but (fun b => b = it + 1 ∨ b = it) (fun b hb' => by rcases hb' with rfl | rfl; exact W2; exact W3) fun b o hb' e => k12 b o (fun q => hb' (.inl q)) (fun q => hb' (.inr q)) e
    have htl : it + 1 < s.heap.objs.size := Heap.lt_size hen
    have hT2 : h₂.IsTuple s.heap.objs.size #[.int i tk₁, .str ⟨#[c]⟩ u] := ⟨_, hs₂.extBut _ _ (by show s.heap.objs.size ≠ it + 1; omega) hT, rfl, _, rfl⟩
    refine assign2 (by exact hh) F2 N2 hT2 fun h₃ F3 N3 hk₃ => ?_
    have F3 : Fr h₀ C h₃ (gm x t i tk₁ esc (some (.str ⟨#[c]⟩ u))) := frTo F3 rfl
    have Mv3 : Moving own₀ s₀.heap h₃ := Mv2.but (fun b => b = C) (fun b hb' => hb' ▸ W1) hk₃
    have hdr : x.cps.toList.drop i = c :: x.cps.toList.drop (i + 1) := drop_of (by simpa using hc)
    rw [hdr]
    clear Mv2 F2 N2 hT2 hk₃ k12 hs₂ he₂ hT hz₁ hk₁ heo hoS' F N Mv hit hen hcS hdS
    have hTf : ∀ (h : Heap) (_ : Fr h₀ C h (gm x t i tk₁ esc (some (.str ⟨#[c]⟩ u)))) (_ : News h₀ C h [(it + 1, enumO it (i + 1) (.str ⟨#[c]⟩ u)), (it, oS')]) (_ : Moving own₀ s₀.heap h), s₀.heap.get? h.objs.size = none ∧ h.objs.size ≠ it + 1 ∧ h.objs.size ≠ it := fun h F N Mv => by
      have l1 : C < h.objs.size := F.ns.lt
      have l2 : it + 1 < h.objs.size := Heap.lt_size (N _ (.head _)).1
      refine ⟨Mv.fresh (fun p hp => ?_) (Nat.le_refl _), by omega, by omega⟩
      rcases W0 p hp with e | e | e <;> rw [e]
      · exact l1
      · exact l2
      · exact Nat.lt_of_succ_lt l2
    cases esc with
    | true =>
      refine sx_execs_cons (sx_If ?_)
      k_steps
      rw [if_pos rfl]
      refine sx_execs_cons (sx_Yield rfl rfl rfl ?_)
      k_steps
      rename_i t' k1 hlen h4 F4 N4 Mv4 hz4 lv kk pp hkk
      rw [esc_true]
      have hs : (Str.ofString "\\" ++ (⟨#[c]⟩ : Str)) = ⟨[92, c].toArray⟩ := rfl
      rw [hs] at N4
      obtain ⟨f1, f2, f3⟩ := hTf h₃ F3 N3 Mv3
      refine gen_yield F4 N4 f2 f3 f1 Mv4 hg hos W1 W2 W3 hkk ?_
      intro A s'' own' hh' W0' W1' W2' W3' F5 N5
      have Mv5 : Moving own' s''.heap s''.heap := Moving.refl _ _
      refine sx_execs_cons (sx_wrap ?_)
      k_steps
      rename_i h6 F6 N6 Mv6
      refine s_again _ _ _ _ _ _ _ _ rfl (ih (x.cps.size + 1 - (i + 1)) (by omega) _ _ _ ⟨i + 1, false, own', s'', i, tk₁, _, _, oS', rfl, hlt, hh', frTo F6 rfl, hcS', hdS', N6, Mv6, rfl, rfl, W0', W1', W2', W3', (fun e => nomatch e), rfl⟩)
    | false =>
      refine sx_execs_cons (sx_If ?_)
      k_steps
      rw [if_neg Bool.false_ne_true]
      refine sx_execs_cons (sx_If ?_)
      k_steps
      by_cases hb : c = 92
      · have hq : ((⟨#[c]⟩ : Str) == Str.ofString "\\") = true := by rw [hb]; decide
        rw [if_pos hq, esc_back hb]
        refine sx_execs_cons (sx_wrap ?_)
        k_steps
        rename_i h6 F6 N6 Mv6
        refine s_again _ _ _ _ _ _ _ _ rfl (ih (x.cps.size + 1 - (i + 1)) (by omega) _ _ _ ⟨i + 1, true, own₀, s₀, i, tk₁, _, _, oS', rfl, hlt, hh, frTo F6 rfl, hcS', hdS', N6, Mv6, hg, hos, W0, W1, W2, W3, (fun _ => ⟨Nat.succ_le_succ (Nat.zero_le _), by push_cast; omega⟩), rfl⟩)
      · have hq : ¬ ((⟨#[c]⟩ : Str) == Str.ofString "\\") = true := by
          intro e
          have e1 : (⟨#[c]⟩ : Str) = Str.ofString "\\" := by simpa using e
          have e2 : (⟨#[c]⟩ : Str) = ⟨#[92]⟩ := e1.trans (by decide)
          exact hb (by simpa using e2)
        rw [if_neg hq, esc_sign hb]
        refine sx_execs_cons (sx_Yield rfl rfl rfl ?_)
        k_steps
        rename_i h4 F4 N4 Mv4 hz4 lv kk pp hkk
        obtain ⟨f1, f2, f3⟩ := hTf h₃ F3 N3 Mv3
        refine gen_yield (cs := [c]) F4 N4 f2 f3 f1 Mv4 hg hos W1 W2 W3 hkk ?_
        intro A s'' own' hh' W0' W1' W2' W3' F5 N5
        refine s_again _ _ _ _ _ _ _ _ rfl (ih (x.cps.size + 1 - (i + 1)) (by omega) _ _ _ ⟨i + 1, false, own', s'', i, tk₁, _, _, oS', rfl, hlt, hh', frTo F5 rfl, hcS', hdS', N5, Moving.refl _ _, rfl, rfl, W0', W1', W2', W3', (fun e => nomatch e), rfl⟩)
  · have hin : i = x.cps.size := by omega
    subst hin
    have hdr : x.cps.toList.drop x.cps.size = [] := by simp
    rw [hdr]
    refine wpAny_pyNext_enum_endD (Draws.strU (by exact hh) it x t) hen ⟨oS, hit, hcS, hdS⟩ fun h₁ hx₁ => ?_
    have k1 : ∀ b o, b ≠ it → s.heap.get? b = some o → h₁.get? b = some o := hx₁
    refine sx_block_nil ?_
    have hW : ∀ b o, h₀.get? b = some o → b ≠ it := fun b o e => (fun q => by rw [q, (N _ (.tail _ (.head _))).2.2] at e; cases e)
    have F1 : Fr h₀ C h₁ (gm x t pv tp esc ch) := ⟨F.ns.at' fun o e => k1 C o hnC.symm e, fun b o e => k1 b o (hW b o e) (F.keep b o e), F.above⟩
    have Mv1 : Moving own₀ s₀.heap h₁ := Mv.but (fun b => b = it) (fun b hb' => hb' ▸ W3) k1
    have N1 : News h₀ C h₁ [] := News.nil
    refine sx_execs_cons (sx_If ?_)
    cases esc with
    | false =>
      k_steps
      rw [if_neg Bool.false_ne_true]
      refine sx_execs_nil (s_end _ _ _ _ _ _ (.ok (.ret .none)) _ rfl ⟨rfl, hg, Mv1.woke hos⟩)
    | true =>
      k_steps
      rw [if_pos rfl]
      refine sx_execs_cons (sx_Yield rfl rfl rfl ?_)
      k_steps
      rename_i h4 F4 N4 Mv4 hz4 lv kk pp hkk
      obtain ⟨g1, g2⟩ := hesc rfl
      have f1 : s₀.heap.get? h₁.objs.size = none := by
        refine Mv1.fresh (fun p hp => ?_) (Nat.le_refl _)
        have l1 : it + 1 < h₁.objs.size := Heap.lt_size (k1 _ _ (Nat.succ_ne_self it) hen)
        rcases W0 p hp with e | e | e <;> rw [e]
        · exact F1.ns.lt
        · exact l1
        · exact Nat.lt_of_succ_lt l1
      refine gen_yield0 (pv := pv) (cs := [92]) (by rw [g2]; omega) F4 N4 f1 Mv4 hg hos W1 hkk ?_
      intro A s'' own' hh' W1' F5
      exact s_end _ _ _ _ _ _ (.ok (.ret .none)) _ rfl ⟨rfl, rfl, ⟨fun _ _ _ e => e, rfl⟩⟩
end
end Mine
end
section
open PySem PySem.W PySem.W.X PyProof.Rows
set_option Elab.async false
set_option maxRecDepth 100000
set_option maxHeartbeats 1000000
namespace Mine
open PySem

section
theorem reset_Strip02 : True := by
  w_top off
  trivial
local macro_rules | `(tactic| walk_at "no key Strip02 0") => `(tactic| skip)
local macro_rules | `(tactic| walk_at "storeName") => `(tactic| (k_here; k_dflt (refine' stL ?k1 ?k2 ?_; (case k1 => assumption); (case k2 => assumption); k_whole); intro h' F' N'; (try dsimp only)))
local macro_rules | `(tactic| walk_at "call builtin:list.append") => `(tactic| (k_here; k_dflt (refine' appendHead ?k1 ?k2 ?k3 ?k4 ?_; (case k1 => assumption); (case k2 => assumption); (case k3 => assumption); (case k4 => assumption); k_whole); intro h' F' N'; (try dsimp only)))

theorem strip_call {w : World} {p : Program} {loose : List Str} {mean : ExcName → Option Value} {mg mb : Str → Option Value} {A : Around} {s : Shared} {x : Str} {t : Tok}
    {Q E : Value → Shared → Prop} (X : (hd.heap_39 w.params).In s.heap) (T : Top p loose mean mg mb s.heap) (hh : A.handled = none) (hroom : A.depth + 1 < recursionLimit) (hu : A.units + 100 < cLine) (hx : x.length ≤ 1000)
    (hQ : ∀ u s', Keep s s' → Q (.str (strip x) u) s') :
    wpAny (model PySem.Challenge.rw_pg0117_02.row.prog w) A (call (.ref 28) [.str x t]) Q E s := by
  have hx' : x.cps.size ≤ 1000 := hx
  revert X
  k_fill
  intro X
  refine enter (X _ _ (by k_is)) (codeRec_of X (by k_is)) T.nolimit (by omega) (BindsTo.of_eq rfl) (locs rfl) rfl rfl rfl (by decide) fun h₁ F N => ?_
  have hfo := StrLaws.found_one x 34
  rw [show (⟨#[34]⟩ : Str) = Str.ofString "\"" from by decide] at hfo
  k_steps
  · rename_i hq
    rw [hq] at hfo
    have e : strip x = x := by unfold strip; rw [if_neg (of_decide_eq_false hfo.symm)]
    rw [e] at hQ
    exact hQ _ _ ⟨F.keep, rfl, .refl _⟩
  rename_i hq _ _ _ _ _ R _ _ _ _ h₅ F₅ N₅
  rw [hq] at hfo
  have hmem : 34 ∈ x.cps.toList := of_decide_eq_true hfo.symm
  have e : strip x = ⟨(stripEnd x.cps.toList (stripRun x.cps.toList (escs x) ⟨0, none, []⟩)).toArray⟩ := by unfold strip; rw [if_pos hmem]
  rw [e] at hQ
  clear hfo e
  refine for_gen ?_
  k_steps
  refine iter_call F₅ X T N₅ (by show A.depth + 1 < recursionLimit; omega) fun a own s₁ F₆ N₆ I hown ha hgg hos => ?_
  refine ⟨a, _, rfl, I.gen, ?_⟩
  refine loop_gen2 (l := lS x t 0 _ .none R none none) F₅ N₅ hown ha hh (by show A.depth + 1 < recursionLimit; omega) T.nolimit
    (fun items l news => ∃ (st : StripSt) (ts to : Tok) (vals : List Value) (n : Nat) (pv cv : Option Value), stripRun x.cps.toList items st = stripRun x.cps.toList (escs x) ⟨0, none, []⟩ ∧ Texts vals st.res ∧ vals.length + items.length ≤ x.cps.size ∧ (∀ c ∈ st.res, c.length ≤ x.cps.toList.length) ∧
      l = lS x t st.start ts (opV st.op to) R pv cv ∧ news = [(R, W.listOf vals.toArray n)])
    (frTo F₆ (((mOf_none "ch" _).trans (mOf_none "pos" _)).symm)) N₆ I ⟨⟨0, none, []⟩, _, 0, [], 0, none, none, rfl, .nil, (by simpa using escs_length x), (fun _ h => nomatch h), rfl, rfl⟩ ?_ ?_
  · rintro ⟨ip, ic⟩ rest l₁ news₁ s₂ t' u ext ⟨st, ts, to, vals, n, pv, cv, hrun, htx, hvl, hcl, rfl, rfl⟩ hgq hos₂ hsep F₇ N₇
    have hvs : vals.toArray.size ≤ sizeLine := by rw [List.size_toArray, sizeLine_eq]; omega
    have hse : ∀ p ∈ ext, p.1 ≠ R := fun p hp => hsep p hp _ (.head _)
    have hvl' : vals.length + rest.length ≤ x.cps.size := by rw [List.length_cons] at hvl; omega
    have hic := strEq1 ic 34 (Str.ofString "\"") (by decide)
    obtain ⟨sta, sop, sres⟩ := st
    rw [stripRun] at hrun
    cases sop with
    | none =>
      simp only [opV] at F₇
      k_steps
      · rename_i h1 _ h' F' N'
        rw [h1] at hic
        have hc := of_decide_eq_true hic.symm
        simp only [stripStep, if_pos hc] at hrun
        exact ⟨_, _, F', N', hsep, rfl, rfl, _, ts, t', vals, n, _, _, hrun, htx, hvl', hcl, rfl, rfl⟩
      · rename_i h1
        rw [h1] at hic
        have hc := of_decide_eq_false hic.symm
        simp only [stripStep, if_neg hc] at hrun
        exact ⟨_, _, F₇, N₇, hsep, rfl, rfl, _, ts, to, vals, n, _, _, hrun, htx, hvl', hcl, rfl, rfl⟩
    | some o =>
      simp only [opV] at F₇
      k_steps
      · rename (_ == _) = true => h1
        rename _ ≠ _ => h2
        rename Fr _ _ _ _ => F4
        rename News _ _ _ _ => N4
        rw [h1] at hic
        have hc := of_decide_eq_true hic.symm
        have hne : ¬ sta = o := fun q => h2 (by rw [q])
        simp only [stripStep, if_pos hc, if_neg hne] at hrun
        rw [slice_cut] at N4
        refine ⟨lS x t (ip + 1) _ .none R _ _, [(R, W.listOf (vals ++ [_]).toArray _)], F4, (by simpa using N4), (fun p hp q hq => by rw [List.mem_singleton.mp hq]; exact hse p hp), rfl, rfl, _, _, 0, vals ++ [_], _, _, _, hrun, htx.snoc, ?_, ?_, rfl, rfl⟩
        · rw [List.length_append, List.length_singleton]; rw [List.length_cons] at hvl; omega
        · intro c hc'
          rcases List.mem_append.mp hc' with hc' | hc'
          · exact hcl c hc'
          · rw [List.mem_singleton.mp hc']; exact cut_le _ _ _
      · rename (_ == _) = true => h1
        rename (_ : Int) = _ => h2
        rename Fr _ _ _ _ => F4
        rename News _ _ _ _ => N4
        rw [h1] at hic
        have hc := of_decide_eq_true hic.symm
        have hne : sta = o := by omega
        simp only [stripStep, if_pos hc, if_pos hne] at hrun
        exact ⟨lS x t (ip + 1) _ .none R _ _, _, F4, N4, hsep, rfl, rfl, _, _, 0, vals, n, _, _, hrun, htx, hvl', hcl, rfl, rfl⟩
      · rename_i h1
        rw [h1] at hic
        have hc := of_decide_eq_false hic.symm
        simp only [stripStep, if_neg hc] at hrun
        exact ⟨_, _, F₇, N₇, hsep, rfl, rfl, _, ts, to, vals, n, _, _, hrun, htx, hvl', hcl, rfl, rfl⟩
  · rintro l₁ news₁ s₂ ⟨st, ts, to, vals, n, pv, cv, hrun, htx, hvl, hcl, rfl, rfl⟩ hgq hos₂ F₇ N₇
    dsimp only
    have hlen : vals.length = st.res.length := htx.length
    have hxl : x.cps.toList.length = x.cps.size := by simp
    have hrun' : st = stripRun x.cps.toList (escs x) ⟨0, none, []⟩ := hrun
    have fin : ∀ (s' : Shared), Fr s.heap s.heap.objs.size s'.heap (mOf (lS x t st.start ts (opV st.op to) R pv cv)) → s'.os = s₂.os → s'.gens = s₂.gens → Keep s s' := fun s' F e1 e2 =>
      ⟨F.keep, by rw [e1, hos₂, hos], by rw [e2]; exact hgg.only (Nat.le_refl _) hgq⟩
    k_steps
    · rename (_ : Int) < _ => h2
      rename Fr _ _ _ _ => F4
      rename News _ _ _ _ => N4
      rw [slice_cut'] at N4
      have hlt : st.start < x.cps.toList.length := by rw [hxl]; have : x.length = x.cps.size := rfl; omega
      have N5 : News s.heap s.heap.objs.size _ [(R, W.listOf (vals ++ [_]).toArray _)] := (by simpa using N4)
      refine join_texts (N := x.cps.toList.length) N5 htx.snoc ?_ ?_ fun t' k => ?_
      · intro c hc'
        rcases List.mem_append.mp hc' with hc' | hc'
        · exact hcl c hc'
        · rw [List.mem_singleton.mp hc']; exact cut_le _ _ _
      · rw [List.length_append, List.length_singleton, hxl]
        rw [List.length_nil] at hvl
        exact Nat.le_trans (Nat.mul_le_mul (show _ ≤ 1001 by omega) (show _ ≤ 1000 by omega)) (by decide)
      · have e : stripEnd x.cps.toList (stripRun x.cps.toList (escs x) ⟨0, none, []⟩) = (st.res ++ [cut x.cps.toList st.start x.cps.toList.length]).flatten := by rw [← hrun']; unfold stripEnd; rw [if_pos hlt]
        rw [e] at hQ
        exact hQ _ _ (fin _ F4 rfl rfl)
    · rename ¬ (_ : Int) < _ => h2
      have hlt : ¬ st.start < x.cps.toList.length := by rw [hxl]; have : x.length = x.cps.size := rfl; omega
      refine join_texts (N := x.cps.toList.length) N₇ htx hcl ?_ fun t' k => ?_
      · rw [hxl]
        rw [List.length_nil] at hvl
        exact Nat.le_trans (Nat.mul_le_mul (show _ ≤ 1001 by omega) (show _ ≤ 1000 by omega)) (by decide)
      · have e : stripEnd x.cps.toList (stripRun x.cps.toList (escs x) ⟨0, none, []⟩) = st.res.flatten := by rw [← hrun']; unfold stripEnd; rw [if_neg hlt]
        rw [e] at hQ
        exact hQ _ _ (fin _ F₇ rfl rfl)
end
end Mine
end
section
open PySem PySem.W PySem.W.X PyProof.Rows
set_option Elab.async false
set_option maxRecDepth 100000
set_option maxHeartbeats 1000000
namespace Mine
open PySem

section
theorem reset_Check02 : True := by
  w_top off
  trivial
local macro_rules | `(tactic| walk_at "storeName") => `(tactic| (k_here; k_dflt (refine' stL ?k1 ?k2 ?_; (case k1 => assumption); (case k2 => assumption); k_whole); intro h' F' N'; (try dsimp only)))
abbrev lC (y : Str) (t : Tok) (o : Int) (to : Tok) (pv cv : Option Value) : List (Str × Option Value) :=
  [("addr", some (.str y t)), ("opens", some (.int o to)), ("pos", pv), ("ch", cv)]

theorem check_call {w : World} {p : Program} {loose : List Str} {mean : ExcName → Option Value} {mg mb : Str → Option Value} {A : Around} {s : Shared} {x : Str} {t : Tok}
    {Q E : Value → Shared → Prop} (X : (hd.heap_39 w.params).In s.heap) (T : Top p loose mean mg mb s.heap) (hh : A.handled = none) (hroom : A.depth + 2 < recursionLimit) (hu : A.units + 200 < cLine) (hx : x.length ≤ 1000)
    (hQ : ∀ s', Keep s s' → Q (.bool (checkP x)) s') :
    wpAny (model PySem.Challenge.rw_pg0117_02.row.prog w) A (call (.ref 35) [.str x t]) Q E s := by
  revert X
  k_fill
  intro X
  refine enter (X _ _ (by k_is)) (codeRec_of X (by k_is)) T.nolimit (by omega) (BindsTo.of_eq rfl) (locs rfl) rfl rfl rfl (by decide) fun h₁ F N => ?_
  k_steps
  refine strip_call (X.keeps F.keep) (T.keeps F.keep) hh (by show A.depth + 1 + 1 < recursionLimit; omega) (by show A.units + 3 + 100 < cLine; omega) hx fun u s₁ K₁ => ?_
  have F₁ := K₁.fr F
  have N₁ := K₁.news N
  k_steps
  refine for_gen ?_
  k_steps
  rename Fr _ _ _ _ => F₅
  rename News _ _ _ _ => N₅
  refine iter_call F₅ X T N₅ (by show A.depth + 1 < recursionLimit; omega) fun a own s₂ F₆ N₆ I hown ha hgg hos => ?_
  refine ⟨a, _, rfl, I.gen, ?_⟩
  have hK : ∀ s₃ : Shared, (∀ b o, s.heap.get? b = some o → s₃.heap.get? b = some o) → GenOnlyQ s₁.gens.size s₂.gens s₃.gens → s₃.os = s₂.os → Keep s s₃ := fun s₃ k g e =>
    ⟨k, e.trans (hos.trans K₁.os), GensGrow.trans K₁.gens (hgg.only (Nat.le_refl _) g)⟩
  refine loop_gen2 (l := lC (strip x) u 0 _ none none) F₅ N₅ hown ha hh (by show A.depth + 1 < recursionLimit; omega) T.nolimit
    (fun items l news => ∃ (o : Int) (to : Tok) (pv cv : Option Value), chkRun items o = checkP x ∧ 0 ≤ o ∧ l = lC (strip x) u o to pv cv ∧ news = [])
    (frTo F₆ (((mOf_none "ch" _).trans (mOf_none "pos" _)).symm)) N₆ I ⟨0, _, none, none, rfl, by omega, rfl, rfl⟩ ?_ ?_
  · rintro ⟨ip, ic⟩ rest l₁ news₁ s₃ t' u' ext ⟨o, to, pv, cv, hrun, ho, rfl, rfl⟩ hgq hos₂ hsep F₇ N₇
    have hi1 := strEq1 ic 40 (Str.ofString "(") (by decide)
    have hi2 := strEq1 ic 41 (Str.ofString ")") (by decide)
    rw [chkRun] at hrun
    dsimp only at hrun
    k_steps
    · rename (_ == _) = true => h1
      rename Fr _ _ _ _ => F4
      rename News _ _ _ _ => N4
      have hc := of_decide_eq_true (hi1.symm.trans h1)
      rw [if_pos hc] at hrun
      exact ⟨lC (strip x) u (o + 1) _ _ _, [], F4, N4, (fun _ _ _ h => nomatch h), rfl, rfl, o + 1, _, _, _, hrun, by omega, rfl, rfl⟩
    · rename (_ == _) = true => h2
      rename (_ == _) = false => h1
      rename (_ : Int) < 0 => h3
      rename Fr _ _ _ _ => F4
      have hc1 := of_decide_eq_false (hi1.symm.trans h1)
      have hc2 := of_decide_eq_true (hi2.symm.trans h2)
      rw [if_neg hc1, if_pos hc2, if_pos h3] at hrun
      rw [← hrun] at hQ
      exact hQ _ (hK _ F4.keep hgq hos₂)
    · rename (_ == _) = true => h2
      rename (_ == _) = false => h1
      rename ¬ (_ : Int) < 0 => h3
      rename Fr _ _ _ _ => F4
      rename News _ _ _ _ => N4
      have hc1 := of_decide_eq_false (hi1.symm.trans h1)
      have hc2 := of_decide_eq_true (hi2.symm.trans h2)
      rw [if_neg hc1, if_pos hc2, if_neg h3] at hrun
      exact ⟨lC (strip x) u (o - 1) _ _ _, [], F4, N4, (fun _ _ _ h => nomatch h), rfl, rfl, o - 1, _, _, _, hrun, by omega, rfl, rfl⟩
    · rename (_ == Str.ofString "(") = false => h1
      rename (_ == Str.ofString ")") = false => h2
      have hc1 := of_decide_eq_false (hi1.symm.trans h1)
      have hc2 := of_decide_eq_false (hi2.symm.trans h2)
      rw [if_neg hc1, if_neg hc2] at hrun
      exact ⟨lC (strip x) u o _ _ _, [], F₇, N₇, (fun _ _ _ h => nomatch h), rfl, rfl, o, _, _, _, hrun, ho, rfl, rfl⟩
  · rintro l₁ news₁ s₃ ⟨o, to, pv, cv, hrun, ho, rfl, rfl⟩ hgq hos₂ F₇ N₇
    dsimp only
    k_steps
    rw [← hrun] at hQ
    exact hQ _ (hK _ F₇.keep hgq hos₂)
end
end Mine
end
section
open PySem PySem.W PySem.W.X PyProof.Rows
set_option Elab.async false
set_option maxRecDepth 100000
set_option maxHeartbeats 1000000
namespace Mine
open PySem

section
theorem reset_Bis02 : True := by
  w_top off
  trivial
local macro_rules | `(tactic| walk_at "no key Bis02 0") => `(tactic| skip)
local macro_rules | `(tactic| walk_at "no key Bis02 1") => `(tactic| skip)
local macro_rules | `(tactic| walk_at "storeName") => `(tactic| (k_here; k_dflt (refine' stL ?k1 ?k2 ?_; (case k1 => assumption); (case k2 => assumption); k_whole); intro h' F' N'; (try dsimp only)))
local macro_rules | `(tactic| walk_at "exec While Compare cons nil") => `(tactic| (refine Halt.mk ?_))

theorem bisR_call {w : World} {p : Program} {loose : List Str} {mean : ExcName → Option Value} {mg mb : Str → Option Value} {A : Around} {s : Shared} {a : Addr} {ns : List Int} {x : Int} {t : Tok}
    {Q E : Value → Shared → Prop} (X : (hd.heap_39 w.params).In s.heap) (T : Top p loose mean mg mb s.heap) (hh : A.handled = none) (hroom : A.depth < recursionLimit) (hu : A.units + 100 < cLine) (hl : IntList s.heap a ns) (hn : ns.length ≤ 1000)
    (hQ : ∀ u s', Keep s s' → Q (.int (halved (fun i => decide (x < ns.getD i 0)) ns.length) u) s') :
    wpAny (model PySem.Challenge.rw_pg0117_02.row.prog w) A (call (.ref 44) [.ref a, .int x t]) Q E s := by
  revert X
  k_fill
  intro X
  have hD : s.heap.get? 37 = some _ := X 37 _ (by k_is)
  have hN : s.heap.Ns 37 _ := ⟨_, _, _, hD, rfl, (fun e he => ⟨_, _, congrArg DictEntry.key (List.mem_singleton.mp (Array.mem_toList_iff.mpr he))⟩), fun _ => rfl⟩
  have hT : s.heap.get? 36 = some _ := X 36 _ (by k_is)
  have ho : s.heap.get? 44 = some _ := X 44 _ (by k_is)
  refine' enter (binds := [("a", .ref a), ("x", .int x t), ("lo", .int 0 _), ("hi", .none), ("key", .none)]) ho (codeRec_of X (by k_is)) T.nolimit hroom ?hb ?hl rfl rfl rfl (by decide) ?go
  case hb =>
    intro M A E' Q' hq Γ p hΓ
    refine (show ∃ o, s.heap.get? 36 = some o ∧ _ from ⟨_, hT, ?_⟩)
    refine (show Sem.wp M Γ (((nsGet 37 (Str.ofString "key") >>= _) >>= _) >>= _) _ _ _ _ from ?_)
    rw [Sem.wp_bind', Sem.wp_bind', Sem.wp_bind', Sem.wp_nsGet _ _ _ _ _ hN]
    exact hq
  case hl => exact locs rfl
  intro h₁ F N
  k_steps
  refine lenI (hl.keep F.keep) hn ?_
  k_steps
  rename Fr _ _ _ _ => F₂
  have F₂ : Fr s.heap s.heap.objs.size _ (mOf (lB a (.int x t) .none 0 _ ns.length _ none)) := frTo F₂ ((mOf_none "mid" _).symm)
  refine Halt.go (while_inv (I := fun n s' => ∃ lo hi tl th mv, n = hi - lo ∧ lo ≤ hi ∧ hi ≤ ns.length ∧ halve (fun i => decide (x < ns.getD i 0)) (hi - lo) lo hi = halved (fun i => decide (x < ns.getD i 0)) ns.length ∧
    Fr s.heap s.heap.objs.size s'.heap (mOf (lB a (.int x t) .none lo tl hi th mv)) ∧ s'.gens = s.gens ∧ s'.os = s.os) ?_ ns.length ⟨0, ns.length, _, _, none, rfl, Nat.zero_le _, Nat.le_refl _, rfl, F₂, rfl, rfl⟩)
  clear F₂
  rintro n s' ⟨lo, hi, tl, th, mv, rfl, hle, hhi, hrun, F, hg, hos⟩
  have N : News s.heap s.heap.objs.size s'.heap [] := News.nil
  have hl' := hl.keep F.keep
  k_steps
  · rename (_ : Int) < _ => hlt
    have hlt : lo < hi := by omega
    rename Fr _ _ _ _ => F₃
    refine itemI (k := (lo + hi) / 2) (hl.keep F₃.keep) (by omega) hn (half_eq lo hi) fun t' => ?_
    rw [halve_step _ _ _ hlt] at hrun
    rw [half_eq] at F₃
    k_steps
    · rename (_ : Int) < List.getD _ _ _ => hx
      rename Fr _ _ _ _ => F₄
      rw [if_pos (decide_eq_true hx)] at hrun
      exact ⟨_, by omega, lo, (lo + hi) / 2, _, _, _, rfl, by omega, by omega, hrun, F₄, hg, hos⟩
    · rename ¬ (_ : Int) < List.getD _ _ _ => hx
      rename Fr _ _ _ _ => F₄
      rw [if_neg (by rw [decide_eq_true_eq]; exact hx)] at hrun
      exact ⟨_, by omega, (lo + hi) / 2 + 1, hi, _, _, _, rfl, by omega, by omega, hrun, F₄, hg, hos⟩
  · rename ¬ (_ : Int) < _ => hlt
    have hlt : ¬ lo < hi := by omega
    rw [halve_done _ _ _ _ hlt] at hrun
    rw [← hrun] at hQ
    exact hQ _ _ ⟨F.keep, hos, by show GensGrow s.gens s'.gens; rw [hg]; exact .refl _⟩

theorem bisLk_call {w : World} {p : Program} {loose : List Str} {mean : ExcName → Option Value} {mg mb : Str → Option Value} {A : Around} {s : Shared} {a kf : Addr} {vs : List Value} {kp : Nat → Bool} {oc : Value} {od : Option Addr} {fd : FuncData} {sl : Array (Option Value)}
    {Q E : Value → Shared → Prop} (X : (hd.heap_39 w.params).In s.heap) (T : Top p loose mean mg mb s.heap) (hh : A.handled = none) (hroom : A.depth < recursionLimit) (hu : A.units + 100 < cLine) (hl : ValList s.heap a vs) (hn : vs.length ≤ 1000) (hkf : s.heap.get? kf = some ⟨oc, od, .func fd, sl⟩)
    (hkey : ∀ (A' : Around) i v (s' : Shared) (Q' : Value → Shared → Prop), A'.handled = none → A'.depth = A.depth + 1 → A'.units = A.units + 3 → vs[i]? = some v → Keep s s' → (∀ s'', Keep s' s'' → Q' (.bool (kp i)) s'') → wpAny (model PySem.Challenge.rw_pg0117_02.row.prog w) A' (call (.ref kf) [v]) Q' (fun _ _ => False) s')
    (hQ : ∀ u s', Keep s s' → Q (.int (halved kp vs.length) u) s') :
    wpAny (model PySem.Challenge.rw_pg0117_02.row.prog w) A (call (.ref 53) [.ref a, .bool true] [(Str.ofString "key", .ref kf)]) Q E s := by
  revert X
  k_fill
  intro X
  have hT : s.heap.get? 45 = some _ := X 45 _ (by k_is)
  have ho : s.heap.get? 53 = some _ := X 53 _ (by k_is)
  refine' enter (binds := [("a", .ref a), ("x", .bool true), ("lo", .int 0 _), ("hi", .none), ("key", .ref kf)]) ho (codeRec_of X (by k_is)) T.nolimit hroom ?hb ?hl rfl rfl rfl (by decide) ?go
  case hb =>
    intro M A E' Q' hq Γ p hΓ
    refine (show ∃ o, s.heap.get? 45 = some o ∧ _ from ⟨_, hT, ?_⟩)
    exact hq
  case hl => exact locs rfl
  intro h₁ F N
  k_steps
  refine lenL (hl.keep F.keep) hn ?_
  k_steps
  rename Fr _ _ _ _ => F₂
  have F₂ : Fr s.heap s.heap.objs.size _ (mOf (lB a (.bool true) (.ref kf) 0 _ vs.length _ none)) := frTo F₂ ((mOf_none "mid" _).symm)
  refine Halt.go (while_inv (I := fun n s' => ∃ lo hi tl th mv, n = hi - lo ∧ lo ≤ hi ∧ hi ≤ vs.length ∧ halve kp (hi - lo) lo hi = halved kp vs.length ∧
    Fr s.heap s.heap.objs.size s'.heap (mOf (lB a (.bool true) (.ref kf) lo tl hi th mv)) ∧ GensGrow s.gens s'.gens ∧ s'.os = s.os) ?_ vs.length ⟨0, vs.length, _, _, none, rfl, Nat.zero_le _, Nat.le_refl _, rfl, F₂, .refl _, rfl⟩)
  clear F₂
  rintro n s' ⟨lo, hi, tl, th, mv, rfl, hle, hhi, hrun, F, hg, hos⟩
  have N : News s.heap s.heap.objs.size s'.heap [] := News.nil
  k_steps
  · rename (_ : Int) < _ => hlt
    have hlt : lo < hi := by omega
    rename Fr _ _ _ _ => F₃
    rw [halve_step _ _ _ hlt] at hrun
    rw [half_eq] at F₃
    have hmid : (lo + hi) / 2 < vs.length := by omega
    obtain ⟨v, hv⟩ : ∃ v, vs[(lo + hi) / 2]? = some v := ⟨_, List.getElem?_eq_getElem hmid⟩
    refine callWithF (kf := kf) (oc := oc) (od := od) (fd := fd) (sl := sl) ?_
    k_steps
    refine itemL (k := (((lo + hi) / 2 : Nat) : Int)) (hl.keep F₃.keep) (by omega) (by omega) (by exact hv) ?_
    k_steps
    refine hkey _ _ v _ _ hh rfl rfl hv ⟨F₃.keep, hos, hg⟩ fun s₃ K₃ => ?_
    have F₄ := K₃.fr F₃
    have N₄ : News s.heap s.heap.objs.size s₃.heap [] := News.nil
    have K₃' : Keep s s₃ := ⟨fun b o e => K₃.heap b o (F₃.keep b o e), K₃.os.trans hos, hg.trans K₃.gens⟩
    cases hkp : kp ((lo + hi) / 2) with
    | false =>
      rw [hkp] at hrun
      simp only [Bool.false_eq_true, if_false] at hrun
      k_steps
      rename Fr _ _ _ _ => F₅
      exact ⟨_, by omega, (lo + hi) / 2 + 1, hi, _, _, _, rfl, by omega, by omega, hrun, F₅, K₃'.gens, K₃'.os⟩
    | true =>
      rw [hkp] at hrun
      simp only [if_true] at hrun
      k_steps
      rename Fr _ _ _ _ => F₅
      exact ⟨_, by omega, lo, (lo + hi) / 2, _, _, _, rfl, by omega, by omega, hrun, F₅, K₃'.gens, K₃'.os⟩
  · rename ¬ (_ : Int) < _ => hlt
    have hlt : ¬ lo < hi := by omega
    rw [halve_done _ _ _ _ hlt] at hrun
    rw [← hrun] at hQ
    exact hQ _ _ ⟨F.keep, hos, hg⟩
end
end Mine
end
section
open PySem PySem.W PySem.W.X PyProof.Rows
set_option Elab.async false
set_option maxRecDepth 100000
set_option maxHeartbeats 1000000
namespace Mine
open PySem

def hiddenL : List (List Nat) := [[34, 40, 34], [34, 41, 34], [92, 40], [92, 41], [92, 34], [92, 92]]
def pieceOf (n : Int) : List Nat := if Int.fmod n 5 = 4 then hiddenL.getD (Int.fmod (Int.fdiv n 5) 6).toNat [] else if Int.fmod n 5 < 2 then [40] else [41]
def piecesOf (ns : List Int) : List (List Nat) := [[40], [40]] ++ (ns.take 4).map pieceOf ++ [[41], [34, 41, 34], [40], [40], [41], [41], [41], [41], [40]]
abbrev hidO (t : Tok) : Obj := W.listOf #[Value.str (Str.ofString "\"(\"") t, Value.str (Str.ofString "\")\"") (t + 1), Value.str (Str.ofString "\\(") (t + 1 + 1), Value.str (Str.ofString "\\)") (t + 1 + 1 + 1), Value.str (Str.ofString "\\\"") (t + 1 + 1 + 1 + 1), Value.str (Str.ofString "\\\\") (t + 1 + 1 + 1 + 1 + 1)] 0
abbrev lP (a H D : Addr) (nv : Option Value) : List (Str × Option Value) := [("script", some (.ref a)), ("hidden", some (.ref H)), ("drawn", some (.ref D)), ("number", nv)]
section
theorem reset_Pieces02 : True := by
  w_top off
  trivial
local macro_rules | `(tactic| walk_at "no key Pieces02 0") => `(tactic| skip)
local macro_rules | `(tactic| walk_at "no key Pieces02 1") => `(tactic| skip)
local macro_rules | `(tactic| walk_at "storeName") => `(tactic| (k_here; k_dflt (refine' stL ?k1 ?k2 ?_; (case k1 => assumption); (case k2 => assumption); k_whole); intro h' F' N'; (try dsimp only)))
local macro_rules | `(tactic| walk_at "exec For") => `(tactic| (refine Halt.mk ?_))
local macro_rules | `(tactic| walk_at "subscriptTail Name BinOp") => `(tactic| (refine Halt.mk ?_))

theorem pieces_call {w : World} {p : Program} {loose : List Str} {mean : ExcName → Option Value} {mg mb : Str → Option Value} {A : Around} {s : Shared} {a : Addr} {ns : List Int}
    {Q E : Value → Shared → Prop} (X : (hd.heap_39 w.params).In s.heap) (T : Top p loose mean mg mb s.heap) (hh : A.handled = none) (hroom : A.depth + 2 < recursionLimit) (hu : A.units + 200 < cLine) (hl : IntList s.heap a ns) (hn : ns.length ≤ 1000)
    (hQ : ∀ b s', Keep s s' → TextList s'.heap b (piecesOf ns) → Q (.ref b) s') :
    wpAny (model PySem.Challenge.rw_pg0117_02.row.prog w) A (call (.ref 60) [.ref a]) Q E s := by
  revert X
  k_fill
  intro X
  obtain ⟨vs, hl, hI⟩ := hl
  refine enter (binds := [("script", .ref a)]) (X _ _ (by k_is)) (codeRec_of X (by k_is)) T.nolimit (by omega) (BindsTo.of_eq rfl) (locs rfl) rfl rfl rfl (by decide) fun h₁ F N => ?_
  k_steps
  refine Halt.go (for_any ?_)
  k_steps
  rename_i tk1 Hd _ _ _ _ Dr _ l12 _ Dl ws h3 F3 N3 hI3 hC3 hL3 l13
  have F4 : Fr s.heap s.heap.objs.size h3 (mOf (lP a Hd Dr none)) := frTo F3 (mOf_none "number" _).symm
  refine iter_list (l := lP a Hd Dr none) (fun i l news => ∃ nv vals n, l = lP a Hd Dr nv ∧ Texts vals (((ns.take 4).take i).map pieceOf) ∧ vals.length ≤ i ∧ news = [(Dr, W.listOf vals.toArray n), (Dl, W.listOf ws.toArray 0), (Hd, hidO tk1)])
    hh F4 (news := [(Dr, W.listOf #[] 0), (Dl, W.listOf ws.toArray 0), (Hd, hidO tk1)]) (fun q hq => N3 q ?_) ⟨_, (N3 _ (.head _)).1, rfl, _, rfl⟩ ⟨none, [], 0, rfl, .nil, Nat.le_refl _, rfl⟩ ?_ ?_ ?_ rfl rfl
  · rcases List.mem_cons.mp hq with rfl | hq
    · exact .tail _ (.head _)
    · rcases List.mem_cons.mp hq with rfl | hq
      · exact .head _
      · rw [List.mem_singleton.mp hq]; exact .tail _ (.tail _ (.head _))
  · refine .inr ⟨W.listOf ws.toArray 0, ?_⟩
    rintro i l₁ news₁ ⟨nv, vals, n, _, _, _, rfl⟩
    exact .tail _ (.head _)
  · rintro i v l₁ news₁ s₁ own hv ⟨nv, vals, n, rfl, htx, hvl, rfl⟩ hsep hg hos F5 N5
    have hi : i < (ns.take 4).length := by
      have := hI3.length; have := (List.getElem?_eq_some_iff.mp hv).1; omega
    obtain ⟨t, hx⟩ := hI3.get i (ns.take 4)[i] (List.getElem?_eq_getElem hi)
    obtain rfl : v = .int (ns.take 4)[i] t := by rw [hv] at hx; exact Option.some.inj hx
    have hk : (ns.take 4)[i]? = some (ns.take 4)[i] := List.getElem?_eq_getElem hi
    generalize (ns.take 4)[i] = k at hk hx hv F5
    have hoff := offOf hsep
    simp only [List.map_cons, List.map_nil] at hoff
    simp only [List.cons_append, List.nil_append] at N5
    have hsz : vals.toArray.size ≤ sizeLine := by rw [List.size_toArray, sizeLine_eq]; omega
    have hnx : (List.map pieceOf (List.take (i + 1) (ns.take 4))) = List.map pieceOf (List.take i (ns.take 4)) ++ [pieceOf k] := by
      rw [take_succ_of hk, List.map_append]; rfl
    clear F3 N3 F4
    have fin : ∀ (c : List Nat) (u : Tok) (s' : Shared) (y : Str) (n' : Nat) (h' : Heap) (R : Flow → Shared → Prop) (sg : Shared), y = ⟨c.toArray⟩ → c = pieceOf k → Fr s.heap s.heap.objs.size h' (mOf (lP a Hd Dr (some (.int k t)))) →
        News s.heap s.heap.objs.size h' ((Dr, W.listOf (vals.toArray.push (Value.str y u)) n') :: (Dl, W.listOf ws.toArray 0) :: (Hd, hidO tk1) :: own) → s'.heap = h' → GensGrow sg.gens s'.gens → s'.os = sg.os →
        TurnX s.heap s.heap.objs.size own (fun l news => ∃ nv vals n, l = lP a Hd Dr nv ∧ Texts vals (List.map pieceOf (List.take (i + 1) (ns.take 4))) ∧ vals.length ≤ i + 1 ∧ news = [(Dr, W.listOf vals.toArray n), (Dl, W.listOf ws.toArray 0), (Hd, hidO tk1)]) R sg .next s' := by
      rintro c u s' y n' h' R sg hy hc F' N' rfl hg' hos'
      subst hc
      rw [List.push_toArray] at N'
      exact ⟨_, [(Dr, W.listOf (vals ++ [Value.str y u]).toArray n'), (Dl, W.listOf ws.toArray 0), (Hd, hidO tk1)], F', N', sepAt hsep rfl, hg', hos', _, _, _, rfl, hnx ▸ htx.push hy, (by rw [List.length_append, List.length_singleton]; omega), rfl⟩
    have h6 : 0 ≤ (k.fdiv 5).fmod 6 ∧ (k.fdiv 5).fmod 6 < 6 := ⟨Int.fmod_nonneg_of_pos _ (by omega), Int.fmod_lt_of_pos _ (by omega)⟩
    k_steps
    · rename (_ : Int) = 4 => h4
      have hit : TextList s₁.heap Hd hiddenL := ⟨[_, _, _, _, _, _], isList_of (N5 (Hd, hidO tk1) (.tail _ (.tail _ (.head _)))).1, .cons (c := [34, 40, 34]) rfl (.cons (c := [34, 41, 34]) rfl (.cons (c := [92, 40]) rfl (.cons (c := [92, 41]) rfl (.cons (c := [92, 34]) rfl (.cons (c := [92, 92]) rfl .nil)))))⟩
      refine itemT (k := ((k.fdiv 5).fmod 6).toNat) hit (by show _ < 6; omega) (by decide) (by omega) fun t' => ?_
      k_steps
      exact fin (hiddenL.getD ((k.fdiv 5).fmod 6).toNat []) _ _ _ _ _ _ _ rfl (by simp only [pieceOf, if_pos h4]) (by assumption) (by assumption) rfl hg hos
    · rename (_ : Int) < 2 => h2
      rename (_ : Int) ≠ 4 => h4
      exact fin [40] _ _ _ _ _ _ _ rfl (by simp only [pieceOf, if_neg h4, if_pos h2]) (by assumption) (by assumption) rfl hg hos
    · rename ¬ (_ : Int) < 2 => h2
      rename (_ : Int) ≠ 4 => h4
      exact fin [41] _ _ _ _ _ _ _ rfl (by simp only [pieceOf, if_neg h4, if_neg h2]) (by assumption) (by assumption) rfl hg hos
  · rintro l₁ news₁ s₁ ⟨nv, vals, n, rfl, htx, hvl, rfl⟩ hg hos F5 N5
    dsimp only
    have hwl : ws.length ≤ 4 := by have := hI3.length; omega
    k_steps
    rename Fr _ _ _ _ => F6
    rename News _ _ _ _ => N6
    have e4 : List.take ws.length (ns.take 4) = ns.take 4 := List.take_of_length_le (by have := hI3.length; omega)
    rw [e4] at htx
    exact hQ _ _ ⟨F6.keep, hos, hg⟩ ⟨_, ⟨_, (N6 _ (.head _)).1, rfl, _, rfl⟩, ((Texts.cons (c := [40]) rfl (Texts.cons (c := [40]) rfl .nil)).append htx).append
      (.cons (c := [41]) rfl (.cons (c := [34, 41, 34]) rfl (.cons (c := [40]) rfl (.cons (c := [40]) rfl (.cons (c := [41]) rfl (.cons (c := [41]) rfl (.cons (c := [41]) rfl (.cons (c := [41]) rfl (.cons (c := [40]) rfl .nil)))))))))⟩
end
end Mine
end
section
open PySem PySem.W PySem.W.X PyProof.Rows
set_option Elab.async false
set_option maxRecDepth 100000
set_option maxHeartbeats 1000000
namespace Mine
open PySem

def ltI (x y : Int) : Bool := decide (x < y)
def rowsIn (rs : List (List Int)) (ns : List Int) : List (List Int) := ns.foldl (fun rs x => insR ltI (rs ++ [[]]) x) rs
def rowsOf (ns : List Int) : List (List Int) := (rowsIn [] ns).filter fun r => decide (r ≠ [])
abbrev lR (a R : Addr) (pv rv wv : Option Value) : List (Str × Option Value) := [("places", some (.ref a)), ("rows", some (.ref R)), ("place", pv), ("row", rv), ("where", wv)]
section
theorem reset_Rows02 : True := by
  w_top off
  trivial
local macro_rules | `(tactic| walk_at "storeName") => `(tactic| (k_here; k_dflt (refine' stL ?k1 ?k2 ?_; (case k1 => assumption); (case k2 => assumption); k_whole); intro h' F' N'; (try dsimp only)))
local macro_rules | `(tactic| walk_at "exec For") => `(tactic| (refine Halt.mk ?_))
local macro_rules | `(tactic| walk_at "call builtin:list.append") => `(tactic| (refine Halt.mk ?_))
local macro_rules | `(tactic| walk_at "subscriptTail") => `(tactic| (refine Halt.mk ?_))
local macro_rules | `(tactic| walk_at "setItem") => `(tactic| (refine Halt.mk ?_))
local macro_rules | `(tactic| walk_at "assign Tuple") => `(tactic| (refine Halt.mk ?_))

theorem rows_call {w : World} {p : Program} {loose : List Str} {mean : ExcName → Option Value} {mg mb : Str → Option Value} {A : Around} {s : Shared} {a : Addr} {ns : List Int}
    {Q E : Value → Shared → Prop} (X : (hd.heap_39 w.params).In s.heap) (T : Top p loose mean mg mb s.heap) (hh : A.handled = none) (hroom : A.depth + 2 < recursionLimit) (hu : A.units + 200 < cLine) (hl : IntList s.heap a ns) (hn : ns.length ≤ 100)
    (hQ : ∀ b s', Keep s s' → RowList s'.heap b (rowsOf ns) → Q (.ref b) s') :
    wpAny (model PySem.Challenge.rw_pg0117_02.row.prog w) A (call (.ref 72) [.ref a]) Q E s := by
  revert X
  k_fill
  intro X
  obtain ⟨vs, hl, hI⟩ := hl
  refine enter (binds := [("places", .ref a)]) (X _ _ (by k_is)) (codeRec_of X (by k_is)) T.nolimit (by omega) (BindsTo.of_eq rfl) (locs rfl) rfl rfl rfl (by decide) fun h₁ F N => ?_
  k_steps
  refine Halt.go (for_any ?_)
  k_steps
  rename_i R _ _ _ _ h3 F3 N3
  have F4 : Fr s.heap s.heap.objs.size h3 (mOf (lR a R none none none)) := frTo F3 (((mOf_none "where" _).trans ((mOf_none "row" _).trans (mOf_none "place" _)))).symm
  obtain ⟨oa, hoa, _⟩ := id hl
  refine iter_list (l := lR a R none none none) (fun i l news => ∃ pv rv wv as rs os n, l = lR a R pv rv wv ∧ rs = rowsIn [] (ns.take i) ∧ (R :: as).Nodup ∧ RowsAt as rs os ∧ as.length = i ∧ sizes rs ≤ i ∧ news = (R, W.listOf (as.map Value.ref).toArray n) :: os)
    hh F4 N3 (hl.at fun o e => F3.keep a o e) ⟨none, none, none, [], [], [], 0, rfl, rfl, by simp, .nil, rfl, Nat.le_refl _, rfl⟩ (.inl ⟨oa, hoa⟩) ?_ ?_ rfl rfl
  · rintro i v l₁ news₁ s₁ own hv ⟨pv, rv, wv, as, rs, os, n, rfl, rfl, hnd, hrs, hal, hsz, rfl⟩ hsep hg hos F5 N5
    have hi : i < ns.length := by have := hI.length; have := (List.getElem?_eq_some_iff.mp hv).1; omega
    obtain ⟨t, hx⟩ := hI.get i ns[i] (List.getElem?_eq_getElem hi)
    obtain rfl : v = .int ns[i] t := by rw [hv] at hx; exact Option.some.inj hx
    have hk : ns[i]? = some ns[i] := List.getElem?_eq_getElem hi
    generalize ns[i] = k at hk hx hv F5
    clear F3 N3 F4
    k_steps
    rename_i B h7 F7 N7 l6
    have hRB : R ≠ B := Nat.ne_of_lt (l6 _ (.head _))
    have hRos : ∀ p ∈ os, p.1 ≠ R := fun p hp e => by
      have h1 : p.1 ∈ as := by rw [← hrs.adr]; exact List.mem_map.mpr ⟨p, hp, rfl⟩
      rw [e] at h1; exact (List.nodup_cons.mp hnd).1 h1
    refine Halt.go (appendMid (l₁ := [(B, W.listOf #[] 0)]) (l₂ := os ++ own) F7 N7 (fun p hp => by rw [List.mem_singleton.mp hp]; exact hRB.symm) (fun p hp => ?_) ?_ fun h8 F8 N8 => ?_)
    · rcases List.mem_append.mp hp with hp | hp
      · exact hRos p hp
      · exact hsep p hp _ (.head _)
    · rw [List.size_toArray, List.length_map, sizeLine_eq]; omega
    have hBas : B ∉ as := fun hm => by
      rw [← hrs.adr] at hm
      obtain ⟨q, hq, e⟩ := List.mem_map.mp hm
      have := l6 q (List.mem_append_left _ (.tail _ hq))
      rw [e] at this; exact absurd this (Nat.lt_irrefl _)
    have hnd' : (R :: (as ++ [B])).Nodup := by
      rw [List.nodup_cons] at hnd ⊢
      refine ⟨fun hm => ?_, ?_⟩
      · rcases List.mem_append.mp hm with hm | hm
        · exact hnd.1 hm
        · exact hRB (List.mem_singleton.mp hm)
      · rw [List.nodup_append]
        exact ⟨hnd.2, by simp, fun x hx y hy e => by rw [List.mem_singleton.mp hy] at e; exact hBas (e ▸ hx)⟩
    have hown' : ∀ p ∈ own, p.1 ≠ B := fun p hp => Nat.ne_of_lt (l6 p (List.mem_append_right _ hp))
    have hrs' : RowsAt (as ++ [B]) (rowsIn [] (List.take i ns) ++ [[]]) (os ++ [(B, W.listOf #[] 0)]) := hrs.append (.cons (vs := []) .nil .nil)
    rw [List.push_toArray] at N8
    have hmap : List.map Value.ref as ++ [Value.ref B] = List.map Value.ref (as ++ [B]) := by simp
    rw [hmap] at N8
    have hin : rowsIn [] (List.take (i + 1) ns) = insR ltI (rowsIn [] (List.take i ns) ++ [[]]) k := by
      rw [take_succ_of hk]; simp only [rowsIn, List.foldl_append, List.foldl_cons, List.foldl_nil]
    have hsz1 : sizes (rowsIn [] (List.take (i + 1) ns)) ≤ i + 1 := by
      rw [hin]
      refine Nat.le_trans (insR_sizes _ _ _) ?_
      have : sizes (rowsIn [] (List.take i ns) ++ [[]]) = sizes (rowsIn [] (List.take i ns)) := by simp [sizes]
      omega
    have hsz2 : sizes (rowsIn [] (List.take i ns) ++ [[]]) ≤ i := by
      have : sizes (rowsIn [] (List.take i ns) ++ [[]]) = sizes (rowsIn [] (List.take i ns)) := by simp [sizes]
      omega
    have N9 : News s.heap s.heap.objs.size h8 ((R, W.listOf (List.map Value.ref (as ++ [B])).toArray (n + 1)) :: (os ++ [(B, W.listOf #[] 0)]) ++ own) := news_sub N8 fun q hq => mem_shuffle hq
    have hall : (as ++ [B]).length = i + 1 := by rw [List.length_append, List.length_singleton, hal]
    have hsepB : ∀ p ∈ own, ∀ b ∈ R :: (as ++ [B]), p.1 ≠ b := fun p hp b hb => by
      rcases List.mem_cons.mp hb with rfl | hb
      · exact hsep p hp _ (.head _)
      · rcases List.mem_append.mp hb with hb | hb
        · rw [← hrs.adr] at hb
          obtain ⟨q, hq, rfl⟩ := List.mem_map.mp hb
          exact hsep p hp q (.tail _ hq)
        · rw [List.mem_singleton.mp hb]; exact hown' p hp
    generalize rowsIn [] (List.take i ns) ++ [[]] = rs0 at hrs' hin hsz2
    generalize as ++ [B] = as' at *
    generalize os ++ [(B, W.listOf #[] 0)] = os' at *
    clear N8 N7 hrs hmap
    dsimp only
    k_steps
    refine Halt.go (for_any ?_)
    k_steps
    have after : ∀ (s₂ : Shared) (x : Int) (tx : Tok) (rv wv : Option Value) (os₂ : List (Addr × Obj)) (sg : Shared) (R' : Flow → Shared → Prop), RowsAt as' (insR ltI rs0 k) os₂ → Fr s.heap s.heap.objs.size s₂.heap (mOf (lR a R (some (.int x tx)) rv wv)) → News s.heap s.heap.objs.size s₂.heap ((R, W.listOf (List.map Value.ref as').toArray (n + 1)) :: os₂ ++ own) → GensGrow sg.gens s₂.gens → s₂.os = sg.os →
        TurnX s.heap s.heap.objs.size own (fun l news => ∃ pv rv wv as rs os n, l = lR a R pv rv wv ∧ rs = rowsIn [] (ns.take (i + 1)) ∧ (R :: as).Nodup ∧ RowsAt as rs os ∧ as.length = i + 1 ∧ sizes rs ≤ i + 1 ∧ news = (R, W.listOf (as.map Value.ref).toArray n) :: os) R' sg .next s₂ := by
      intro s₂ x tx rv wv os₂ sg R' h1 F' N' hg' hos'
      refine ⟨_, _, F', N', fun p hp q hq => ?_, hg', hos', _, _, _, as', _, os₂, n + 1, rfl, rfl, hnd', hin ▸ h1, hall, hsz1, rfl⟩
      rcases List.mem_cons.mp hq with rfl | hq
      · exact hsepB p hp R (.head _)
      · exact hsepB p hp q.1 (.tail _ (by rw [← h1.adr]; exact List.mem_map.mpr ⟨q, hq, rfl⟩))
    rename Fr _ _ _ _ => F10
    refine iter_list (l := lR a R (some (.int k t)) rv wv) (fun j l news => ∃ x tx rv wv rs₁ os₁, l = lR a R (some (.int x tx)) rv wv ∧ RowsAt as' rs₁ os₁ ∧ rs₁.take j ++ insR ltI (rs₁.drop j) x = insR ltI rs0 k ∧ sizes rs₁ ≤ i ∧ news = (R, W.listOf (List.map Value.ref as').toArray (n + 1)) :: os₁ ++ own)
      hh F10 N9 (isList_of (N9 _ (.head _)).1) ⟨k, t, rv, wv, rs0, os', rfl, hrs', rfl, hsz2, rfl⟩ (.inr ⟨W.listOf (List.map Value.ref as').toArray (n + 1), ?_⟩) ?_ ?_ rfl rfl
    · rintro j l₁ news₁ ⟨x, tx, rv, wv, rs₁, os₁, _, _, _, _, rfl⟩
      exact .head _
    · rintro j v l₁ news₁ s₂ own₂ hv ⟨x, tx, rv₁, wv₁, rs₁, os₁, rfl, hr₁, heq, hs₁, rfl⟩ hsep₂ hg₂ hos₂ F11 N11
      rw [List.getElem?_map] at hv
      obtain ⟨b, hb, rfl⟩ := Option.map_eq_some_iff.mp hv
      have hj : j < rs₁.length := by have := hr₁.length; have := (List.getElem?_eq_some_iff.mp hb).1; omega
      have hrj : rs₁[j]? = some rs₁[j] := List.getElem?_eq_getElem hj
      have hdj : rs₁.drop j = rs₁[j] :: rs₁.drop (j + 1) := List.drop_eq_getElem_cons hj
      have hlen : rs₁[j].length ≤ 1000 := by have := length_le_sizes (List.getElem_mem hj); omega
      generalize rs₁[j] = r at hrj hdj hlen
      rw [hdj] at heq
      obtain ⟨o₁, vr, nr, o₂, rfl, hir, ho1, ho2, hupd⟩ := hr₁.split hb hrj
      have hmem : (b, W.listOf vr.toArray nr) ∈ (R, W.listOf (List.map Value.ref as').toArray (n + 1)) :: (o₁ ++ (b, W.listOf vr.toArray nr) :: o₂) ++ own ++ own₂ := by simp
      k_steps
      have hl₂ : IntList s₂.heap b r := ⟨vr, isList_of (N11 _ hmem).1, hir⟩
      refine bisR_call (X.keeps F11.keep) (T.keeps F11.keep) hh (by show A.depth + 1 < recursionLimit; omega) (by show A.units + 3 + 100 < cLine; omega) hl₂ hlen fun u s₃ K₃ => ?_
      have F12 := K₃.fr F11
      have N12 := K₃.news N11
      have hl₃ : IntList s₃.heap b r := hl₂.keep K₃.heap
      k_steps
      rename Fr _ _ _ _ => F14
      rename News _ _ _ _ => N14
      have hl₄ := (⟨vr, isList_of (N14 _ hmem).1, hir⟩ : IntList _ b r)
      refine lenI hl₄ hlen ?_
      have hbas : b ∈ as' := List.mem_of_getElem? hb
      have hbR : R ≠ b := fun e => (List.nodup_cons.mp hnd').1 (e ▸ hbas)
      obtain ⟨nt1, nt2⟩ := notin_of_nodup (List.nodup_cons.mp hnd').2 hb
      have m1 : ∀ p ∈ (R, W.listOf (List.map Value.ref as').toArray (n + 1)) :: o₁, p.1 ≠ b := fun p hp => by
        rcases List.mem_cons.mp hp with rfl | hp
        · exact hbR
        · exact fun e => nt1 (by rw [← ho1, ← e]; exact List.mem_map.mpr ⟨p, hp, rfl⟩)
      have m2 : ∀ p ∈ o₂ ++ own ++ own₂, p.1 ≠ b := fun p hp => by
        rcases List.mem_append.mp hp with hp | hp
        · rcases List.mem_append.mp hp with hp | hp
          · exact fun e => nt2 (by rw [← ho2, ← e]; exact List.mem_map.mpr ⟨p, hp, rfl⟩)
          · exact hsepB p hp b (.tail _ hbas)
        · exact hsep₂ p hp (b, W.listOf vr.toArray nr) (by simp)
      have hlk : ∀ (vs' : List Value) (n' : Nat), (R, W.listOf (List.map Value.ref as').toArray (n + 1)) :: (o₁ ++ (b, W.listOf vs'.toArray n') :: o₂) ++ own ++ own₂ = ((R, W.listOf (List.map Value.ref as').toArray (n + 1)) :: o₁) ++ (b, W.listOf vs'.toArray n') :: (o₂ ++ own ++ own₂) := fun vs' n' => by simp
      have hvl : vr.toArray.size ≤ sizeLine := by rw [List.size_toArray, hir.length, sizeLine_eq]; omega
      rw [hlk] at N14
      k_steps
      · rename _ = _ => hw
        refine Halt.go (appendMid F14 N14 m1 m2 hvl fun h15 F15 N15 => ?_)
        rw [List.push_toArray, ← hlk] at N15
        k_steps
        have hw' : halved (fun i => ltI x (r.getD i 0)) r.length = r.length := by
          have : ((halved (fun i => decide (x < r.getD i 0)) r.length : Nat) : Int) = (r.length : Int) := hw
          exact Int.ofNat_inj.mp this
        rw [insR_full hw'] at heq
        have h16 := hupd (vr ++ [Value.int x tx]) (r ++ [x]) (nr + 1) (ints_snoc hir x tx)
        rw [heq] at h16
        dsimp only [TurnX]
        k_steps
        refine after _ x tx (some (.ref b)) (some (.int (halved (fun i => decide (x < r.getD i 0)) r.length) u)) _ _ _ h16 ?_ ?_ ?_ ?_
        · exact F15
        · exact news_sub N15 fun q hq => List.mem_append_left _ hq
        · exact hg.trans (hg₂.trans K₃.gens)
        · exact K₃.os.trans (hos₂.trans hos)
      · rename _ ≠ _ => hw
        have hw' : ¬ halved (fun i => ltI x (r.getD i 0)) r.length = r.length := fun e => hw (by exact congrArg Int.ofNat e)
        have hlt : halved (fun i => decide (x < r.getD i 0)) r.length < r.length := by
          have := (halve_le (fun i => decide (x < r.getD i 0)) r.length 0 r.length (Nat.zero_le _)).1
          exact Nat.lt_of_le_of_ne this hw'
        refine Halt.go (itemI (k := halved (fun i => decide (x < r.getD i 0)) r.length) (⟨vr, isList_of (N14 _ (List.mem_append_right _ (.head _))).1, hir⟩ : IntList _ b r) hlt hlen rfl fun t' => ?_)
        rw [insR_push hw'] at heq
        k_steps
        rename Fr _ _ _ _ => F15
        rename News _ _ _ _ => N15
        refine Halt.go (assignPair hh F15 N15 ⟨_, (N15 _ (.head _)).1, rfl, _, rfl⟩ rfl fun h16 F16 N16 _ => ?_)
        have N17 := news_sub N16 fun q hq => List.mem_cons_of_mem _ hq
        clear N16 N15 F15
        k_steps
        rename Fr _ _ _ _ => F18
        rename News _ _ _ _ => N18
        refine Halt.go (setMid F18 N18 m1 m2 rfl (by rw [List.size_toArray, hir.length]; exact hlt) (by rw [List.size_toArray, hir.length]; omega) fun h19 F19 N19 => ?_)
        k_steps
        rw [List.setIfInBounds_toArray, ← hlk] at N19
        have hjl : (rs₁.take j).length = j := by rw [List.length_take]; omega
        refine ⟨lR a R (some (.int _ t')) _ _, _, F19, N19, fun p hp q hq => ?_, ?_, ?_, _, t', _, _, _, _, rfl, hupd _ _ nr (ints_set hir _ x tx), ?_, ?_, rfl⟩
        · have hq' : q ∈ (R, W.listOf (List.map Value.ref as').toArray (n + 1)) :: (o₁ ++ (b, W.listOf vr.toArray nr) :: o₂) ++ own ∨ q.1 = b := by
            rcases List.mem_append.mp hq with hq | hq
            · rcases List.mem_cons.mp hq with rfl | hq
              · exact .inl (by simp)
              · rcases List.mem_append.mp hq with hq | hq
                · exact .inl (by simp [hq])
                · rcases List.mem_cons.mp hq with rfl | hq
                  · exact .inr rfl
                  · exact .inl (by simp [hq])
            · exact .inl (by simp [hq])
          rcases hq' with hq' | hq'
          · exact hsep₂ p hp q hq'
          · rw [hq']; exact hsep₂ p hp (b, W.listOf vr.toArray nr) (by simp)
        · exact hg₂.trans K₃.gens
        · exact K₃.os.trans hos₂
        · rw [take_mid hjl, drop_mid hjl, ← heq]; simp [ltI]
        · rw [sizes_mid hrj (by rw [List.length_set])]; exact hs₁
    · rintro l₁ news₁ s₂ ⟨x, tx, rv₁, wv₁, rs₁, os₁, rfl, hr₁, heq, hs₁, rfl⟩ hg₂ hos₂ F11 N11
      rw [List.length_map, hr₁.length, List.take_length, List.drop_length] at heq
      simp only [insR, List.append_nil] at heq
      subst heq
      dsimp only
      k_steps
      refine after _ x tx rv₁ wv₁ _ _ _ hr₁ ?_ ?_ ?_ ?_
      · exact F11
      · exact N11
      · exact hg.trans hg₂
      · exact hos₂.trans hos
  · rintro l₁ news₁ s₁ ⟨pv, rv, wv, as, rs, os, n, rfl, rfl, hnd, hrs, hal, hsz, rfl⟩ hg hos F5 N5
    dsimp only
    k_steps
    have hnd2 := (List.nodup_cons.mp hnd).2
    have hRas := (List.nodup_cons.mp hnd).1
    have hln : vs.length = ns.length := hI.length
    have hvn : List.take vs.length ns = ns := List.take_of_length_le (by omega)
    rw [hvn] at hrs hsz
    have hLR := isList_of (N5 _ (.head _)).1
    refine wpAny_pyIter_list hLR ?_
    have up : ∀ b o, s₁.heap.get? b = some o → (s₁.heap.push { cls := .type "list_iterator", data := .fields #[.ref R, .int 0 0] }).get? b = some o := fun b o e => Heap.get?_push_of_some _ e
    have hRlt : R < s₁.heap.objs.size := Heap.lt_size (N5 _ (.head _)).1
    have hrow := hrs.list N5 fun q hq => List.mem_cons_of_mem _ hq
    have halt : ∀ b ∈ as, b < s₁.heap.objs.size := fun b hb => by
      rw [← hrs.adr] at hb
      obtain ⟨q, hq, rfl⟩ := List.mem_map.mp hb
      exact Heap.lt_size (N5 q (.tail _ hq)).1
    refine ⟨holds as (rowsIn [] ns), fun v y => y = v, s₁.heap.objs.size, [s₁.heap.objs.size, R], [s₁.heap.objs.size], (as.map Value.ref).toArray.size, _, _, rfl, Walks.list (by exact hh) _ R (Nat.ne_of_lt hRlt) (as.map Value.ref).toArray, ?_,
      ⟨⟨_, Heap.get?_push_size _ rfl, rfl, rfl⟩, hLR.at fun o e => up R o e⟩, ?_, quiet_nonempty (by show A.units + 3 + 64 < cLine; omega) rfl rfl (by decide) hnd2 hrs.length (fun i b r hb hr => (hrow i b r hb hr).keep up) ?_, ?_⟩
    · rw [List.size_toArray, List.length_map, sizeLine_eq]; omega
    · intro b hb
      show b < (s₁.heap.push _).objs.size
      rw [Heap.size_push]
      rcases List.mem_cons.mp hb with rfl | hb
      · exact Nat.lt_succ_self _
      · rw [List.mem_singleton.mp hb]; exact Nat.lt_succ_of_lt hRlt
    · intro b hb hm
      have := halt b hb
      rw [List.mem_singleton.mp hm] at this
      exact absurd this (Nat.lt_irrefl _)
    · intro D h' tk ys us hD hlD _ hul hus hpr hkp
      have hvs : us = as.map Value.ref := by
        apply List.ext_getElem?
        intro j
        by_cases hj : j < us.length
        · have := hus j us[j] (List.getElem?_eq_getElem hj)
          rw [List.getElem?_toArray] at this
          rw [this, List.getElem?_eq_getElem hj]
        · rw [List.getElem?_eq_none (by omega), List.getElem?_eq_none (by rw [List.size_toArray] at hul; omega)]
      subst hvs
      have hys := paired_eq hpr
      obtain ⟨bs, e1, e2, e3⟩ := holds_filter hnd2 hrs.length
      rw [e1] at hys
      have hold : ∀ b o, s₁.heap.get? b = some o → h'.get? b = some o := fun b o e => hkp b o (fun hm => by
        have := Heap.lt_size e
        rw [List.mem_singleton.mp hm] at this; exact absurd this (Nat.lt_irrefl _)) (up b o e)
      have hys' : ys = (bs.map Value.ref).toArray := by rw [← hys]
      rw [hys'] at hlD
      refine hQ _ _ ⟨fun b o e => hold b o (F5.keep b o e), hos, hg⟩ ⟨bs, hlD, e2, fun i b r hb hr => ?_⟩
      obtain ⟨j, h1, h2⟩ := e3 i b r hb hr
      exact (hrow j b r h1 h2).keep hold
end
end Mine
end
section
open PySem PySem.W PySem.W.X PyProof.Rows
set_option Elab.async false
set_option maxRecDepth 100000
set_option maxHeartbeats 1000000
namespace Mine
open PySem

def dueOpen (x : Int) (due : List (List Int)) : List (List Int) := if x = (due.length : Int) then due ++ [[]] else due
def duePut (x : Int) (i : Nat) (due : List (List Int)) : List (List Int) := due.set x.toNat (due.getD x.toNat [] ++ [(i : Int)])
def dueWait (x : Int) (w : List Int) : List Int := if w = [] then [] else w.dropLast ++ [if x + 1 > w.getLastD 0 then x + 1 else w.getLastD 0]
def dueStep (due : List (List Int)) (wz : List Int) (i : Nat) (piece : List Nat) : List (List Int) × List Int :=
  if piece = [40] then (due, wz ++ [0])
  else if piece = [41] ∧ wz ≠ [] then (duePut (wz.getLastD 0) i (dueOpen (wz.getLastD 0) due), dueWait (wz.getLastD 0) wz.dropLast)
  else (due, wz)
def dueRun : Nat → List (List Nat) → List (List Int) → List Int → List (List Int)
  | _, [], due, _ => due
  | i, p :: r, due, wz => dueRun (i + 1) r (dueStep due wz i p).1 (dueStep due wz i p).2
def dueOf (ps : List (List Nat)) : List (List Int) := dueRun 0 ps [] []
abbrev lD (a D W : Addr) (pv cv iv : Option Value) : List (Str × Option Value) := [("pieces", some (.ref a)), ("waiting", some (.ref W)), ("due", some (.ref D)), ("place", pv), ("piece", cv), ("inside", iv)]
section
theorem reset_Due02 : True := by
  w_top off
  trivial
local macro_rules | `(tactic| walk_at "storeName") => `(tactic| (k_here; k_dflt (refine' stL ?k1 ?k2 ?_; (case k1 => assumption); (case k2 => assumption); k_whole); intro h' F' N'; (try dsimp only)))
local macro_rules | `(tactic| walk_at "exec For") => `(tactic| (refine Halt.mk ?_))
local macro_rules | `(tactic| walk_at "call builtin:list.append") => `(tactic| (refine Halt.mk ?_))
local macro_rules | `(tactic| walk_at "call builtin:list.pop") => `(tactic| (refine Halt.mk ?_))
local macro_rules | `(tactic| walk_at "assign Tuple") => `(tactic| (refine Halt.mk ?_))
local macro_rules | `(tactic| walk_at "call builtin:max") => `(tactic| (refine Halt.mk ?_))
local macro_rules | `(tactic| walk_at "subscriptTail") => `(tactic| (refine Halt.mk ?_))
local macro_rules | `(tactic| walk_at "call type:enumerate") => `(tactic| (refine Halt.mk ?_))
local macro_rules | `(tactic| walk_at "getMethod ref") => `(tactic| (refine getMethod_append_N (by assumption) (by assumption) ?_ rfl rfl))
local macro_rules | `(tactic| walk_at "exec If") => `(tactic| ((with_reducible show wpAny _ _ (exec (Stmt.If (Expr.Compare (Expr.Name (Str.ofString "inside") _) _ _ _) _ _ _) _) _ _ _); refine Halt.mk ?_))
local macro_rules | `(tactic| walk_at "compareOp NotEq ref ref") => `(tactic| (refine Halt.mk ?_))

theorem due_call {w : World} {p : Program} {loose : List Str} {mean : ExcName → Option Value} {mg mb : Str → Option Value} {A : Around} {s : Shared} {a : Addr} {ps : List (List Nat)}
    {Q E : Value → Shared → Prop} (X : (hd.heap_39 w.params).In s.heap) (T : Top p loose mean mg mb s.heap) (hh : A.handled = none) (hroom : A.depth + 2 < recursionLimit) (hu : A.units + 200 < cLine) (hl : TextList s.heap a ps) (hn : ps.length ≤ 100)
    (hQ : ∀ b s', Keep s s' → RowList s'.heap b (dueOf ps) → Q (.ref b) s') :
    wpAny (model PySem.Challenge.rw_pg0117_02.row.prog w) A (call (.ref 79) [.ref a]) Q E s := by
  revert X
  k_fill
  intro X
  obtain ⟨vs, hl, hI⟩ := hl
  obtain ⟨oa, hoa, _⟩ := id hl
  refine enter (binds := [("pieces", .ref a)]) (X _ _ (by k_is)) (codeRec_of X (by k_is)) T.nolimit (by omega) (BindsTo.of_eq rfl) (locs rfl) rfl rfl rfl (by decide) fun h₁ F N => ?_
  k_steps
  rename_i D _ _ Wt _ hDW Tp _ F1 N1 l1
  refine unpackItemsN_ F1 N1 (N1.isTup (.head _)) hh rfl fun h2 F2 N2 => ?_
  k_steps
  refine Halt.go (for_any ?_)
  k_steps
  rename Fr _ _ _ _ => F3
  rename News _ _ _ _ => N3
  have F4 : Fr s.heap s.heap.objs.size _ (mOf (lD a D Wt none none none)) := frTo F3 (((mOf_none "inside" _).trans ((mOf_none "piece" _).trans (mOf_none "place" _)))).symm
  have hWD : Wt ≠ D := Nat.ne_of_gt hDW
  refine Halt.go (enum_list (l := lD a D Wt none none none) (news := [(D, W.listOf #[] 0), (Wt, W.listOf #[] 0)]) (fun i l news => ∃ pv cv iv as due os wz wv n n', l = lD a D Wt pv cv iv ∧ dueRun i (ps.drop i) due wz = dueOf ps ∧ (D :: Wt :: as).Nodup ∧ RowsAt as due os ∧ IntsAre wv wz ∧ (∀ v ∈ wz, 0 ≤ v ∧ v ≤ (due.length : Int)) ∧ due.length ≤ i ∧ sizes due ≤ i ∧ wz.length ≤ i ∧
      news = (D, W.listOf (as.map Value.ref).toArray n) :: (Wt, W.listOf wv.toArray n') :: os)
    rfl hh F4 (news_sub N3 fun q hq => ?_) (hl.at fun o e => F3.keep a o e) ⟨none, none, none, [], [], [], [], [], 0, 0, rfl, rfl, by simp [Ne.symm hWD], .nil, .nil, (fun _ h => nomatch h), Nat.le_refl _, Nat.le_refl _, Nat.le_refl _, rfl⟩ (.inl ⟨oa, hoa⟩) ?_ ?_)
  · rcases List.mem_cons.mp hq with rfl | hq
    · exact .tail _ (.tail _ (.head _))
    · rw [List.mem_singleton.mp hq]; exact .tail _ (.head _)
  · rintro i v T' t l₁ news₁ s₁ own hv hT' ⟨pv, cv, iv, as, due, os, wz, wv, n, n', rfl, hrun, hnd, hrs, hwi, hwb, hdl, hds, hwl, rfl⟩ hsep hg hos F5 N5
    have hi : i < ps.length := by have := hI.length; have := (List.getElem?_eq_some_iff.mp hv).1; omega
    obtain ⟨u, hx⟩ := hI.get hi
    obtain rfl : v = .str ⟨(ps.getD i []).toArray⟩ u := by rw [hv] at hx; exact Option.some.inj hx
    have hdr : ps.drop i = ps.getD i [] :: ps.drop (i + 1) := by rw [List.drop_eq_getElem_cons hi]; simp [List.getD, hi]
    rw [hdr, dueRun] at hrun
    generalize ps.getD i [] = pc at hv hT' hrun
    refine assignLL hh F5 N5 hT' (fun h6 F6 N6 => ?_) rfl rfl rfl rfl
    have hi1 := strEq1 pc 40 (Str.ofString "(") (by decide)
    have hi2 := strEq1 pc 41 (Str.ofString ")") (by decide)
    clear F3 N3 F4 N5 F5
    have hDas : ∀ b ∈ as, b ≠ D ∧ b ≠ Wt := fun b hb => ⟨fun e => (List.nodup_cons.mp hnd).1 (e ▸ .tail _ hb), fun e => (List.nodup_cons.mp (List.nodup_cons.mp hnd).2).1 (e ▸ hb)⟩
    have hosD : ∀ p ∈ os, p.1 ≠ D ∧ p.1 ≠ Wt := fun p hp => hDas p.1 (by rw [← hrs.adr]; exact List.mem_map.mpr ⟨p, hp, rfl⟩)
    have hownD : ∀ p ∈ own, p.1 ≠ D ∧ p.1 ≠ Wt := fun p hp => ⟨hsep p hp _ (.head _), hsep p hp _ (.tail _ (.head _))⟩
    have hownA : ∀ p ∈ own, ∀ b ∈ as, p.1 ≠ b := fun p hp b hb => by
      rw [← hrs.adr] at hb
      obtain ⟨q, hq, rfl⟩ := List.mem_map.mp hb
      exact hsep p hp q (.tail _ (.tail _ hq))
    have hwvl : wv.length = wz.length := hwi.length
    have fin : ∀ (s₂ : Shared) (pv' cv' iv' : Option Value) (as₂ : List Addr) (due₂ : List (List Int)) (os₂ : List (Addr × Obj)) (wz₂ : List Int) (sg : Shared) (R' : Flow → Shared → Prop),
        (dueStep due wz i pc) = (due₂, wz₂) → (D :: Wt :: as₂).Nodup → RowsAt as₂ due₂ os₂ → (∀ v ∈ wz₂, 0 ≤ v ∧ v ≤ (due₂.length : Int)) → due₂.length ≤ i + 1 → sizes due₂ ≤ i + 1 → wz₂.length ≤ i + 1 → (∀ p ∈ own, ∀ b ∈ as₂, p.1 ≠ b) →
        Fr s.heap s.heap.objs.size s₂.heap (mOf (lD a D Wt pv' cv' iv')) → (∃ wv₂ n₂ n₂', News s.heap s.heap.objs.size s₂.heap ((D, W.listOf (as₂.map Value.ref).toArray n₂) :: (Wt, W.listOf wv₂.toArray n₂') :: os₂ ++ own) ∧ IntsAre wv₂ wz₂) → GensGrow sg.gens s₂.gens → s₂.os = sg.os →
        TurnX s.heap s.heap.objs.size own (fun l news => ∃ pv cv iv as due os wz wv n n', l = lD a D Wt pv cv iv ∧ dueRun (i + 1) (ps.drop (i + 1)) due wz = dueOf ps ∧ (D :: Wt :: as).Nodup ∧ RowsAt as due os ∧ IntsAre wv wz ∧ (∀ v ∈ wz, 0 ≤ v ∧ v ≤ (due.length : Int)) ∧ due.length ≤ i + 1 ∧ sizes due ≤ i + 1 ∧ wz.length ≤ i + 1 ∧
          news = (D, W.listOf (as.map Value.ref).toArray n) :: (Wt, W.listOf wv.toArray n') :: os) R' sg .next s₂ := by
      rintro s₂ pv' cv' iv' as₂ due₂ os₂ wz₂ sg R' he hnd₂ hrs₂ hwb₂ hdl₂ hds₂ hwl₂ ho F' ⟨wv₂, n₂, n₂', N', hwi₂⟩ hg' hos'
      rw [he] at hrun
      refine ⟨_, _, F', N', fun p hp q hq => ?_, hg', hos', _, _, _, as₂, due₂, os₂, wz₂, wv₂, n₂, n₂', rfl, hrun, hnd₂, hrs₂, hwi₂, hwb₂, hdl₂, hds₂, hwl₂, rfl⟩
      rcases List.mem_cons.mp hq with rfl | hq
      · exact (hownD p hp).1
      · rcases List.mem_cons.mp hq with rfl | hq
        · exact (hownD p hp).2
        · exact ho p hp q.1 (by rw [← hrs₂.adr]; exact List.mem_map.mpr ⟨q, hq, rfl⟩)
    k_steps
    · rename (_ == _) = true => h1
      have hc := of_decide_eq_true (hi1.symm.trans h1)
      refine Halt.go (appendMid (l₁ := [(D, W.listOf (List.map Value.ref as).toArray n)]) (l₂ := os ++ own) F6 N6 (fun p hp => by rw [List.mem_singleton.mp hp]; exact hWD.symm) (fun p hp => ?_) (by rw [List.size_toArray, sizeLine_eq]; omega) fun h7 F7 N7 => ?_)
      · rcases List.mem_append.mp hp with hp | hp
        · exact (hosD p hp).2
        · exact (hownD p hp).2
      · rw [List.push_toArray] at N7
        k_steps
        refine fin _ (some (.int i t)) (some (.str ⟨pc.toArray⟩ u)) iv as due os (wz ++ [0]) _ _ (by simp only [dueStep, if_pos hc]) hnd hrs ?_ (by omega) (by omega) (by rw [List.length_append, List.length_singleton]; omega) hownA ?_ ?_ ?_ ?_
        · intro v hv
          rcases List.mem_append.mp hv with hv | hv
          · exact hwb v hv
          · rw [List.mem_singleton.mp hv]; omega
        · exact F7
        · exact ⟨_, _, _, N7, ints_snoc hwi 0 _⟩
        · exact hg
        · exact hos
    · rename (_ == Str.ofString "(") = false => h1
      rename (_ == Str.ofString ")") = true => h2
      have hc1 := of_decide_eq_false (hi1.symm.trans h1)
      have hc2 := of_decide_eq_true (hi2.symm.trans h2)
      rename_i B h7 F7 N7 l6
      refine Halt.go (ne_intsK (isList_of (N7 _ (.tail _ (.tail _ (.head _)))).1) hwi (us := []) (isList_of (N7 _ (.head _)).1) .nil (by show A.units + 3 + 64 < cLine; omega) ?_)
      have N8 := news_sub N7 fun q hq => List.mem_cons_of_mem _ hq
      clear N7
      by_cases hwe : wz = []
      · subst hwe
        rw [show (!decide (([] : List Int) = [])) = false from by decide]
        k_steps
        refine fin _ (some (.int i t)) (some (.str ⟨pc.toArray⟩ u)) iv as due os [] _ _ (by simp only [dueStep, if_neg hc1]; rw [if_neg (fun h => h.2 rfl)]) hnd hrs hwb (by omega) (by omega) (by omega) hownA ?_ ?_ ?_ ?_
        · exact F7
        · exact ⟨_, _, _, N8, hwi⟩
        · exact hg
        · exact hos
      · rw [show (!decide (wz = [])) = true from by simp [hwe]]
        have hwp : 0 < wz.length := List.length_pos_iff.mpr hwe
        k_steps
        refine Halt.go (kpa_pop F7 N8 (updMid (l₁ := [(D, W.listOf (List.map Value.ref as).toArray n)]) (l₂ := os ++ own) (fun p hp => by rw [List.mem_singleton.mp hp]; exact hWD.symm) (fun p hp => ?_)) hwi (by omega) (by rw [sizeLine_eq]; omega) fun h9 tx F9 N9 hw9 => ?_)
        · rcases List.mem_append.mp hp with hp | hp
          · exact (hosD p hp).2
          · exact (hownD p hp).2
        · have hxb : 0 ≤ wz.getLastD 0 ∧ wz.getLastD 0 ≤ (due.length : Int) := hwb _ (by rw [List.getLastD_eq_getLast?, List.getLast?_eq_getLast hwe]; exact List.getLast_mem hwe)
          have hstep : dueStep due wz i pc = (duePut (wz.getLastD 0) i (dueOpen (wz.getLastD 0) due), dueWait (wz.getLastD 0) wz.dropLast) := by simp only [dueStep, if_neg hc1]; rw [if_pos ⟨hc2, hwe⟩]
          generalize wz.getLastD 0 = x at hxb hstep ⊢
          k_steps
          rename Fr _ _ _ _ => F10
          rename News _ _ _ _ => N10
          have hal : as.length = due.length := hrs.length
          refine Halt.go (wpAny_mono (Q := fun f s' => Halt (f = .next ∧ ∃ as₂ os₂ n₂, (D :: Wt :: as₂).Nodup ∧ RowsAt as₂ (dueOpen x due) os₂ ∧ (∀ p ∈ own, ∀ b ∈ as₂, p.1 ≠ b) ∧ Fr s.heap s.heap.objs.size s'.heap (mOf (lD a D Wt (some (.int i t)) (some (.str ⟨pc.toArray⟩ u)) (some (.int x tx)))) ∧
            News s.heap s.heap.objs.size s'.heap ((D, W.listOf (as₂.map Value.ref).toArray n₂) :: (Wt, W.listOf wv.dropLast.toArray (n' + 1)) :: os₂ ++ own) ∧ s'.gens = s₁.gens ∧ s'.os = s₁.os)) (wpAny_If ?_) (fun f s' hm => ?_) (fun _ _ h => h))
          · k_steps
            refine lenL (vs := List.map Value.ref as) (isList_of (N10 _ (.head _)).1) (by rw [List.length_map]; omega) ?_
            k_steps
            · rename_i B' h12 F12 N12 l7
              rename _ = _ => hxe
              have hxe' : x = (due.length : Int) := by rw [← hal]; simpa using hxe
              have m1 : ∀ p ∈ [(B', W.listOf #[] 0)], p.1 ≠ D := fun p hp => by rw [List.mem_singleton.mp hp]; exact Nat.ne_of_gt (l7 _ (.head _))
              have m2 : ∀ p ∈ (Wt, W.listOf wv.dropLast.toArray (n' + 1)) :: (os ++ own), p.1 ≠ D := fun p hp => by
                rcases List.mem_cons.mp hp with rfl | hp
                · exact hWD
                · rcases List.mem_append.mp hp with hp | hp
                  · exact (hosD p hp).1
                  · exact (hownD p hp).1
              refine Halt.go (appendMid F12 N12 m1 m2 (by rw [List.size_toArray, List.length_map, sizeLine_eq]; omega) fun h13 F13 N13 => ?_)
              have hmap : List.map Value.ref as ++ [Value.ref B'] = List.map Value.ref (as ++ [B']) := by simp
              rw [List.push_toArray, hmap] at N13
              k_steps
              refine Halt.mk ⟨rfl, as ++ [B'], os ++ [(B', W.listOf #[] 0)], n + 1, ?_, ?_, ?_, F13, news_sub N13 fun q hq => ?_, rfl, rfl⟩
              · have hBo : B' ∉ D :: Wt :: as := fun hm => by
                  rcases List.mem_cons.mp hm with e | hm
                  · exact absurd (l7 _ (.head _)) (by rw [e]; exact Nat.lt_irrefl _)
                  · rcases List.mem_cons.mp hm with e | hm
                    · exact absurd (l7 _ (.tail _ (.head _))) (by rw [e]; exact Nat.lt_irrefl _)
                    · rw [← hrs.adr] at hm
                      obtain ⟨q, hq, e⟩ := List.mem_map.mp hm
                      exact absurd (l7 q (.tail _ (.tail _ (List.mem_append_left _ hq)))) (by rw [e]; exact Nat.lt_irrefl _)
                have : D :: Wt :: (as ++ [B']) = (D :: Wt :: as) ++ [B'] := rfl
                rw [this, List.nodup_append]
                exact ⟨hnd, by simp, fun x hx y hy e => by rw [List.mem_singleton.mp hy] at e; exact hBo (e ▸ hx)⟩
              · rw [dueOpen, if_pos hxe']
                exact hrs.append (.cons (vs := []) .nil .nil)
              · intro p hp b hb
                rcases List.mem_append.mp hb with hb | hb
                · exact hownA p hp b hb
                · rw [List.mem_singleton.mp hb]
                  exact Nat.ne_of_lt (l7 p (.tail _ (.tail _ (List.mem_append_right _ hp))))
              · simp only [List.cons_append, List.nil_append, List.mem_cons, List.mem_append, List.not_mem_nil, or_false] at hq ⊢
                rcases hq with h | h | (h | h) | h
                · exact .inr (.inl h)
                · exact .inr (.inr (.inl h))
                · exact .inr (.inr (.inr (.inl h)))
                · exact .inl h
                · exact .inr (.inr (.inr (.inr h)))
            · rename _ ≠ _ => hxe
              have hxe' : ¬ x = (due.length : Int) := by rw [← hal]; simpa using hxe
              refine Halt.mk ⟨rfl, as, os, n, hnd, ?_, hownA, F10, news_sub N10 fun q hq => ?_, rfl, rfl⟩
              · rw [dueOpen, if_neg hxe']; exact hrs
              · simpa using hq
          · obtain ⟨rfl, as₂, os₂, n₂, hnd₂, hrs₂, hown₂, F11, N11, hg₂, hos₂⟩ := hm
            clear F10 N10
            dsimp only
            k_steps
            have hx2 : x.toNat < (dueOpen x due).length ∧ (dueOpen x due).length ≤ i + 1 ∧ sizes (dueOpen x due) ≤ i := by
              simp only [dueOpen]
              split
              · simp only [List.length_append, List.length_singleton, sizes, List.map_append, List.map_cons, List.map_nil, List.sum_append, List.sum_cons, List.sum_nil, List.length_nil] at *; omega
              · omega
            have hal₂ := hrs₂.length
            have hb : as₂[x.toNat]? = some as₂[x.toNat] := List.getElem?_eq_getElem (by omega)
            have hr : (dueOpen x due)[x.toNat]? = some (dueOpen x due)[x.toNat] := List.getElem?_eq_getElem hx2.1
            have hput : duePut x i (dueOpen x due) = (dueOpen x due).take x.toNat ++ ((dueOpen x due)[x.toNat] ++ [(i : Int)]) :: (dueOpen x due).drop (x.toNat + 1) := by
              simp only [duePut]
              rw [List.set_eq_take_append_cons_drop, if_pos hx2.1]
              simp [List.getD, hx2.1]
            have hrl : (dueOpen x due)[x.toNat].length ≤ i := Nat.le_trans (length_le_sizes (List.getElem_mem hx2.1)) hx2.2.2
            have hlp : (duePut x i (dueOpen x due)).length = (dueOpen x due).length := by simp [duePut]
            have hsp : sizes (duePut x i (dueOpen x due)) ≤ i + 1 := by
              rw [hput, sizes_put hr]; omega
            generalize as₂[x.toNat] = b at hb
            generalize (dueOpen x due)[x.toNat] = r at hr hput hrl
            obtain ⟨o₁, vr, nr, o₂, rfl, hir, ho1, ho2, hupd⟩ := hrs₂.split hb hr
            refine Halt.go (itemL (vs := List.map Value.ref as₂) (isList_of (N11 _ (.head _)).1) hxb.1 (by omega) (v := .ref b) (by rw [List.getElem?_map, hb]; rfl) ?_)
            have hmb : (b, W.listOf vr.toArray nr) ∈ (D, W.listOf (List.map Value.ref as₂).toArray n₂) :: (Wt, W.listOf wv.dropLast.toArray (n' + 1)) :: (o₁ ++ (b, W.listOf vr.toArray nr) :: o₂) ++ own := by simp
            k_steps
            have hlk : ∀ (vs' : List Value) (n'' : Nat) (ww : List Value) (nw : Nat), (D, W.listOf (List.map Value.ref as₂).toArray n₂) :: (Wt, W.listOf ww.toArray nw) :: (o₁ ++ (b, W.listOf vs'.toArray n'') :: o₂) ++ own = ((D, W.listOf (List.map Value.ref as₂).toArray n₂) :: (Wt, W.listOf ww.toArray nw) :: o₁) ++ (b, W.listOf vs'.toArray n'') :: (o₂ ++ own) := fun _ _ _ _ => by simp
            have hbas : b ∈ as₂ := List.mem_of_getElem? hb
            have hnA := List.nodup_cons.mp hnd₂
            have hnB := List.nodup_cons.mp hnA.2
            obtain ⟨nt1, nt2⟩ := notin_of_nodup hnB.2 hb
            have hDb : D ≠ b := fun e => hnA.1 (e ▸ .tail _ hbas)
            have hWb : Wt ≠ b := fun e => hnB.1 (e ▸ hbas)
            have ho1b : ∀ p ∈ o₁, p.1 ≠ b := fun p hp e => nt1 (by rw [← ho1, ← e]; exact List.mem_map.mpr ⟨p, hp, rfl⟩)
            have ho2b : ∀ p ∈ o₂, p.1 ≠ b := fun p hp e => nt2 (by rw [← ho2, ← e]; exact List.mem_map.mpr ⟨p, hp, rfl⟩)
            have m1 : ∀ p ∈ (D, W.listOf (List.map Value.ref as₂).toArray n₂) :: (Wt, W.listOf wv.dropLast.toArray (n' + 1)) :: o₁, p.1 ≠ b := fun p hp => by
              rcases List.mem_cons.mp hp with rfl | hp
              · exact hDb
              · rcases List.mem_cons.mp hp with rfl | hp
                · exact hWb
                · exact ho1b p hp
            have m2 : ∀ p ∈ o₂ ++ own, p.1 ≠ b := fun p hp => by
              rcases List.mem_append.mp hp with hp | hp
              · exact ho2b p hp
              · exact hown₂ p hp b hbas
            rw [hlk] at N11
            refine Halt.go (appendMid F11 N11 m1 m2 (by rw [List.size_toArray, hir.length, sizeLine_eq]; omega) fun h14 F14 N14 => ?_)
            rw [List.push_toArray, ← hlk] at N14
            have hR := hupd (vr ++ [Value.int i t]) (r ++ [(i : Int)]) (nr + 1) (ints_snoc hir _ t)
            rw [← hput] at hR
            clear hmb N11 F11
            k_steps
            rename_i B2 h15 F15 N15 l15
            refine Halt.go (ne_intsK (isList_of (N15 _ (.tail _ (.tail _ (.head _)))).1) hw9 (us := []) (isList_of (N15 _ (.head _)).1) .nil (by show A.units + 3 + 64 < cLine; omega) ?_)
            have N16 := news_sub N15 fun q hq => List.mem_cons_of_mem _ hq
            clear N15
            have hwd : wz.dropLast.length + 1 = wz.length := by rw [List.length_dropLast]; omega
            have hwbd : ∀ v ∈ wz.dropLast, 0 ≤ v ∧ v ≤ ((duePut x i (dueOpen x due)).length : Int) := fun v hv => by
              have h1 := hwb v (List.dropLast_subset _ hv)
              have h2 : due.length ≤ (dueOpen x due).length := by simp only [dueOpen]; split <;> simp
              rw [hlp]; omega
            by_cases hwe2 : wz.dropLast = []
            · have hww : dueWait x wz.dropLast = [] := by rw [dueWait, if_pos hwe2]
              rw [hww] at hstep
              rw [show (!decide (wz.dropLast = [])) = false from by simp [hwe2]]
              rw [hwe2] at hw9
              k_steps
              refine fin _ (some (.int i t)) (some (.str ⟨pc.toArray⟩ u)) (some (.int x tx)) as₂ _ _ [] _ _ hstep hnd₂ hR (fun _ h => nomatch h) (by omega) hsp (Nat.zero_le _) hown₂ ?_ ?_ ?_ ?_
              · exact F15
              · exact ⟨_, _, _, N16, hw9⟩
              · show GensGrow _ s'.gens; rw [hg₂]; exact hg
              · exact hos₂.trans hos
            · rw [show (!decide (wz.dropLast = [])) = true from by simp [hwe2]]
              have hww : dueWait x wz.dropLast = wz.dropLast.dropLast ++ [if x + 1 > wz.dropLast.getLastD 0 then x + 1 else wz.dropLast.getLastD 0] := by rw [dueWait, if_neg hwe2]
              rw [hww] at hstep
              have hwp2 : 0 < wz.dropLast.length := List.length_pos_iff.mpr hwe2
              have hyb : 0 ≤ wz.dropLast.getLastD 0 ∧ wz.dropLast.getLastD 0 ≤ ((duePut x i (dueOpen x due)).length : Int) := hwbd _ (by rw [List.getLastD_eq_getLast?, List.getLast?_eq_some_getLast hwe2]; exact List.getLast_mem hwe2)
              generalize wz.dropLast = wd at hw9 hwd hwbd hwe2 hstep hwp2 hyb
              generalize wv.dropLast = vd at hw9 N16
              have mW1 : ∀ p ∈ [(D, W.listOf (List.map Value.ref as₂).toArray n₂)], p.1 ≠ Wt := fun p hp => by rw [List.mem_singleton.mp hp]; exact hWD.symm
              have hadr : as₂ = o₁.map (·.1) ++ b :: o₂.map (·.1) := by have := hR.adr; simpa using this.symm
              have mW2 : ∀ p ∈ (o₁ ++ (b, W.listOf (vr ++ [Value.int i t]).toArray (nr + 1)) :: o₂) ++ own, p.1 ≠ Wt := fun p hp => by
                rcases List.mem_append.mp hp with hp | hp
                · refine fun e => hnB.1 ?_
                  rw [← e, hadr]
                  rcases List.mem_append.mp hp with hp | hp
                  · exact List.mem_append_left _ (List.mem_map.mpr ⟨p, hp, rfl⟩)
                  · rcases List.mem_cons.mp hp with rfl | hp
                    · exact List.mem_append_right _ (.head _)
                    · exact List.mem_append_right _ (.tail _ (List.mem_map.mpr ⟨p, hp, rfl⟩))
                · exact (hownD p hp).2
              k_steps
              refine Halt.go (kpa_pop F15 N16 (updMid (l₁ := [(D, W.listOf (List.map Value.ref as₂).toArray n₂)]) mW1 mW2) hw9 (by have := hw9.length; omega) (by have := hw9.length; rw [sizeLine_eq]; omega) fun h17 ty F17 N17 hw17 => ?_)
              generalize wd.getLastD 0 = y at hyb hstep ⊢
              k_steps
              refine Halt.go (max_two_N hh F17 N17 fun h18 tk18 F18 N18 => ?_)
              k_steps
              refine Halt.go (appendMid F18 N18 mW1 mW2 (by have := hw17.length; have := hw9.length; rw [List.length_dropLast, List.length_dropLast] at *; rw [List.size_toArray, sizeLine_eq]; rw [List.length_dropLast]; omega) fun h19 F19 N19 => ?_)
              rw [List.push_toArray] at N19
              k_steps
              refine fin _ (some (.int i t)) (some (.str ⟨pc.toArray⟩ u)) (some (.int x tx)) as₂ _ _ _ _ _ hstep hnd₂ hR ?_ (by omega) hsp ?_ hown₂ ?_ ?_ ?_ ?_
              · intro v hv
                rcases List.mem_append.mp hv with hv | hv
                · exact hwbd v (List.dropLast_subset _ hv)
                · rw [List.mem_singleton.mp hv, hlp]
                  have h3 : x.toNat < (dueOpen x due).length := hx2.1
                  rw [hlp] at hyb
                  split
                  · omega
                  · exact hyb
              · rw [List.length_append, List.length_singleton, List.length_dropLast]; omega
              · exact F19
              · exact ⟨_, _, _, N19, ints_snoc hw17 _ _⟩
              · show GensGrow _ s'.gens; rw [hg₂]; exact hg
              · exact hos₂.trans hos
    · rename (_ == Str.ofString "(") = false => h1
      rename (_ == Str.ofString ")") = false => h2
      have hc1 := of_decide_eq_false (hi1.symm.trans h1)
      have hc2 := of_decide_eq_false (hi2.symm.trans h2)
      refine fin _ (some (.int i t)) (some (.str ⟨pc.toArray⟩ u)) iv as due os wz _ _ (by simp only [dueStep, if_neg hc1]; rw [if_neg (fun h => hc2 h.1)]) hnd hrs hwb (by omega) (by omega) (by omega) hownA ?_ ?_ ?_ ?_
      · exact F6
      · exact ⟨_, _, _, N6, hwi⟩
      · exact hg
      · exact hos
  · rintro l₁ news₁ s₁ ⟨pv, cv, iv, as, due, os, wz, wv, n, n', rfl, hrun, hnd, hrs, hwi, hwb, hdl, hds, hwl, rfl⟩ hg hos F5 N5
    have hvl : vs.length = ps.length := hI.length
    rw [hvl, List.drop_length, dueRun] at hrun
    subst hrun
    dsimp only
    k_steps
    refine hQ D _ ⟨F5.keep, hos, hg⟩ ⟨as, isList_of (N5 _ (.head _)).1, hrs.length, hrs.list N5 fun q hq => .tail _ (.tail _ hq)⟩
end
end Mine
end
section
open PySem PySem.W PySem.W.X PyProof.Rows
set_option Elab.async false
set_option maxRecDepth 100000
set_option maxHeartbeats 1000000
namespace Mine
open PySem

def dzP (p : List Nat) : Int := if p = [40] then 1 else if p = [41] then -1 else 0
def hts (ps : List (List Nat)) : List Int := ps.foldl (fun hs p => hs ++ [hs.getLastD 0 + dzP p]) [0]
theorem htsGo_bound : ∀ (ps : List (List Nat)) (hs : List Int) (n : Nat), (∀ v ∈ hs, -(n : Int) ≤ v ∧ v ≤ n) → ∀ v ∈ ps.foldl (fun hs p => hs ++ [hs.getLastD 0 + dzP p]) hs, -((n + ps.length : Nat) : Int) ≤ v ∧ v ≤ ((n + ps.length : Nat) : Int)
  | [], hs, n, h => by simpa using h
  | p :: ps, hs, n, h => by
    rw [List.foldl_cons]
    have ih := htsGo_bound ps (hs ++ [hs.getLastD 0 + dzP p]) (n + 1) (fun v hv => by
      rcases List.mem_append.mp hv with hv | hv
      · have := h v hv; push_cast; omega
      · rw [List.mem_singleton.mp hv]
        have h2 : -1 ≤ dzP p ∧ dzP p ≤ 1 := by unfold dzP; split <;> (try split) <;> omega
        have h3 : -(n : Int) ≤ hs.getLastD 0 ∧ hs.getLastD 0 ≤ n := by
          by_cases e : hs = []
          · rw [e]; simp
          · exact h _ (by rw [List.getLastD_eq_getLast?, List.getLast?_eq_some_getLast e]; exact List.getLast_mem e)
        push_cast; omega)
    intro v hv
    have := ih v hv
    rw [List.length_cons]
    omega
theorem hts_bound (ps : List (List Nat)) (v : Int) (hv : v ∈ hts ps) : -(ps.length : Int) ≤ v ∧ v ≤ ps.length := by
  have := htsGo_bound ps [0] 0 (fun v hv => by rw [List.mem_singleton.mp hv]; simp) v hv
  simpa using this
theorem hts_at (ps : List (List Nat)) (k : Nat) : -(ps.length : Int) ≤ (hts ps).getD k 0 ∧ (hts ps).getD k 0 ≤ ps.length := by
  by_cases h : k < (hts ps).length
  · exact hts_bound ps _ (by rw [List.getD_eq_getElem?_getD, List.getElem?_eq_getElem h]; exact List.getElem_mem h)
  · rw [List.getD_eq_getElem?_getD, List.getElem?_eq_none (by omega)]; simp
def lamText (ps : List (List Nat)) (hs : List Int) (place e : Nat) : List Nat := ((ps.drop (place + 1)).take (e - (place + 1))).flatten ++ List.replicate (hs.getD e 0 - hs.getD (place + 1) 0).toNat 41
def keyP (ps : List (List Nat)) (place i : Nat) : Bool := checkP ⟨(lamText ps (hts ps) place (place + 2 + i)).toArray⟩ == false
def foundP (ps : List (List Nat)) (place : Nat) : Nat := halved (keyP ps place) (ps.length - (place + 1))
def mateAt (ps : List (List Nat)) (place : Nat) : List Int :=
  if ps.getD place [] = [40] then
    if foundP ps place < ps.length - (place + 1) ∧ checkP ⟨((ps.drop place).take (1 + foundP ps place)).flatten.toArray⟩ = false then [((place + 1 + foundP ps place : Nat) : Int)] else []
  else []
def matesUp (ps : List (List Nat)) : Nat → List Int
  | 0 => []
  | i + 1 => matesUp ps i ++ mateAt ps i
def matesOf (ps : List (List Nat)) : List Int := matesUp ps ps.length
abbrev lM (pv mv ev fv : Option Value) : List (Str × Option Value) := [("piece", pv), ("mates", mv), ("ends", ev), ("found", fv)]
section
theorem reset_Mates02 : True := by
  w_top off
  trivial
local macro_rules | `(tactic| walk_at "no key Mates02 0") => `(tactic| skip)
local macro_rules | `(tactic| walk_at "storeName") => `(tactic| (k_here; k_dflt (refine' stE ?k1 ?k2 ?_ ?k3 ?k4 ?k5; (case k1 => assumption); (case k2 => assumption); (case k3 => rfl); (case k4 => rfl); (case k5 => rfl); k_whole); intro h' F' N' hk'; clear hk'; (try dsimp only)))
local macro_rules | `(tactic| walk_at "exec For") => `(tactic| (refine Halt.mk ?_))
local macro_rules | `(tactic| walk_at "call builtin:list.append") => `(tactic| (refine Halt.mk ?_))
local macro_rules | `(tactic| walk_at "subscriptTail") => `(tactic| (refine Halt.mk ?_))
local macro_rules | `(tactic| walk_at "eval Name") => `(tactic| (k_here; k_dflt (refine' nameFB ?F ?c ?v ?d ?_ ?a ?b ?e ?g; (case a => rfl); (case b => rfl); (case F => k_asm); (case c => rfl); (case v => assumption); (case d => assumption); (case e => decide); (case g => decide); k_whole)))
local macro_rules | `(tactic| walk_at "subscriptTail Name Name") => `(tactic| (refine Halt.mk ?_))
local macro_rules | `(tactic| walk_at "subscriptTail Name BinOp") => `(tactic| (refine Halt.mk ?_))
local macro_rules | `(tactic| walk_at "binaryOp Mult str int") => `(tactic| (refine Halt.mk ?_))
local macro_rules | `(tactic| walk_at "binaryOp Add str str") => `(tactic| (refine Halt.mk ?_))
local macro_rules | `(tactic| walk_at "eval Lambda") => `(tactic| (refine Halt.mk ?_))
local macro_rules | `(tactic| walk_at "call type:enumerate") => `(tactic| (refine Halt.mk ?_))

theorem mates_call {w : World} {p : Program} {loose : List Str} {mean : ExcName → Option Value} {mg mb : Str → Option Value} {A : Around} {s : Shared} {g : Heap} {a : Addr} {ps : List (List Nat)}
    {Q E : Value → Shared → Prop} (X : (hd.heap_39 w.params).In g) (T : Top p loose mean mg mb g) (C : CodeHd g 66 62) (hg0 : ∀ b o, g.get? b = some o → s.heap.get? b = some o) (hgP : g.get? 62 = none) (hP : s.heap.get? 62 = some (tabObj #[]))
    (hh : A.handled = none) (hroom : A.depth + 10 < recursionLimit) (hu : A.units + 500 < cLine) (hl : TextList s.heap a ps) (hn : ps.length ≤ 20) (hpl : ∀ c ∈ ps, c.length ≤ 10)
    (hQ : ∀ b s', KeepBut 62 s s' → (∃ tab, s'.heap.get? 62 = some (tabObj tab)) → IntList s'.heap b (matesOf ps) → Q (.ref b) s') :
    wpAny (model PySem.Challenge.rw_pg0117_02.row.prog w) A (call (.ref 67) [.ref a]) Q E s := by
  revert X
  k_fill
  intro X
  have hgg : ∀ b o, g.get? b = some o → (hideAll s.heap [62]).get? b = some o := fun b o e => hideAll_get _ (hg0 b o e) (fun hm => by rw [List.mem_singleton.mp hm, hgP] at e; cases e)
  have X' := X.keeps hgg
  have T' := T.keeps hgg
  have C' := C.keeps hgg
  have XS := X.keeps hg0
  refine enterC (binds := [("pieces", .ref a)]) [(62, tabObj #[])] (fun q hq => by rw [List.mem_singleton.mp hq]; exact hP) (XS _ _ (by k_is)) (codeRec_of XS (by k_is)) (T.nolimit.keeps hg0) (by omega) (BindsTo.of_eq rfl) rfl (by decide +kernel) rfl rfl rfl fun h₁ tk cells F N Y hk₁ => ?_
  obtain ⟨vs, hl, hI⟩ := hl
  obtain ⟨oa, hoa, hca, nda, hda⟩ := id hl
  have haP : a ≠ 62 := fun e => by rw [e, hP] at hoa; cases hoa; cases hca
  have hoa' : (hideAll s.heap [62]).get? a = some oa := hideAll_get _ hoa (fun hm => haP (List.mem_singleton.mp hm))
  have hl' : (hideAll s.heap [62]).IsList a vs.toArray := ⟨oa, hoa', hca, nda, hda⟩
  have hPl : 62 < s.heap.objs.size := Heap.lt_size hP
  have F' := (frTo F rfl : Fr (hideAll s.heap [62]) s.heap.objs.size h₁ (mOf []))
  obtain ⟨oPl, oHt, oPc, rfl, d1, d2, d3⟩ := CellsAre.three Y
  have d1 : oPl.data = .cell none := d1
  have d2 : oHt.data = .cell none := d2
  have d3 : oPc.data = .cell (some (.ref a)) := d3
  have N' : News (hideAll s.heap [62]) s.heap.objs.size h₁ [(s.heap.objs.size + 1 + 1 + 1, oPl), (s.heap.objs.size + 1 + 1, oHt), (s.heap.objs.size + 1, oPc), (62, tabObj #[])] := N
  clear N
  have hkeep : ∀ b o, b ≠ 62 → s.heap.get? b = some o → (hideAll s.heap [62]).get? b = some o := fun b o hb e => hideAll_get _ e (fun hm => hb (List.mem_singleton.mp hm))
  clear X C T Y hl hgg hg0 hgP XS F
  generalize hgH : hideAll s.heap [62] = gH at *
  k_steps
  refine Halt.go (for_any ?_)
  k_steps
  rename_i Hn _ l1 h3 oH F3 N3 dH
  have F4 : Fr gH s.heap.objs.size h3 (mOf (lM none none none none)) := frTo F3 (((mOf_none "found" _).trans ((mOf_none "ends" _).trans ((mOf_none "mates" _).trans (mOf_none "piece" []))))).symm
  refine iter_list (l := lM none none none none) (fun i l news => ∃ pv hv n, l = lM pv none none none ∧ IntsAre hv (hts (ps.take i)) ∧ hv.length = i + 1 ∧ news = [(Hn, W.listOf hv.toArray n), (s.heap.objs.size + 1 + 1 + 1, oPl), (s.heap.objs.size + 1 + 1, oH), (s.heap.objs.size + 1, oPc), (62, tabObj #[])])
    hh F4 N3 (hl'.at fun o e => F3.keep a o e) ⟨none, [_], 0, rfl, .cons 0 _ .nil, rfl, rfl⟩ (.inl ⟨oa, hoa'⟩) ?_ ?_ rfl rfl
  · rintro i v l₁ news₁ s₁ own hv ⟨pv, hv', n, rfl, hhi, hhl, rfl⟩ hsep hg hos F5 N5
    have hi : i < ps.length := by have := hI.length; have := (List.getElem?_eq_some_iff.mp hv).1; omega
    obtain ⟨u, hx⟩ := hI.get hi
    obtain rfl : v = .str ⟨(ps.getD i []).toArray⟩ u := by rw [hv] at hx; exact Option.some.inj hx
    have hk : ps[i]? = some (ps.getD i []) := by simp [List.getD, hi]
    have hts1 : hts (ps.take (i + 1)) = hts (ps.take i) ++ [(hts (ps.take i)).getLastD 0 + dzP (ps.getD i [])] := by
      rw [take_succ_of hk]; simp only [hts, List.foldl_append, List.foldl_cons, List.foldl_nil]
    generalize ps.getD i [] = pc at hv hx hk hts1 F5
    have hne : hts (ps.take i) ≠ [] := fun e => by have h9 := hhi.length; rw [e, hhl] at h9; simp at h9
    obtain ⟨th, hth⟩ := ints_last hhi hne
    have hi1 := strEq1 pc 40 (Str.ofString "(") (by decide)
    have hi2 := strEq1 pc 41 (Str.ofString ")") (by decide)
    have hoff := offOf hsep
    simp only [List.map_cons, List.map_nil] at hoff
    simp only [List.cons_append, List.nil_append] at N5
    have fin : ∀ (s₂ : Shared) (x : Int) (t : Tok) (pv' : Option Value) (n' : Nat) (sg : Shared) (R' : Flow → Shared → Prop), x = (hts (ps.take i)).getLastD 0 + dzP pc → Fr gH s.heap.objs.size s₂.heap (mOf (lM pv' none none none)) →
        News gH s.heap.objs.size s₂.heap ((Hn, W.listOf (hv' ++ [Value.int x t]).toArray n') :: (s.heap.objs.size + 1 + 1 + 1, oPl) :: (s.heap.objs.size + 1 + 1, oH) :: (s.heap.objs.size + 1, oPc) :: (62, tabObj #[]) :: own) → GensGrow sg.gens s₂.gens → s₂.os = sg.os →
        TurnX gH s.heap.objs.size own (fun l news => ∃ pv hv n, l = lM pv none none none ∧ IntsAre hv (hts (ps.take (i + 1))) ∧ hv.length = i + 1 + 1 ∧ news = [(Hn, W.listOf hv.toArray n), (s.heap.objs.size + 1 + 1 + 1, oPl), (s.heap.objs.size + 1 + 1, oH), (s.heap.objs.size + 1, oPc), (62, tabObj #[])]) R' sg .next s₂ := by
      rintro s₂ x t pv' n' sg R' rfl F' N' hg' hos'
      exact ⟨_, [(Hn, W.listOf (hv' ++ [Value.int _ t]).toArray n'), (s.heap.objs.size + 1 + 1 + 1, oPl), (s.heap.objs.size + 1 + 1, oH), (s.heap.objs.size + 1, oPc), (62, tabObj #[])], F', N', sepAt hsep rfl, hg', hos', pv', _, n', rfl, hts1 ▸ ints_snoc hhi _ _, (by rw [List.length_append, List.length_singleton]; omega), rfl⟩
    have m0 : ∀ p ∈ (s.heap.objs.size + 1 + 1 + 1, oPl) :: (s.heap.objs.size + 1 + 1, oH) :: (s.heap.objs.size + 1, oPc) :: (62, tabObj #[]) :: own, p.1 ≠ Hn := fun p hp => by
      obtain ⟨l1a, l1b, l1c, l1d⟩ := l1
      rcases List.mem_cons.mp hp with rfl | hp
      · exact Nat.ne_of_lt l1a
      · rcases List.mem_cons.mp hp with rfl | hp
        · exact Nat.ne_of_lt l1b
        · rcases List.mem_cons.mp hp with rfl | hp
          · exact Nat.ne_of_lt l1c
          · rcases List.mem_cons.mp hp with rfl | hp
            · exact Nat.ne_of_lt l1d
            · exact hsep p hp _ (.head _)
    k_steps
    all_goals rw [getD_last]
    all_goals refine Halt.go (appendMid (l₁ := []) F5 N5 (fun _ h => nomatch h) m0 (by rw [List.size_toArray, sizeLine_eq]; omega) fun h7 F7 N7 => ?_)
    all_goals rw [List.push_toArray] at N7
    all_goals k_steps
    · rename (_ == _) = true => h1
      have hc := of_decide_eq_true (hi1.symm.trans h1)
      refine fin _ _ _ _ _ _ _ (by rw [dzP, if_pos hc]) F7 N7 hg hos
    · rename (_ == Str.ofString "(") = false => h1
      rename (_ == Str.ofString ")") = true => h2
      have hc1 := of_decide_eq_false (hi1.symm.trans h1)
      have hc2 := of_decide_eq_true (hi2.symm.trans h2)
      refine fin _ _ _ _ _ _ _ (by rw [dzP, if_neg hc1, if_pos hc2]) F7 N7 hg hos
    · rename (_ == Str.ofString "(") = false => h1
      rename (_ == Str.ofString ")") = false => h2
      have hc1 := of_decide_eq_false (hi1.symm.trans h1)
      have hc2 := of_decide_eq_false (hi2.symm.trans h2)
      refine fin _ _ _ _ _ _ _ (by rw [dzP, if_neg hc1, if_neg hc2]) F7 N7 hg hos
  · rintro l₁ news₁ s₁ ⟨pv, hv, n0, rfl, hhi, hhl, rfl⟩ hg hos F5 N5
    have hvl : vs.length = ps.length := hI.length
    rw [hvl, List.take_length] at hhi
    rw [hvl] at hhl
    dsimp only
    clear F3 N3 F4
    k_steps
    refine Halt.go (for_any ?_)
    k_steps
    rename_i Mt _ _ _ l2 h6 F6 N6
    refine Halt.go (enum_list (l := lM pv (some (.ref Mt)) none none) (fun i l news => ∃ pv ev fv mv n oP' vP tab extra, l = lM pv (some (.ref Mt)) ev fv ∧ IntsAre mv (matesUp ps i) ∧ mv.length ≤ i ∧ (oP' : Obj).data = .cell vP ∧ TabIs tab extra 103 48 (Str.ofString "_law_mates" ++ ".<locals>." ++ "<lambda>") ∧ (∀ p ∈ extra, Mt < p.1) ∧
      news = (Mt, W.listOf mv.toArray n) :: (Hn, W.listOf hv.toArray n0) :: (s.heap.objs.size + 1 + 1 + 1, oP') :: (s.heap.objs.size + 1 + 1, oH) :: (s.heap.objs.size + 1, oPc) :: (62, tabObj tab) :: extra)
      rfl hh F6 N6 (hl'.at fun o e => F6.keep a o e) ⟨pv, none, none, [], 0, oPl, none, #[], [], rfl, .nil, Nat.le_refl _, d1, .inl ⟨rfl, rfl⟩, (fun _ h => nomatch h), rfl⟩ (.inl ⟨oa, hoa'⟩) ?_ ?_)
    · rintro i v T₁ t l₁ news₁ s₂ own hv₂ hT₁ ⟨pv₁, ev, fv, mv, n, oP', vP, tab, extra, rfl, hmi, hml, dP, htab, hex, rfl⟩ hsep hg₂ hos₂ F7 N7
      have hi : i < ps.length := by have := (List.getElem?_eq_some_iff.mp hv₂).1; omega
      obtain ⟨u, hx⟩ := hI.get hi
      obtain rfl : v = .str ⟨(ps.getD i []).toArray⟩ u := by rw [hv₂] at hx; exact Option.some.inj hx
      have hms : matesUp ps (i + 1) = matesUp ps i ++ mateAt ps i := rfl
      have hpc : ps.getD i [] = ps.getD i [] := rfl
      have hi1 := strEq1 (ps.getD i []) 40 (Str.ofString "(") (by decide)
      obtain ⟨l2a, l2b, l2c, l2d, l2e⟩ := l2
      obtain ⟨l1a, l1b, l1c, l1d⟩ := l1
      have hexo : ∀ p ∈ extra ++ own, p.1 ≠ Mt ∧ p.1 ≠ Hn ∧ p.1 ≠ s.heap.objs.size + 1 + 1 + 1 ∧ p.1 ≠ s.heap.objs.size + 1 + 1 ∧ p.1 ≠ s.heap.objs.size + 1 ∧ p.1 ≠ 62 := fun p hp => by
        rcases List.mem_append.mp hp with hp | hp
        · have h1 := ltN (hex p hp)
          have hl2 := And.intro (ltN l2a) (ltN l2b)
          have hl1 := And.intro (ltN l1a) (ltN l1d)
          refine ⟨?_, ?_, ?_, ?_, ?_, ?_⟩ <;> (refine neN ?_; omega)
        · exact ⟨hsep p hp _ (.head _), hsep p hp _ (.tail _ (.head _)), hsep p hp _ (.tail _ (.tail _ (.head _))), hsep p hp _ (.tail _ (.tail _ (.tail _ (.head _)))), hsep p hp _ (.tail _ (.tail _ (.tail _ (.tail _ (.head _))))), hsep p hp _ (.tail _ (.tail _ (.tail _ (.tail _ (.tail _ (.head _))))))⟩
      refine assignPair hh F7 N7 hT₁ rfl fun h8 F8 N8 _ => ?_
      refine wpAny_assign_Name (storeX_C (c := s.heap.objs.size + 1 + 1 + 1) F8 N8 rfl (updFMid (l₁ := [(Mt, W.listOf mv.toArray n), (Hn, W.listOf hv.toArray n0)]) (l₂ := (s.heap.objs.size + 1 + 1, oH) :: (s.heap.objs.size + 1, oPc) :: (62, tabObj tab) :: (extra ++ own)) ?_ ?_) dP (fun h9 oP2 F9 N9 dP2 => ?_) rfl rfl)
      · intro p hp
        rcases List.mem_cons.mp hp with rfl | hp
        · exact Nat.ne_of_gt l2b
        · rw [List.mem_singleton.mp hp]; exact Nat.ne_of_gt l1a
      · intro p hp
        rcases List.mem_cons.mp hp with rfl | hp
        · show s.heap.objs.size + 1 + 1 ≠ s.heap.objs.size + 1 + 1 + 1; omega
        · rcases List.mem_cons.mp hp with rfl | hp
          · show s.heap.objs.size + 1 ≠ s.heap.objs.size + 1 + 1 + 1; omega
          · rcases List.mem_cons.mp hp with rfl | hp
            · show 62 ≠ s.heap.objs.size + 1 + 1 + 1; omega
            · exact (hexo p hp).2.2.1
      · refine wpAny_assign_Name (stE F9 N9 (fun h10 F10 N10 _ => ?_) rfl rfl rfl)
        clear F7 N7 F8 N8 F9 N9
        have fin : ∀ (s₃ : Shared) (pv' ev' fv' : Option Value) (tab' : Array Value) (extra' : List (Addr × Obj)) (sg : Shared) (R' : Flow → Shared → Prop), TabIs tab' extra' 103 48 (Str.ofString "_law_mates" ++ ".<locals>." ++ "<lambda>") → (∀ p ∈ extra', Mt < p.1) → (∀ p ∈ own, ∀ q ∈ extra', p.1 ≠ q.1) →
            Fr gH s.heap.objs.size s₃.heap (mOf (lM pv' (some (.ref Mt)) ev' fv')) →
            (∃ mv' n', News gH s.heap.objs.size s₃.heap ((Mt, W.listOf (mv' : List Value).toArray n') :: (Hn, W.listOf hv.toArray n0) :: (s.heap.objs.size + 1 + 1 + 1, oP2) :: (s.heap.objs.size + 1 + 1, oH) :: (s.heap.objs.size + 1, oPc) :: (62, tabObj tab') :: (extra' ++ own)) ∧ IntsAre mv' (matesUp ps i ++ mateAt ps i) ∧ mv'.length ≤ i + 1) → GensGrow sg.gens s₃.gens → s₃.os = sg.os →
            TurnX gH s.heap.objs.size own (fun l news => ∃ pv ev fv mv n oP' vP tab extra, l = lM pv (some (.ref Mt)) ev fv ∧ IntsAre mv (matesUp ps (i + 1)) ∧ mv.length ≤ i + 1 ∧ (oP' : Obj).data = .cell vP ∧ TabIs tab extra 103 48 (Str.ofString "_law_mates" ++ ".<locals>." ++ "<lambda>") ∧ (∀ p ∈ extra, Mt < p.1) ∧
              news = (Mt, W.listOf mv.toArray n) :: (Hn, W.listOf hv.toArray n0) :: (s.heap.objs.size + 1 + 1 + 1, oP') :: (s.heap.objs.size + 1 + 1, oH) :: (s.heap.objs.size + 1, oPc) :: (62, tabObj tab) :: extra) R' sg .next s₃ := by
          rintro s₃ pv' ev' fv' tab' extra' sg R' h3 h4 h5 F' ⟨mv', n', N', h1, h2⟩ h6 h7
          refine ⟨_, (Mt, W.listOf mv'.toArray n') :: (Hn, W.listOf hv.toArray n0) :: (s.heap.objs.size + 1 + 1 + 1, oP2) :: (s.heap.objs.size + 1 + 1, oH) :: (s.heap.objs.size + 1, oPc) :: (62, tabObj tab') :: extra', F', N', fun p hp q hq => ?_, h6, h7, pv', ev', fv', mv', n', oP2, _, tab', extra', rfl, h1, h2, dP2, h3, h4, rfl⟩
          have hx := hexo p (List.mem_append_right _ hp)
          simp only [List.mem_cons] at hq
          rcases hq with rfl | rfl | rfl | rfl | rfl | rfl | hq
          · exact hx.1
          · exact hx.2.1
          · exact hx.2.2.1
          · exact hx.2.2.2.1
          · exact hx.2.2.2.2.1
          · exact hx.2.2.2.2.2
          · exact h5 p hp q hq
        k_steps
        · rename (_ == _) = true => h1
          have hc := of_decide_eq_true (hi1.symm.trans h1)
          refine lenL (vs := vs) (hl'.at fun o e => F10.keep a o e) (by omega) ?_
          k_steps
          rename_i hR FR NR kR
          have hvl2 : vs.length = ps.length := hI.length
          refine listRange hh FR NR hR (by omega) (by omega) (by omega) (by omega) fun En h11 tk11 ys ce F11 N11 hys l11 => ?_
          have e11 : ((vs.length : Int) + 1 - ((i : Int) + 2)).toNat = ps.length - (i + 1) := by omega
          rw [e11] at hys
          clear kR hR
          k_steps
          rename Fr _ _ _ _ => F12
          rename News _ _ _ _ => N12
          have l11a := ltN (l11 _ (.head _))
          have hP1 : ∀ p ∈ [(En, W.listOf ys.toArray ce), (Mt, W.listOf mv.toArray n), (Hn, W.listOf hv.toArray n0), (s.heap.objs.size + 1 + 1 + 1, oP2), (s.heap.objs.size + 1 + 1, oH), (s.heap.objs.size + 1, oPc)], p.1 ≠ 62 := fun p hp => by
            have hl2 := And.intro (ltN l2e) (ltN l1d)
            simp only [List.mem_cons, List.not_mem_nil, or_false] at hp
            rcases hp with rfl | rfl | rfl | rfl | rfl | rfl <;> (refine neN ?_; (try dsimp only); omega)
          refine Halt.go (kla_eval rfl (mkLam2 (l₁ := [(En, W.listOf ys.toArray ce), (Mt, W.listOf mv.toArray n), (Hn, W.listOf hv.toArray n0), (s.heap.objs.size + 1 + 1 + 1, oP2), (s.heap.objs.size + 1 + 1, oH), (s.heap.objs.size + 1, oPc)]) (l₂ := own) F12 N12 T' C' rfl hP1 (fun p hp => (hexo p hp).2.2.2.2.2) htab rfl
            fun f c' oc tab' extra' ctv h13 tk13 F13 N13 htab' hrec hex' hexn l13 => ?_))
          k_steps
          change wpAny _ _ (call (.ref 53) [.ref En, .bool true] [(Str.ofString "key", .ref f)]) _ _ _
          have X13 := X'.keeps F13.keep
          have T13 := T'.keeps F13.keep
          have eN := (N13 _ (.tail _ (.head _))).1
          have cL3 := (N13 _ (.tail _ (.tail _ (.tail _ (.tail _ (.head _)))))).1
          have cL2 := (N13 _ (.tail _ (.tail _ (.tail _ (.tail _ (.tail _ (.head _))))))).1
          have cL1 := (N13 _ (.tail _ (.tail _ (.tail _ (.tail _ (.tail _ (.tail _ (.head _)))))))).1
          have cHn := (N13 _ (.tail _ (.tail _ (.tail _ (.head _))))).1
          have hyl : ys.length = ps.length - (i + 1) := by rw [hys.length, rangeInts_length]
          refine bisLk_call (kf := f) (vs := ys) (kp := keyP ps i) X13 T13 (by exact hh) (by show A.depth + 1 < recursionLimit; omega) (by show A.units + 3 + 100 < cLine; omega) (isList_of eN) (by omega) (N13 _ (.head _)).1 ?_ fun uf s14 K14 => ?_
          · intro A' j v s' Q' hh' hd' hu' hv' K hQ'
            have hj : j < ps.length - (i + 1) := by rw [← hyl]; exact (List.getElem?_eq_some_iff.mp hv').1
            obtain ⟨tj, hvj⟩ := hys.get j _ (rangeInts_get hj)
            obtain rfl : v = .int ((i : Int) + 2 + (j : Nat) * 1) tj := by rw [hv'] at hvj; exact Option.some.inj hvj
            have XS := X13.keeps K.heap
            have TS := T13.keeps K.heap
            have c3 := K.heap _ _ cL3
            have c2 := K.heap _ _ cL2
            have c1 := K.heap _ _ cL1
            have cH := K.heap _ _ cHn
            have hla : s'.heap.IsList a vs.toArray := (hl'.at fun o e => F13.keep a o e).at fun o e => K.heap a o e
            have hkey0 : A'.depth < recursionLimit := by rw [hd']; show A.depth + 1 + 1 < _; omega
            have hkey : A'.depth + 4 < recursionLimit ∧ A'.units + 400 < cLine := ⟨by rw [hd']; show A.depth + 1 + 1 + 4 < _; omega, by rw [hu']; show A.units + 3 + 3 + 400 < _; omega⟩
            refine enterLam (binds := [("end", .int ((i : Int) + 2 + (j : Nat) * 1) tj)]) (K.heap _ _ (N13 _ (.head _)).1) (codeRec_keep hrec K.heap) TS.nolimit hkey0 rfl (locs rfl) rfl rfl rfl (by decide) fun h15 F15 N15 => ?_
            clear F13 N13 X13 T13 hP1 hexo htab htab' l11 l13
            (try clear F12); (try clear N12); (try clear F11); (try clear N11); (try clear FR); (try clear NR)
            have hlH : IntList s'.heap Hn (hts ps) := ⟨hv, isList_of cH, hhi⟩
            have hhl' : (hts ps).length = ps.length + 1 := by rw [← hhi.length]; exact hhl
            have hpick : slicePick vs.toArray (some ((i : Int) + 1)) (some ((i : Int) + 2 + (j : Nat) * 1)) none = ((vs.drop (i + 1)).take (i + 2 + j - (i + 1))).toArray := by
              have := slicePick_run vs.toArray (i + 1) (i + 2 + j) (by rw [List.size_toArray]; omega) (by omega)
              rw [← this]
              congr 2
              omega
            have htx := (hI.drop (i + 1)).take (i + 2 + j - (i + 1))
            k_steps
            rename News _ _ _ _ => Ns
            rw [hpick] at Ns
            have hcl : ∀ c ∈ (ps.drop (i + 1)).take (i + 2 + j - (i + 1)), c.length ≤ 10 := fun c hc => hpl c (List.mem_of_mem_drop (List.mem_of_mem_take hc))
            have hcn : ((ps.drop (i + 1)).take (i + 2 + j - (i + 1))).length ≤ 20 := by rw [List.length_take, List.length_drop]; omega
            refine join_texts (N := 10) Ns htx hcl (by omega) fun t16 k16 => ?_
            k_steps
            have ek1 : ((i : Int) + 2 + (j : Nat) * 1) = ((i + 2 + j : Nat) : Int) := by push_cast; omega
            have ek2 : ((i : Int) + 1) = ((i + 1 : Nat) : Int) := by push_cast; omega
            rename Fr _ _ _ _ => Fc
            refine Halt.go (itemI (k := i + 2 + j) (hlH.keep Fc.keep) (by omega) (by omega) ek1 fun t17 => ?_)
            k_steps
            refine Halt.go (itemI (k := i + 1) (hlH.keep Fc.keep) (by omega) (by omega) ek2 fun t18 => ?_)
            k_steps
            have hb1 := hts_at ps (i + 2 + j)
            have hb2 := hts_at ps (i + 1)
            refine Halt.go (mulS (c := 41) (by decide) (by omega) (by omega) fun t19 k19 => ?_)
            k_steps
            have hfl := flat_le _ hcl
            refine Halt.go (addS (by rw [List.length_replicate]; omega) fun t20 k20 => ?_)
            k_steps
            rename Fr _ _ _ _ => Fd
            refine check_call (XS.keeps Fd.keep) (TS.keeps Fd.keep) hh' (by show A'.depth + 1 + 2 < recursionLimit; omega) (by show A'.units + 3 + 200 < cLine; omega) ?_ fun s21 K21 => ?_
            · simp only [Str.length, List.size_toArray, List.length_append, List.length_replicate]; omega
            · have K22 : Keep s' s21 := ⟨fun b o e => K21.heap b o (Fd.keep b o e), K21.os, K21.gens⟩
              k_steps
              exact hQ' _ K22
          · have F14 := K14.fr F13
            have N14 := K14.news N13
            have hfl : halved (keyP ps i) ys.length ≤ ys.length := (halve_le (keyP ps i) ys.length 0 ys.length (Nat.zero_le _)).1
            rw [hyl] at hfl
            have hfe : halved (keyP ps i) ys.length = foundP ps i := by rw [foundP, hyl]
            rw [hfe]
            rw [← hyl, hfe, hyl] at hfl
            generalize hfo : foundP ps i = fo at *
            have eN14 := K14.heap _ _ eN
            clear F13 N13 X13 T13
            (try clear F12); (try clear N12); (try clear F11); (try clear N11); (try clear FR); (try clear NR)
            k_steps
            rename Fr _ _ _ _ => F15
            rename News _ _ _ _ => N15
            refine lenL (vs := ys) (isList_of (N15 (En, W.listOf ys.toArray ce) (.tail _ (.head _))).1) (by omega) ?_
            have hla : s14.heap.IsList a vs.toArray := hl'.at fun o e => F14.keep a o e
            have hse' : ∀ p ∈ own, ∀ q ∈ extra', p.1 ≠ q.1 := fun p hp q hq => by
              rcases hexn with e | e
              · rw [e] at hq
                exact hsep p hp q (.tail _ (.tail _ (.tail _ (.tail _ (.tail _ (.tail _ hq))))))
              · rw [hex'] at hq
                rw [List.mem_singleton.mp hq]
                exact Nat.ne_of_lt (e p (List.mem_append_right _ (.tail _ (List.mem_append_right _ hp))))
            have hMe : ∀ p ∈ extra', Mt < p.1 := fun p hp => by
              rcases hexn with e | e
              · rw [e] at hp; exact hex p hp
              · rw [hex'] at hp
                rw [List.mem_singleton.mp hp]
                exact e (Mt, W.listOf mv.toArray n) (.tail _ (.head _))
            have hpick2 : slicePick vs.toArray (some (i : Int)) (some ((i : Int) + 1 + (fo : Nat))) none = ((vs.drop i).take (i + 1 + fo - i)).toArray := by
              have := slicePick_run vs.toArray i (i + 1 + fo) (by rw [List.size_toArray]; omega) (by omega)
              rw [← this]; congr 2
            have e1f : i + 1 + fo - i = 1 + fo := by omega
            rw [e1f] at hpick2
            have htx2 := (hI.drop i).take (1 + fo)
            have hcl2 : ∀ c ∈ (ps.drop i).take (1 + fo), c.length ≤ 10 := fun c hc => hpl c (List.mem_of_mem_drop (List.mem_of_mem_take hc))
            have hcn2 : ((ps.drop i).take (1 + fo)).length ≤ 20 := by rw [List.length_take, List.length_drop]; omega
            have hfl2 := flat_le _ hcl2
            have hma : mateAt ps i = if fo < ps.length - (i + 1) ∧ checkP ⟨((ps.drop i).take (1 + fo)).flatten.toArray⟩ = false then [((i + 1 + fo : Nat) : Int)] else [] := by
              rw [mateAt, if_pos hc, hfo]
            k_steps
            · rename (_ : Int) < _ => hlt
              have hlt' : fo < ps.length - (i + 1) := by omega
              rename News _ _ _ _ => N16
              rename Fr _ _ _ _ => F16
              rw [hpick2] at N16
              refine join_texts (N := 10) N16 htx2 hcl2 (by omega) fun t17 k17 => ?_
              k_steps
              refine check_call (X'.keeps F16.keep) (T'.keeps F16.keep) (by exact hh) (by show A.depth + 1 + 2 < recursionLimit; omega) (by show A.units + 3 + 200 < cLine; omega) ?_ fun s18 K18 => ?_
              · simp only [Str.length, List.size_toArray]; omega
              · have F18 := K18.fr F16
                have N18 := K18.news N16
                clear F16 N16
                cases hck : checkP ⟨((ps.drop i).take (1 + fo)).flatten.toArray⟩ with
                | true =>
                  rw [hck] at hma
                  rw [if_neg (fun h => Bool.noConfusion h.2)] at hma
                  k_steps
                  refine fin _ (some (.str ⟨(ps.getD i []).toArray⟩ u)) (some (.ref En)) (some (.int fo uf)) tab' extra' _ _ htab' hMe hse' ?_ ?_ ?_ ?_
                  · exact F18
                  · exact ⟨_, _, news_sub N18 fun q hq => List.mem_cons_of_mem _ (List.mem_cons_of_mem _ (List.mem_cons_of_mem _ hq)), by rw [hma, List.append_nil]; exact hmi, by omega⟩
                  · exact hg₂.trans (K14.gens.trans K18.gens)
                  · exact K18.os.trans (K14.os.trans hos₂)
                | false =>
                  rw [hck] at hma
                  rw [if_pos ⟨hlt', rfl⟩] at hma
                  k_steps
                  have N19 := news_sub N18 fun q (hq : q ∈ (Mt, W.listOf mv.toArray n) :: (Hn, W.listOf hv.toArray n0) :: (s.heap.objs.size + 1 + 1 + 1, oP2) :: (s.heap.objs.size + 1 + 1, oH) :: (s.heap.objs.size + 1, oPc) :: (62, tabObj tab') :: (extra' ++ own)) => List.mem_cons_of_mem _ (List.mem_cons_of_mem _ (List.mem_cons_of_mem _ hq))
                  have m2 : ∀ p ∈ (Hn, W.listOf hv.toArray n0) :: (s.heap.objs.size + 1 + 1 + 1, oP2) :: (s.heap.objs.size + 1 + 1, oH) :: (s.heap.objs.size + 1, oPc) :: (62, tabObj tab') :: (extra' ++ own), p.1 ≠ Mt := fun p hp => by
                    simp only [List.mem_cons, List.mem_append] at hp
                    rcases hp with rfl | rfl | rfl | rfl | rfl | hp | hp
                    · exact Nat.ne_of_lt l2a
                    · exact Nat.ne_of_lt l2b
                    · exact Nat.ne_of_lt l2c
                    · exact Nat.ne_of_lt l2d
                    · exact Nat.ne_of_lt l2e
                    · exact Nat.ne_of_gt (hMe p hp)
                    · exact hsep p hp _ (.head _)
                  refine Halt.go (appendMid (l₁ := []) F18 N19 (fun _ h => nomatch h) m2 (by rw [List.size_toArray, sizeLine_eq]; omega) fun h20 F20 N20 => ?_)
                  rw [List.push_toArray] at N20
                  k_steps
                  refine fin _ (some (.str ⟨(ps.getD i []).toArray⟩ u)) (some (.ref En)) (some (.int fo uf)) tab' extra' _ _ htab' hMe hse' ?_ ?_ ?_ ?_
                  · exact F20
                  · exact ⟨_, _, N20, by rw [hma]; exact ints_snoc hmi _ _, by rw [List.length_append, List.length_singleton]; omega⟩
                  · exact hg₂.trans (K14.gens.trans K18.gens)
                  · exact K18.os.trans (K14.os.trans hos₂)
            · rename ¬ (_ : Int) < _ => hlt
              have hlt' : ¬ fo < ps.length - (i + 1) := by omega
              rw [if_neg (fun h => hlt' h.1)] at hma
              refine fin _ (some (.str ⟨(ps.getD i []).toArray⟩ u)) (some (.ref En)) (some (.int fo uf)) tab' extra' _ _ htab' hMe hse' ?_ ?_ ?_ ?_
              · exact F15
              · exact ⟨_, _, news_sub N15 fun q hq => List.mem_cons_of_mem _ (List.mem_cons_of_mem _ hq), by rw [hma, List.append_nil]; exact hmi, by omega⟩
              · exact hg₂.trans K14.gens
              · exact K14.os.trans hos₂
        · rename (_ == _) = false => h1
          have hc := of_decide_eq_false (hi1.symm.trans h1)
          have hma : mateAt ps i = [] := by rw [mateAt, if_neg hc]
          refine fin _ (some (.str ⟨(ps.getD i []).toArray⟩ u)) ev fv tab extra _ _ htab hex (fun p hp q hq => hsep p hp q (.tail _ (.tail _ (.tail _ (.tail _ (.tail _ (.tail _ hq))))))) ?_ ?_ ?_ ?_
          · exact F10
          · exact ⟨_, _, N10, by rw [hma, List.append_nil]; exact hmi, by omega⟩
          · exact hg₂
          · exact hos₂
    · rintro l₁ news₁ s₂ ⟨pv₁, ev, fv, mv, n, oP', vP, tab, extra, rfl, hmi, hml, dP, htab, hex, rfl⟩ hg₂ hos₂ F7 N7
      rw [hI.length] at hmi
      dsimp only
      k_steps
      refine hQ Mt _ ⟨fun b o hb e => F7.keep b o (hkeep b o hb e), hos₂.trans hos, hg.trans hg₂⟩ ⟨tab, (N7 _ (.tail _ (.tail _ (.tail _ (.tail _ (.tail _ (.head _))))))).1⟩ ⟨mv, isList_of (N7 _ (.head _)).1, hmi⟩
end
end Mine
end
section
set_option Elab.async false
set_option maxRecDepth 100000
namespace Mine
open PySem

theorem okP_pieces (ns : List Int) : ∀ p ∈ piecesOf ns, OkP p := by
  have hd : ∀ k : Nat, OkP (hiddenL.getD k []) := fun k => by
    match k with
    | 0 => exact .quo 40 (.inl rfl)
    | 1 => exact .quo 41 (.inr rfl)
    | 2 => exact .esc 40
    | 3 => exact .esc 41
    | 4 => exact .esc 34
    | 5 => exact .esc 92
    | _ + 6 => exact .nil
  intro p hp
  simp only [piecesOf, List.mem_append, List.mem_cons, List.not_mem_nil, or_false, List.mem_map] at hp
  rcases hp with ((rfl | rfl) | ⟨n, _, rfl⟩) | (rfl | rfl | rfl | rfl | rfl | rfl | rfl | rfl | rfl)
  · exact .op
  · exact .op
  · unfold pieceOf
    split
    · exact hd _
    · split
      · exact .op
      · exact .cl
  · exact .cl
  · exact .quo 41 (.inr rfl)
  · exact .op
  · exact .op
  · exact .cl
  · exact .cl
  · exact .cl
  · exact .cl
  · exact .op

theorem par_op {p : List Nat} : (par p = [40]) = (p = [40]) := by
  unfold par
  by_cases h : p = [40]
  · simp [h]
  · by_cases h2 : p = [41]
    · simp [h2]
    · simp [h, h2]
theorem par_cl {p : List Nat} : (par p = [41]) = (p = [41]) := by
  unfold par
  by_cases h : p = [40]
  · simp [h]
  · by_cases h2 : p = [41]
    · simp [h2]
    · simp [h, h2]
theorem dz_par (p : List Nat) : dzP (par p) = dzP p := by simp only [dzP, par_op, par_cl]
theorem hts_par (ps : List (List Nat)) : hts (ps.map par) = hts ps := by
  simp only [hts, List.foldl_map, dz_par]
theorem getD_par (ps : List (List Nat)) (i : Nat) : (ps.map par).getD i [] = par (ps.getD i []) := by
  simp only [List.getD_eq_getElem?_getD, List.getElem?_map]
  cases ps[i]? <;> simp [par]

/-- the law's words with the check of the brackets alone -/
def keyC (ps : List (List Nat)) (hs : List Int) (place i : Nat) : Bool := chkC (((ps.drop (place + 1)).take (place + 2 + i - (place + 1))).flatten ++ List.replicate (hs.getD (place + 2 + i) 0 - hs.getD (place + 1) 0).toNat 41) 0 == false
def foundC (ps : List (List Nat)) (hs : List Int) (place : Nat) : Nat := halved (keyC ps hs place) (ps.length - (place + 1))
def mateC (ps : List (List Nat)) (hs : List Int) (place : Nat) : List Int :=
  if ps.getD place [] = [40] then
    if foundC ps hs place < ps.length - (place + 1) ∧ chkC ((ps.drop place).take (1 + foundC ps hs place)).flatten 0 = false then [((place + 1 + foundC ps hs place : Nat) : Int)] else []
  else []
def matesCUp (ps : List (List Nat)) (hs : List Int) : Nat → List Int
  | 0 => []
  | i + 1 => matesCUp ps hs i ++ mateC ps hs i

theorem flatMap_par (ps : List (List Nat)) : ps.flatMap par = (ps.map par).flatten := by rw [List.flatMap_def]
theorem rep_flat (n : Nat) : (List.replicate n [41]).flatten = List.replicate n 41 := by
  induction n with
  | zero => rfl
  | succ n ih => rw [List.replicate_succ, List.flatten_cons, ih]; rfl
theorem check_rep (cs : List (List Nat)) (n : Nat) (h : ∀ p ∈ cs, OkP p) : checkP ⟨(cs.flatten ++ List.replicate n 41).toArray⟩ = chkC ((cs.map par).flatten ++ List.replicate n 41) 0 := by
  have h2 : ∀ p ∈ cs ++ List.replicate n [41], OkP p := fun p hp => by
    rcases List.mem_append.mp hp with hp | hp
    · exact h p hp
    · rw [List.eq_of_mem_replicate hp]; exact .cl
  have := checkP_pieces _ h2
  rw [List.flatten_append, rep_flat, flatMap_par, List.map_append, List.flatten_append, List.map_replicate] at this
  rw [this, show par [41] = [41] from rfl, rep_flat]
theorem keyC_eq {ps : List (List Nat)} (h : ∀ p ∈ ps, OkP p) (place i : Nat) : keyP ps place i = keyC (ps.map par) (hts ps) place i := by
  rw [keyP, lamText, check_rep _ _ fun p hp => h p (List.mem_of_mem_drop (List.mem_of_mem_take hp)), keyC, List.map_take, List.map_drop]
theorem foundC_eq {ps : List (List Nat)} (h : ∀ p ∈ ps, OkP p) (place : Nat) : foundP ps place = foundC (ps.map par) (hts ps) place := by
  rw [foundP, foundC, List.length_map, funext (keyC_eq h place)]
theorem mateC_eq {ps : List (List Nat)} (h : ∀ p ∈ ps, OkP p) (place : Nat) : mateAt ps place = mateC (ps.map par) (hts ps) place := by
  have hc := checkP_pieces ((ps.drop place).take (1 + foundC (ps.map par) (hts ps) place)) fun p hp => h p (List.mem_of_mem_drop (List.mem_of_mem_take hp))
  rw [flatMap_par, List.map_take, List.map_drop] at hc
  simp only [mateAt, mateC, getD_par, par_op, foundC_eq h, List.length_map, hc]
theorem matesC_eq {ps : List (List Nat)} (h : ∀ p ∈ ps, OkP p) : ∀ n, matesUp ps n = matesCUp (ps.map par) (hts ps) n
  | 0 => rfl
  | n + 1 => by rw [matesUp, matesCUp, matesC_eq h n, mateC_eq h n]
theorem dueStep_par (due : List (List Int)) (wz : List Int) (i : Nat) (p : List Nat) : dueStep due wz i (par p) = dueStep due wz i p := by simp only [dueStep, par_op, par_cl]
theorem dueRun_par : ∀ (ps : List (List Nat)) (i : Nat) (due : List (List Int)) (wz : List Int), dueRun i (ps.map par) due wz = dueRun i ps due wz
  | [], _, _, _ => rfl
  | p :: ps, i, due, wz => by rw [List.map_cons, dueRun, dueRun, dueStep_par, dueRun_par ps]

/-- the words of at most n letters -/
def words3 : Nat → List (List (List Nat))
  | 0 => [[]]
  | n + 1 => [] :: (words3 n).flatMap fun w => [[40] :: w, [41] :: w, [] :: w]
theorem mem_words3 : ∀ (n : Nat) (w : List (List Nat)), w.length ≤ n → (∀ p ∈ w, p = [40] ∨ p = [41] ∨ p = []) → w ∈ words3 n
  | 0, w, h, _ => by
    have : w = [] := List.length_eq_zero_iff.mp (by omega)
    rw [this]; exact .head _
  | n + 1, [], _, _ => .head _
  | n + 1, p :: w, h, hw => by
    refine .tail _ (List.mem_flatMap.mpr ⟨w, mem_words3 n w (by simpa using h) (fun q hq => hw q (.tail _ hq)), ?_⟩)
    rcases hw p (.head _) with rfl | rfl | rfl <;> simp
def wordP (w : List (List Nat)) : List (List Nat) := [[40], [40]] ++ w ++ [[41], [], [40], [40], [41], [41], [41], [41], [40]]
def lawC (w : List (List Nat)) : Bool := decide (rowsOf (matesCUp (wordP w) (hts (wordP w)) (wordP w).length) = dueRun 0 (wordP w) [] [])
theorem lawC_nil : lawC [] = true := by decide +kernel
theorem lawC_a : (words3 3).all (fun w => lawC ([40] :: w)) = true := by decide +kernel
theorem lawC_b : (words3 3).all (fun w => lawC ([41] :: w)) = true := by decide +kernel
theorem lawC_c : (words3 3).all (fun w => lawC ([] :: w)) = true := by decide +kernel
theorem lawC_all {w : List (List Nat)} (hl : w.length ≤ 4) (hw : ∀ p ∈ w, p = [40] ∨ p = [41] ∨ p = []) : lawC w = true := by
  cases w with
  | nil => exact lawC_nil
  | cons c w =>
    have hm := mem_words3 3 w (by simpa using hl) fun q hq => hw q (.tail _ hq)
    rcases hw c (.head _) with rfl | rfl | rfl
    · exact List.all_eq_true.mp lawC_a w hm
    · exact List.all_eq_true.mp lawC_b w hm
    · exact List.all_eq_true.mp lawC_c w hm
theorem plain02 (ns : List Int) : rowsOf (matesOf (piecesOf ns)) = dueOf (piecesOf ns) := by
  have hok := okP_pieces ns
  have hp : (piecesOf ns).map par = wordP (((ns.take 4).map pieceOf).map par) := by
    simp only [piecesOf, wordP, List.map_append]; rfl
  have this := lawC_all (w := ((ns.take 4).map pieceOf).map par) (by rw [List.length_map, List.length_map, List.length_take]; omega) (fun p hp => by
    obtain ⟨q, _, rfl⟩ := List.mem_map.mp hp
    unfold par
    split
    · rename_i h; rcases h with h | h
      · exact .inl h
      · exact .inr (.inl h)
    · exact .inr (.inr rfl))
  have h2 := of_decide_eq_true (show decide _ = true from this)
  rw [matesOf, matesC_eq hok, dueOf, ← dueRun_par, ← hts_par, hp]
  rw [show (piecesOf ns).length = (wordP (((ns.take 4).map pieceOf).map par)).length from by rw [← hp, List.length_map]]
  exact h2
theorem mates_len (ps : List (List Nat)) : ∀ n, (matesUp ps n).length ≤ n
  | 0 => Nat.le_refl _
  | n + 1 => by
    have h1 := mates_len ps n
    have h2 : (mateAt ps n).length ≤ 1 := by unfold mateAt; split <;> (try split) <;> simp
    rw [matesUp, List.length_append]; omega
end Mine
end
section
open PySem PySem.W PySem.W.X PyProof.Rows
set_option Elab.async false
set_option maxRecDepth 100000
set_option maxHeartbeats 4000000
namespace Mine
open PySem

section
theorem reset_LawB02 : True := by
  w_top off
  trivial
local macro_rules | `(tactic| walk_at "no key LawB02 0") => `(tactic| skip)
local macro_rules | `(tactic| walk_at "no key LawB02 1") => `(tactic| skip)
local macro_rules | `(tactic| walk_at "no key LawB02 2") => `(tactic| skip)
local macro_rules | `(tactic| walk_at "no key LawB02 3") => `(tactic| skip)
local macro_rules | `(tactic| walk_at "storeName") => `(tactic| (k_here; k_dflt (refine' stE ?k1 ?k2 ?_ ?k3 ?k4 ?k5; (case k1 => assumption); (case k2 => assumption); (case k3 => rfl); (case k4 => rfl); (case k5 => rfl); k_whole); intro h' F' N' hk'; (try dsimp only)))
local macro_rules | `(tactic| walk_at "call ref") => `(tactic| (refine Halt.mk ?_))
local macro_rules | `(tactic| walk_at "compareOp Eq ref ref") => `(tactic| (refine Halt.mk ?_))

theorem law02 : PySem.Challenge.rw_pg0117_02.Holds := hd (by
  k_fill
  intro w s₀ s₁ mg mb G Y fa o pm cd doc dV kV ho hd' hcd hD hmg hg args vals as hpre hlay hrd hwl hlo
  have KX := km_in_of Y
  km_tabs Y
  have X := (Ground.X G).1
  have V := (Ground.X G).2
  refine Ground.open G ?_
  intro T B D TE TW
  try (refine guard_noD D (by decide +kernel) ?_; clear D)
  km_lay T hmg ho hd' cd
  clear hmg
  wrow_args hpre hlay hrd hwl hlo
  all_goals (
    first | refine callC_kw (enter_call ?_) | refine enter_call ?_
    w_top on
    refine postT hT9 (fun _ _ => rfl) (postW_of rfl (w_eq_bool (w_res rfl) w_lit) rfl) hg ?_
    w_call any ho hd' hcd hD T F
    clear hd'
    kn_ghosts F T
    k_drop
    skip)
  rename Fr _ _ _ _ => F
  rename News _ _ _ _ => N
  rename IntsAre _ _ => hI
  rename Heap.IsList _ _ _ => hl
  rename Frag.In _ _ => X
  rename Top _ _ _ _ _ _ => T
  rename CodeHd _ _ _ => C
  rename List Int => ns
  rename List Value => sv
  rename ¬ (_ : Int) < _ => h63
  have hn63 : ns.length ≤ 63 := by omega
  have F1 := frTo F (mOf_lookup _)
  clear F G Y TE TW B V hD hT8
  have hgP : (ghostOf s₁.heap [(66, 62)]).get? 62 = none := hideAll_none _ (.head _)
  k_steps
  rename Fr _ _ _ _ => F2
  rename News _ _ _ _ => N2
  refine Halt.go (pieces_call (ns := ns) (X.keeps F2.keep) (T.keeps F2.keep) rfl (by show 1 + claimMargin + 1 + 2 < recursionLimit; decide +kernel) (by show 4 + 3 + 200 < cLine; decide) ⟨sv, hl.at fun o e => F2.keep _ o e, hI⟩ (by omega) fun b s2 K2 hP2 => ?_)
  have F3 := K2.fr F2
  have N3 := K2.news N2
  clear F2 N2
  k_steps
  rename Fr _ _ _ _ => F4
  rename News _ _ _ _ => N4
  have hpb : b ≠ 62 := fun e => by
    obtain ⟨vs', ⟨o', e1, e2, _⟩, _⟩ := hP2
    have e3 := (N3 _ (.head _)).1
    rw [e, e3] at e1; cases e1; cases e2
  have hpn : (piecesOf ns).length ≤ 15 := by simp only [piecesOf, List.length_append, List.length_map, List.length_take, List.length_cons, List.length_nil]; omega
  have hpl : ∀ c ∈ piecesOf ns, c.length ≤ 10 := fun c hc => by
    have := okP_pieces ns c hc
    cases this <;> simp
  rename ∀ b o, b ≠ s₁.heap.objs.size → _ → _ => hkL
  have hbL : b ≠ s₁.heap.objs.size := fun e => by
    obtain ⟨vs', ⟨o', e1, e2, n', e3⟩, _⟩ := hP2
    obtain ⟨oL, es, ep, f1, f2, _⟩ := F3.ns
    rw [e, f1] at e1; cases e1; rw [f2] at e3; cases e3
  have hP4 : TextList _ b (piecesOf ns) := let ⟨vs', ⟨o', e1, r⟩, t⟩ := hP2; ⟨vs', ⟨o', hkL b o' hbL e1, r⟩, t⟩
  refine Halt.go (mates_call X T C F4.keep hgP (N4 _ (.head _)).1 rfl (by show 1 + claimMargin + 1 + 10 < recursionLimit; decide +kernel) (by show 4 + 3 + 500 < cLine; decide) hP4 (by omega) hpl fun m s5 K5 hT5 hM5 => ?_)
  obtain ⟨tab, hT5⟩ := hT5
  have hgk : ∀ b o, (ghostOf s₁.heap [(66, 62)]).get? b = some o → s5.heap.get? b = some o := fun b o e => K5.heap b o (fun q => by rw [q, hgP] at e; cases e) (F4.keep b o e)
  have hLP : s₁.heap.objs.size ≠ 62 := (N4 _ (.head _)).2.1.symm
  have F5 : Fr (ghostOf s₁.heap [(66, 62)]) s₁.heap.objs.size s5.heap _ := ⟨F4.ns.at' fun o e => K5.heap _ o hLP e, hgk, F4.above⟩
  have N5 : News (ghostOf s₁.heap [(66, 62)]) s₁.heap.objs.size s5.heap [(62, tabObj tab)] := fun q hq => by
    rw [List.mem_singleton.mp hq]
    exact ⟨hT5, (N4 _ (.head _)).2⟩
  have hP5 : TextList s5.heap b (piecesOf ns) := let ⟨vs', ⟨o', e1, r⟩, t⟩ := hP4; ⟨vs', ⟨o', K5.heap b o' hpb e1, r⟩, t⟩
  have hml : (matesOf (piecesOf ns)).length ≤ 15 := Nat.le_trans (mates_len _ _) hpn
  clear F4 N4 F3 N3
  k_steps
  refine Halt.go (rows_call (X.keeps F5.keep) (T.keeps F5.keep) rfl (by show 1 + claimMargin + 1 + 2 < recursionLimit; decide +kernel) (by show 4 + 3 + 200 < cLine; decide) hM5 (by omega) fun r s6 K6 hR6 => ?_)
  have F6 := K6.fr F5
  have N6 := K6.news N5
  have hP6 := hP5.keep K6.heap
  k_steps
  refine Halt.go (due_call (X.keeps F6.keep) (T.keeps F6.keep) rfl (by show 1 + claimMargin + 1 + 2 < recursionLimit; decide +kernel) (by show 4 + 3 + 200 < cLine; decide) hP6 (by omega) fun d s7 K7 hD7 => ?_)
  have F7 := K7.fr F6
  have N7 := K7.news N6
  k_steps
  refine Halt.go (eq_rows (hR6.keep K7.heap) hD7 (by show 4 + 3 + 64 < cLine; decide) ?_)
  rw [plain02 ns]
  k_steps
  · rw [decide_eq_true rfl]
  · exact K7.os.trans (K6.os.trans (K5.os.trans K2.os))
  · exact K2.gens.trans (K5.gens.trans (K6.gens.trans K7.gens)))
end
end Mine
end
theorem PySem.Challenge.cw_pg0117_02_holds : PySem.Challenge.rw_pg0117_02.Holds :=
  Mine.law02
