import PyProof.Rows.All
import Wide.All
import OpenK.AllK
import Wide.FinOn
import PySem.Challenge.RW_pg0117_01
section
open PySem PySem.W PyProof.Rows
set_option Elab.async false
set_option maxRecDepth 100000
set_option maxHeartbeats 8000000
namespace Mine
open_top hd for PySem.Challenge.rw_pg0117_01
end Mine
end
section
open PySem PySem.W PySem.W.X PyProof.Rows
set_option Elab.async false
set_option maxRecDepth 100000
namespace Mine
open PySem

section seg
variable {prog : Program} {w : World} {A : Around} {c : Code} {fs : List Frame} {P : End → Shared → Prop} {s : Shared} {env : Env}
  {K : Flow → Sem Fin} {H : Value → Sem Fin} {gd : Bool → Bool} {lv : List Value → List Value}

theorem sx_wrap {α : Type} {m : Sem α} {K : α → Sem Fin} {H : Value → Sem Fin} {gd lv}
    (h : wpAny (model prog w) (A.over c fs) m (fun a s' => SegX (model prog w) A c (K a) fs s' P) (fun x s' => SegX (model prog w) A c (H x) fs s' P) s) :
    SegX (model prog w) A c (m.wrap K H gd lv) fs s P := by
  rintro Γ p rfl hΓ
  exact runs_wrap_of_wp (Φ := fun e s' => e.quiet = true ∧ P e s') K H gd lv m (h (Γ.over fs) p (hΓ.over fs)) (fun a p' s' h' => h' Γ p' rfl hΓ) (fun x p' s' h' => h' Γ p' rfl hΓ)

theorem sx_bind {α β : Type} {m : Sem α} {K : α → Sem β} {K' : β → Sem Fin} {H' : Value → Sem Fin} {gd lv}
    (h : wpAny (model prog w) (A.over c fs) m (fun a s' => SegX (model prog w) A c ((K a).wrap K' H' gd lv) fs s' P) (fun x s' => SegX (model prog w) A c (H' x) fs s' P) s) :
    SegX (model prog w) A c ((m >>= K).wrap K' H' gd lv) fs s P := by
  rw [Sem.bind_eq_wrap', Sem.wrap_wrap]; exact sx_wrap h

theorem sx_at {p' : Pos} {k : Unit → Sem Fin} (h : SegX (model prog w) A c (k ()) fs s P) : SegX (model prog w) A c (.at p' k) fs s P :=
  sx_wrap (m := standAt p') (K := k) (H := .raise) (gd := id) (lv := id) (wpAny_standAt h)
theorem sx_point {l : List Value} {k : Unit → Sem Fin} (h : SegX (model prog w) A c (k ()) fs s P) : SegX (model prog w) A c (.point l k) fs s P :=
  sx_wrap (m := point) (K := k) (H := .raise) (gd := id) (lv := fun _ => l) (wpAny_point h)

theorem sx_execs_nil (h : SegX (model prog w) A c (K .next) fs s P) : SegX (model prog w) A c ((execs [] env).wrap K H gd lv) fs s P := h
theorem sx_execs_cons {st : Stmt} {rest : List Stmt}
    (h : SegX (model prog w) A c ((exec st env).wrap (fun f => match f with | .next => (execs rest env).wrap K H gd lv | f => K f) H gd lv) fs s P) :
    SegX (model prog w) A c ((execs (st :: rest) env).wrap K H gd lv) fs s P := by rw [execs_cons_wrap]; exact h

theorem sx_If {test : Expr} {body orelse : List Stmt} {pos : Pos}
    (h : wpAny (model prog w) (A.over c fs) (isTrue test env (eval test env)) (fun b s' => SegX (model prog w) A c ((execs (if b = true then body else orelse) env).wrap K H gd lv) fs s' P) (fun _ _ => False) s) :
    SegX (model prog w) A c ((exec (.If test body orelse pos) env).wrap K H gd lv) fs s P := by
  rw [exec_If]
  refine sx_bind (wpAny_standAt ?_)
  refine sx_bind (wpAny_mono h (fun b s' hb => ?_) fun _ _ x => x.elim)
  cases b <;> exact hb

theorem sx_Yield {e : Expr} {ypos pos : Pos} (hfs : splitAtGen fs = none) (hgd : gd false = false) (hfg : fs.any Frame.guarded = false)
    (h : wpAny (model prog w) (A.over c fs) (eval e env) (fun v s' => ∀ (l : List Value) (k : Resume → Sem Fin) (p : Pos),
        k (.send .none) = K .next →
        P (.susp v false l k c p fs) s')
      (fun _ _ => False) s) (hco : env.scope.isCoroutine = false := by rfl) (hi : interactive env = false := by rfl) :
    SegX (model prog w) A c ((exec (.Expr (.Yield (some e) ypos) pos) env).wrap K H gd lv) fs s P := by
  rw [exec_Expr env _ pos hi rfl]
  show SegX (model prog w) A c (.at pos fun _ => ((eval e env >>= fun v => (standAt ypos >>= fun _ => yieldOut env v)) >>= fun x =>
    dropValue (.Yield (some e) ypos) pos x).wrap K H gd lv) fs s P
  have hy : ∀ v, yieldOut env v = yieldValue v := fun v => by simp only [yieldOut, hco, Bool.false_eq_true, if_false]
  simp only [hy]
  refine sx_at ?_
  rw [Sem.bind_eq_wrap', Sem.bind_eq_wrap', Sem.wrap_wrap, Sem.wrap_wrap]
  refine sx_wrap (wpAny_mono h (fun v s' h' => ?_) fun _ _ x => x.elim)
  refine sx_at ?_
  rintro Γ p rfl _
  refine ⟨_, s', Runs.yield' fs hfs, ?_, ?_⟩
  · simp [End.quiet, hgd, hfg]
  · have e1 : gd (id false) = false := hgd
    show P (End.susp v (gd (id false)) _ _ Γ.code p fs) s'
    rw [e1]
    exact h' _ _ p rfl

theorem sx_For {target iter : Expr} {body orelse : List Stmt} {pos : Pos}
    (h : wpAny (model prog w) (A.over c fs) (eval iter env) (fun x s₁ => wpAny (model prog w) (A.over c fs) (pyIter x) (fun it s₂ =>
      ∀ p, SegX (model prog w) A (.forLoop target it body orelse env) ((model prog w).den (.forLoop target it body orelse env))
      (.ret (fun r => ((match r with | .ok f => (.pure f : Sem Flow) | .error e => .raise e).onRaise fun (x : Value) => do
        if (← field x 1) == Value.none then unsupported "frame.own-activation:exception-without-traceback"
        setFlight x env.frame).wrap K H gd lv) none (gd false) (lv []) c p [] :: fs) s₂ P) (fun _ _ => False) s₁) (fun _ _ => False) s)
    (hs : ∀ x, foldedSetIterable iter env x = pure x := by intro _; rfl) :
    SegX (model prog w) A c ((exec (.For target iter body orelse pos) env).wrap K H gd lv) fs s P := by
  rw [exec_For]
  refine sx_bind (wpAny_standAt ?_)
  refine sx_bind (wpAny_mono h (fun x s₁ h₁ => ?_) fun _ _ x => x.elim)
  refine sx_bind (wpAny_of_eq (hs x) ?_)
  refine sx_bind (wpAny_standAt ?_)
  refine sx_bind (wpAny_holding (wpAny_mono h₁ (fun it s₂ h₂ => ?_) fun _ _ x => x.elim))
  exact s_call prog w A c fs P s₂ _ none (gd false) (lv []) _ h₂

theorem sx_forTurn {target : Expr} {it : Value} {body orelse : List Stmt}
    (h : wpAny (model prog w) (A.over (.forLoop target it body orelse env) fs) (pyNext it) (fun r s₁ => match r with
      | none => SegX (model prog w) A (.block orelse env) ((model prog w).den (.block orelse env)) fs s₁ P
      | some v => wpAny (model prog w) (A.over (.forLoop target it body orelse env) fs) (letOwnedTupleGo target it v) (fun _ s₂ =>
          wpAny (model prog w) (A.over (.forLoop target it body orelse env) fs) (assign target env v) (fun _ s₃ =>
          SegX (model prog w) A (.forLoop target it body orelse env) ((execs body env).wrap (fun f => match f with
            | .next | .cont => .pure (.again (.forLoop target it body orelse env))
            | .brk => .pure (.done .next)
            | .ret v => .pure (.done (.ret v))) (fun e => (do noteFrame e env; theTreesLotGoes e : Sem Unit).wrap (fun _ => .raise e) .raise id id) id id) fs s₃ P) (fun _ _ => False) s₂) (fun _ _ => False) s₁) (fun _ _ => False) s) :
    SegX (model prog w) A (.forLoop target it body orelse env) ((model prog w).den (.forLoop target it body orelse env)) fs s P := by
  show SegX _ A _ ((forTurn target it body orelse env).onRaise (fun x => do noteFrame x env; theTreesLotGoes x)) fs s P
  unfold forTurn
  rw [Sem.onRaise_eq_wrap]
  refine sx_bind (wpAny_standAt ?_)
  refine sx_bind (wpAny_onRaise (wpAny_mono h (fun r s₁ h₁ => ?_) fun _ _ x => x.elim))
  cases r with
  | none => exact s_again prog w A _ fs P s₁ _ rfl h₁
  | some v =>
    refine sx_bind (wpAny_mono h₁ (fun _ s₂ h₂ => ?_) fun _ _ x => x.elim)
    refine sx_bind (wpAny_mono h₂ (fun _ s₃ h₃ => ?_) fun _ _ x => x.elim)
    rw [Sem.bind_eq_wrap', Sem.wrap_wrap]
    rw [Sem.wrap_congr (execs body env) _ _ (K' := fun f => match f with
            | .next | .cont => .pure (.again (.forLoop target it body orelse env))
            | .brk => .pure (.done .next)
            | .ret v => .pure (.done (.ret v))) (H' := (fun e => (do noteFrame e env; theTreesLotGoes e : Sem Unit).wrap (fun _ => .raise e) .raise id id))
        (fun f => by cases f <;> rfl)
        (fun e => by first | exact Sem.bind_eq_wrap _ _ | (show (do noteFrame e env; theTreesLotGoes e : Sem Unit).bind (fun _ => .raise e) = _; rw [Sem.bind_eq_wrap]))]
    exact h₃

theorem sx_block_nil (hk : SegX (model prog w) A c (K .next) fs s P) {p : Pos} {gg ll kp} :
    SegX (model prog w) A (.block [] env) ((model prog w).den (.block [] env)) (.ret (fun r => ((match r with | .ok f => (.pure f : Sem Flow) | .error e => .raise e).onRaise fun (x : Value) => do
        if (← field x 1) == Value.none then unsupported "frame.own-activation:exception-without-traceback"
        setFlight x env.frame).wrap K H gd lv) none gg ll c p kp :: fs) s P :=
  s_pop prog w A _ fs P s (.ok .next) _ rfl _ none gg ll c p kp hk

theorem sx_func {body : List Stmt}
    (h : SegX (model prog w) A (.func body env) ((execs body env).wrap (fun f => .pure (.done (.ret (match f with | .ret v => v | _ => .none))))
      (fun e => (leaving env e).wrap (fun _ => .raise e) .raise id id) id id) fs s P) :
    SegX (model prog w) A (.func body env) ((model prog w).den (.func body env)) fs s P := by
  show SegX _ A _ (.point [] fun _ => ((execs body env).onRaise (leaving env)) >>= _) fs s P
  refine sx_point ?_
  rw [Sem.onRaise_eq_wrap, Sem.bind_eq_wrap', Sem.wrap_wrap]
  rw [Sem.wrap_congr (execs body env) _ _ (K' := fun f => .pure (.done (.ret (match f with | .ret v => v | _ => .none))))
    (H' := fun e => (leaving env e).wrap (fun _ => .raise e) .raise id id) (fun f => by cases f <;> rfl)
    (fun e => by rw [Sem.bind_eq_wrap, Sem.wrap_wrap]; rfl)]
  exact h
end seg
end Mine
end
section
open PySem PySem.W PySem.W.X PyProof.Rows
set_option Elab.async false
set_option maxRecDepth 100000
namespace Mine
open PySem

/-- what a generator of pairs (an int, a text) yields: the int, the text's codes -/
abbrev Item := Nat × List Nat
abbrev tupObj (vs : List Value) : Obj := { cls := .type "tuple", data := .seq vs.toArray }
def Owned (own : List (Addr × Obj)) (h : Heap) : Prop := ∀ p ∈ own, h.get? p.1 = some p.2
def BaseIn (base h : Heap) : Prop := ∀ b o, base.get? b = some o → h.get? b = some o

/-- what one waking of a generator changes -/
structure Woke (own : List (Addr × Obj)) (s s' : Shared) : Prop where
  heap : ∀ b o, (∀ p ∈ own, p.1 ≠ b) → s.heap.get? b = some o → s'.heap.get? b = some o
  os : s'.os = s.os

def Starts (prog : Program) (w : World) (A : Around) (gs : GenState) (s : Shared) (P : End → Shared → Prop) : Prop :=
  match gs with
  | .fresh c => SegX (model prog w) A c ((model prog w).den c) [] s P
  | .suspended k _ c _ fs _ => SegX (model prog w) A c (k (.send .none)) fs s P
  | _ => False

structure Yielded (own : List (Addr × Obj)) (it : Item) (s s' : Shared) (T : Addr) (own' : List (Addr × Obj)) : Prop where
  tup : ∃ t u, s'.heap.get? T = some (tupObj [.int it.1 t, .str ⟨it.2.toArray⟩ u])
  new : s.heap.get? T = none
  apart : ∀ p ∈ own', p.1 ≠ T
  woke : Woke own s s'
  owned : Owned own' s'.heap
  from' : ∀ p ∈ own', (∃ q ∈ own, q.1 = p.1) ∨ s.heap.get? p.1 = none

def GenP (prog : Program) (w : World) (base : Heap) : List Item → List (Addr × Obj) → GenState → Prop
  | [], own, gs => ∀ (A : Around) (s : Shared), A.handled = none → BaseIn base s.heap → Owned own s.heap → Starts prog w A gs s (fun e s' => e = .ret (.ok (.ret .none)) ∧ s'.gens = s.gens ∧ Woke own s s')
  | it :: rest, own, gs => ∀ (A : Around) (s : Shared), A.handled = none → BaseIn base s.heap → Owned own s.heap →
      Starts prog w A gs s (fun e s' => ∃ T own', e.result = .yielded (.ref T) ∧ s'.gens = s.gens ∧ Yielded own it s s' T own' ∧ GenP prog w base rest own' e.genState)

section
variable {prog : Program} {w : World} {A : Around} {E : Value → Shared → Prop} {s : Shared} {base : Heap} {own : List (Addr × Obj)} {a : Addr} {g : Nat} {gs : GenState}

theorem wake_starts {α : Type} {Q : α → Shared → Prop} {l : List Value} {k : GenResult → Sem α} (hg : s.gens[g]? = some gs) {P : End → Shared → Prop} (h : Starts prog w A gs (s.setGen g .running) P)
    (hP : ∀ e s₁, e.quiet = true → P e s₁ → wpAny (model prog w) A (k e.result) Q E (s₁.setGen g e.genState)) :
    wpAny (model prog w) A (.resume g (.send .none) l k) Q E s := by
  have key : ∀ {c₀ : Code} {t₀ : Sem Fin} {fs₀ : List Frame}, SegX (model prog w) A c₀ t₀ fs₀ (s.setGen g .running) P → SegX (model prog w) A c₀ t₀ fs₀ (s.setGen g .running) (fun e s₁ => ∀ Γ p, Γ.In A → Sem.wp (model prog w) Γ (k e.result) (fun a _ s' => Q a s') (fun e _ s' => E e s') p (s₁.setGen g e.genState)) := by
    intro c₀ t₀ fs₀ x Γ p hc hΓ
    obtain ⟨e, s', hr, hq, hp⟩ := x Γ p hc hΓ
    exact ⟨e, s', hr, hq, hP e s' hq hp⟩
  cases gs with
  | fresh c => exact wake_any α prog w hg (.inl ⟨rfl, rfl, rfl, rfl⟩) (fun Γ => Γ.In A) (fun _ h => h) (key h)
  | suspended k₀ l₀ c₀ p₀ fs₀ cl => exact wake_any α prog w hg (.inr ⟨k₀, l₀, p₀, cl, rfl, rfl⟩) (fun Γ => Γ.In A) (fun _ h => h) (key h)
  | running => exact h.elim
  | finished => exact h.elim

theorem next_gen {P : End → Shared → Prop} {Q : Option Value → Shared → Prop} (hh : A.handled = none) (hl : s.heap.NoLimit) (hroom : A.depth < recursionLimit) (hg : s.heap.IsGen a g) (hgs : s.gens[g]? = some gs)
    (h : Starts prog w A.in1 gs (s.setGen g .running) P)
    (hP : ∀ e s₁, e.quiet = true → P e s₁ → (∃ v, e.result = .yielded v ∧ Q (some v) (s₁.setGen g e.genState)) ∨ (e = .ret (.ok (.ret .none)) ∧ ∀ h', (∀ b o, s₁.heap.get? b = some o → h'.get? b = some o) → Q none { s₁.setGen g .finished with heap := h' })) :
    wpAny (model prog w) A (pyNext (.ref a)) Q E s := by
  unfold pyNext
  refine wpAny_bind (wpAny_attempt (wpAny_callSpecial?_slot (name := Str.ofString "__next__") hg.typeIs slot_gen_next
    (wpAny_call_entry slot_gen_next hg.typeIs entry_gen_next ?_ (args_gen_next _))))
  show wpAny _ _ (Builtin.Generator.genWake (.ref a) (.send .none)) _ _ s
  unfold Builtin.Generator.genWake
  refine wpAny_bind (wpAny_holding (wpAny_genNumber hg (wpAny_bind (wpAny_genState hgs ?_))))
  cases gs with
  | running => exact h.elim
  | finished => exact h.elim
  | _ =>
    refine wpAny_bind (wpAny_roomToWake hl hroom ?_)
    show wpAny _ A.in1 (.resume g (.send .none) [] _) _ _ s
    refine wake_starts hgs h (fun e s₁ hq hp => ?_)
    rcases hP e s₁ hq hp with ⟨v, hv, hQ⟩ | ⟨rfl, hQ⟩
    · rw [hv]
      exact wpAny_pure ⟨v, rfl, wpAny_pure hQ⟩
    · show wpAny _ A.in1 (newExc (.type "StopIteration") [] >>= _) _ _ _
      refine wpAny_bind ?_
      simp only [newExc, newTuple]
      refine wpAny_bind (wpAny_newObj_type ?_ (by size_fits))
      refine wpAny_bind (m := firstArgMember _ _) (wpAny_of_eq (a := Value.none) (by first | rfl | (simp only [firstArgMember]; rfl)) ?_)
      refine wpAny_newObj_type ?_ (by size_fits)
      simp only [raiseNew]
      refine wpAny_bind (wpAny_bind (wpAny_handled ?_))
      rw [show A.in1.handled = none from hh]
      refine wpAny_throw ?_
      refine wpAny_bind (wpAny_isInstance (T := "StopIteration") (b := true) ⟨_, Heap.get?_push_size _ rfl, rfl⟩ isSubtype_stop ?_)
      exact wpAny_pure (hQ _ fun b o hb => Heap.get?_push_of_some _ (Heap.get?_push_of_some _ hb))

/-- the state of an iterator of this kind in the consumer's hands -/
structure Itr (prog : Program) (w : World) (base : Heap) (a : Addr) (g : Nat) (items : List Item) (own : List (Addr × Obj)) (s : Shared) : Prop where
  gen : s.heap.IsGen a g
  off : ∀ p ∈ own, p.1 ≠ a
  owned : Owned own s.heap
  live : ∃ gs, s.gens[g]? = some gs ∧ GenP prog w base items own gs

theorem Itr.keep {a : Addr} {g : Nat} {items : List Item} (I : Itr prog w base a g items own s) {s' : Shared} (hk : ∀ b o, (b = a ∨ ∃ p ∈ own, p.1 = b) → s.heap.get? b = some o → s'.heap.get? b = some o) (hg : s'.gens[g]? = s.gens[g]?) : Itr prog w base a g items own s' :=
  ⟨let ⟨o, nm, qn, ho, r⟩ := I.gen; ⟨o, nm, qn, hk _ _ (.inl rfl) ho, r⟩, I.off, fun p hp => hk _ _ (.inr ⟨p, hp, rfl⟩) (I.owned p hp), hg ▸ I.live⟩

theorem Itr.next {it : Item} {rest : List Item} {Q : Option Value → Shared → Prop} (I : Itr prog w base a g (it :: rest) own s) (hh : A.handled = none) (hl : s.heap.NoLimit) (hroom : A.depth < recursionLimit) (hb : BaseIn base s.heap)
    (hQ : ∀ T own' s', Yielded own it s s' T own' → T ≠ a → Itr prog w base a g rest own' s' → GenOnlyQ g s.gens s'.gens → s'.os = s.os → Q (some (.ref T)) s') :
    wpAny (model prog w) A (pyNext (.ref a)) Q E s := by
  obtain ⟨hg, hoff, ho, gs, hgs, hG⟩ := I
  refine next_gen hh hl hroom hg hgs (hG A.in1 (s.setGen g .running) hh hb ho) fun e s₁ hq hp => .inl ?_
  obtain ⟨T, own', hr, hgn, hy, hG'⟩ := hp
  refine ⟨_, hr, ?_⟩
  obtain ⟨tup, new, apart, woke, owned, from'⟩ := hy
  obtain ⟨oa, ha⟩ : ∃ o, s.heap.get? a = some o := by obtain ⟨o, _, _, h1, _⟩ := hg; exact ⟨o, h1⟩
  have hTa : T ≠ a := fun q => by
    have h1 : s.heap.get? T = none := new
    rw [q, ha] at h1; cases h1
  have hgen : s₁.heap.IsGen a g := let ⟨o, nm, qn, ho', r⟩ := hg; ⟨o, nm, qn, woke.heap a o hoff ho', r⟩
  have hself : (s₁.setGen g e.genState).gens[g]? = some e.genState := by
    refine setGen_self (gs := .running) ?_
    rw [hgn]; exact setGen_self hgs
  refine hQ T own' _ ⟨tup, new, apart, ⟨woke.heap, woke.os⟩, owned, from'⟩ hTa ⟨hgen, ?_, owned, e.genState, hself, hG'⟩ ?_ woke.os
  · intro p hp q
    rcases from' p hp with ⟨q', hq', e'⟩ | h1
    · exact hoff q' hq' (e'.trans q)
    · have h1 : s.heap.get? p.1 = none := h1
      rw [q, ha] at h1; cases h1
  · refine GenOnlyQ.of (y := e.genState) ?_ hself (End.bare_of_quiet hq)
    have h1 := GenOnly.setGen s g .running
    have h2 := GenOnly.setGen s₁ g e.genState
    rw [hgn] at h2
    exact h1.trans h2

theorem Itr.done {Q : Option Value → Shared → Prop} (I : Itr prog w base a g [] own s) (hh : A.handled = none) (hl : s.heap.NoLimit) (hroom : A.depth < recursionLimit) (hb : BaseIn base s.heap)
    (hQ : ∀ s', Woke own s s' → GenOnlyQ g s.gens s'.gens → s'.os = s.os → Q none s') :
    wpAny (model prog w) A (pyNext (.ref a)) Q E s := by
  obtain ⟨hg, hoff, ho, gs, hgs, hG⟩ := I
  refine next_gen hh hl hroom hg hgs (hG A.in1 (s.setGen g .running) hh hb ho) fun e s₁ hq hp => .inr ?_
  obtain ⟨rfl, hgn, woke⟩ := hp
  refine ⟨rfl, fun h' hk => hQ _ ⟨fun b o hb' e => hk b o (woke.heap b o hb' e), woke.os⟩ ?_ woke.os⟩
  have hself : (s₁.setGen g .finished).gens[g]? = some .finished := by
    refine setGen_self (gs := .running) ?_
    rw [hgn]; exact setGen_self hgs
  refine GenOnlyQ.of (y := .finished) ?_ hself rfl
  have h1 := GenOnly.setGen s g .running
  have h2 := GenOnly.setGen s₁ g .finished
  rw [hgn] at h2
  exact h1.trans h2
end
end Mine
end
section
open PySem PySem.W PySem.W.X PyProof.Rows
set_option Elab.async false
set_option maxRecDepth 100000
namespace Mine
open PySem

/-- what the generator of escaped signs yields of the codes r, from place i on, e: the sign ahead was a backslash -/
def escGo : Bool → Nat → List Nat → List Item
  | false, _, [] => []
  | true, i, [] => [(i - 1, [92])]
  | true, i, c :: r => (i, [92, c]) :: escGo false (i + 1) r
  | false, i, c :: r => if c = 92 then escGo true (i + 1) r else (i, [c]) :: escGo false (i + 1) r
def escs (x : Str) : List Item := escGo false 0 x.cps.toList

def EndP (prog : Program) (w : World) (base : Heap) (items : List Item) (own : List (Addr × Obj)) (s : Shared) : End → Shared → Prop := match items with
  | [] => fun e s' => e = .ret (.ok (.ret .none)) ∧ s'.gens = s.gens ∧ Woke own s s'
  | it :: rest => fun e s' => ∃ T own', e.result = .yielded (.ref T) ∧ s'.gens = s.gens ∧ Yielded own it s s' T own' ∧ GenP prog w base rest own' e.genState
theorem genP_iff {prog : Program} {w : World} {base : Heap} {items : List Item} {own : List (Addr × Obj)} {gs : GenState} :
    GenP prog w base items own gs ↔ ∀ (A : Around) (s : Shared), A.handled = none → BaseIn base s.heap → Owned own s.heap → Starts prog w A gs s (EndP prog w base items own s) := by
  cases items <;> (rw [GenP]; exact Iff.rfl)

theorem sx_induct {prog : Program} {w : World} {c : Code} {fs : List Frame} (I : Nat → Around → Shared → (End → Shared → Prop) → Prop)
    (step : ∀ k, (∀ k' < k, ∀ A s P, I k' A s P → SegX (model prog w) A c ((model prog w).den c) fs s P) → ∀ A s P, I k A s P → SegX (model prog w) A c ((model prog w).den c) fs s P) :
    ∀ k A s P, I k A s P → SegX (model prog w) A c ((model prog w).den c) fs s P := by
  intro k
  induction k using Nat.strongRecOn with
  | ind k ih => exact step k ih

/-- a frame's names as a list -/
def mOf : List (Str × Option Value) → Str → Option Value
  | [], _ => none
  | (k, v) :: r, y => if y = k then v else mOf r y
def setL (k : Str) (v : Option Value) : List (Str × Option Value) → List (Str × Option Value)
  | [] => [(k, v)]
  | (k', v') :: r => if k = k' then (k', v) :: r else (k', v') :: setL k v r
theorem mOf_setL (k : Str) (v : Option Value) : ∀ (l : List (Str × Option Value)) (y : Str), (if y = k then v else mOf l y) = mOf (setL k v l) y
  | [], y => rfl
  | (k', v') :: r, y => by
    by_cases h : k = k'
    · subst h
      by_cases h2 : y = k <;> simp [mOf, setL, h2]
    · have ih := mOf_setL k v r y
      by_cases h2 : y = k
      · subst h2
        have e : setL y v ((k', v') :: r) = (k', v') :: setL y v r := by simp [setL, h]
        rw [e]
        simp only [mOf, if_neg h, if_true] at ih ⊢
        exact ih
      · have e : setL k v ((k', v') :: r) = (k', v') :: setL k v r := by simp [setL, h]
        rw [e, if_neg h2]
        rw [if_neg h2] at ih
        simp only [mOf, ih]
theorem mOf_set (k : Str) (v : Option Value) (l : List (Str × Option Value)) : (fun y => if y = k then v else mOf l y) = mOf (setL k v l) := funext (mOf_setL k v l)
theorem mOf_none (k : Str) : ∀ l : List (Str × Option Value), mOf (l ++ [(k, none)]) = mOf l
  | [] => by funext y; by_cases h : y = k <;> simp [mOf, h]
  | (k', v) :: r => by funext y; have ih := congrFun (mOf_none k r) y; simp only [List.cons_append, mOf, ih]
theorem mOf_lookup (l : List (Str × Value)) : (fun y => l.lookup y) = mOf (l.map fun p => (p.1, some p.2)) := by
  funext y
  induction l with
  | nil => rfl
  | cons p r ih =>
    obtain ⟨k, v⟩ := p
    by_cases h : y = k
    · subst h; simp [mOf]
    · have e : (y == k) = false := by simpa using h
      simp only [List.lookup_cons, e, List.map_cons, mOf, if_neg h]; exact ih
theorem frTo {h₀ h : Heap} {L : Addr} {m m' : Str → Option Value} (F : Fr h₀ L h m) (e : m = m') : Fr h₀ L h m' := e ▸ F
/-- the generator's locals -/
abbrev gm (x : Str) (t : Tok) (pv : Int) (tp : Tok) (esc : Bool) (ch : Option Value) : Str → Option Value :=
  mOf [("addr", some (.str x t)), ("pos", some (.int pv tp)), ("escape", some (.bool esc)), ("ch", ch)]
example {x : Str} {t : Tok} {pv pv' : Int} {tp tp' : Tok} {esc : Bool} {ch : Option Value} : (fun y : Str => if y = "pos" then some (.int pv' tp') else gm x t pv tp esc ch y) = gm x t pv' tp' esc ch := by
  rw [mOf_set]; rfl
end Mine
end
section
open PySem PySem.W PySem.W.X PyProof.Rows
set_option Elab.async false
set_option maxRecDepth 100000
namespace Mine
open PySem

def Wr (own : List (Addr × Obj)) (hs : Heap) (b : Addr) : Prop := (∃ p ∈ own, p.1 = b) ∨ hs.get? b = none
structure Moving (own : List (Addr × Obj)) (hs h : Heap) : Prop where
  keep : ∀ b o, (∀ p ∈ own, p.1 ≠ b) → hs.get? b = some o → h.get? b = some o
theorem Moving.refl (own : List (Addr × Obj)) (h : Heap) : Moving own h h := ⟨fun _ _ _ e => e⟩
theorem Moving.but {own : List (Addr × Obj)} {hs h h' : Heap} (M : Moving own hs h) (W : Addr → Prop) (hW : ∀ b, W b → Wr own hs b) (hk : ∀ b o, ¬ W b → h.get? b = some o → h'.get? b = some o) : Moving own hs h' :=
  ⟨fun b o hb e => hk b o (fun hw => by
    rcases hW b hw with ⟨p, hp, q⟩ | h1
    · exact hb p hp q
    · rw [e] at h1; cases h1) (M.keep b o hb e)⟩
theorem Moving.same {own : List (Addr × Obj)} {hs h h' : Heap} {L : Addr} (M : Moving own hs h) (hL : Wr own hs L) (hk : Heap.SameBut L h h') : Moving own hs h' :=
  M.but (fun b => b = L) (fun _ e => e ▸ hL) (fun b o hb e => hk.extBut b o hb e)
theorem Moving.keeps {own : List (Addr × Obj)} {hs h h' : Heap} (M : Moving own hs h) (hk : ∀ b o, h.get? b = some o → h'.get? b = some o) : Moving own hs h' :=
  M.but (fun _ => False) (fun _ e => e.elim) (fun b o _ e => hk b o e)
theorem Moving.push {own : List (Addr × Obj)} {hs h : Heap} (M : Moving own hs h) (o : Obj) : Moving own hs (h.push o) := M.keeps fun _ _ e => Heap.get?_push_of_some _ e
theorem Moving.woke {own : List (Addr × Obj)} {s s' : Shared} (M : Moving own s.heap s'.heap) (ho : s'.os = s.os) : Woke own s s' := ⟨M.keep, ho⟩
/-- what lies beyond the heap at hand is new, if what is owned lies in it -/
theorem Moving.fresh {own : List (Addr × Obj)} {hs h : Heap} (M : Moving own hs h) (ho : ∀ p ∈ own, p.1 < h.objs.size) {b : Addr} (hb : h.objs.size ≤ b) : hs.get? b = none := by
  cases e : hs.get? b with
  | none => rfl
  | some o =>
    have := Heap.lt_size (M.keep b o (fun p hp q => absurd (ho p hp) (by rw [q]; exact Nat.not_lt.mpr hb)) e)
    exact absurd this (Nat.not_lt.mpr hb)

section
variable {M : Model} {A : Around} {E : Value → Shared → Prop} {s : Shared} {name : Str} {scope : Scope} {L a : Addr} {cd : Value} {h₀ hs : Heap} {m : Str → Option Value} {news own : List (Addr × Obj)}
theorem stM {x : Str} {v : Value} {l : List (Str × Option Value)} {Q : Unit → Shared → Prop} (F : Fr h₀ L s.heap (mOf l)) (N : News h₀ L s.heap news) (Mv : Moving own hs s.heap) (hL : Wr own hs L)
    (h : ∀ h', Fr h₀ L h' (mOf (setL x (some v) l)) → News h₀ L h' news → Moving own hs h' → Q () { s with heap := h', toks := s.toks + 1 })
    (hk : scope.kind = .function := by rfl) (hl : (envOf name scope L a cd).kindOf x = some .local := by rfl) :
    wpAny M A (storeName (envOf name scope L a cd) x v) Q E s :=
  wpAny_storeName_local hl F.ns (fun h' hn hs => h h' (frTo (F.set hn hs) (mOf_set x (some v) l)) (N.set hs) (Mv.same hL hs))
    (by show (scope.kind == .class || (scope.kind == .module && L != mainGlobals)) = false; rw [hk]; rfl)
theorem newTupleM {vs : List Value} {Q : Value → Shared → Prop} (F : Fr h₀ L s.heap m) (N : News h₀ L s.heap news) (Mv : Moving own hs s.heap)
    (h : ∀ h', Fr h₀ L h' m → News h₀ L h' ((s.heap.objs.size, tupObj vs) :: news) → Moving own hs h' → h'.objs.size = s.heap.objs.size + 1 → Q (.ref s.heap.objs.size) { s with heap := h' }) (hsz : vs.length ≤ sizeLine := by size_fits) :
    wpAny M A (newTuple vs) Q E s := wpAny_newObj_type (h _ (F.push _) (N.push F _) (Mv.push _) (Heap.size_push ..)) (by show vs.toArray.size ≤ sizeLine; rw [List.size_toArray]; exact hsz)
end

theorem stL {x : Str} {v : Value} {l : List (Str × Option Value)} {M : Model} {A : Around} {E : Value → Shared → Prop} {s : Shared} {name : Str} {scope : Scope} {L a : Addr} {cd : Value} {h₀ : Heap} {news : List (Addr × Obj)} {Q : Unit → Shared → Prop} (F : Fr h₀ L s.heap (mOf l)) (N : News h₀ L s.heap news)
    (h : ∀ h', Fr h₀ L h' (mOf (setL x (some v) l)) → News h₀ L h' news → Q () { s with heap := h', toks := s.toks + 1 })
    (hk : scope.kind = .function := by rfl) (hl : (envOf name scope L a cd).kindOf x = some .local := by rfl) :
    wpAny M A (storeName (envOf name scope L a cd) x v) Q E s :=
  wpAny_storeName_local hl F.ns (fun h' hn hs => h h' (frTo (F.set hn hs) (mOf_set x (some v) l)) (N.set hs))
    (by show (scope.kind == .class || (scope.kind == .module && L != mainGlobals)) = false; rw [hk]; rfl)
abbrev enumO (it : Addr) (i : Nat) (old : Value) : Obj := { cls := .type "enumerate", dict := none, data := .fields #[.none, .bool false, .ref it, rawInt i, .none, old], slots := #[] }

theorem extBut_new {h h' : Heap} (hx : Heap.ExtBut h.objs.size h h') : ∀ b o, h.get? b = some o → h'.get? b = some o := fun b o e => hx b o (Nat.ne_of_lt (Heap.lt_size e)) e
section
variable {prog : Program} {w : World} {A : Around} {E : Value → Shared → Prop} {s : Shared} {name : Str} {scope : Scope} {L a : Addr} {cd : Value} {h₀ : Heap} {news : List (Addr × Obj)}
theorem assign2 {l : List (Str × Option Value)} {x1 x2 : Str} {p1 p2 pos : Pos} {k : Nat} {T : Addr} {v1 v2 : Value} {Q : Unit → Shared → Prop} (hh : A.handled = none) (F : Fr h₀ L s.heap (mOf l)) (N : News h₀ L s.heap news) (ht : s.heap.IsTuple T #[v1, v2])
    (h : ∀ h', Fr h₀ L h' (mOf (setL x2 (some v2) (setL x1 (some v1) l))) → News h₀ L h' news → (∀ b o, b ≠ L → s.heap.get? b = some o → h'.get? b = some o) → Q () { s with heap := h', toks := s.toks + 1 + 1 })
    (hk : scope.kind = .function := by rfl) (hl1 : (envOf name scope L a cd).kindOf x1 = some .local := by rfl) (hl2 : (envOf name scope L a cd).kindOf x2 = some .local := by rfl) :
    wpAny (model prog w) A (assign (.Tuple [.Name x1 p1, .Name x2 p2] k pos) (envOf name scope L a cd) (.ref T)) Q E s := by
  have hp : ((envOf name scope L a cd).scope.kind == .class || ((envOf name scope L a cd).scope.kind == .module && (envOf name scope L a cd).locals != (envOf name scope L a cd).globals)) = false := by
    show (scope.kind == .class || (scope.kind == .module && L != mainGlobals)) = false; rw [hk]; rfl
  refine wpAny_assign_Tuple hh ht rfl rfl fun h₃ hx₃ => ?_
  replace hx₃ := extBut_new hx₃
  show wpAny _ A (do holding [v2] (assign (.Name x1 p1) (envOf name scope L a cd) v1); do holding [] (assign (.Name x2 p2) (envOf name scope L a cd) v2); pure ()) _ _ _
  have F₃ : Fr h₀ L h₃ (mOf l) := F.keeps hx₃
  have N₃ : News h₀ L h₃ news := fun p hp' => ⟨hx₃ _ _ (N p hp').1, (N p hp').2⟩
  refine wpAny_bind (wpAny_holding (wpAny_assign_Name (wpAny_storeName_local hl1 F₃.ns (fun h₄ hn₄ hs₄ => ?_) hp)))
  have F₄ := frTo (F₃.set hn₄ hs₄) (mOf_set x1 (some v1) l)
  refine wpAny_bind (wpAny_holding (wpAny_assign_Name (wpAny_storeName_local hl2 F₄.ns (fun h₅ hn₅ hs₅ => wpAny_pure ?_) hp)))
  have F₅ := frTo (F₄.set hn₅ hs₅) (mOf_set x2 (some v2) _)
  exact h h₅ F₅ ((N₃.set hs₄).set hs₅) (fun b o hb e => hs₅.extBut b o hb (hs₄.extBut b o hb (hx₃ b o e)))
end

theorem Draws.strU {prog : Program} {w : World} {A : Around} (hh : A.handled = none) (it : Addr) (x : Str) (t : Tok) :
    Draws prog w A it [it] x.cps.size (fun i v => ∃ c u, x.cps[i]? = some c ∧ v = .str ⟨#[c]⟩ u) (fun i h => h.IsStrIter it (strIterType x) x t i) := by
  unfold strIterType
  cases ha : x.cps.all (· < 128)
  · exact Draws.strWide hh it x t
  · exact Draws.strAscii hh it x t
theorem esc_end_false {i : Nat} : escGo false i [] = [] := rfl
theorem esc_end_true {i : Nat} : escGo true i [] = [(i - 1, [92])] := rfl
theorem esc_true {i c : Nat} {r : List Nat} : escGo true i (c :: r) = (i, [92, c]) :: escGo false (i + 1) r := rfl
theorem esc_back {i c : Nat} {r : List Nat} (h : c = 92) : escGo false i (c :: r) = escGo true (i + 1) r := by simp [escGo, h]
theorem esc_sign {i c : Nat} {r : List Nat} (h : ¬ c = 92) : escGo false i (c :: r) = (i, [c]) :: escGo false (i + 1) r := by simp [escGo, h]
theorem drop_of {l : List Nat} {i c : Nat} (h : l[i]? = some c) : l.drop i = c :: l.drop (i + 1) := by
  obtain ⟨hi, rfl⟩ := List.getElem?_eq_some_iff.mp h
  exact List.drop_eq_getElem_cons hi

theorem gen_yield {prog : Program} {w : World} {h₀ : Heap} {C it T : Addr} {own₀ : List (Addr × Obj)} {s₀ s' : Shared} {eo so : Obj} {l : List (Str × Option Value)} {i : Nat} {cs : List Nat} {t u : Tok} {rest : List Item} {c : Code} {fs : List Frame} {lv : List Value} {k : Resume → Sem Fin} {p : Pos} {Kn : Sem Fin}
    (F : Fr h₀ C s'.heap (mOf l)) (N : News h₀ C s'.heap [(T, tupObj [.int i t, .str ⟨cs.toArray⟩ u]), (it + 1, eo), (it, so)]) (hT1 : T ≠ it + 1) (hT2 : T ≠ it) (hTf : s₀.heap.get? T = none) (Mv : Moving own₀ s₀.heap s'.heap) (hg : s'.gens = s₀.gens) (ho : s'.os = s₀.os)
    (W1 : Wr own₀ s₀.heap C) (W2 : Wr own₀ s₀.heap (it + 1)) (W3 : Wr own₀ s₀.heap it) (hk : k (.send .none) = Kn)
    (hrest : ∀ A s'' own', A.handled = none → (∀ p ∈ own', p.1 = C ∨ p.1 = it + 1 ∨ p.1 = it) → Wr own' s''.heap C → Wr own' s''.heap (it + 1) → Wr own' s''.heap it → Fr h₀ C s''.heap (mOf l) → News h₀ C s''.heap [(it + 1, eo), (it, so)] →
      SegX (model prog w) A c Kn fs s'' (EndP prog w h₀ rest own' s'')) :
    EndP prog w h₀ ((i, cs) :: rest) own₀ s₀ (.susp (.ref T) false lv k c p fs) s' := by
  obtain ⟨oC, es, ep, hoC, hr⟩ := id F.ns
  have n0 := N _ (.head _)
  have n1 := N _ (.tail _ (.head _))
  have n2 := N _ (.tail _ (.tail _ (.head _)))
  have hall : ∀ {P : Addr × Obj → Prop}, P (C, oC) → P (it + 1, eo) → P (it, so) → ∀ q ∈ [(C, oC), (it + 1, eo), (it, so)], P q := by
    intro P a b c q hq
    rcases List.mem_cons.mp hq with rfl | hq
    · exact a
    · rcases List.mem_cons.mp hq with rfl | hq
      · exact b
      · rw [List.mem_singleton.mp hq]; exact c
  refine ⟨T, [(C, oC), (it + 1, eo), (it, so)], rfl, hg, ⟨⟨t, u, n0.1⟩, hTf, hall (Ne.symm n0.2.1) (Ne.symm hT1) (Ne.symm hT2), ⟨Mv.keep, ho⟩, hall hoC n1.1 n2.1, hall W1 W2 W3⟩, ?_⟩
  rw [genP_iff]
  intro A s'' hh hb ho''
  show SegX (model prog w) A c (k (.send .none)) fs s'' _
  rw [hk]
  refine hrest A s'' _ hh (hall (.inl rfl) (.inr (.inl rfl)) (.inr (.inr rfl))) (.inl ⟨_, .head _, rfl⟩) (.inl ⟨_, .tail _ (.head _), rfl⟩) (.inl ⟨_, .tail _ (.tail _ (.head _)), rfl⟩) ⟨⟨oC, es, ep, ho'' _ (.head _), hr⟩, hb, F.above⟩ ?_
  intro q hq
  rcases List.mem_cons.mp hq with rfl | hq
  · exact ⟨ho'' _ (.tail _ (.head _)), n1.2⟩
  · rw [List.mem_singleton.mp hq]
    exact ⟨ho'' _ (.tail _ (.tail _ (.head _))), n2.2⟩

theorem gen_yield0 {prog : Program} {w : World} {h₀ : Heap} {C T : Addr} {own₀ : List (Addr × Obj)} {s₀ s' : Shared} {l : List (Str × Option Value)} {i : Nat} {cs : List Nat} {t u : Tok} {rest : List Item} {c : Code} {fs : List Frame} {lv : List Value} {k : Resume → Sem Fin} {p : Pos} {Kn : Sem Fin} {pv : Int} (hpv : pv = (i : Int))
    (F : Fr h₀ C s'.heap (mOf l)) (N : News h₀ C s'.heap [(T, tupObj [.int pv t, .str ⟨cs.toArray⟩ u])]) (hTf : s₀.heap.get? T = none) (Mv : Moving own₀ s₀.heap s'.heap) (hg : s'.gens = s₀.gens) (ho : s'.os = s₀.os)
    (W1 : Wr own₀ s₀.heap C) (hk : k (.send .none) = Kn)
    (hrest : ∀ A s'' own', A.handled = none → Wr own' s''.heap C → Fr h₀ C s''.heap (mOf l) → SegX (model prog w) A c Kn fs s'' (EndP prog w h₀ rest own' s'')) :
    EndP prog w h₀ ((i, cs) :: rest) own₀ s₀ (.susp (.ref T) false lv k c p fs) s' := by
  subst hpv
  obtain ⟨oC, es, ep, hoC, hr⟩ := id F.ns
  have n0 := N _ (.head _)
  have hall : ∀ {P : Addr × Obj → Prop}, P (C, oC) → ∀ q ∈ [(C, oC)], P q := by
    intro P a q hq
    rw [List.mem_singleton.mp hq]; exact a
  refine ⟨T, [(C, oC)], rfl, hg, ⟨⟨t, u, n0.1⟩, hTf, hall (Ne.symm n0.2.1), ⟨Mv.keep, ho⟩, hall hoC, hall W1⟩, ?_⟩
  rw [genP_iff]
  intro A s'' hh hb ho''
  show SegX (model prog w) A c (k (.send .none)) fs s'' _
  rw [hk]
  exact hrest A s'' _ hh (.inl ⟨_, .head _, rfl⟩) ⟨⟨oC, es, ep, ho'' _ (.head _), hr⟩, hb, F.above⟩
end Mine
end
section
open PySem PySem.W PySem.W.X PyProof.Rows
set_option Elab.async false
set_option maxRecDepth 100000
namespace Mine
open PySem

/-- generators: the elder ones stand as they stood, the new ones are bare -/
structure GensGrow (a b : Array GenState) : Prop where
  size : a.size ≤ b.size
  old : ∀ k, k < a.size → b[k]? = a[k]?
  new : ∀ k x, a.size ≤ k → b[k]? = some x → x.bare = true
theorem GensGrow.refl (a : Array GenState) : GensGrow a a := ⟨Nat.le_refl _, fun _ _ => rfl, fun k x hk e => by rw [Array.getElem?_eq_none hk] at e; cases e⟩
theorem GensGrow.trans {a b c : Array GenState} (x : GensGrow a b) (y : GensGrow b c) : GensGrow a c :=
  ⟨Nat.le_trans x.size y.size, fun k hk => (y.old k (Nat.lt_of_lt_of_le hk x.size)).trans (x.old k hk), fun k z hk e => by
    rcases Nat.lt_or_ge k b.size with h | h
    · rw [y.old k h] at e; exact x.new k z hk e
    · exact y.new k z h e⟩
theorem GensGrow.only {a b c : Array GenState} {g : Nat} (x : GensGrow a b) (hg : a.size ≤ g) (y : GenOnlyQ g b c) : GensGrow a c := by
  rcases y with rfl | ⟨⟨hz, ho⟩, hb⟩
  · exact x
  · refine ⟨by rw [hz]; exact x.size, fun k hk => (ho k (fun q => absurd hk (by rw [q]; exact Nat.not_lt.mpr hg))).trans (x.old k hk), fun k z hk e => ?_⟩
    by_cases q : k = g
    · subst q; exact hb z e
    · rw [ho k q] at e; exact x.new k z hk e

theorem GensGrow.push (a : Array GenState) {x : GenState} (hx : x.bare = true) : GensGrow a (a.push x) :=
  ⟨by simp, fun k hk => by simp [Array.getElem?_push, Nat.ne_of_lt hk], fun k y hk e => by
    rw [Array.getElem?_push] at e
    split at e
    · cases e; exact hx
    · rw [Array.getElem?_eq_none hk] at e; cases e⟩

/-- what a call leaves: all that stood stands -/
structure Keep (s s' : Shared) : Prop where
  heap : ∀ b o, s.heap.get? b = some o → s'.heap.get? b = some o
  os : s'.os = s.os
  gens : GensGrow s.gens s'.gens
theorem Keep.refl (s : Shared) : Keep s s := ⟨fun _ _ e => e, rfl, .refl _⟩
theorem Keep.trans {s s' s'' : Shared} (x : Keep s s') (y : Keep s' s'') : Keep s s'' := ⟨fun b o e => y.heap b o (x.heap b o e), y.os.trans x.os, x.gens.trans y.gens⟩
theorem Keep.fr {h₀ : Heap} {L : Addr} {m : Str → Option Value} {s s' : Shared} (k : Keep s s') (F : Fr h₀ L s.heap m) : Fr h₀ L s'.heap m := F.keeps k.heap
theorem Keep.news {h₀ : Heap} {L : Addr} {news : List (Addr × Obj)} {s s' : Shared} (k : Keep s s') (N : News h₀ L s.heap news) : News h₀ L s'.heap news := fun p hp => ⟨k.heap _ _ (N p hp).1, (N p hp).2⟩

section
variable {prog : Program} {w : World} {A : Around} {s : Shared}
/-- a call of a def: its frame is new, all else is kept -/
theorem enter {Q E : Value → Shared → Prop} {name qual : Str} {params : Arguments} {body : List Stmt} {scope : Scope} {dV kV doc pm cdv ct oc : Value} {an od : Option Addr} {osl : Array (Option Value)} {f : Addr} {pos : List Value} {kw : List (Str × Value)} {binds : List (Str × Value)}
    (ho : s.heap.get? f = some ⟨oc, od, .func (fnOf name qual params body scope dV kV doc pm an cdv ct), osl⟩) (hcd : s.heap.CodeRec cdv qual) (hNL : s.heap.NoLimit) (hroom : A.depth < recursionLimit)
    (hbind : BindsTo s (fnOf name qual params body scope dV kV doc pm an cdv ct) ⟨pos, kw⟩ binds) (hloc : ∀ y ∈ binds, scope.names.lookup y.1 = some .local)
    (hco : scope.isCoroutine = false) (hgen : scope.isGenerator = false) (hk : scope.kind = .function) (hcell : ∀ x ∈ scope.names, x.2 ≠ .cell)
    (h : ∀ h₁, Fr s.heap s.heap.objs.size h₁ (mOf (binds.reverse.map fun p => (p.1, some p.2))) → News s.heap s.heap.objs.size h₁ [] →
      wpAny (model prog w) (A.deeper (envOf qual scope s.heap.objs.size f cdv)) (execs body (envOf qual scope s.heap.objs.size f cdv))
        (fun fl s' => Q (match fl with | .ret v => v | _ => .none) s') (fun _ _ => False)
        { s with heap := h₁, toks := s.toks + binds.length }) :
    wpAny (model prog w) A (call (.ref f) pos kw) Q E s := by
  refine wpAny_call ?_
  refine codeAny_call_function hroom ho rfl hco hgen rfl hcd ?_
  refine hbind _ _ _ _ ?_
  refine wpAny_newFunctionEnv hcell hloc (fun h₁ hns hsb => ⟨hNL.fresh _ hsb, ?_⟩) hk
  show codeAny _ _ (.func body (envOf qual scope s.heap.objs.size f cdv)) _ _
  refine codeAny_func (wpAny_mono (h h₁ (frTo ⟨hns, fun b o e => hsb.extBut b o (Nat.ne_of_lt (Heap.lt_size e)) (Heap.get?_push_of_some _ e), Nat.le_refl _⟩ (mOf_lookup _)) News.nil) (fun fl s' hq => hq) fun _ _ x => x.elim)
end

theorem let_go_gen {prog : Program} {w : World} {A : Around} {E : Value → Shared → Prop} {s : Shared} {elts : List Expr} {k : Nat} {pos : Pos} {a T : Addr} {g : Nat} {Q : Unit → Shared → Prop} (hg : s.heap.IsGen a g) (h : Q () s) :
    wpAny (model prog w) A (letOwnedTupleGo (.Tuple elts k pos) (.ref a) (.ref T)) Q E s := by
  obtain ⟨o, nm, qn, ho, hc, hd, _⟩ := hg
  unfold letOwnedTupleGo
  refine wpAny_bind (wpAny_load ho ?_)
  rw [hc, hd]
  refine wpAny_ite ?_
  rw [if_neg (by simp)]
  exact wpAny_pure h

section
variable {prog : Program} {w : World} {A : Around} {s : Shared} {name : Str} {scope : Scope} {L f : Addr} {cd : Value} {h₀ : Heap} {x1 x2 : Str} {body : List Stmt} {Q : Flow → Shared → Prop}

def GenTurn (h₀ : Heap) (L : Addr) (J : List (Str × Option Value) → List (Addr × Obj) → Prop) (ext : List (Addr × Obj)) (Q : Flow → Shared → Prop) (s₂ : Shared) (fl : Flow) (s₃ : Shared) : Prop := match fl with
  | .ret v => Q (.ret v) s₃
  | .brk => Q .next s₃
  | _ => ∃ l₂ news₂, Fr h₀ L s₃.heap (mOf l₂) ∧ News h₀ L s₃.heap (news₂ ++ ext) ∧ (∀ p ∈ ext, ∀ q ∈ news₂, p.1 ≠ q.1) ∧ s₃.gens = s₂.gens ∧ s₃.os = s₂.os ∧ J l₂ news₂

theorem loop_gen {a : Addr} {g : Nat} {items : List Item} {own : List (Addr × Obj)} {l : List (Str × Option Value)} {news : List (Addr × Obj)} {p1 p2 pt : Pos} {k : Nat} {R : Result → Shared → Prop}
    (hh : A.handled = none) (hroom : A.depth < recursionLimit) (hNL : h₀.NoLimit) (J : List Item → List (Str × Option Value) → List (Addr × Obj) → Prop)
    (F : Fr h₀ L s.heap (mOf l)) (N : News h₀ L s.heap news) (I : Itr prog w h₀ a g items own s) (hna : ∀ p ∈ news, p.1 ≠ a) (hno : ∀ p ∈ own, ∀ q ∈ news, p.1 ≠ q.1) (hoL : ∀ p ∈ own, p.1 ≠ L ∧ h₀.get? p.1 = none) (haL : a ≠ L) (ha0 : h₀.get? a = none) (h0 : J items l news)
    (turn : ∀ it rest l₁ news₁ s₂ t u ext, J (it :: rest) l₁ news₁ → GenOnlyQ g s.gens s₂.gens → s₂.os = s.os → (∀ p ∈ ext, ∀ q ∈ news₁, p.1 ≠ q.1) →
      Fr h₀ L s₂.heap (mOf (setL x2 (some (.str ⟨it.2.toArray⟩ u)) (setL x1 (some (.int it.1 t)) l₁))) → News h₀ L s₂.heap (news₁ ++ ext) →
      wpAny (model prog w) A (execs body (envOf name scope L f cd)) (GenTurn h₀ L (J rest) ext (fun fl s' => R (.ok fl) s') s₂) (fun _ _ => False) s₂)
    (done : ∀ l₁ news₁ s₂, J [] l₁ news₁ → GenOnlyQ g s.gens s₂.gens → s₂.os = s.os → Fr h₀ L s₂.heap (mOf l₁) → News h₀ L s₂.heap news₁ → R (.ok .next) s₂)
    (hk : scope.kind = .function := by rfl) (hl1 : (envOf name scope L f cd).kindOf x1 = some .local := by rfl) (hl2 : (envOf name scope L f cd).kindOf x2 = some .local := by rfl) :
    codeAny (model prog w) A (.forLoop (.Tuple [.Name x1 p1, .Name x2 p2] k pt) (.ref a) body [] (envOf name scope L f cd)) R s := by
  refine codeAny_forLoop_any (fun n s' => ∃ items' own' l₁ news₁, n = items'.length + 1 ∧ Itr prog w h₀ a g items' own' s' ∧ Fr h₀ L s'.heap (mOf l₁) ∧ News h₀ L s'.heap news₁ ∧ (∀ p ∈ news₁, p.1 ≠ a) ∧ (∀ p ∈ own', ∀ q ∈ news₁, p.1 ≠ q.1) ∧ (∀ p ∈ own', p.1 ≠ L ∧ h₀.get? p.1 = none) ∧
    J items' l₁ news₁ ∧ GenOnlyQ g s.gens s'.gens ∧ s'.os = s.os) ?_ (items.length + 1) ⟨items, own, l, news, rfl, I, F, N, hna, hno, hoL, h0, .inl rfl, rfl⟩
  rintro n s' ⟨items', own', l₁, news₁, rfl, I', F', N', hna', hno', hoL', hJ, hgq, hos⟩
  have hNL' : s'.heap.NoLimit := hNL.keeps F'.keep
  cases items' with
  | nil =>
    refine I'.done hh hNL' hroom F'.keep fun s₂ woke gq os => wpAny_execs_nil (done l₁ news₁ s₂ hJ (hgq.trans gq) (os.trans hos) ?_ ?_)
    · exact ⟨F'.ns.at' fun o e => woke.heap L o (fun p hp => (hoL' p hp).1) e, fun b o e => woke.heap b o (fun p hp q => by rw [← q, (hoL' p hp).2] at e; cases e) (F'.keep b o e), F'.above⟩
    · exact fun p hp => ⟨woke.heap _ _ (fun q hq => hno' q hq p hp) (N' p hp).1, (N' p hp).2⟩
  | cons it rest =>
    refine I'.next hh hNL' hroom F'.keep fun T own₂ s₂ hy hTa I₂ gq os => ?_
    have woke := hy.woke
    have F₂ : Fr h₀ L s₂.heap (mOf l₁) := ⟨F'.ns.at' fun o e => woke.heap L o (fun p hp => (hoL' p hp).1) e, fun b o e => woke.heap b o (fun p hp q => by rw [← q, (hoL' p hp).2] at e; cases e) (F'.keep b o e), F'.above⟩
    obtain ⟨og, nm, qn, hog, hgr⟩ := id I₂.gen
    obtain ⟨oL, _, _, hoLL, _⟩ := id F'.ns
    have fresh : ∀ p ∈ own₂, p.1 ≠ L ∧ h₀.get? p.1 = none ∧ ∀ q ∈ news₁, p.1 ≠ q.1 := by
      intro p hp
      rcases hy.from' p hp with ⟨q, hq, e⟩ | e
      · rw [← e]; exact ⟨(hoL' q hq).1, (hoL' q hq).2, fun r hr => hno' q hq r hr⟩
      · refine ⟨(fun q => by rw [q, hoLL] at e; cases e), ?_, (fun q hq e' => by rw [e', (N' q hq).1] at e; cases e)⟩
        cases e0 : h₀.get? p.1 with
        | none => rfl
        | some o => rw [F'.keep _ _ e0] at e; cases e
    have N₂ : News h₀ L s₂.heap (news₁ ++ ((a, og) :: own₂)) := by
      intro p hp
      rcases List.mem_append.mp hp with hp | hp
      · exact ⟨woke.heap _ _ (fun q hq => hno' q hq p hp) (N' p hp).1, (N' p hp).2⟩
      · rcases List.mem_cons.mp hp with rfl | hp
        · exact ⟨hog, haL, ha0⟩
        · exact ⟨I₂.owned p hp, (fresh p hp).1, (fresh p hp).2.1⟩
    have hsep : ∀ p ∈ (a, og) :: own₂, ∀ q ∈ news₁, p.1 ≠ q.1 := by
      intro p hp q hq
      rcases List.mem_cons.mp hp with rfl | hp
      · exact Ne.symm (hna' q hq)
      · exact (fresh p hp).2.2 q hq
    refine let_go_gen I₂.gen ?_
    obtain ⟨t, u, htup⟩ := hy.tup
    refine assign2 hh F₂ N₂ ⟨_, htup, rfl, _, rfl⟩ (fun h₃ F₃ N₃ hk₃ => ?_) hk hl1 hl2
    refine wpAny_mono (turn it rest l₁ news₁ _ t u ((a, og) :: own₂) hJ (hgq.trans gq) (os.trans hos) hsep F₃ N₃) (fun fl s₃ h => ?_) fun _ _ x => x.elim
    have key : (∃ l₂ news₂, Fr h₀ L s₃.heap (mOf l₂) ∧ News h₀ L s₃.heap (news₂ ++ ((a, og) :: own₂)) ∧ (∀ p ∈ (a, og) :: own₂, ∀ q ∈ news₂, p.1 ≠ q.1) ∧ s₃.gens = s₂.gens ∧ s₃.os = s₂.os ∧ J rest l₂ news₂) → ∃ m, m < (it :: rest).length + 1 ∧
        ∃ items' own' l₁ news₁, m = items'.length + 1 ∧ Itr prog w h₀ a g items' own' s₃ ∧ Fr h₀ L s₃.heap (mOf l₁) ∧ News h₀ L s₃.heap news₁ ∧ (∀ p ∈ news₁, p.1 ≠ a) ∧ (∀ p ∈ own', ∀ q ∈ news₁, p.1 ≠ q.1) ∧ (∀ p ∈ own', p.1 ≠ L ∧ h₀.get? p.1 = none) ∧ J items' l₁ news₁ ∧ GenOnlyQ g s.gens s₃.gens ∧ s₃.os = s.os := by
      rintro ⟨l₂, news₂, F₄, N₄, hsep₄, hg₄, ho₄, hJ₄⟩
      refine ⟨rest.length + 1, by simp, rest, own₂, l₂, news₂, rfl, I₂.keep ?_ (by rw [hg₄]), F₄, fun p hp => N₄ p (List.mem_append_left _ hp), fun p hp => Ne.symm (hsep₄ _ (.head _) p hp), fun p hp q hq => hsep₄ p (.tail _ hp) q hq, fun p hp => ⟨(fresh p hp).1, (fresh p hp).2.1⟩, hJ₄, ?_, ho₄.trans (os.trans hos)⟩
      · rintro b o (rfl | ⟨p, hp, rfl⟩) e
        · rw [hog] at e; cases e
          exact (N₄ _ (List.mem_append_right _ (.head _))).1
        · rw [I₂.owned p hp] at e; cases e
          exact (N₄ _ (List.mem_append_right _ (.tail _ hp))).1
      · rw [hg₄]; exact hgq.trans gq
    cases fl with
    | next => exact key h
    | cont => exact key h
    | brk => exact h
    | ret v => exact h

theorem loop_gen2 {hs : Heap} {m₀ : Str → Option Value} {a : Addr} {g : Nat} {items : List Item} {own : List (Addr × Obj)} {l : List (Str × Option Value)} {news : List (Addr × Obj)} {p1 p2 pt : Pos} {k : Nat} {R : Result → Shared → Prop} (F₀ : Fr h₀ L hs m₀) (N₀ : News h₀ L hs news) (hown : ∀ p ∈ own, hs.objs.size ≤ p.1) (hao : hs.objs.size ≤ a)
    (hh : A.handled = none) (hroom : A.depth < recursionLimit) (hNL : h₀.NoLimit) (J : List Item → List (Str × Option Value) → List (Addr × Obj) → Prop)
    (F : Fr h₀ L s.heap (mOf l)) (N : News h₀ L s.heap news) (I : Itr prog w h₀ a g items own s) (h0 : J items l news)
    (turn : ∀ it rest l₁ news₁ s₂ t u ext, J (it :: rest) l₁ news₁ → GenOnlyQ g s.gens s₂.gens → s₂.os = s.os → (∀ p ∈ ext, ∀ q ∈ news₁, p.1 ≠ q.1) →
      Fr h₀ L s₂.heap (mOf (setL x2 (some (.str ⟨it.2.toArray⟩ u)) (setL x1 (some (.int it.1 t)) l₁))) → News h₀ L s₂.heap (news₁ ++ ext) →
      wpAny (model prog w) A (execs body (envOf name scope L f cd)) (GenTurn h₀ L (J rest) ext (fun fl s' => R (.ok fl) s') s₂) (fun _ _ => False) s₂)
    (done : ∀ l₁ news₁ s₂, J [] l₁ news₁ → GenOnlyQ g s.gens s₂.gens → s₂.os = s.os → Fr h₀ L s₂.heap (mOf l₁) → News h₀ L s₂.heap news₁ → R (.ok .next) s₂)
    (hk : scope.kind = .function := by rfl) (hl1 : (envOf name scope L f cd).kindOf x1 = some .local := by rfl) (hl2 : (envOf name scope L f cd).kindOf x2 = some .local := by rfl) :
    codeAny (model prog w) A (.forLoop (.Tuple [.Name x1 p1, .Name x2 p2] k pt) (.ref a) body [] (envOf name scope L f cd)) R s := by
  have hn0 : ∀ b, hs.objs.size ≤ b → h₀.get? b = none := fun b hb => by
    cases q : h₀.get? b with
    | none => rfl
    | some o' => exact absurd (Heap.lt_size (F₀.keep b o' q)) (Nat.not_lt.mpr hb)
  have nlt : ∀ {a b : Nat}, a < hs.objs.size → hs.objs.size ≤ b → a ≠ b := fun h1 h2 => by omega
  exact loop_gen hh hroom hNL J F N I (fun p hp => nlt (Heap.lt_size (N₀ p hp).1) hao) (fun p hp q hq => Ne.symm (nlt (Heap.lt_size (N₀ q hq).1) (hown p hp))) (fun p hp => ⟨Ne.symm (nlt F₀.ns.lt (hown p hp)), hn0 _ (hown p hp)⟩) (Ne.symm (nlt F₀.ns.lt hao)) (hn0 _ hao) h0 turn done hk hl1 hl2

theorem for_gen {iter : Expr} {p1 p2 pt pos : Pos} {k : Nat} 
    (h : wpAny (model prog w) A (eval iter (envOf name scope L f cd)) (fun v s₁ => ∃ a g, v = .ref a ∧ s₁.heap.IsGen a g ∧
      codeAny (model prog w) A (.forLoop (.Tuple [.Name x1 p1, .Name x2 p2] k pt) (.ref a) body [] (envOf name scope L f cd)) (fun r s' => match r with | .ok f => Q f s' | .error _ => False) s₁) (fun _ _ => False) s)
    (hs : ∀ x, foldedSetIterable iter (envOf name scope L f cd) x = pure x := by intro _; rfl) :
    wpAny (model prog w) A (exec (.For (.Tuple [.Name x1 p1, .Name x2 p2] k pt) iter body [] pos) (envOf name scope L f cd)) Q (fun _ _ => False) s := by
  refine wpAny_For (wpAny_mono h (fun v s₁ h₁ => ?_) fun _ _ x => x.elim) hs
  obtain ⟨a, g, rfl, hg, hc⟩ := h₁
  refine wpAny_pyIter_gen hg (codeAny_mono hc fun r s' x => ?_)
  cases r with
  | ok f => exact x
  | error e => exact x.elim
end
end Mine
end
section
open PySem PySem.W PySem.W.X PyProof.Rows
set_option Elab.async false
namespace Mine
open PySem

/-- the state of _strip_quoted_realnames: start, open_pos, the pieces -/
structure StripSt where
  start : Nat
  op : Option Nat
  res : List (List Nat)
def cut (xs : List Nat) (a b : Nat) : List Nat := (xs.take b).drop a
def stripStep (xs : List Nat) (s : StripSt) (it : Item) : StripSt :=
  if it.2 = [34] then
    match s.op with
    | none => { s with op := some it.1 }
    | some o => { start := it.1 + 1, op := none, res := if s.start = o then s.res else s.res ++ [cut xs s.start o] }
  else s
def stripRun (xs : List Nat) : List Item → StripSt → StripSt
  | [], s => s
  | it :: r, s => stripRun xs r (stripStep xs s it)
def stripEnd (xs : List Nat) (s : StripSt) : List Nat := (if s.start < xs.length then s.res ++ [cut xs s.start xs.length] else s.res).flatten
def strip (x : Str) : Str := if 34 ∈ x.cps.toList then ⟨(stripEnd x.cps.toList (stripRun x.cps.toList (escs x) ⟨0, none, []⟩)).toArray⟩ else x
def chkRun : List Item → Int → Bool
  | [], o => decide (o = 0)
  | it :: r, o => if it.2 = [40] then chkRun r (o + 1) else if it.2 = [41] then (if o - 1 < 0 then false else chkRun r (o - 1)) else chkRun r o
def checkP (x : Str) : Bool := chkRun (escs (strip x)) 0

/-- a list's texts -/
inductive Texts : List Value → List (List Nat) → Prop where
  | nil : Texts [] []
  | cons {v vs c cs} {u : Tok} : v = .str ⟨c.toArray⟩ u → Texts vs cs → Texts (v :: vs) (c :: cs)
theorem Texts.snoc {vs : List Value} {cs : List (List Nat)} (h : Texts vs cs) {c : List Nat} {u : Tok} : Texts (vs ++ [.str ⟨c.toArray⟩ u]) (cs ++ [c]) := by
  induction h with
  | nil => exact .cons rfl .nil
  | cons e _ ih => exact .cons e ih
theorem Texts.length {vs : List Value} {cs : List (List Nat)} (h : Texts vs cs) : vs.length = cs.length := by
  induction h with
  | nil => rfl
  | cons _ _ ih => simp [ih]
def opV : Option Nat → Tok → Value
  | none, _ => .none
  | some o, t => .int o t
abbrev lS (x : Str) (t : Tok) (st : Nat) (ts : Tok) (op : Value) (R : Addr) (pv cv : Option Value) : List (Str × Option Value) :=
  [("addr", some (.str x t)), ("start", some (.int st ts)), ("open_pos", some op), ("result", some (.ref R)), ("pos", pv), ("ch", cv)]
theorem str_inj {a b : List Nat} (h : (⟨a.toArray⟩ : Str) = ⟨b.toArray⟩) : a = b := by
  have := congrArg (fun z : Str => z.cps.toList) h
  simpa using this
theorem strEq1 (ic : List Nat) (c : Nat) (y : Str) (hy : y = ⟨[c].toArray⟩) : ((⟨ic.toArray⟩ : Str) == y) = decide (ic = [c]) := by
  subst hy
  by_cases h : ic = [c]
  · subst h; simp
  · rw [decide_eq_false h]
    cases e : ((⟨ic.toArray⟩ : Str) == ⟨[c].toArray⟩) with
    | false => rfl
    | true => exact absurd (str_inj (by simpa using e)) h
theorem escGo_length : ∀ (r : List Nat) (e : Bool) (i : Nat), (escGo e i r).length ≤ r.length + (if e then 1 else 0)
  | [], true, _ => by simp [escGo]
  | [], false, _ => by simp [escGo]
  | c :: r, true, i => by have := escGo_length r false (i + 1); simp [escGo] at *; omega
  | c :: r, false, i => by
    by_cases h : c = 92
    · have := escGo_length r true (i + 1); rw [esc_back h]; simp at *; omega
    · have := escGo_length r false (i + 1); rw [esc_sign h]; simp at *; omega
theorem escs_length (x : Str) : (escs x).length ≤ x.cps.size := by have := escGo_length x.cps.toList false 0; simpa [escs] using this
theorem appendHead {prog : Program} {w : World} {A : Around} {E : Value → Shared → Prop} {s : Shared} {h₀ : Heap} {L : Addr} {m : Str → Option Value} {D : Addr} {its : Array Value} {n : Nat} {x : Value} {tail : List (Addr × Obj)} {Q : Value → Shared → Prop}
    (F : Fr h₀ L s.heap m) (N : News h₀ L s.heap ((D, W.listOf its n) :: tail)) (hd : ∀ p ∈ tail, p.1 ≠ D) (hsz : its.size ≤ sizeLine)
    (h : ∀ h', Fr h₀ L h' m → News h₀ L h' ((D, W.listOf (its.push x) (n + 1)) :: tail) → Q .none { s with heap := h' }) : wpAny (model prog w) A (call (.builtin "list.append") [.ref D, x]) Q E s :=
  append_K F N (Upd.head hd) h hsz
end Mine
end
section
open PySem PySem.W PySem.W.X PyProof.Rows
open PySem.Builtin PySem.Builtin.Str
set_option Elab.async false
namespace Mine
open PySem

theorem pick_range (arr : Array Nat) (i : Nat) : ∀ k : Nat, (((List.range k).map fun j => i + j).filterMap fun j => arr[j]?) = (arr.toList.drop i).take k
  | 0 => by simp
  | k + 1 => by
    rw [List.range_succ, List.map_append, List.filterMap_append, pick_range arr i k, List.take_add_one]
    congr 1
    simp only [List.map_cons, List.map_nil, List.getElem?_drop]
    have e : arr.toList[i + k]? = arr[i + k]? := by simp
    rw [e, List.filterMap_cons, List.filterMap_nil]
    cases arr[i + k]? <;> simp only [Option.toList]
theorem slice_idx (a b n : Nat) : strSliceIndices (some (a : Int)) (some (b : Int)) 1 n = (List.range (min b n - min a n)).map fun j => min a n + j := by
  unfold strSliceIndices sliceRange
  have h1 : ¬ ((a : Int) < 0) := by omega
  have h2 : ¬ ((b : Int) < 0) := by omega
  simp only [show (1 : Int) > 0 by decide, if_true, if_neg h1, if_neg h2]
  have e1 : max 0 (min (a : Int) n) = ((min a n : Nat) : Int) := by omega
  have e2 : max 0 (min (b : Int) n) = ((min b n : Nat) : Int) := by omega
  rw [e1, e2]
  have e3 : (if ((min a n : Nat) : Int) < ((min b n : Nat) : Int) then (((min b n : Nat) : Int) - ((min a n : Nat) : Int) + 1 - 1) / 1 else 0).toNat = min b n - min a n := by
    split
    · rw [Int.ediv_one]; omega
    · omega
  rw [e3]
  apply List.map_congr_left
  intro k _
  omega
theorem slice_idx' (a n : Nat) : strSliceIndices (some (a : Int)) none 1 n = (List.range (n - min a n)).map fun j => min a n + j := by
  unfold strSliceIndices sliceRange
  have h1 : ¬ ((a : Int) < 0) := by omega
  simp only [show (1 : Int) > 0 by decide, if_true, if_neg h1]
  have e1 : max 0 (min (a : Int) n) = ((min a n : Nat) : Int) := by omega
  rw [e1]
  have e3 : (if ((min a n : Nat) : Int) < (n : Int) then ((n : Int) - ((min a n : Nat) : Int) + 1 - 1) / 1 else 0).toNat = n - min a n := by
    split
    · rw [Int.ediv_one]; omega
    · omega
  rw [e3]
  apply List.map_congr_left
  intro k _
  omega
theorem cut_eq (xs : List Nat) (a b : Nat) : cut xs a b = (xs.drop (min a xs.length)).take (min b xs.length - min a xs.length) := by
  unfold cut
  rw [List.drop_take]
  rcases Nat.le_total a xs.length with h | h
  · rw [Nat.min_eq_left h]
    rcases Nat.le_total b xs.length with h2 | h2
    · rw [Nat.min_eq_left h2]
    · rw [Nat.min_eq_right h2, List.take_of_length_le (by rw [List.length_drop]; omega), List.take_of_length_le (by rw [List.length_drop]; omega)]
  · rw [Nat.min_eq_right h]
    have e1 : xs.drop a = [] := List.drop_eq_nil_of_le h
    have e2 : xs.drop xs.length = [] := List.drop_eq_nil_of_le (Nat.le_refl _)
    rw [e1, e2]; simp
theorem slice_cut (x : Str) (a b : Nat) : Txt.slice x (some (a : Int)) (some (b : Int)) = ⟨(cut x.cps.toList a b).toArray⟩ := by
  have hl : x.cps.toList.length = x.length := by simp [Str.length]
  unfold Txt.slice
  rw [slice_idx, cut_eq, hl, pick_range]
  split
  · rename_i h
    simp only [beq_self_eq_true, Bool.true_and, List.length_map, List.length_range, beq_iff_eq] at h
    rcases Nat.eq_zero_or_pos x.length with h0 | h0
    · have : x.cps = #[] := by rw [← Array.size_eq_zero_iff]; exact h0
      obtain ⟨c⟩ := x
      subst this
      simp
    · have e1 : min a x.length = 0 := by omega
      rw [h, e1, List.drop_zero, List.take_of_length_le (by rw [hl]; exact Nat.le_refl _)]
  · rfl
theorem slice_cut' (x : Str) (a : Nat) : Txt.slice x (some (a : Int)) none = ⟨(cut x.cps.toList a x.cps.toList.length).toArray⟩ := by
  have hl : x.cps.toList.length = x.length := by simp [Str.length]
  unfold Txt.slice
  rw [slice_idx', cut_eq, hl, pick_range, Nat.min_self]
  split
  · rename_i h
    simp only [beq_self_eq_true, Bool.true_and, List.length_map, List.length_range, beq_iff_eq] at h
    rcases Nat.eq_zero_or_pos x.length with h0 | h0
    · have : x.cps = #[] := by rw [← Array.size_eq_zero_iff]; exact h0
      obtain ⟨c⟩ := x
      subst this
      simp
    · have e1 : min a x.length = 0 := by omega
      rw [h, e1, List.drop_zero, List.take_of_length_le (by rw [hl]; exact Nat.le_refl _)]
  · rfl
theorem join_flat : ∀ (cs : List (List Nat)), Txt.join (Str.ofString "") (cs.map fun c => (⟨c.toArray⟩ : Str)) = ⟨cs.flatten.toArray⟩ := by
  have key : ∀ (r : List (List Nat)) (a : Array Nat), (r.map fun c => (⟨c.toArray⟩ : Str)).foldl (fun acc p => acc ++ (Str.ofString "").cps ++ p.cps) a = a ++ r.flatten.toArray := by
    intro r
    induction r with
    | nil => intro a; simp
    | cons c r ih =>
      intro a
      rw [List.map_cons, List.foldl_cons, ih]
      have e : (Str.ofString "").cps = #[] := by decide
      rw [e]
      simp
  intro cs
  cases cs with
  | nil => decide
  | cons c r =>
    show (⟨(((c :: r).map fun c => (⟨c.toArray⟩ : Str)).drop 1).foldl (fun acc p => acc ++ (Str.ofString "").cps ++ p.cps) c.toArray⟩ : Str) = _
    rw [List.map_cons, List.drop_succ_cons, List.drop_zero, key]
    simp
theorem Texts.strs {vs : List Value} {cs : List (List Nat)} (h : Texts vs cs) : StrsAre vs (cs.map fun c => (⟨c.toArray⟩ : Str)) := by
  induction h with
  | nil => exact .nil
  | cons e _ ih => subst e; exact .cons _ _ ih
theorem sum_le {n : Nat} : ∀ (cs : List (List Nat)), (∀ c ∈ cs, c.length ≤ n) → ((cs.map fun c => (⟨c.toArray⟩ : Str)).map (·.length)).sum ≤ cs.length * n
  | [], _ => by simp
  | c :: cs, h => by
    have ih := sum_le cs fun c hc => h c (.tail _ hc)
    have h1 := h c (.head _)
    simp only [List.map_cons, List.sum_cons, List.length_cons, Nat.add_mul, Nat.one_mul]
    have e : (⟨c.toArray⟩ : Str).length = c.length := by simp [Str.length]
    omega
theorem cut_le (xs : List Nat) (a b : Nat) : (cut xs a b).length ≤ xs.length := by unfold cut; rw [List.length_drop, List.length_take]; omega
theorem join_texts {prog : Program} {w : World} {A : Around} {E : Value → Shared → Prop} {s : Shared} {h₀ : Heap} {L D : Addr} {vals : List Value} {cs : List (List Nat)} {n N : Nat} {t : Tok} {tail : List (Addr × Obj)} {Q : Value → Shared → Prop}
    (Nw : News h₀ L s.heap ((D, W.listOf vals.toArray n) :: tail)) (ht : Texts vals cs) (hc : ∀ c ∈ cs, c.length ≤ N) (hN : cs.length * N ≤ 16777216)
    (h : ∀ t' k, Q (.str ⟨cs.flatten.toArray⟩ t') { s with toks := k }) : wpAny (model prog w) A (call (.builtin "str.join") [.str (Str.ofString "") t, .ref D]) Q E s := by
  refine join_list ⟨_, (Nw _ (.head _)).1, rfl, n, rfl⟩ (by simpa using ht.strs) ?_ (fun t' k => by rw [join_flat]; exact h t' k)
  have e : (Str.ofString "").length = 0 := by decide
  have := sum_le cs hc
  rw [e, Nat.mul_zero, Nat.add_zero]
  omega
end Mine
end
section
open PySem PySem.W PySem.W.X PyProof.Rows
set_option Elab.async false
set_option maxRecDepth 100000
namespace Mine
open PySem

/-- a mark at which the walk stops -/
def Halt (p : Prop) : Prop := p
theorem Halt.mk {p : Prop} (h : Halt p) : p := h
theorem Halt.go {p : Prop} (h : p) : Halt p := h

def Again (I : Nat → Shared → Prop) (n : Nat) (s : Shared) : Prop := ∃ m, m < n ∧ I m s
theorem while_inv {prog : Program} {w : World} {A : Around} {s : Shared} {env : Env} {test : Expr} {body : List Stmt} {pos : Pos} {Q : Flow → Shared → Prop} (I : Nat → Shared → Prop)
    (turn : ∀ n s, I n s → wpAny (model prog w) A (isTrue test env (eval test env)) (fun b s₂ => if b = true then wpAny (model prog w) A (execs body env) (fun f s₃ => match f with
            | .next | .cont => Again I n s₃
            | .brk => Q .next s₃
            | .ret v => Q (.ret v) s₃) (fun _ _ => False) s₂ else Q .next s₂) (fun _ _ => False) s)
    (n : Nat) (h : I n s) : wpAny (model prog w) A (exec (.While test body [] pos) env) Q (fun _ _ => False) s := by
  refine wpAny_While (codeAny_mono (codeAny_whileLoop (R := fun r s' => match r with | .ok f => Q f s' | .error _ => False) I (fun n s hI => ?_) n h) fun r s' x => ?_)
  · refine wpAny_mono (turn n s hI) (fun b s₂ h₂ => ?_) fun _ _ x => x.elim
    cases b with
    | true =>
      simp only [if_true] at h₂ ⊢
      exact wpAny_mono h₂ (fun f s₃ h₃ => h₃) fun _ _ x => x.elim
    | false =>
      simp only [Bool.false_eq_true, if_false] at h₂ ⊢
      exact wpAny_execs_nil h₂
  · cases r with
    | ok f => exact x
    | error e => exact x.elim

theorem binds_kw {s : Shared} {fd : FuncData} {args : Args} {binds : List (Str × Value)} {T d : Addr} {o : Obj} {items : Array Value} {n : Nat} {m : Str → Option Value} {nm : Str} {k : Option (Array Value) → Sem (List (Str × Value))} {k2 : Option Value → Sem (List (Str × Value))}
    (hd : fd.defaults = .ref T) (ho : s.heap.get? T = some o) (hs : o.data = .seq items n) (hns : s.heap.Ns d m) (h₁ : bindArgs fd args = seqItems? fd.defaults >>= k) (h₂ : k (some items) = (nsGet d nm >>= k2)) (h₃ : k2 (m nm) = pure binds) : BindsTo s fd args binds := by
  intro M A Q E hq
  rw [h₁, hd]
  refine wpAny_bind (wpAny_seqItems ho hs ?_)
  rw [h₂]
  refine wpAny_bind (wpAny_nsGet hns ?_)
  rw [h₃]
  exact wpAny_pure hq

/-- the two halvings, as the texts do them; p: what is asked at a place -/
def halve (p : Nat → Bool) : Nat → Nat → Nat → Nat
  | 0, lo, _ => lo
  | f + 1, lo, hi => if lo < hi then (if p ((lo + hi) / 2) = true then halve p f lo ((lo + hi) / 2) else halve p f ((lo + hi) / 2 + 1) hi) else lo
theorem halve_done (p : Nat → Bool) (f lo hi : Nat) (h : ¬ lo < hi) : halve p f lo hi = lo := by
  cases f with
  | zero => rfl
  | succ f => simp [halve, h]
theorem halve_more (p : Nat → Bool) : ∀ (f g lo hi : Nat), hi - lo ≤ f → hi - lo ≤ g → halve p f lo hi = halve p g lo hi
  | 0, g, lo, hi, h1, _ => by rw [halve_done _ _ _ _ (by omega), halve_done _ _ _ _ (by omega)]
  | f + 1, 0, lo, hi, _, h2 => by rw [halve_done _ _ _ _ (by omega), halve_done _ _ _ _ (by omega)]
  | f + 1, g + 1, lo, hi, h1, h2 => by
    by_cases h : lo < hi
    · simp only [halve, if_pos h]
      split
      · exact halve_more p f g _ _ (by omega) (by omega)
      · exact halve_more p f g _ _ (by omega) (by omega)
    · rw [halve_done _ _ _ _ h, halve_done _ _ _ _ h]
def halved (p : Nat → Bool) (n : Nat) : Nat := halve p n 0 n
theorem halve_step (p : Nat → Bool) (lo hi : Nat) (h : lo < hi) : halve p (hi - lo) lo hi = if p ((lo + hi) / 2) = true then halve p ((lo + hi) / 2 - lo) lo ((lo + hi) / 2) else halve p (hi - ((lo + hi) / 2 + 1)) ((lo + hi) / 2 + 1) hi := by
  obtain ⟨k, hk⟩ : ∃ k, hi - lo = k + 1 := ⟨hi - lo - 1, by omega⟩
  rw [hk]
  simp only [halve, if_pos h]
  split
  · exact halve_more p _ _ _ _ (by omega) (by omega)
  · exact halve_more p _ _ _ _ (by omega) (by omega)
theorem halve_le (p : Nat → Bool) : ∀ (f lo hi : Nat), lo ≤ hi → halve p f lo hi ≤ hi ∧ lo ≤ halve p f lo hi
  | 0, lo, hi, h => ⟨h, Nat.le_refl _⟩
  | f + 1, lo, hi, h => by
    by_cases h2 : lo < hi
    · simp only [halve, if_pos h2]
      split
      · have := halve_le p f lo ((lo + hi) / 2) (by omega); omega
      · have := halve_le p f ((lo + hi) / 2 + 1) hi (by omega); omega
    · rw [halve_done _ _ _ _ h2]; omega

/-- a list of ints at an address -/
def IntList (h : Heap) (a : Addr) (ns : List Int) : Prop := ∃ vs : List Value, h.IsList a vs.toArray ∧ IntsAre vs ns
theorem IntList.keep {h h' : Heap} {a : Addr} {ns : List Int} (x : IntList h a ns) (k : ∀ b o, h.get? b = some o → h'.get? b = some o) : IntList h' a ns :=
  let ⟨vs, hl, hi⟩ := x; ⟨vs, hl.at fun o e => k a o e, hi⟩
theorem itemL {prog : Program} {w : World} {A : Around} {E : Value → Shared → Prop} {s : Shared} {value slice : Expr} {l : Addr} {vs : List Value} {k : Int} {u : Tok} {v : Value} {Q : Value → Shared → Prop}
    (hl : s.heap.IsList l vs.toArray) (h0 : 0 ≤ k) (hhi : k < 2 ^ 63) (hx : vs[k.toNat]? = some v) (h : Q v s)
    (hs : subscripted slice false (.ref l) (.int k u) = operate [.ref l, .int k u] (getItem (.ref l) (.int k u)) := by with_unfolding_all rfl) :
    wpAny (model prog w) A (subscriptTail value slice (.ref l) (.int k u)) Q E s :=
  tail_any hl.typeIs slot_list_getitem.lookup (wpAny_getItem_list hl h0 hhi (by simpa using hx) h) hs
abbrev lB (a : Addr) (xv : Value) (kv : Value) (lo : Nat) (tl : Tok) (hi : Nat) (th : Tok) (mv : Option Value) : List (Str × Option Value) :=
  [("key", some kv), ("hi", some (.int hi th)), ("lo", some (.int lo tl)), ("x", some xv), ("a", some (.ref a)), ("mid", mv)]
theorem half_eq (lo hi : Nat) : Int.fdiv ((lo : Int) + (hi : Int)) 2 = (((lo + hi) / 2 : Nat) : Int) := by
  rw [Int.fdiv_eq_ediv_of_nonneg _ (by omega)]; omega
theorem lenI {prog : Program} {w : World} {A : Around} {E : Value → Shared → Prop} {s : Shared} {a : Addr} {ns : List Int} {Q : Value → Shared → Prop} (hl : IntList s.heap a ns) (hn : ns.length ≤ 1000) (h : Q (.int ns.length (s.toks + 1)) { s with toks := s.toks + 1 + 1 }) :
    wpAny (model prog w) A (call (.builtin "len") [.ref a]) Q E s := by
  obtain ⟨vs, hl, hI⟩ := hl
  have e : vs.toArray.size = ns.length := by rw [List.size_toArray]; exact hI.length
  refine Calls.call_len_list hl (by rw [e]; omega) ?_
  rw [e]; exact h
theorem itemI {prog : Program} {w : World} {A : Around} {E : Value → Shared → Prop} {s : Shared} {value slice : Expr} {l : Addr} {ns : List Int} {k : Nat} {kk : Int} {u : Tok} {Q : Value → Shared → Prop}
    (hl : IntList s.heap l ns) (hk : k < ns.length) (hn : ns.length ≤ 1000) (hkk : kk = (k : Int)) (h : ∀ t, Q (.int (ns.getD k 0) t) s)
    (hs : subscripted slice false (.ref l) (.int kk u) = operate [.ref l, .int kk u] (getItem (.ref l) (.int kk u)) := by with_unfolding_all rfl) :
    wpAny (model prog w) A (subscriptTail value slice (.ref l) (.int kk u)) Q E s := by
  subst hkk
  obtain ⟨vs, hl, hI⟩ := hl
  obtain ⟨t, hx⟩ := hI.get k ns[k] (by simp [hk])
  have e : ns.getD k 0 = ns[k] := by simp [List.getD, hk]
  exact itemL hl (by omega) (by omega) (by simpa using hx) (e ▸ h t) hs
theorem keeps_F {M : Model} {kf : Addr} {oc : Value} {od : Option Addr} {fd : FuncData} {sl : Array (Option Value)} (h : Heap) (x : h.get? kf = some ⟨oc, od, .func fd, sl⟩) : ∃ k, (k = Keeper.frame ∨ k = Keeper.machine ∨ k = Keeper.boundFrame) ∧ Looks M h (keeperOf (.ref kf)) k :=
  ⟨.frame, .inl rfl, (Looks.ld (part := none) x).andThen .now⟩
theorem callWithF {M : Model} {A : Around} {E : Value → Shared → Prop} {s : Shared} {env : Env} {pos : Pos} {kf : Addr} {first : List Value} {Q : Value → Shared → Prop} {oc : Value} {od : Option Addr} {fd : FuncData} {sl : Array (Option Value)} {e : Expr} {rest : List Expr}
    (h : wpAny M A (spliced (backTo pos (starEach (e :: rest) env))) (fun vs s₁ => s₁.heap.get? kf = some ⟨oc, od, .func fd, sl⟩ ∧ wpAny M A (call (.ref kf) (first ++ vs)) Q E s₁) E s)
    (he : starEach (e :: rest) env = (false, eval e env) :: starEach rest env := by rfl) (hplain : (backTo pos (starEach rest env)).any (·.1) = false := by rfl) :
    wpAny M A (callWith pos (.ref kf) first (backTo pos (starEach (e :: rest) env)) []) Q E s := by
  rw [he] at h ⊢
  exact callWith_of (P := fun h => h.get? kf = some ⟨oc, od, .func fd, sl⟩) (by show ((false || (backTo pos (starEach rest env)).any (·.1)) || false) = false; rw [hplain]; rfl) keeps_F (Calls.evalArgs_plain h)
theorem lenL {prog : Program} {w : World} {A : Around} {E : Value → Shared → Prop} {s : Shared} {a : Addr} {vs : List Value} {Q : Value → Shared → Prop} (hl : s.heap.IsList a vs.toArray) (hn : vs.length ≤ 1000) (h : Q (.int vs.length (s.toks + 1)) { s with toks := s.toks + 1 + 1 }) :
    wpAny (model prog w) A (call (.builtin "len") [.ref a]) Q E s := by
  have e : vs.toArray.size = vs.length := List.size_toArray
  refine Calls.call_len_list hl (by rw [e]; omega) ?_
  rw [e]; exact h
/-- a list of any values at an address -/
def ValList (h : Heap) (a : Addr) (vs : List Value) : Prop := h.IsList a vs.toArray
theorem ValList.keep {h h' : Heap} {a : Addr} {vs : List Value} (x : ValList h a vs) (k : ∀ b o, h.get? b = some o → h'.get? b = some o) : ValList h' a vs := Heap.IsList.at x fun o e => k a o e
end Mine
end
section
open PySem PySem.W PySem.W.X PyProof.Rows
set_option Elab.async false
set_option maxRecDepth 100000
namespace Mine
open PySem

/-- one way to step through an iterable: P says what is drawn, St how the iterator stands -/
structure Steps (prog : Program) (w : World) (A : Around) (target : Expr) (it : Value) (fp wr : List Addr) (n : Nat) (P : Nat → Value → Heap → Prop) (St : Nat → Heap → Prop) : Prop where
  sub : ∀ b ∈ wr, b ∈ fp
  live : ∀ i h, St i h → ∀ b ∈ wr, ∃ o, h.get? b = some o
  frame : ∀ i h h', St i h → (∀ b ∈ fp, ∀ o, h.get? b = some o → h'.get? b = some o) → St i h'
  item : ∀ i (s : Shared) (Q : Value → Shared → Prop) (E : Value → Shared → Prop), i < n → St i s.heap →
    (∀ v h' tk, P i v h' → St (i + 1) h' → (∀ b o, b ∉ wr → s.heap.get? b = some o → h'.get? b = some o) → Q v { s with heap := h', toks := tk }) →
    wpAny (model prog w) A (pyNext it) (fun r s₁ => ∃ v, r = some v ∧ wpAny (model prog w) A (letOwnedTupleGo target it v) (fun _ s₂ => Q v s₂) E s₁) E s
  done : ∀ (s : Shared) (Q : Shared → Prop) (E : Value → Shared → Prop), St n s.heap →
    (∀ h' tk, (∀ b o, b ∉ wr → s.heap.get? b = some o → h'.get? b = some o) → Q { s with heap := h', toks := tk }) → wpAny (model prog w) A (pyNext it) (fun r s₁ => r = none ∧ Q s₁) E s

theorem Steps.ofWalks {prog : Program} {w : World} {A : Around} {I : Addr} {fp wr : List Addr} {n : Nat} {P : Nat → Value → Prop} {St : Nat → Heap → Prop} {x : Str} {px : Pos} (W : Walks prog w A I fp wr n P St)
    (hl : ∀ i h, St i h → ∀ b ∈ wr, ∃ o, h.get? b = some o) : Steps prog w A (.Name x px) (.ref I) fp wr n (fun i v _ => P i v) St where
  sub := W.sub
  live := hl
  frame := W.frame
  item := fun i s _ _ hi st hQ => W.item i s _ _ hi st fun v h' tk hP st' hk => ⟨v, rfl, wpAny_of_eq (a := ()) rfl (hQ v h' tk hP st' hk)⟩
  done := fun s _ _ st hQ => W.done s _ _ st fun h' tk hk => ⟨rfl, hQ h' tk hk⟩

theorem Steps.ofWalksU {prog : Program} {w : World} {A : Around} {I : Addr} {fp wr : List Addr} {n : Nat} {Pt : Nat → Array Value → Prop} {St : Nat → Heap → Prop} {Mid : Nat → Addr → Heap → Prop} {elts : List Expr} {k : Nat} {pos : Pos} (W : WalksU prog w A I fp wr n Pt St Mid)
    (hl : ∀ i h, St i h → ∀ b ∈ wr, ∃ o, h.get? b = some o) : Steps prog w A (.Tuple elts k pos) (.ref I) fp wr n (fun i v h => ∃ T vals, v = .ref T ∧ Pt i vals ∧ h.IsTuple T vals) St where
  sub := W.sub
  live := hl
  frame := W.frame
  item := fun i s _ _ hi st hQ => W.item i s _ _ hi st fun T vals h' tk hP hT hm hk => ⟨_, rfl, W.go elts k pos i T _ _ _ hm fun h'' st' hk' =>
    hQ (.ref T) h'' tk ⟨T, vals, rfl, hP, (let ⟨o, e, r⟩ := hT; ⟨o, hk' T o (W.apart i T _ hm) e, r⟩)⟩ st' fun b o hb e => hk' b o hb (hk b o hb e)⟩
  done := fun s _ _ st hQ => W.done s _ _ st fun h' tk hk => ⟨rfl, hQ h' tk hk⟩

/-- what a turn leaves -/
def TurnX (h₀ : Heap) (L : Addr) (own : List (Addr × Obj)) (J : List (Str × Option Value) → List (Addr × Obj) → Prop) (Q : Flow → Shared → Prop) (s₁ : Shared) (fl : Flow) (s₃ : Shared) : Prop := match fl with
  | .ret v => Q (.ret v) s₃
  | .brk => Q .next s₃
  | _ => ∃ l₂ news₂, Fr h₀ L s₃.heap (mOf l₂) ∧ News h₀ L s₃.heap (news₂ ++ own) ∧ (∀ p ∈ own, ∀ q ∈ news₂, p.1 ≠ q.1) ∧ GensGrow s₁.gens s₃.gens ∧ s₃.os = s₁.os ∧ J l₂ news₂

section
variable {prog : Program} {w : World} {A : Around} {s : Shared} {env : Env} {h₀ : Heap} {target : Expr} {it : Value} {body : List Stmt} {fp wr : List Addr} {n : Nat} {P : Nat → Value → Heap → Prop} {St : Nat → Heap → Prop}

theorem loop_any {l : List (Str × Option Value)} {news : List (Addr × Obj)} {R : Result → Shared → Prop} (S : Steps prog w A target it fp wr n P St) (J : Nat → List (Str × Option Value) → List (Addr × Obj) → Prop)
    (hL : env.locals ∉ wr) (hwr : ∀ b ∈ wr, h₀.get? b = none) (hst : St 0 s.heap) (F : Fr h₀ env.locals s.heap (mOf l)) (N : News h₀ env.locals s.heap news) (hnw : ∀ q ∈ news, q.1 ∉ wr) (h0 : J 0 l news)
    (hfix : ∀ b ∈ fp, b ∈ wr ∨ (∃ o, h₀.get? b = some o) ∨ ∃ o, ∀ i l₁ news₁, J i l₁ news₁ → (b, o) ∈ news₁)
    (turn : ∀ i v l₁ news₁ s₁ own, i < n → P i v s₁.heap → J i l₁ news₁ → (∀ p ∈ own, ∀ q ∈ news₁, p.1 ≠ q.1) → GensGrow s.gens s₁.gens → s₁.os = s.os → Fr h₀ env.locals s₁.heap (mOf l₁) → News h₀ env.locals s₁.heap (news₁ ++ own) →
      wpAny (model prog w) A (assign target env v) (fun _ s₂ => wpAny (model prog w) A (execs body env) (TurnX h₀ env.locals own (J (i + 1)) (fun fl s' => R (.ok fl) s') s) (fun _ _ => False) s₂) (fun _ _ => False) s₁)
    (done : ∀ l₁ news₁ s₁, J n l₁ news₁ → GensGrow s.gens s₁.gens → s₁.os = s.os → Fr h₀ env.locals s₁.heap (mOf l₁) → News h₀ env.locals s₁.heap news₁ → R (.ok .next) s₁) :
    codeAny (model prog w) A (.forLoop target it body [] env) R s := by
  refine codeAny_forLoop_any (fun k s' => ∃ i l₁ news₁, k = n + 1 - i ∧ i ≤ n ∧ St i s'.heap ∧ Fr h₀ env.locals s'.heap (mOf l₁) ∧ News h₀ env.locals s'.heap news₁ ∧ (∀ q ∈ news₁, q.1 ∉ wr) ∧ J i l₁ news₁ ∧ GensGrow s.gens s'.gens ∧ s'.os = s.os) ?_ (n + 1)
    ⟨0, l, news, rfl, Nat.zero_le _, hst, F, N, hnw, h0, .refl _, rfl⟩
  rintro k s' ⟨i, l₁, news₁, rfl, hi, hst', F', N', hnw', hJ, hg, hos⟩
  have moveF : ∀ h₁ : Heap, (∀ b o, b ∉ wr → s'.heap.get? b = some o → h₁.get? b = some o) → Fr h₀ env.locals h₁ (mOf l₁) ∧ News h₀ env.locals h₁ news₁ := fun h₁ hk₁ =>
    ⟨⟨F'.ns.at' fun o e => hk₁ _ o hL e, fun b o e => hk₁ b o (fun hb => by rw [hwr b hb] at e; cases e) (F'.keep b o e), F'.above⟩, fun p hp => ⟨hk₁ _ _ (hnw' p hp) (N' p hp).1, (N' p hp).2⟩⟩
  by_cases hlt : i < n
  · refine wpAny_mono (S.item i s' (fun v s₂ => wpAny (model prog w) A (assign target env v) (fun _ s₂ => wpAny (model prog w) A (execs body env) (fun f s₃ => match f with
            | .next | .cont => ∃ m, m < n + 1 - i ∧ ∃ i' l₁ news₁, m = n + 1 - i' ∧ i' ≤ n ∧ St i' s₃.heap ∧ Fr h₀ env.locals s₃.heap (mOf l₁) ∧ News h₀ env.locals s₃.heap news₁ ∧ (∀ q ∈ news₁, q.1 ∉ wr) ∧ J i' l₁ news₁ ∧ GensGrow s.gens s₃.gens ∧ s₃.os = s.os
            | .brk => R (.ok .next) s₃
            | .ret v => R (.ok (.ret v)) s₃) (fun _ _ => False) s₂) (fun _ _ => False) s₂) (fun _ _ => False) hlt hst' fun v h₁ tk hP st₁ hk₁ => ?_) (fun r s₁ h₁ => ?_) fun _ _ x => x.elim
    · obtain ⟨F₁, N₁⟩ := moveF h₁ hk₁
      have Nown : News h₀ env.locals h₁ (ownOf h₀ wr h₁) := news_ownOf hL
      have N₂ : News h₀ env.locals h₁ (news₁ ++ ownOf h₀ wr h₁) := fun p hp => (List.mem_append.mp hp).elim (N₁ p) (Nown p)
      refine wpAny_mono (turn i v l₁ news₁ _ (ownOf h₀ wr h₁) hlt hP hJ (fun p hp q hq e => hnw' q hq (by rw [← e]; exact ownOf_sub p hp)) hg hos F₁ N₂) (fun _ s₂ h₂ => wpAny_mono h₂ (fun f s₃ h₃ => ?_) fun _ _ x => x.elim) fun _ _ x => x.elim
      have fin : (∃ l₂ news₂, Fr h₀ env.locals s₃.heap (mOf l₂) ∧ News h₀ env.locals s₃.heap (news₂ ++ ownOf h₀ wr h₁) ∧ (∀ p ∈ ownOf h₀ wr h₁, ∀ q ∈ news₂, p.1 ≠ q.1) ∧ GensGrow s.gens s₃.gens ∧ s₃.os = s.os ∧ J (i + 1) l₂ news₂) →
          ∃ m, m < n + 1 - i ∧ ∃ i' l₁ news₁, m = n + 1 - i' ∧ i' ≤ n ∧ St i' s₃.heap ∧ Fr h₀ env.locals s₃.heap (mOf l₁) ∧ News h₀ env.locals s₃.heap news₁ ∧ (∀ q ∈ news₁, q.1 ∉ wr) ∧ J i' l₁ news₁ ∧ GensGrow s.gens s₃.gens ∧ s₃.os = s.os := by
        rintro ⟨l₂, news₂, F₃, N₃, hsep₃, hg₃, hos₃, hJ₃⟩
        refine ⟨n + 1 - (i + 1), by omega, i + 1, l₂, news₂, rfl, hlt, S.frame _ _ _ st₁ fun b hb o e => ?_, F₃, fun p hp => N₃ p (List.mem_append_left _ hp), fun q hq hw => ?_, hJ₃, hg₃, hos₃⟩
        · rcases hfix b hb with hw | ⟨o', e'⟩ | ⟨o', e'⟩
          · exact (N₃ (b, o) (List.mem_append_right _ (mem_ownOf hw (hwr b hw) e))).1
          · have e2 := F₁.keep b o' e'
            exact (F₃.keep b o' e').trans (e2.symm.trans e)
          · exact ((N₃ (b, o') (List.mem_append_left _ (e' _ _ _ hJ₃))).1).trans ((N₁ (b, o') (e' _ _ _ hJ)).1.symm.trans e)
        · obtain ⟨o, e⟩ := S.live _ _ st₁ _ hw
          exact hsep₃ (q.1, o) (mem_ownOf hw (hwr _ hw) e) q hq rfl
      cases f with
      | next => exact fin h₃
      | cont => exact fin h₃
      | brk => exact h₃
      | ret v => exact h₃
    · obtain ⟨v, rfl, h₁⟩ := h₁
      exact wpAny_mono h₁ (fun _ s₂ h₂ => wpAny_mono h₂ (fun _ s₃ h₃ => wpAny_mono h₃ (fun f s₄ h₄ => h₄) fun _ _ x => x.elim) fun _ _ x => x.elim) fun _ _ x => x.elim
  · have hin : i = n := by omega
    subst hin
    refine wpAny_mono (S.done s' (fun s₁ => R (.ok .next) s₁) (fun _ _ => False) hst' fun h₁ tk hk₁ => ?_) (fun r s₁ h₁ => ?_) fun _ _ x => x.elim
    · obtain ⟨F₁, N₁⟩ := moveF h₁ hk₁
      exact done l₁ news₁ _ hJ hg hos F₁ N₁
    · obtain ⟨rfl, h₁⟩ := h₁
      exact wpAny_execs_nil h₁

theorem for_any {iter : Expr} {pos : Pos} {Q : Flow → Shared → Prop}
    (h : wpAny (model prog w) A (eval iter env) (fun v s₁ => wpAny (model prog w) A (pyIter v) (fun it s₂ => codeAny (model prog w) A (.forLoop target it body [] env) (fun r s' => match r with | .ok f => Q f s' | .error _ => False) s₂) (fun _ _ => False) s₁) (fun _ _ => False) s)
    (hs : ∀ x, foldedSetIterable iter env x = pure x := by intro _; rfl) :
    wpAny (model prog w) A (exec (.For target iter body [] pos) env) Q (fun _ _ => False) s := by
  refine wpAny_For (wpAny_mono h (fun v s₁ h₁ => wpAny_mono h₁ (fun it s₂ h₂ => codeAny_mono h₂ fun r s' x => ?_) fun _ _ x => x.elim) fun _ _ x => x.elim) hs
  cases r with
  | ok f => exact x
  | error e => exact x.elim

/-- a name's store in any frame of a def -/
theorem stE {x : Str} {v : Value} {l : List (Str × Option Value)} {L : Addr} {M : Model} {E : Value → Shared → Prop} {news : List (Addr × Obj)} {Q : Unit → Shared → Prop} (F : Fr h₀ L s.heap (mOf l)) (N : News h₀ L s.heap news)
    (h : ∀ h', Fr h₀ L h' (mOf (setL x (some v) l)) → News h₀ L h' news → (∀ b o, b ≠ L → s.heap.get? b = some o → h'.get? b = some o) → Q () { s with heap := h', toks := s.toks + 1 }) (hL : env.locals = L)
    (hk : env.scope.kind = .function) (hl : env.kindOf x = some .local) :
    wpAny M A (storeName env x v) Q E s := by
  subst hL
  exact wpAny_storeName_local hl F.ns (fun h' hn hs => h h' (frTo (F.set hn hs) (mOf_set x (some v) l)) (N.set hs) fun b o hb e => hs.extBut b o hb e)
    (by rw [hk]; rfl)

theorem list_live {I l : Addr} {items : Array Value} : ∀ i (h : Heap), (h.IsListIter I l i ∧ h.IsList l items) → ∀ b ∈ [I], ∃ o, h.get? b = some o := fun i h st b hb => by
  rw [List.mem_singleton.mp hb]; obtain ⟨o, e, _⟩ := st.1; exact ⟨o, e⟩

/-- for x in a list -/
theorem iter_list {a : Addr} {vs : List Value} {x : Str} {px : Pos} {l : List (Str × Option Value)} {news : List (Addr × Obj)} {R : Result → Shared → Prop} (J : Nat → List (Str × Option Value) → List (Addr × Obj) → Prop)
    (hh : A.handled = none) (F : Fr h₀ env.locals s.heap (mOf l)) (N : News h₀ env.locals s.heap news) (hl : s.heap.IsList a vs.toArray) (h0 : J 0 l news)
    (hfix : (∃ o, h₀.get? a = some o) ∨ ∃ o, ∀ i l₁ news₁, J i l₁ news₁ → (a, o) ∈ news₁)
    (turn : ∀ i v l₁ news₁ s₁ own, vs[i]? = some v → J i l₁ news₁ → (∀ p ∈ own, ∀ q ∈ news₁, p.1 ≠ q.1) → GensGrow s.gens s₁.gens → s₁.os = s.os → Fr h₀ env.locals s₁.heap (mOf (setL x (some v) l₁)) → News h₀ env.locals s₁.heap (news₁ ++ own) →
      wpAny (model prog w) A (execs body env) (TurnX h₀ env.locals own (J (i + 1)) (fun fl s' => R (.ok fl) s') s) (fun _ _ => False) s₁)
    (done : ∀ l₁ news₁ s₁, J vs.length l₁ news₁ → GensGrow s.gens s₁.gens → s₁.os = s.os → Fr h₀ env.locals s₁.heap (mOf l₁) → News h₀ env.locals s₁.heap news₁ → R (.ok .next) s₁)
    (hk : env.scope.kind = .function) (hx : env.kindOf x = some .local) :
    wpAny (model prog w) A (pyIter (.ref a)) (fun it s₂ => codeAny (model prog w) A (.forLoop (.Name x px) it body [] env) R s₂) (fun _ _ => False) s := by
  obtain ⟨oa, hoa, _⟩ := id hl
  have hne : a ≠ s.heap.objs.size := Nat.ne_of_lt (Heap.lt_size hoa)
  refine wpAny_pyIter_list hl ?_
  have W := Walks.list (prog := prog) (w := w) (A := A) hh s.heap.objs.size a hne vs.toArray
  refine loop_any (Steps.ofWalks W list_live) J ?_ ?_ ⟨⟨_, Heap.get?_push_size _ rfl, rfl, rfl⟩, hl.at fun o e => Heap.get?_push_of_some _ e⟩ (F.push _) (fun p hp => ⟨Heap.get?_push_of_some _ (N p hp).1, (N p hp).2⟩) ?_ h0 ?_ ?_ ?_
  · intro hm; exact absurd F.ns.lt ((List.mem_singleton.mp hm) ▸ Nat.lt_irrefl _)
  · intro b hb; rw [List.mem_singleton.mp hb]; exact next_is_new F
  · intro p hp hm; exact absurd (Heap.lt_size (N p hp).1) ((List.mem_singleton.mp hm) ▸ Nat.lt_irrefl _)
  · intro b hb
    rcases List.mem_cons.mp hb with rfl | hb
    · exact .inl (.head _)
    · rw [List.mem_singleton.mp hb]; exact .inr hfix
  · intro i v l₁ news₁ s₁ own hi hP hJ hsep hg hos F₁ N₁
    refine wpAny_assign_Name (stE F₁ N₁ (fun h' F₂ N₂ _ => ?_) rfl hk hx)
    exact turn i v l₁ news₁ _ own (by simpa using hP) hJ hsep hg hos F₂ N₂
  · intro l₁ news₁ s₁ hJ
    rw [List.size_toArray] at hJ
    exact done l₁ news₁ s₁ hJ
end
end Mine
end
section
open PySem PySem.W PySem.W.X PyProof.Rows PySem.Calls
set_option Elab.async false
set_option maxRecDepth 100000
namespace Mine
open PySem

section
variable {prog : Program} {w : World} {A : Around} {s : Shared}
/-- a call of a def with cells; hid: what may change of the elder objects -/
theorem enterC {Q E : Value → Shared → Prop} {name qual : Str} {params : Arguments} {body : List Stmt} {scope : Scope} {dV kV doc pm cdv ct oc : Value} {an od : Option Addr} {osl : Array (Option Value)} {f : Addr} {pos : List Value} {kw : List (Str × Value)} {binds : List (Str × Value)}
    (hid : List (Addr × Obj)) (hhid : ∀ p ∈ hid, s.heap.get? p.1 = some p.2)
    (ho : s.heap.get? f = some ⟨oc, od, .func (fnOf name qual params body scope dV kV doc pm an cdv ct), osl⟩) (hcd : s.heap.CodeRec cdv qual) (hNL : s.heap.NoLimit) (hroom : A.depth < recursionLimit)
    (hbind : BindsTo s (fnOf name qual params body scope dV kV doc pm an cdv ct) ⟨pos, kw⟩ binds)
    (hkind : (binds.all fun y => scope.names.lookup y.1 == some .local || scope.names.lookup y.1 == some .cell) = true)
    (hnd : ((cellsFrom 0 scope.names []).map (·.1)).Nodup)
    (hco : scope.isCoroutine = false) (hgen : scope.isGenerator = false) (hk : scope.kind = .function)
    (h : ∀ h₁ tk cells, Fr (hideAll s.heap (hid.map (·.1))) s.heap.objs.size h₁ (bindL (envOfC qual scope s.heap.objs.size f cdv).kindOf binds fun _ => none) → News (hideAll s.heap (hid.map (·.1))) s.heap.objs.size h₁ (cells ++ hid) →
      CellsAre (bindC (envOfC qual scope s.heap.objs.size f cdv).kindOf binds fun _ => none) (cellsFrom (s.heap.objs.size + 1) scope.names []) cells →
      (∀ b o, s.heap.get? b = some o → h₁.get? b = some o) →
      wpAny (model prog w) (A.deeper (envOfC qual scope s.heap.objs.size f cdv)) (execs body (envOfC qual scope s.heap.objs.size f cdv))
        (fun fl s' => Q (match fl with | .ret v => v | _ => .none) s') (fun _ _ => False) { s with heap := h₁, toks := tk }) :
    wpAny (model prog w) A (call (.ref f) pos kw) Q E s := by
  refine wpAny_call ?_
  refine codeAny_call_function hroom ho rfl hco hgen rfl hcd (hbind _ _ _ _ ?_)
  refine wpAny_newFunctionEnv_cells hk (kindsX hkind _) fun env' he s' x => ?_
  subst he
  refine ⟨hNL.keeps x.toInCall.keep, codeAny_func ?_⟩
  obtain ⟨h₁, tk, rfl, _⟩ := x.done
  have hk₁ := x.toInCall.keep
  obtain ⟨cells, NC, Y⟩ := Cl.news (h₀ := s.heap) (Nat.le_refl _) fun n c hm => ⟨x.cell n c (lookup_of_mem_nodup (cellsFrom_names scope.names 0 (s.heap.objs.size + 1) [] [] rfl ▸ hnd) hm), x.above n c hm⟩
  refine wpAny_mono (h h₁ tk cells ⟨x.toInCall.ns, fun b o e => hk₁ b o (of_hideAll _ e), Nat.le_of_eq (hideAll_size _ _)⟩ (fun p hp => ?_) Y hk₁) (fun fl s' hl => hl) fun _ _ y => y.elim
  rcases List.mem_append.mp hp with hp | hp
  · refine ⟨(NC p hp).1, (NC p hp).2.1, ?_⟩
    cases q : (hideAll s.heap (hid.map (·.1))).get? p.1 with
    | none => rfl
    | some o => have := of_hideAll _ q; rw [(NC p hp).2.2] at this; cases this
  · exact ⟨hk₁ _ _ (hhid p hp), Nat.ne_of_lt (Heap.lt_size (hhid p hp)), hideAll_none _ (List.mem_map_of_mem hp)⟩

/-- a call of a lambda -/
theorem enterLam {Q E : Value → Shared → Prop} {name qual : Str} {params : Arguments} {body : Expr} {scope : Scope} {cl : List (Str × Addr)} {pm ctv oc : Value} {od : Option Addr} {osl : Array (Option Value)} {c' : Addr} {f : Addr} {pos : List Value} {kw : List (Str × Value)} {binds : List (Str × Value)}
    (ho : s.heap.get? f = some ⟨oc, od, .func (kla_fn name qual params body scope cl pm (.ref c') ctv), osl⟩) (hcd : s.heap.CodeRec (.ref c') qual) (hNL : s.heap.NoLimit) (hroom : A.depth < recursionLimit)
    (hbind : bindArgs (kla_fn name qual params body scope cl pm (.ref c') ctv) ⟨pos, kw⟩ = pure binds) (hloc : ∀ y ∈ binds, scope.names.lookup y.1 = some .local)
    (hco : scope.isCoroutine = false) (hgen : scope.isGenerator = false) (hk : scope.kind = .function) (hcell : ∀ x ∈ scope.names, x.2 ≠ .cell)
    (h : ∀ h₁, Fr s.heap s.heap.objs.size h₁ (mOf (binds.reverse.map fun p => (p.1, some p.2))) → News s.heap s.heap.objs.size h₁ [] →
      wpAny (model prog w) (A.deeper (envX qual scope s.heap.objs.size f (.ref c') cl)) (eval body (envX qual scope s.heap.objs.size f (.ref c') cl))
        (fun v s' => Q v s') (fun _ _ => False) { s with heap := h₁, toks := s.toks + binds.length }) :
    wpAny (model prog w) A (call (.ref f) pos kw) Q E s := by
  refine wpAny_call ?_
  refine kla_callFunE hroom ho rfl hco hgen rfl hcd ?_
  rw [hbind]
  refine wpAny_pure (wpAny_newFunctionEnv hcell hloc (fun h₁ hns hsb => ⟨hNL.fresh _ hsb, ?_⟩) hk)
  show codeAny _ _ (.expr body (envX qual scope s.heap.objs.size f (.ref c') cl)) _ _
  exact kla_codeExpr (wpAny_mono (h h₁ (frTo ⟨hns, fun b o e => hsb.extBut b o (Nat.ne_of_lt (Heap.lt_size e)) (Heap.get?_push_of_some _ e), Nat.le_refl _⟩ (mOf_lookup _)) News.nil) (fun v s' hl => hl) fun _ _ y => y.elim)
end

/-- a free name whose cell is of the elder objects -/
theorem nameFB {M : Model} {A : Around} {E : Value → Shared → Prop} {s : Shared} {h₀ : Heap} {L a : Addr} {m : Str → Option Value} {cn : Str} {cs : Scope} {ccd : Value} {cl : List (Str × Addr)} {x : Str} {pos : Pos} {v : Value} {Q : Value → Shared → Prop} {c : Addr} {o : Obj}
    (F : Fr h₀ L s.heap m) (hc : cl.lookup x = some c) (hv : h₀.get? c = some o) (hd : o.data = .cell (some v)) (h : Q v s)
    (hk : cs.kind = .function := by rfl) (hx : (envX cn cs L a ccd cl).kindOf x = some .free := by rfl) (hb : (x == ("__debug__" : Str)) = false := by decide) (hn : (x == ("__classdict__" : Str)) = false := by decide) :
    wpAny M A (eval (.Name x pos) (envX cn cs L a ccd cl)) Q E s := wpAny_Name (wpAny_loadName_free hk hx hc ⟨_, F.keep _ _ hv, hd⟩ h hn) hb

/-- the code table of a def that makes one lambda: as it stood, or with the lambda's code -/
def TabSt (h : Heap) (P : Addr) (line col : Nat) (qual : Str) : Prop := h.get? P = some (tabObj #[]) ∨ ∃ c', c' ≠ P ∧ h.get? P = some (tabObj #[rawInt line, rawInt col, .ref c']) ∧ h.CodeRec (.ref c') qual
theorem mkLam {M : Model} {A : Around} {E : Value → Shared → Prop} {s : Shared} {h₀ : Heap} {L a c P : Addr} {m mg mb : Str → Option Value} {cn : Str} {cs : Scope} {ccd : Value} {cl : List (Str × Addr)} {news : List (Addr × Obj)} {g : Obj → List (Addr × Obj)}
    {p : Program} {loose : List Str} {mean : ExcName → Option Value} {name qual : Str} {params : Arguments} {body : Expr} {scope : Scope} {ps : Array Value} {pos : Pos} {firstLine : Nat} {clos : List (Str × Addr)} {Q : Value → Shared → Prop}
    (F : Fr h₀ L s.heap m) (N : News h₀ L s.heap news) (T : Top p loose mean mg mb h₀) (C : CodeHd h₀ c P) (hcd : ccd = .ref c) (U : UpdF P (tabObj ps) news g)
    (hps : ps = #[] ∨ ∃ c', ps = #[rawInt pos.line, rawInt pos.col, .ref c'] ∧ s.heap.CodeRec (.ref c') qual)
    (hcl : closureFor scope (envX cn cs L a ccd cl) = pure clos)
    (h : ∀ f c' ctv h' tk, Fr h₀ L h' m → News h₀ L h' ((f, kla_obj name qual params body scope clos ((mg "__name__").getD .none) c' ctv) :: g (tabObj #[rawInt pos.line, rawInt pos.col, .ref c'])) →
      h'.CodeRec (.ref c') qual → (∀ q ∈ news, q.1 < f) → Q (.ref f) { s with heap := h', toks := tk }) :
    wpAny M A (makeFunction name qual params (.expr body) scope (envX cn cs L a ccd cl) [] [] [] pos firstLine) Q E s := by
  rcases hps with rfl | ⟨c', rfl, hrec⟩
  · refine kla_nest F N T C hcd U trivial rfl hcl fun f c' oc vs t ctv h' tk F' N' d1 d2 l1 l2 => ?_
    refine h f c' ctv h' tk F' (fun q hq => ?_) (codeRec_news N' (.tail _ (.head _)) d1 d2) fun q hq => Nat.lt_trans (l1 q hq) l2
    rcases List.mem_cons.mp hq with rfl | hq
    · exact N' _ (.head _)
    · exact N' q (List.mem_cons_of_mem _ (List.mem_cons_of_mem _ (by simpa using hq)))
  · obtain ⟨own, rest, rfl, hgr, h1, h2⟩ := U.split
    have hmem : (P, tabObj #[rawInt pos.line, rawInt pos.col, .ref c']) ∈ own ++ (P, tabObj #[rawInt pos.line, rawInt pos.col, .ref c']) :: rest := List.mem_append_right _ (.head _)
    have hm := N _ hmem
    have hgs := T.g.keeps F.keep
    obtain ⟨bm, ob, b1, b2, b3, b4, b5, b6⟩ := T.bmain
    have hbP : bm ≠ P := fun q => by
      have e := F.keep _ _ b3
      rw [q, hm.1] at e; cases e; cases b4
    have hbG : bm ≠ mainGlobals := fun q => by
      obtain ⟨o, es, ep, e, hd, _⟩ := T.g
      rw [q, e] at b3; cases b3; rw [hd] at b6; cases b6
    refine kla_makeFunctionHit (mg := mg) hcl rfl hgs hcd (C.keeps F.keep) hm.1 (by simp [TriplesOk, rawInt]) (cv := .ref c') (by simp [codeAmong, rawInt]) ⟨bm, ob, b1, b2, hbG, hbP, F.keep _ _ b3, b4, b5, b6⟩ fun ctv h' tk hk hsz => ?_
    have hLs : L < h'.objs.size := Nat.lt_of_lt_of_le F.ns.lt hsz
    have fresh : ∀ b, L < b → h₀.get? b = none := fun b hb => Heap.get?_none_of_le (Nat.le_trans F.above (Nat.le_of_lt hb))
    refine h h'.objs.size c' ctv _ tk ⟨(F.ns.keeps hk).push _, fun b o e => Heap.get?_push_of_some _ (hk b o (F.keep b o e)), F.above⟩ (fun q hq => ?_) ?_ (fun q hq => Nat.lt_of_lt_of_le (Heap.lt_size (N q hq).1) hsz)
    · rw [hgr] at hq
      rcases List.mem_cons.mp hq with rfl | hq
      · exact ⟨Heap.get?_push_size _ rfl, Nat.ne_of_gt hLs, fresh _ hLs⟩
      · exact ⟨Heap.get?_push_of_some _ (hk _ _ (N q hq).1), (N q hq).2⟩
    · obtain ⟨c₂, oc, vs, t, e1, e2, r⟩ := hrec
      exact ⟨c₂, oc, vs, t, e1, Heap.get?_push_of_some _ (hk _ _ e2), r⟩
end Mine
end
section
open PySem PySem.W PySem.W.X PyProof.Rows
set_option Elab.async false
set_option maxRecDepth 100000
namespace Mine
open PySem

/-- a list of texts at an address -/
def TextList (h : Heap) (a : Addr) (cs : List (List Nat)) : Prop := ∃ vs : List Value, h.IsList a vs.toArray ∧ Texts vs cs
theorem TextList.keep {h h' : Heap} {a : Addr} {cs : List (List Nat)} (x : TextList h a cs) (k : ∀ b o, h.get? b = some o → h'.get? b = some o) : TextList h' a cs :=
  let ⟨vs, hl, hi⟩ := x; ⟨vs, hl.at fun o e => k a o e, hi⟩
theorem offOf {own news : List (Addr × Obj)} (h : ∀ p ∈ own, ∀ q ∈ news, p.1 ≠ q.1) : OwnOff own (news.map (·.1)) := fun p hp b hb => by
  obtain ⟨q, hq, rfl⟩ := List.mem_map.mp hb
  exact h p hp q hq
end Mine
namespace Mine
open PySem
theorem Texts.push {vs : List Value} {cs : List (List Nat)} (h : Texts vs cs) {c : List Nat} {y : Str} {u : Tok} (e : y = ⟨c.toArray⟩) : Texts (vs ++ [.str y u]) (cs ++ [c]) := by
  subst e; exact h.snoc
theorem Texts.get {vs : List Value} {cs : List (List Nat)} (h : Texts vs cs) : ∀ {k : Nat}, k < cs.length → ∃ t, vs[k]? = some (.str ⟨(cs.getD k []).toArray⟩ t) := by
  induction h with
  | nil => intro k hk; simp at hk
  | cons e _ ih =>
    intro k hk
    cases k with
    | zero => exact ⟨_, by simp [e]; rfl⟩
    | succ k =>
      obtain ⟨t, ht⟩ := ih (k := k) (by simpa using hk)
      exact ⟨t, by simpa using ht⟩
theorem Texts.append {vs ws : List Value} {cs ds : List (List Nat)} (h : Texts vs cs) (h' : Texts ws ds) : Texts (vs ++ ws) (cs ++ ds) := by
  induction h with
  | nil => exact h'
  | cons e _ ih => exact .cons e ih
theorem itemT {prog : Program} {w : World} {A : Around} {E : Value → Shared → Prop} {s : Shared} {value slice : Expr} {l : Addr} {cs : List (List Nat)} {k : Nat} {kk : Int} {u : Tok} {Q : Value → Shared → Prop}
    (hl : TextList s.heap l cs) (hk : k < cs.length) (hn : cs.length ≤ 1000) (hkk : kk = (k : Int)) (h : ∀ t, Q (.str ⟨(cs.getD k []).toArray⟩ t) s)
    (hs : subscripted slice false (.ref l) (.int kk u) = operate [.ref l, .int kk u] (getItem (.ref l) (.int kk u)) := by with_unfolding_all rfl) :
    wpAny (model prog w) A (subscriptTail value slice (.ref l) (.int kk u)) Q E s := by
  subst hkk
  obtain ⟨vs, hl, hI⟩ := hl
  obtain ⟨t, hx⟩ := hI.get hk
  exact itemL hl (by omega) (by omega) (by simpa using hx) (h t) hs
theorem take_succ_of {α : Type} {l : List α} {i : Nat} {x : α} (h : l[i]? = some x) : l.take (i + 1) = l.take i ++ [x] := by rw [List.take_add_one, h]; rfl
theorem isList_of {h : Heap} {a : Addr} {its : Array Value} {n : Nat} (e : h.get? a = some (W.listOf its n)) : h.IsList a its := ⟨_, e, rfl, n, rfl⟩
theorem sepAt {own news news' : List (Addr × Obj)} (h : ∀ p ∈ own, ∀ q ∈ news, p.1 ≠ q.1) (e : news'.map (·.1) = news.map (·.1)) : ∀ p ∈ own, ∀ q ∈ news', p.1 ≠ q.1 := fun p hp q hq => by
  have h1 : q.1 ∈ news'.map (·.1) := List.mem_map.mpr ⟨q, hq, rfl⟩
  rw [e] at h1
  obtain ⟨r, hr, e2⟩ := List.mem_map.mp h1
  rw [← e2]; exact h p hp r hr
theorem itemNeg {prog : Program} {w : World} {A : Around} {E : Value → Shared → Prop} {s : Shared} {value slice : Expr} {l : Addr} {vs : List Value} {k : Int} {u : Tok} {v : Value} {Q : Value → Shared → Prop}
    (hl : s.heap.IsList l vs.toArray) (h0 : k < 0) (h1 : -(vs.length : Int) ≤ k) (hfit : -(2 ^ 63) ≤ k) (hx : vs[(k + vs.length).toNat]? = some v) (h : Q v s)
    (hs : subscripted slice false (.ref l) (.int k u) = operate [.ref l, .int k u] (getItem (.ref l) (.int k u)) := by with_unfolding_all rfl) :
    wpAny (model prog w) A (subscriptTail value slice (.ref l) (.int k u)) Q E s :=
  tail_any hl.typeIs slot_list_getitem.lookup (wpAny_getItem_list_neg hl h0 (by simpa using h1) hfit (by simpa using hx) h) hs
theorem ints_last {vs : List Value} {ns : List Int} (h : IntsAre vs ns) (hn : ns ≠ []) : ∃ t, vs[((-1 : Int) + vs.length).toNat]? = some (.int (ns.getLastD 0) t) := by
  have hl := h.length
  have hp : 0 < ns.length := List.length_pos_iff.mpr hn
  have e : ((-1 : Int) + vs.length).toNat = ns.length - 1 := by omega
  obtain ⟨t, ht⟩ := h.get (ns.length - 1) (ns.getLastD 0) (by
    rw [List.getLastD_eq_getLast?, List.getLast?_eq_getElem?]
    have : ns.length - 1 < ns.length := by omega
    rw [List.getElem?_eq_getElem this]; rfl)
  exact ⟨t, by rw [e]; exact ht⟩
theorem getD_last (l : List Int) : l.getD ((-1 : Int) + (l.length : Int)).toNat 0 = l.getLastD 0 := by
  have e : ((-1 : Int) + l.length).toNat = l.length - 1 := by omega
  rw [e, List.getLastD_eq_getLast?, List.getLast?_eq_getElem?]; rfl
end Mine
end
section
open PySem PySem.W PySem.W.X PyProof.Rows
set_option Elab.async false
set_option maxRecDepth 100000
namespace Mine
open PySem

/-- laying x into rows; p x y: y is pushed out by x -/
def insR (p : Int → Int → Bool) : List (List Int) → Int → List (List Int)
  | [], _ => []
  | r :: rest, x => if halved (fun i => p x (r.getD i 0)) r.length = r.length then (r ++ [x]) :: rest else r.set (halved (fun i => p x (r.getD i 0)) r.length) x :: insR p rest (r.getD (halved (fun i => p x (r.getD i 0)) r.length) 0)
theorem insR_full {p : Int → Int → Bool} {r : List Int} {rest : List (List Int)} {x : Int} (h : halved (fun i => p x (r.getD i 0)) r.length = r.length) : insR p (r :: rest) x = (r ++ [x]) :: rest := by rw [insR, if_pos h]
theorem insR_push {p : Int → Int → Bool} {r : List Int} {rest : List (List Int)} {x : Int} (h : ¬ halved (fun i => p x (r.getD i 0)) r.length = r.length) :
    insR p (r :: rest) x = r.set (halved (fun i => p x (r.getD i 0)) r.length) x :: insR p rest (r.getD (halved (fun i => p x (r.getD i 0)) r.length) 0) := by rw [insR, if_neg h]
theorem insR_length (p : Int → Int → Bool) : ∀ (rs : List (List Int)) (x : Int), (insR p rs x).length = rs.length
  | [], _ => rfl
  | r :: rest, x => by
    rw [insR]; split
    · rfl
    · rw [List.length_cons, insR_length p rest, List.length_cons]
def sizes (rs : List (List Int)) : Nat := (rs.map (·.length)).sum
theorem insR_sizes (p : Int → Int → Bool) : ∀ (rs : List (List Int)) (x : Int), sizes (insR p rs x) ≤ sizes rs + 1
  | [], _ => by simp [insR, sizes]
  | r :: rest, x => by
    rw [insR]; split
    · simp only [sizes, List.map_cons, List.sum_cons, List.length_append, List.length_singleton]; omega
    · have := insR_sizes p rest (r.getD (halved (fun i => p x (r.getD i 0)) r.length) 0)
      simp only [sizes, List.map_cons, List.sum_cons, List.length_set] at this ⊢; omega
theorem length_le_sizes {rs : List (List Int)} {r : List Int} (h : r ∈ rs) : r.length ≤ sizes rs := by
  induction rs with
  | nil => cases h
  | cons a rs ih =>
    simp only [sizes, List.map_cons, List.sum_cons]
    rcases List.mem_cons.mp h with rfl | h
    · omega
    · have := ih h; simp only [sizes] at this; omega

/-- rows of ints in the ledger -/
inductive RowsAt : List Addr → List (List Int) → List (Addr × Obj) → Prop where
  | nil : RowsAt [] [] []
  | cons {a : Addr} {r : List Int} {vs : List Value} {n : Nat} {as : List Addr} {rs : List (List Int)} {os : List (Addr × Obj)} : IntsAre vs r → RowsAt as rs os → RowsAt (a :: as) (r :: rs) ((a, W.listOf vs.toArray n) :: os)
theorem RowsAt.adr {as : List Addr} {rs : List (List Int)} {os : List (Addr × Obj)} (h : RowsAt as rs os) : os.map (·.1) = as := by
  induction h with
  | nil => rfl
  | cons _ _ ih => simp [ih]
theorem RowsAt.length {as : List Addr} {rs : List (List Int)} {os : List (Addr × Obj)} (h : RowsAt as rs os) : as.length = rs.length := by
  induction h with
  | nil => rfl
  | cons _ _ ih => simp [ih]
theorem RowsAt.append {as bs : List Addr} {rs ss : List (List Int)} {os ps : List (Addr × Obj)} (h : RowsAt as rs os) (h' : RowsAt bs ss ps) : RowsAt (as ++ bs) (rs ++ ss) (os ++ ps) := by
  induction h with
  | nil => exact h'
  | cons e _ ih => exact .cons e ih
theorem RowsAt.split {as : List Addr} {rs : List (List Int)} {os : List (Addr × Obj)} (h : RowsAt as rs os) : ∀ {i : Nat} {a : Addr} {r : List Int}, as[i]? = some a → rs[i]? = some r →
    ∃ o₁ vs n o₂, os = o₁ ++ (a, W.listOf vs.toArray n) :: o₂ ∧ IntsAre vs r ∧ o₁.map (·.1) = as.take i ∧ o₂.map (·.1) = as.drop (i + 1) ∧ ∀ vs' r' n', IntsAre vs' r' → RowsAt as (rs.take i ++ r' :: rs.drop (i + 1)) (o₁ ++ (a, W.listOf vs'.toArray n') :: o₂) := by
  induction h with
  | nil => intro i a r h; simp at h
  | @cons a₀ r₀ vs₀ n₀ as rs os e h ih =>
    intro i a r ha hr
    cases i with
    | zero =>
      simp only [List.getElem?_cons_zero, Option.some.injEq] at ha hr
      subst ha hr
      exact ⟨[], vs₀, n₀, os, rfl, e, rfl, h.adr, fun vs' r' n' h' => .cons h' h⟩
    | succ i =>
      simp only [List.getElem?_cons_succ] at ha hr
      obtain ⟨o₁, vs, n, o₂, rfl, hi, h1, h2, f⟩ := ih ha hr
      exact ⟨_ :: o₁, vs, n, o₂, rfl, hi, by simp [h1], by simp [h2], fun vs' r' n' h' => .cons e (f vs' r' n' h')⟩
theorem updMid {d : Addr} {o o' : Obj} : ∀ {l₁ l₂ : List (Addr × Obj)}, (∀ p ∈ l₁, p.1 ≠ d) → (∀ p ∈ l₂, p.1 ≠ d) → Upd d o o' (l₁ ++ (d, o) :: l₂) (l₁ ++ (d, o') :: l₂)
  | [], _, _, h2 => .head h2
  | p :: r, _, h1, h2 => .tail (h1 p (.head _)) (updMid (fun q hq => h1 q (.tail _ hq)) h2)
theorem news_sub {h₀ h : Heap} {L : Addr} {l l' : List (Addr × Obj)} (N : News h₀ L h l) (s : ∀ p ∈ l', p ∈ l) : News h₀ L h l' := fun p hp => N p (s p hp)
theorem notin_of_nodup {as : List Addr} (h : as.Nodup) {i : Nat} {a : Addr} (ha : as[i]? = some a) : a ∉ as.take i ∧ a ∉ as.drop (i + 1) := by
  obtain ⟨hi, rfl⟩ := List.getElem?_eq_some_iff.mp ha
  have e : as.take i ++ as[i] :: as.drop (i + 1) = as := by rw [← List.drop_eq_getElem_cons hi, List.take_append_drop]
  rw [← e] at h
  generalize as[i] = b at h
  rw [List.nodup_append] at h
  obtain ⟨_, h2, h3⟩ := h
  rw [List.nodup_cons] at h2
  exact ⟨fun hm => h3 _ hm _ (.head _) rfl, h2.1⟩
/-- rows of ints in a heap, met from a list of them -/
def RowList (h : Heap) (b : Addr) (rs : List (List Int)) : Prop := ∃ as : List Addr, h.IsList b (as.map Value.ref).toArray ∧ as.length = rs.length ∧ ∀ (i : Nat) (a : Addr) (r : List Int), as[i]? = some a → rs[i]? = some r → IntList h a r
theorem RowList.keep {h h' : Heap} {b : Addr} {rs : List (List Int)} (x : RowList h b rs) (k : ∀ b o, h.get? b = some o → h'.get? b = some o) : RowList h' b rs :=
  let ⟨as, hl, hn, hi⟩ := x; ⟨as, hl.at fun o e => k b o e, hn, fun i a r ha hr => (hi i a r ha hr).keep k⟩
theorem RowsAt.list {h₀ h : Heap} {L : Addr} {as : List Addr} {rs : List (List Int)} {os news : List (Addr × Obj)} (x : RowsAt as rs os) (N : News h₀ L h news) (s : ∀ p ∈ os, p ∈ news) : ∀ (i : Nat) (a : Addr) (r : List Int), as[i]? = some a → rs[i]? = some r → IntList h a r := fun i a r ha hr => by
  obtain ⟨o₁, vs, n, o₂, rfl, hi, _⟩ := x.split ha hr
  exact ⟨vs, isList_of (N _ (s _ (List.mem_append_right _ (.head _)))).1, hi⟩
theorem ints_set {vs : List Value} {r : List Int} (h : IntsAre vs r) (i : Nat) (x : Int) (t : Tok) : IntsAre (vs.set i (.int x t)) (r.set i x) := by
  induction h generalizing i with
  | nil => exact .nil
  | cons n t' _ ih =>
    cases i with
    | zero => exact .cons _ _ (by assumption)
    | succ i => exact .cons _ _ (ih i)
theorem ints_snoc {vs : List Value} {r : List Int} (h : IntsAre vs r) (x : Int) (t : Tok) : IntsAre (vs ++ [.int x t]) (r ++ [x]) := by
  induction h with
  | nil => exact .cons _ _ .nil
  | cons n t' _ ih => exact .cons _ _ ih
theorem appendMid {prog : Program} {w : World} {A : Around} {E : Value → Shared → Prop} {s : Shared} {h₀ : Heap} {L : Addr} {m : Str → Option Value} {D : Addr} {its : Array Value} {n : Nat} {x : Value} {l₁ l₂ : List (Addr × Obj)} {Q : Value → Shared → Prop}
    (F : Fr h₀ L s.heap m) (N : News h₀ L s.heap (l₁ ++ (D, W.listOf its n) :: l₂)) (h1 : ∀ p ∈ l₁, p.1 ≠ D) (h2 : ∀ p ∈ l₂, p.1 ≠ D) (hsz : its.size ≤ sizeLine)
    (h : ∀ h', Fr h₀ L h' m → News h₀ L h' (l₁ ++ (D, W.listOf (its.push x) (n + 1)) :: l₂) → Q .none { s with heap := h' }) : wpAny (model prog w) A (call (.builtin "list.append") [.ref D, x]) Q E s :=
  append_K F N (updMid h1 h2) h hsz
theorem mem_shuffle {α : Type} {x b q : α} {l₁ l₂ : List α} (h : q ∈ x :: (l₁ ++ [b]) ++ l₂) : q ∈ [b] ++ x :: (l₁ ++ l₂) := by
  simp only [List.mem_append, List.mem_cons, List.not_mem_nil, or_false] at h ⊢
  rcases h with (h | h | h) | h
  · exact .inr (.inl h)
  · exact .inr (.inr (.inl h))
  · exact .inl h
  · exact .inr (.inr (.inr h))
theorem setMid {prog : Program} {w : World} {A : Around} {E : Value → Shared → Prop} {s : Shared} {h₀ : Heap} {L : Addr} {m : Str → Option Value} {D : Addr} {its : Array Value} {n k : Nat} {kk : Int} {t : Tok} {x : Value} {l₁ l₂ : List (Addr × Obj)} {Q : Unit → Shared → Prop}
    (F : Fr h₀ L s.heap m) (N : News h₀ L s.heap (l₁ ++ (D, W.listOf its n) :: l₂)) (h1 : ∀ p ∈ l₁, p.1 ≠ D) (h2 : ∀ p ∈ l₂, p.1 ≠ D) (hkk : kk = (k : Int)) (hk : k < its.size) (hsz : its.size ≤ 1000000)
    (h : ∀ h', Fr h₀ L h' m → News h₀ L h' (l₁ ++ (D, W.listOf (its.setIfInBounds k x) n) :: l₂) → Q () { s with heap := h' }) : wpAny (model prog w) A (setItem (.ref D) (.int kk t) x) Q E s := by
  subst hkk
  have z := N (D, W.listOf its n) (List.mem_append.mpr (.inr (.head _)))
  refine ki_setAt z.1 (by omega) (by omega) (by omega) (h _ (F.change (Heap.SameBut.update ..) z.2.1 z.2.2) (ki_turn _ N h1 h2 (by simp) (by simp)))
theorem assignPair {prog : Program} {w : World} {A : Around} {E : Value → Shared → Prop} {s : Shared} {env : Env} {t1 t2 : Expr} {k : Nat} {pos : Pos} {T : Addr} {v1 v2 : Value} {h₀ : Heap} {L : Addr} {m : Str → Option Value} {news : List (Addr × Obj)} {Q : Unit → Shared → Prop}
    (hh : A.handled = none) (F : Fr h₀ L s.heap m) (N : News h₀ L s.heap news) (ht : s.heap.IsTuple T #[v1, v2]) (he : assignEach [t1, t2] env = [(false, assign t1 env), (false, assign t2 env)])
    (h : ∀ h₃, Fr h₀ L h₃ m → News h₀ L h₃ news → (∀ b o, s.heap.get? b = some o → h₃.get? b = some o) → wpAny (model prog w) A (assign t1 env v1) (fun _ s₂ => wpAny (model prog w) A (assign t2 env v2) Q E s₂) E { s with heap := h₃ }) :
    wpAny (model prog w) A (assign (.Tuple [t1, t2] k pos) env (.ref T)) Q E s := by
  refine wpAny_assign_Tuple hh ht (by rw [he]; rfl) (by rw [he]; rfl) fun h₃ hx₃ => ?_
  replace hx₃ := extBut_new hx₃
  rw [he]
  show wpAny _ A (do holding [v2] (assign t1 env v1); do holding [] (assign t2 env v2); pure ()) _ _ _
  refine wpAny_bind (wpAny_holding (wpAny_mono (h h₃ (F.keeps hx₃) (fun p hp' => ⟨hx₃ _ _ (N p hp').1, (N p hp').2⟩) hx₃) (fun _ s₂ h₂ => ?_) fun _ _ e => e))
  exact wpAny_bind (wpAny_holding (wpAny_mono h₂ (fun _ s₃ h₃ => wpAny_pure h₃) fun _ _ e => e))
theorem take_mid {α : Type} {pre d : List α} {z : α} {j : Nat} (h : pre.length = j) : (pre ++ z :: d).take (j + 1) = pre ++ [z] := by
  subst h; rw [List.take_length_add_append]; rfl
theorem drop_mid {α : Type} {pre d : List α} {z : α} {j : Nat} (h : pre.length = j) : (pre ++ z :: d).drop (j + 1) = d := by
  subst h; rw [List.drop_length_add_append]; rfl
theorem sizes_mid {rs : List (List Int)} {j : Nat} {r r' : List Int} (h : rs[j]? = some r) (e : r'.length = r.length) : sizes (rs.take j ++ r' :: rs.drop (j + 1)) = sizes rs := by
  obtain ⟨hj, rfl⟩ := List.getElem?_eq_some_iff.mp h
  have e2 : rs.take j ++ rs[j] :: rs.drop (j + 1) = rs := by rw [← List.drop_eq_getElem_cons hj, List.take_append_drop]
  conv => rhs; rw [← e2]
  simp only [sizes, List.map_append, List.map_cons, List.sum_append, List.sum_cons, e]
theorem sizes_put {rs : List (List Int)} {j : Nat} {r : List Int} {x : Int} (h : rs[j]? = some r) : sizes (rs.take j ++ (r ++ [x]) :: rs.drop (j + 1)) = sizes rs + 1 := by
  obtain ⟨hj, rfl⟩ := List.getElem?_eq_some_iff.mp h
  have e2 : rs.take j ++ rs[j] :: rs.drop (j + 1) = rs := by rw [← List.drop_eq_getElem_cons hj, List.take_append_drop]
  conv => rhs; rw [← e2]
  simp only [sizes, List.map_append, List.map_cons, List.sum_append, List.sum_cons, List.length_append, List.length_singleton]
  omega
end Mine
end
section
open PySem PySem.W PySem.W.X PyProof.Rows
set_option Elab.async false
set_option maxRecDepth 100000
namespace Mine
open PySem

/-- which rows of a list of lists hold something -/
def holds (as : List Addr) (rs : List (List Int)) (v : Value) : Bool := match v with
  | .ref a => ((as.zip rs).find? fun p => p.1 == a).any fun p => decide (p.2 ≠ [])
  | _ => false
theorem holds_at : ∀ {as : List Addr} {rs : List (List Int)}, as.Nodup → ∀ {i : Nat} {a : Addr} {r : List Int}, as[i]? = some a → rs[i]? = some r → holds as rs (.ref a) = decide (r ≠ [])
  | [], _, _, i, a, r, ha, _ => by simp at ha
  | _ :: _, [], _, i, a, r, _, hr => by simp at hr
  | b :: as, q :: rs, hnd, i, a, r, ha, hr => by
    rw [List.nodup_cons] at hnd
    cases i with
    | zero =>
      simp only [List.getElem?_cons_zero, Option.some.injEq] at ha hr
      subst ha hr
      simp [holds]
    | succ i =>
      simp only [List.getElem?_cons_succ] at ha hr
      have hne : b ≠ a := fun e => hnd.1 (e ▸ List.mem_of_getElem? ha)
      have ih := holds_at hnd.2 ha hr
      have : holds (b :: as) (q :: rs) (.ref a) = holds as rs (.ref a) := by
        simp only [holds, List.zip_cons_cons, List.find?_cons]
        rw [show (b == a) = false from by simpa using hne]
      rw [this, ih]
theorem holds_filter : ∀ {as : List Addr} {rs : List (List Int)}, as.Nodup → as.length = rs.length → ∃ bs : List Addr, (as.map Value.ref).filter (holds as rs) = bs.map Value.ref ∧ bs.length = (rs.filter fun r => decide (r ≠ [])).length ∧
    ∀ (i : Nat) (a : Addr) (r : List Int), bs[i]? = some a → (rs.filter fun r => decide (r ≠ []))[i]? = some r → ∃ j : Nat, as[j]? = some a ∧ rs[j]? = some r
  | [], [], _, _ => ⟨[], rfl, rfl, fun i a r ha _ => by simp at ha⟩
  | [], _ :: _, _, hl => by simp at hl
  | _ :: _, [], _, hl => by simp at hl
  | b :: as, q :: rs, hnd, hl => by
    have hnd' := hnd
    rw [List.nodup_cons] at hnd'
    obtain ⟨bs, e1, e2, e3⟩ := holds_filter (as := as) (rs := rs) hnd'.2 (by simpa using hl)
    have h0 : holds (b :: as) (q :: rs) (.ref b) = decide (q ≠ []) := holds_at (i := 0) hnd rfl rfl
    have hrest : (as.map Value.ref).filter (holds (b :: as) (q :: rs)) = (as.map Value.ref).filter (holds as rs) := by
      apply List.filter_congr
      intro v hv
      obtain ⟨a, ha, rfl⟩ := List.mem_map.mp hv
      have hne : b ≠ a := fun e => hnd'.1 (e ▸ ha)
      simp only [holds, List.zip_cons_cons, List.find?_cons]
      rw [show (b == a) = false from by simpa using hne]
    rw [List.map_cons, List.filter_cons, List.filter_cons, h0, hrest, e1]
    cases hq : decide (q ≠ []) with
    | false =>
      simp only [Bool.false_eq_true, if_false]
      exact ⟨bs, rfl, e2, fun i a r ha hr => let ⟨j, h1, h2⟩ := e3 i a r ha hr; ⟨j + 1, h1, h2⟩⟩
    | true =>
      simp only [if_true]
      refine ⟨b :: bs, rfl, by simp [e2], fun i a r ha hr => ?_⟩
      cases i with
      | zero => exact ⟨0, by simpa using ha, by simpa using hr⟩
      | succ i => obtain ⟨j, h1, h2⟩ := e3 i a r (by simpa using ha) (by simpa using hr); exact ⟨j + 1, h1, h2⟩

theorem paired_eq {l₁ l₂ : List Value} (h : Paired (fun v y => y = v) l₁ l₂) : l₂ = l₁ := by
  induction h with
  | nil => rfl
  | cons e _ ih => rw [e, ih]

section
variable {prog : Program} {w : World} {A : Around} {env : Env} {s : Shared}
theorem quiet_nonempty {scope : Scope} {x : Str} {px pe pl pc : Pos} {as : List Addr} {rs : List (List Int)} {wr : List Addr} (hu : A.units + 64 < cLine) (hk : scope.kind = .function) (hx : scope.names.lookup x = some .local) (hdb : (x == ("__debug__" : Str)) = false) (hnd : as.Nodup) (hlen : as.length = rs.length)
    (hrows : ∀ (i : Nat) (a : Addr) (r : List Int), as[i]? = some a → rs[i]? = some r → IntList s.heap a r) (hwr : ∀ a ∈ as, a ∉ wr) :
    QuietOn prog w A env scope x [.Compare (.Name x px) [.NotEq] [.List [] pl] pc] (.Name x pe) wr (fun i v => (as.map Value.ref).toArray[i]? = some v) (holds as rs) (fun v y => y = v) s where
  tests := fun C i v s₃ m₃ E' hP hn hm hkp _ => by
    rw [List.getElem?_toArray, List.getElem?_map] at hP
    obtain ⟨a, ha, rfl⟩ := Option.map_eq_some_iff.mp hP
    have hi : i < rs.length := by have := (List.getElem?_eq_some_iff.mp ha).1; omega
    have hr : rs[i]? = some rs[i] := List.getElem?_eq_getElem hi
    have hh := holds_at hnd ha hr
    obtain ⟨vs, hl, hI⟩ := hrows i a _ ha hr
    have hl₃ : s₃.heap.IsList a vs.toArray := hl.at fun o e => hkp a o (hwr a (List.mem_of_getElem? ha)) e
    refine wpAny_tests_one (wpAny_isTrue_Compare1 (wpAny_Name (wpAny_loadName_local (by exact hk) (by exact hx) hn hm ?_) hdb))
    refine wpAny_List (wpAny_pure ⟨by simp, ?_⟩)
    have hp : ∀ b o, s₃.heap.get? b = some o → (s₃.heap.push { cls := .type "list", data := .seq ([] : List Value).toArray }).get? b = some o := fun b o e => Heap.get?_push_of_some _ e
    refine ne_intsK (vs := vs) (us := []) (hl₃.at fun o e => hp a o e) hI ⟨_, Heap.get?_push_size _ rfl, rfl, _, rfl⟩ .nil hu ?_
    refine wpAny_truthy_bool ⟨?_, _, _, rfl, hp⟩
    rw [hh]
    by_cases e : rs[i] = [] <;> simp [e]
  elt := fun C i v s₃ m₃ E' _ _ hn hm _ _ => wpAny_Name (wpAny_loadName_local (by exact hk) (by exact hx) hn hm ⟨rfl, _, _, rfl, fun _ _ e => e⟩) hdb
end
end Mine
end
section
open PySem PySem.W PySem.W.X PyProof.Rows
set_option Elab.async false
set_option maxRecDepth 100000
namespace Mine
open PySem

theorem Steps.moreWr {prog : Program} {w : World} {A : Around} {target : Expr} {it : Value} {fp wr wr' : List Addr} {n : Nat} {P : Nat → Value → Heap → Prop} {St : Nat → Heap → Prop} (S : Steps prog w A target it fp wr n P St)
    (h1 : ∀ b ∈ wr, b ∈ wr') (h2 : ∀ b ∈ wr', b ∈ fp) (hl : ∀ i h, St i h → ∀ b ∈ wr', ∃ o, h.get? b = some o) : Steps prog w A target it fp wr' n P St where
  sub := h2
  live := hl
  frame := S.frame
  item := fun i s Q E hi st hQ => S.item i s Q E hi st fun v h' tk hP st' hk => hQ v h' tk hP st' fun b o hb => hk b o fun h => hb (h1 b h)
  done := fun s Q E st hQ => S.done s Q E st fun h' tk hk => hQ h' tk fun b o hb => hk b o fun h => hb (h1 b h)

theorem Steps.listT {prog : Program} {w : World} {A : Around} {elts : List Expr} {k : Nat} {pos : Pos} (hh : A.handled = none) (I a : Addr) (hne : a ≠ I) (items : Array Value) (hr : ∀ (i : Nat) (v : Value), items[i]? = some v → ∃ T, v = Value.ref T) :
    Steps prog w A (.Tuple elts k pos) (.ref I) [I, a] [I] items.size (fun i v _ => items[i]? = some v) (fun i h => h.IsListIter I a i ∧ h.IsList a items) :=
  let W := Walks.list (prog := prog) (w := w) (A := A) hh I a hne items
  { sub := W.sub
    live := list_live
    frame := W.frame
    item := fun i s _ _ hi st hQ => W.item i s _ _ hi st fun v h' tk hP st' hk => ⟨v, rfl, by
      obtain ⟨T, rfl⟩ := hr i v hP
      exact wpAny_letOwnedTupleGo_listiter st'.1 (hQ _ h' tk hP st' hk)⟩
    done := fun s _ _ st hQ => W.done s _ _ st fun h' tk hk => ⟨rfl, hQ h' tk hk⟩ }

section
variable {prog : Program} {w : World} {A : Around} {s : Shared} {env : Env} {h₀ : Heap} {body : List Stmt}

theorem assignLL {L : Addr} {E : Value → Shared → Prop} {x1 x2 : Str} {p1 p2 pos : Pos} {k : Nat} {T : Addr} {v1 v2 : Value} {l : List (Str × Option Value)} {news : List (Addr × Obj)} {Q : Unit → Shared → Prop} (hh : A.handled = none) (F : Fr h₀ L s.heap (mOf l)) (N : News h₀ L s.heap news) (ht : s.heap.IsTuple T #[v1, v2])
    (h : ∀ h', Fr h₀ L h' (mOf (setL x2 (some v2) (setL x1 (some v1) l))) → News h₀ L h' news → Q () { s with heap := h', toks := s.toks + 1 + 1 })
    (hL : env.locals = L) (hk : env.scope.kind = .function) (hl1 : env.kindOf x1 = some .local) (hl2 : env.kindOf x2 = some .local) :
    wpAny (model prog w) A (assign (.Tuple [.Name x1 p1, .Name x2 p2] k pos) env (.ref T)) Q E s := by
  refine assignPair hh F N ht rfl fun h₃ F₃ N₃ _ => ?_
  refine wpAny_assign_Name (stE F₃ N₃ (fun h₄ F₄ N₄ _ => ?_) hL hk hl1)
  exact wpAny_assign_Name (stE F₄ N₄ (fun h₅ F₅ N₅ _ => h h₅ F₅ N₅) hL hk hl2)

/-- enumerate(list), gone over -/
theorem enum_list {a : Addr} {vs : List Value} {target : Expr} {elts : List Expr} {kk : Nat} {pt : Pos} {l : List (Str × Option Value)} {news : List (Addr × Obj)} {R : Result → Shared → Prop} (J : Nat → List (Str × Option Value) → List (Addr × Obj) → Prop)
    (htg : target = .Tuple elts kk pt) (hh : A.handled = none) (F : Fr h₀ env.locals s.heap (mOf l)) (N : News h₀ env.locals s.heap news) (hl : s.heap.IsList a vs.toArray) (h0 : J 0 l news)
    (hfix : (∃ o, h₀.get? a = some o) ∨ ∃ o, ∀ i l₁ news₁, J i l₁ news₁ → (a, o) ∈ news₁)
    (turn : ∀ i v T t l₁ news₁ s₁ own, vs[i]? = some v → s₁.heap.IsTuple T #[.int (i : Nat) t, v] → J i l₁ news₁ → (∀ p ∈ own, ∀ q ∈ news₁, p.1 ≠ q.1) → GensGrow s.gens s₁.gens → s₁.os = s.os → Fr h₀ env.locals s₁.heap (mOf l₁) → News h₀ env.locals s₁.heap (news₁ ++ own) →
      wpAny (model prog w) A (assign target env (.ref T)) (fun _ s₂ => wpAny (model prog w) A (execs body env) (TurnX h₀ env.locals own (J (i + 1)) (fun fl s' => R (.ok fl) s') s) (fun _ _ => False) s₂) (fun _ _ => False) s₁)
    (done : ∀ l₁ news₁ s₁, J vs.length l₁ news₁ → GensGrow s.gens s₁.gens → s₁.os = s.os → Fr h₀ env.locals s₁.heap (mOf l₁) → News h₀ env.locals s₁.heap news₁ → R (.ok .next) s₁) :
    wpAny (model prog w) A (call (.type "enumerate") [.ref a]) (fun v s₁ => wpAny (model prog w) A (pyIter v) (fun it s₂ => codeAny (model prog w) A (.forLoop target it body [] env) R s₂) (fun _ _ => False) s₁) (fun _ _ => False) s := by
  subst htg
  obtain ⟨oa, hoa, _⟩ := id hl
  have hlt : a < s.heap.objs.size := Heap.lt_size hoa
  have hLs : env.locals < s.heap.objs.size := F.ns.lt
  refine call_enumerate_list hl fun h₁ he hit hz hk₁ => wpAny_pyIter_enum he ?_
  have n1 : a ≠ s.heap.objs.size := Nat.ne_of_lt hlt
  have D := Draws.list (prog := prog) (w := w) (A := A.in1) hh s.heap.objs.size a n1 vs.toArray
  have W := (WalksT.enumerateD D (s.heap.objs.size + 1) (Nat.succ_ne_self _) (by
    intro hm
    rcases List.mem_cons.mp hm with e | hm
    · exact absurd e (Nat.succ_ne_self _)
    · have e := List.mem_singleton.mp hm
      rw [← e] at hlt; exact absurd hlt (Nat.not_lt.mpr (Nat.le_succ _))) (.head _)).toU
  have hold : ∀ b, s.heap.objs.size ≤ b → h₀.get? b = none := fun b hb => Heap.get?_none_of_le (Nat.le_trans F.above (Nat.le_of_lt (Nat.lt_of_lt_of_le hLs hb)))
  refine loop_any (s := { s with heap := h₁ }) (Steps.ofWalksU W ?_) J ?_ ?_ ⟨⟨_, he⟩, hit, hl.at fun o e => hk₁ a o e⟩ (F.keeps hk₁) (fun p hp => ⟨hk₁ _ _ (N p hp).1, (N p hp).2⟩) ?_ h0 ?_ ?_ ?_
  · rintro i h ⟨⟨old, e1⟩, ⟨o, e2, _⟩, _⟩ b hb
    rcases List.mem_cons.mp hb with rfl | hb
    · exact ⟨_, e1⟩
    · rw [List.mem_singleton.mp hb]; exact ⟨o, e2⟩
  · intro hm
    rcases List.mem_cons.mp hm with e | hm
    · rw [e] at hLs; exact absurd hLs (Nat.not_lt.mpr (Nat.le_succ _))
    · have e := List.mem_singleton.mp hm; rw [e] at hLs; exact absurd hLs (Nat.lt_irrefl _)
  · intro b hb
    rcases List.mem_cons.mp hb with rfl | hb
    · exact hold _ (Nat.le_succ _)
    · rw [List.mem_singleton.mp hb]; exact hold _ (Nat.le_refl _)
  · intro p hp hm
    have hp' : p.1 < s.heap.objs.size := Heap.lt_size (N p hp).1
    rcases List.mem_cons.mp hm with e | hm
    · rw [e] at hp'; exact absurd hp' (Nat.not_lt.mpr (Nat.le_succ _))
    · have e := List.mem_singleton.mp hm; rw [e] at hp'; exact absurd hp' (Nat.lt_irrefl _)
  · intro b hb
    rcases List.mem_cons.mp hb with rfl | hb
    · exact .inl (.head _)
    · rcases List.mem_cons.mp hb with rfl | hb
      · exact .inl (.tail _ (.head _))
      · rw [List.mem_singleton.mp hb]; exact .inr hfix
  · rintro i v l₁ news₁ s₁ own hi ⟨T, vals, rfl, ⟨t, x, hx, rfl⟩, hT⟩ hJ hsep hg hos F₁ N₁
    exact turn i x T t l₁ news₁ s₁ own (by simpa using hx) hT hJ hsep hg hos F₁ N₁
  · intro l₁ news₁ s₁ hJ
    rw [List.size_toArray] at hJ
    exact done l₁ news₁ s₁ hJ

/-- a list of tuples, gone over -/
theorem iter_pairs {a : Addr} {vs : List Value} {target : Expr} {elts : List Expr} {kk : Nat} {pt : Pos} {l : List (Str × Option Value)} {news : List (Addr × Obj)} {R : Result → Shared → Prop} (J : Nat → List (Str × Option Value) → List (Addr × Obj) → Prop)
    (htg : target = .Tuple elts kk pt) (hh : A.handled = none) (F : Fr h₀ env.locals s.heap (mOf l)) (N : News h₀ env.locals s.heap news) (hl : s.heap.IsList a vs.toArray) (hrf : ∀ (i : Nat) (v : Value), vs[i]? = some v → ∃ T, v = Value.ref T) (h0 : J 0 l news)
    (hfix : (∃ o, h₀.get? a = some o) ∨ ∃ o, ∀ i l₁ news₁, J i l₁ news₁ → (a, o) ∈ news₁)
    (turn : ∀ i v l₁ news₁ s₁ own, vs[i]? = some v → J i l₁ news₁ → (∀ p ∈ own, ∀ q ∈ news₁, p.1 ≠ q.1) → GensGrow s.gens s₁.gens → s₁.os = s.os → Fr h₀ env.locals s₁.heap (mOf l₁) → News h₀ env.locals s₁.heap (news₁ ++ own) →
      wpAny (model prog w) A (assign target env v) (fun _ s₂ => wpAny (model prog w) A (execs body env) (TurnX h₀ env.locals own (J (i + 1)) (fun fl s' => R (.ok fl) s') s) (fun _ _ => False) s₂) (fun _ _ => False) s₁)
    (done : ∀ l₁ news₁ s₁, J vs.length l₁ news₁ → GensGrow s.gens s₁.gens → s₁.os = s.os → Fr h₀ env.locals s₁.heap (mOf l₁) → News h₀ env.locals s₁.heap news₁ → R (.ok .next) s₁) :
    wpAny (model prog w) A (pyIter (.ref a)) (fun it s₂ => codeAny (model prog w) A (.forLoop target it body [] env) R s₂) (fun _ _ => False) s := by
  subst htg
  obtain ⟨oa, hoa, _⟩ := id hl
  have hne : a ≠ s.heap.objs.size := Nat.ne_of_lt (Heap.lt_size hoa)
  refine wpAny_pyIter_list hl ?_
  refine loop_any (Steps.listT hh s.heap.objs.size a hne vs.toArray (fun i v e => hrf i v (by simpa using e))) J ?_ ?_ ⟨⟨_, Heap.get?_push_size _ rfl, rfl, rfl⟩, hl.at fun o e => Heap.get?_push_of_some _ e⟩ (F.push _) (fun p hp => ⟨Heap.get?_push_of_some _ (N p hp).1, (N p hp).2⟩) ?_ h0 ?_ ?_ ?_
  · intro hm; exact absurd F.ns.lt ((List.mem_singleton.mp hm) ▸ Nat.lt_irrefl _)
  · intro b hb; rw [List.mem_singleton.mp hb]; exact next_is_new F
  · intro p hp hm; exact absurd (Heap.lt_size (N p hp).1) ((List.mem_singleton.mp hm) ▸ Nat.lt_irrefl _)
  · intro b hb
    rcases List.mem_cons.mp hb with rfl | hb
    · exact .inl (.head _)
    · rw [List.mem_singleton.mp hb]; exact .inr hfix
  · intro i v l₁ news₁ s₁ own hi hP hJ hsep hg hos F₁ N₁
    exact turn i v l₁ news₁ s₁ own (by simpa using hP) hJ hsep hg hos F₁ N₁
  · intro l₁ news₁ s₁ hJ
    rw [List.size_toArray] at hJ
    exact done l₁ news₁ s₁ hJ

/-- range(a, a + n), gone over -/
theorem iter_range {r : Addr} {a b : Int} {t u v : Tok} {n : Nat} {x : Str} {px : Pos} {l : List (Str × Option Value)} {news : List (Addr × Obj)} {R : Result → Shared → Prop} (J : Nat → List (Str × Option Value) → List (Addr × Obj) → Prop)
    (hh : A.handled = none) (F : Fr h₀ env.locals s.heap (mOf l)) (N : News h₀ env.locals s.heap news) (hr : IsRange s.heap r a b 1 t u v) (hsmall : Builtin.Range.small a b 1 = true) (hn : Builtin.Range.rangeSize a b 1 = ((n : Nat) : Int)) (h0 : J 0 l news)
    (turn : ∀ i t l₁ news₁ s₁ own, i < n → J i l₁ news₁ → (∀ p ∈ own, ∀ q ∈ news₁, p.1 ≠ q.1) → GensGrow s.gens s₁.gens → s₁.os = s.os → Fr h₀ env.locals s₁.heap (mOf l₁) → News h₀ env.locals s₁.heap (news₁ ++ own) →
      wpAny (model prog w) A (assign (.Name x px) env (.int (a + (i : Nat)) t)) (fun _ s₂ => wpAny (model prog w) A (execs body env) (TurnX h₀ env.locals own (J (i + 1)) (fun fl s' => R (.ok fl) s') s) (fun _ _ => False) s₂) (fun _ _ => False) s₁)
    (done : ∀ l₁ news₁ s₁, J n l₁ news₁ → GensGrow s.gens s₁.gens → s₁.os = s.os → Fr h₀ env.locals s₁.heap (mOf l₁) → News h₀ env.locals s₁.heap news₁ → R (.ok .next) s₁) :
    wpAny (model prog w) A (pyIter (.ref r)) (fun it s₂ => codeAny (model prog w) A (.forLoop (.Name x px) it body [] env) R s₂) (fun _ _ => False) s := by
  refine wpAny_pyIter_range hr hsmall ?_
  have W := LCg.range_walks (prog := prog) (w := w) (A := A) (I := s.heap.objs.size) hh a n
  refine loop_any (Steps.ofWalks W (fun i h st b hb => ?_)) J ?_ ?_ ?_ (F.push _) (fun p hp => ⟨Heap.get?_push_of_some _ (N p hp).1, (N p hp).2⟩) ?_ h0 ?_ ?_ ?_
  · rw [List.mem_singleton.mp hb]; exact ⟨_, st⟩
  · intro hm; exact absurd F.ns.lt ((List.mem_singleton.mp hm) ▸ Nat.lt_irrefl _)
  · intro b hb; rw [List.mem_singleton.mp hb]; exact next_is_new F
  · show IsRangeIter _ _ _ _ _
    rw [hn]; simpa using Heap.get?_push_size _ rfl
  · intro p hp hm; exact absurd (Heap.lt_size (N p hp).1) ((List.mem_singleton.mp hm) ▸ Nat.lt_irrefl _)
  · intro b hb; exact .inl hb
  · rintro i _ l₁ news₁ s₁ own hi ⟨t, rfl⟩ hJ hsep hg hos F₁ N₁
    exact turn i t l₁ news₁ s₁ own hi hJ hsep hg hos F₁ N₁
  · intro l₁ news₁ s₁ hJ
    exact done l₁ news₁ s₁ hJ
end
end Mine
end
section
open PySem PySem.W PySem.W.X PyProof.Rows PySem.Calls
set_option Elab.async false
set_option maxRecDepth 100000
namespace Mine
open PySem

theorem updFMid {d : Addr} {o : Obj} : ∀ {l₁ l₂ : List (Addr × Obj)}, (∀ p ∈ l₁, p.1 ≠ d) → (∀ p ∈ l₂, p.1 ≠ d) → UpdF d o (l₁ ++ (d, o) :: l₂) (fun o' => l₁ ++ (d, o') :: l₂)
  | [], _, _, h2 => .head h2
  | _ :: _, _, h1, h2 => .tail (h1 _ (.head _)) (updFMid (fun q hq => h1 q (.tail _ hq)) h2)

/-- the state of the table of a def that makes one lambda, and what of it lies in the ledger -/
def TabIs (ps : Array Value) (extra : List (Addr × Obj)) (line col : Nat) (qual : Str) : Prop :=
  (ps = #[] ∧ extra = []) ∨ ∃ c' oc vs t, ps = #[rawInt line, rawInt col, .ref c'] ∧ oc.data = .fields vs ∧ vs[1]? = some (.str qual t) ∧ extra = [(c', oc)]

theorem mkLam2 {M : Model} {A : Around} {E : Value → Shared → Prop} {s : Shared} {h₀ : Heap} {L a c P : Addr} {m mg mb : Str → Option Value} {cn : Str} {cs : Scope} {ccd : Value} {cl : List (Str × Addr)} {l₁ l₂ extra : List (Addr × Obj)}
    {p : Program} {loose : List Str} {mean : ExcName → Option Value} {name qual : Str} {params : Arguments} {body : Expr} {scope : Scope} {ps : Array Value} {pos : Pos} {firstLine : Nat} {clos : List (Str × Addr)} {Q : Value → Shared → Prop}
    (F : Fr h₀ L s.heap m) (N : News h₀ L s.heap (l₁ ++ (P, tabObj ps) :: (extra ++ l₂))) (T : Top p loose mean mg mb h₀) (C : CodeHd h₀ c P) (hcd : ccd = .ref c) (h1 : ∀ p ∈ l₁, p.1 ≠ P) (h2 : ∀ p ∈ extra ++ l₂, p.1 ≠ P)
    (hps : TabIs ps extra pos.line pos.col qual)
    (hcl : closureFor scope (envX cn cs L a ccd cl) = pure clos)
    (h : ∀ f c' oc ps' extra' ctv h' tk, Fr h₀ L h' m → News h₀ L h' ((f, kla_obj name qual params body scope clos ((mg "__name__").getD .none) c' ctv) :: (l₁ ++ (P, tabObj ps') :: (extra' ++ l₂))) →
      TabIs ps' extra' pos.line pos.col qual → h'.CodeRec (.ref c') qual → extra' = [(c', oc)] → (extra' = extra ∨ ∀ q ∈ l₁ ++ (P, tabObj ps) :: (extra ++ l₂), q.1 < c') → (∀ q ∈ l₁ ++ (P, tabObj ps) :: (extra ++ l₂), q.1 < f) → Q (.ref f) { s with heap := h', toks := tk }) :
    wpAny M A (makeFunction name qual params (.expr body) scope (envX cn cs L a ccd cl) [] [] [] pos firstLine) Q E s := by
  rcases hps with ⟨rfl, rfl⟩ | ⟨c', oc, vs, t, rfl, hd, hv, rfl⟩
  · refine kla_nest F N T C hcd (updFMid h1 h2) trivial rfl hcl fun f c' oc vs t ctv h' tk F' N' d1 d2 l1 l2 => ?_
    refine h f c' oc _ [(c', oc)] ctv h' tk F' (fun q hq => ?_) (.inr ⟨c', oc, vs, t, rfl, d1, d2, rfl⟩) (codeRec_news N' (.tail _ (.head _)) d1 d2) rfl (.inr l1) fun q hq => Nat.lt_trans (l1 q hq) l2
    rcases List.mem_cons.mp hq with rfl | hq
    · exact N' _ (.head _)
    · rcases List.mem_append.mp hq with hq | hq
      · exact N' q (.tail _ (.tail _ (List.mem_append_left _ hq)))
      · rcases List.mem_cons.mp hq with rfl | hq
        · exact N' _ (.tail _ (.tail _ (List.mem_append_right _ (by simp))))
        · rcases List.mem_append.mp hq with hq | hq
          · rw [List.mem_singleton.mp hq]; exact N' _ (.tail _ (.head _))
          · exact N' q (.tail _ (.tail _ (List.mem_append_right _ (.tail _ hq))))
  · have hps : TabIs #[rawInt pos.line, rawInt pos.col, .ref c'] [(c', oc)] pos.line pos.col qual := .inr ⟨c', oc, vs, t, rfl, hd, hv, rfl⟩
    refine kla_hit F N T C hcd (List.mem_append_right _ (.head _)) (by simp [TriplesOk, rawInt]) (c' := c') (by simp [codeAmong, rawInt]) hcl fun f ctv h' tk F' N' l1 => ?_
    exact h f c' oc _ [(c', oc)] ctv h' tk F' N' hps (codeRec_news N' (.tail _ (List.mem_append_right _ (.tail _ (.head _)))) hd hv) rfl (.inl rfl) l1
theorem codeRec_keep {h h' : Heap} {c : Value} {qual : Str} (x : h.CodeRec c qual) (k : ∀ b o, h.get? b = some o → h'.get? b = some o) : h'.CodeRec c qual := by
  obtain ⟨c₂, oc, vs, t, e1, e2, r⟩ := x
  exact ⟨c₂, oc, vs, t, e1, k _ _ e2, r⟩
/-- what a call leaves that grows one code table -/
structure KeepBut (P : Addr) (s s' : Shared) : Prop where
  heap : ∀ b o, b ≠ P → s.heap.get? b = some o → s'.heap.get? b = some o
  os : s'.os = s.os
  gens : GensGrow s.gens s'.gens
def TabHeap (h : Heap) (P : Addr) (line col : Nat) (qual : Str) : Prop := ∃ tab extra, TabIs tab extra line col qual ∧ h.get? P = some (tabObj tab) ∧ ∀ q ∈ extra, h.get? q.1 = some q.2
end Mine
end
section
open PySem PySem.W PySem.W.X PyProof.Rows
set_option Elab.async false
set_option maxRecDepth 100000
namespace Mine
open PySem

theorem str_eta (x : Str) : x = ⟨x.cps.toList.toArray⟩ := by cases x; simp
theorem mulS {prog : Program} {w : World} {A : Around} {E : Value → Shared → Prop} {s : Shared} {x : Str} {c : Nat} {t u : Tok} {Q : Value → Shared → Prop} {n : Int} (hx : x = ⟨[c].toArray⟩) (h1 : -1000 ≤ n) (h2 : n ≤ 1000)
    (h : ∀ t' k, Q (.str ⟨(List.replicate n.toNat c).toArray⟩ t') { s with toks := k }) : wpAny (model prog w) A (binaryOp .Mult (.str x t) (.int n u)) Q E s := by
  subst hx
  refine SB.mul (mulOk_of 1 1000 (Nat.le_refl _) (by omega) (by omega) (by omega) (by omega)) fun t' k => ?_
  have e := mul_one_list c n
  have e2 : Txt.mul ⟨[c].toArray⟩ n = ⟨(List.replicate n.toNat c).toArray⟩ := by
    rw [str_eta (Txt.mul ⟨[c].toArray⟩ n)]
    exact congrArg (fun l => (⟨l.toArray⟩ : Str)) e
  rw [e2]; exact h t' k
theorem addS {prog : Program} {w : World} {A : Around} {E : Value → Shared → Prop} {s : Shared} {a b : List Nat} {t u : Tok} {Q : Value → Shared → Prop} (h1 : a.length + b.length ≤ 1000000)
    (h : ∀ t' k, Q (.str ⟨(a ++ b).toArray⟩ t') { s with toks := k }) : wpAny (model prog w) A (binaryOp .Add (.str ⟨a.toArray⟩ t) (.str ⟨b.toArray⟩ u)) Q E s := by
  refine SBL.add (fun t' k _ => ?_) (by rw [sizeLine_eq]; simp only [Str.length, List.size_toArray]; omega)
  have e : ((⟨a.toArray⟩ : Str) ++ (⟨b.toArray⟩ : Str)) = ⟨(a ++ b).toArray⟩ := by
    show (⟨a.toArray ++ b.toArray⟩ : Str) = _
    rw [List.append_toArray]
  rw [e]; exact h t' k
theorem Texts.drop {vs : List Value} {cs : List (List Nat)} (h : Texts vs cs) : ∀ k, Texts (vs.drop k) (cs.drop k) := by
  induction h with
  | nil => intro k; simp; exact .nil
  | cons e t ih => intro k; cases k with
    | zero => exact .cons e t
    | succ k => exact ih k
theorem Texts.take {vs : List Value} {cs : List (List Nat)} (h : Texts vs cs) : ∀ k, Texts (vs.take k) (cs.take k) := by
  induction h with
  | nil => intro k; simp; exact .nil
  | cons e t ih => intro k; cases k with
    | zero => exact .nil
    | succ k => exact .cons e (ih k)
theorem flat_le {n : Nat} : ∀ (cs : List (List Nat)), (∀ c ∈ cs, c.length ≤ n) → cs.flatten.length ≤ cs.length * n
  | [], _ => by simp
  | c :: cs, h => by
    have ih := flat_le cs fun c hc => h c (.tail _ hc)
    have h1 := h c (.head _)
    simp only [List.flatten_cons, List.length_append, List.length_cons, Nat.add_mul, Nat.one_mul]
    omega
/-- xs[a:b] of a list whose items are any values -/
theorem sliceAB {prog : Program} {w : World} {A : Around} {E : Value → Shared → Prop} {s : Shared} {h₀ : Heap} {L : Addr} {m : Str → Option Value} {news : List (Addr × Obj)} {value slice : Expr} {l : Addr} {vs : List Value} {x y : Int} {t u : Tok} {a b : Nat} {ops : List Value} {Q : Value → Shared → Prop}
    (F : Fr h₀ L s.heap m) (N : News h₀ L s.heap news) (hl : s.heap.IsList l vs.toArray) (hx : x = (a : Int)) (hy : y = (b : Int)) (hab : a ≤ b) (hb : b ≤ vs.length) (hsz : vs.length ≤ 1000000)
    (h : ∀ h', Fr h₀ L h' m → News h₀ L h' ((s.heap.objs.size + 1, W.listOf ((vs.drop a).take (b - a)).toArray 0) :: news) → Q (.ref (s.heap.objs.size + 1)) { s with heap := h' })
    (hs : subscripted slice false (.ref l) (.ref s.heap.objs.size) = operate ops (getItem (.ref l) (.ref s.heap.objs.size)) := by with_unfolding_all rfl)
    (ht : ∀ r, letTemporaryGo value (.ref l) r = pure () := by intro _; with_unfolding_all rfl) :
    wpAny (model prog w) A (subscriptTail value slice (.ref l) (.ref s.heap.objs.size)) Q E { s with heap := s.heap.push { cls := .type "slice", data := .fields #[.int x t, .int y u, .none] } } := by
  subst hx hy
  refine slice_list3 F N hl (.int _ _) (.int _ _) .none (by simp) (fun h' F' N' => ?_) hs ht (by rw [List.size_toArray, sizeLine_eq]; omega)
  rw [slicePick_run _ a b (by rw [List.size_toArray]; exact hb) hab] at N'
  exact h h' F' N'
theorem range_small {a b : Int} (ha : 0 ≤ a) (ha' : a ≤ 1000000) (hb : 0 ≤ b) (hb' : b ≤ 1000000) : Builtin.Range.small a b 1 = true := by
  unfold Builtin.Range.small
  rw [rangeSize_nat]
  have e : ∀ x : Int, 0 ≤ x → x ≤ 2000000 → Builtin.Range.rangeFitsLong x = true := fun x h1 h2 => by
    unfold Builtin.Range.rangeFitsLong
    simp only [Bool.and_eq_true, decide_eq_true_eq]; omega
  rw [e a ha (by omega), e b hb (by omega), e 1 (by decide) (by decide), e _ (by omega) (by omega), e (b + (1 - 1)) (by omega) (by omega)]
  simp
/-- list(range(a, b)) -/
theorem listRange {prog : Program} {w : World} {A : Around} {E : Value → Shared → Prop} {s : Shared} {h₀ : Heap} {L : Addr} {m : Str → Option Value} {news : List (Addr × Obj)} {r : Addr} {a b : Int} {t u v : Tok} {Q : Value → Shared → Prop}
    (hh : A.handled = none) (F : Fr h₀ L s.heap m) (N : News h₀ L s.heap news) (hr : IsRange s.heap r a b 1 t u v) (ha : 0 ≤ a) (ha' : a ≤ 1000000) (hb : 0 ≤ b) (hb' : b ≤ 1000000)
    (h : ∀ D h' tk ys c, Fr h₀ L h' m → News h₀ L h' ((D, W.listOf (ys : List Value).toArray c) :: news) → IntsAre ys (rangeInts a 1 (b - a).toNat) → (∀ p ∈ news, p.1 < D) → Q (.ref D) { s with heap := h', toks := tk }) :
    wpAny (model prog w) A (call (.type "list") [.ref r]) Q E s := by
  refine list_rangeD hh F N hr (range_small ha ha' hb hb') (rangeSize_nat a b) (by omega) fun h' tk ys F' N' hk hn hl hp hc => ?_
  obtain ⟨c, e⟩ := hp.1
  refine h s.heap.objs.size h' tk ys c F' (fun q hq => ?_) (by simpa using (CarriedAll.intsOf (f := id) (by simpa using hc))) fun p hp => Heap.lt_size (N p hp).1
  rcases List.mem_cons.mp hq with rfl | hq
  · exact ⟨e, Nat.ne_of_gt F.ns.lt, hn⟩
  · exact N' q hq
end Mine
end
section
open PySem PySem.W PySem.W.X PyProof.Rows
set_option Elab.async false
set_option maxRecDepth 100000
namespace Mine
open PySem

section
variable {prog : Program} {w : World} {A : Around}

abbrev testsOf (prog : Program) (w : World) (ifs : List Expr) (env : Env) : Sem Bool := forIn ifs true fun c r => if r = true then do let ok ← isTrue c env (eval c env); pure (ForInStep.yield ok) else pure (ForInStep.yield r)

theorem comp_loop {elt target iter : Expr} {ifs : List Expr} {scope : Scope} {pos : Pos} {it acc : Value} {env : Env} {R : Result → Shared → Prop} {s : Shared} (I : Nat → Shared → Prop)
    (turn : ∀ n s, I n s → wpAny (model prog w) A (pyNext it) (fun r s₁ => match r with
      | none => R (.ok .next) s₁
      | some v => wpAny (model prog w) A (letOwnedTupleGo target it v) (fun _ s₀ => wpAny (model prog w) A (assign target env v) (fun _ s₂ =>
          wpAny (model prog w) A (testsOf prog w ifs env) (fun ok s₃ =>
            if ok = true then wpAny (model prog w) A (eval elt env) (fun x s₄ =>
              wpAny (model prog w) A (call (.builtin "list.append") [acc, x]) (fun _ s₅ => ∃ m, m < n ∧ I m s₅) (fun _ _ => False) s₄) (fun _ _ => False) s₃
            else ∃ m, m < n ∧ I m s₃) (fun _ _ => False) s₂) (fun _ _ => False) s₀) (fun _ _ => False) s₁) (fun _ _ => False) s)
    (n : Nat) (h : I n s) : codeAny (model prog w) A (.compLoop (.ListComp elt [⟨target, iter, ifs, 0⟩] scope pos) 0 it acc env) R s := by
  refine codeAny_loop rfl I (fun n s hI => ?_) n h
  show wpAny _ A ((compTurn (.ListComp elt [⟨target, iter, ifs, 0⟩] scope pos) 0 it acc env).onRaise (fun x => do noteFrame x env; theTreesLotGoes x)) _ _ s
  refine wpAny_noted ?_
  rw [compTurn_list]
  refine wpAny_bind (wpAny_standAt (wpAny_bind (wpAny_mono (turn n s hI) (fun r s₁ h₁ => ?_) fun _ _ x => x.elim)))
  cases r with
  | none => exact wpAny_pure h₁
  | some v =>
    refine wpAny_bind (wpAny_mono h₁ (fun _ s₀ h₀' => ?_) fun _ _ x => x.elim)
    refine wpAny_bind (wpAny_mono h₀' (fun _ s₂ h₂ => ?_) fun _ _ x => x.elim)
    refine wpAny_bind (wpAny_mono h₂ (fun okb s₃ h₃ => ?_) fun _ _ x => x.elim)
    cases okb with
    | false => exact wpAny_pure ⟨rfl, h₃⟩
    | true => exact wpAny_bind (wpAny_bind (wpAny_mono h₃ (fun x s₄ h₄ => wpAny_bind (wpAny_mono h₄ (fun _ s₅ h₅ => wpAny_pure (wpAny_pure ⟨rfl, h₅⟩)) fun _ _ x => x.elim)) fun _ _ x => x.elim))

/-- a name of the comprehension's own -/
theorem nameC {E : Value → Shared → Prop} {s : Shared} {h₀ : Heap} {C : Addr} {m : Str → Option Value} {scope : Scope} {cl : List (Str × Addr)} {env : Env} {x : Str} {px : Pos} {v : Value} {Q : Value → Shared → Prop} (F : Fr h₀ C s.heap m) (hv : m x = some v) (h : Q v s)
    (hk : scope.kind = .function) (hx : scope.names.lookup x = some .local) (hdb : (x == ("__debug__" : Str)) = false) : wpAny (model prog w) A (eval (.Name x px) (compEnvC scope cl C env)) Q E s :=
  wpAny_Name (wpAny_loadName_local (by exact hk) (lookup_relabel_local hx) F.ns hv h) hdb

/-- a name that the comprehension takes from its function's cell -/
theorem nameCF {E : Value → Shared → Prop} {s : Shared} {h₀ : Heap} {C c : Addr} {o : Obj} {m : Str → Option Value} {scope : Scope} {cl : List (Str × Addr)} {env : Env} {x : Str} {px : Pos} {v : Value} {Q : Value → Shared → Prop} (F : Fr h₀ C s.heap m) (hc : cl.lookup x = some c) (hv : h₀.get? c = some o) (hd : o.data = .cell (some v)) (h : Q v s)
    (hk : scope.kind = .function) (hx : (compEnvC scope cl C env).kindOf x = some .cell) (hdb : (x == ("__debug__" : Str)) = false) : wpAny (model prog w) A (eval (.Name x px) (compEnvC scope cl C env)) Q E s :=
  wpAny_Name (wpAny_loadName_cell (by exact hk) hx hc ⟨_, F.keep _ _ hv, hd⟩ h) hdb

/-- a list comprehension from where its iterator is made -/
def CompGo (prog : Program) (w : World) (A : Around) (elt target iter : Expr) (ifs : List Expr) (scope : Scope) (cl : List (Str × Addr)) (pos : Pos) (env : Env) (Q : Value → Shared → Prop) (it : Value) (s₂ : Shared) : Prop :=
  ∀ D C h tk, s₂.heap.objs.size ≤ D → s₂.heap.objs.size ≤ C → D ≠ C → h.Ns C (fun _ => none) → h.get? D = some (W.listOf #[] 0) → (∀ b o, s₂.heap.get? b = some o → h.get? b = some o) →
    codeAny (model prog w) A (.compStart (.ListComp elt [⟨target, iter, ifs, 0⟩] scope pos) 0 it (.ref D) (compEnvC scope cl C env)) (compPost (model prog w) A (fun _ _ => False) none Q (.ref D) C) { s₂ with heap := h, toks := tk }

theorem comp_eval {env : Env} {s : Shared} {E : Value → Shared → Prop} {elt target iter : Expr} {ifs : List Expr} {scope : Scope} (cl : List (Str × Addr)) {pos : Pos} {Q : Value → Shared → Prop}
    (hclos : closureFor scope env = pure cl) (hcell : ∀ y ∈ scope.names, y.2 ≠ .cell) (hkind : scope.kind = .function)
    (hnames : ∀ y ∈ scope.names, y.2 = .local → scope.names.lookup y.1 = some .local)
    (h : wpAny (model prog w) A (eval iter env) (fun xv s₁ => wpAny (model prog w) A (pyIter xv) (CompGo prog w A elt target iter ifs scope cl pos env Q) (fun _ _ => False) s₁) (fun _ _ => False) s)
    (hs : ∀ x, foldedSetIterable iter env x = pure x := by intro _; rfl) :
    wpAny (model prog w) A (eval (.ListComp elt [⟨target, iter, ifs, 0⟩] scope pos) env) Q E s := by
  refine wpAny_mono (E := fun _ _ => False) (Q := Q) ?_ (fun _ _ x => x) fun _ _ x => x.elim
  rw [eval_ListComp]
  refine wpAny_comprehension_free (use := none) rfl hs hclos hkind hnames (wpAny_mono h (fun xv s₁ h₁ => wpAny_mono h₁ (fun it s₂ h₂ => ?_) fun _ _ e => e) fun _ _ e => e)
  refine wpAny_newObj_type (wpAny_newFunctionEnv hcell (by intro y hy; simp at hy) (fun h₁ hns₁ hsb₁ => ?_) hkind)
  dsimp only at hns₁ hsb₁ ⊢
  have hD0 : (s₂.heap.push { cls := .type "list", dict := none, data := .seq ([] : List Value).toArray }).objs.size = s₂.heap.objs.size + 1 := Heap.size_push ..
  refine h₂ s₂.heap.objs.size _ h₁ _ (Nat.le_refl _) (by rw [hD0]; exact Nat.le_succ _) (by rw [hD0]; exact Nat.ne_of_lt (Nat.lt_succ_self _)) hns₁ ?_ fun b o e => ?_
  · exact hsb₁.extBut _ _ (by rw [hD0]; exact Nat.ne_of_lt (Nat.lt_succ_self _)) (Heap.get?_push_of_some _ (Heap.get?_push_size _ rfl))
  · have hb := Heap.lt_size e
    exact hsb₁.extBut b o (by rw [hD0]; exact Nat.ne_of_lt (Nat.lt_succ_of_lt hb)) (Heap.get?_push_of_some _ (Heap.get?_push_of_some _ e))

/-- what a turn of a comprehension leaves -/
def TurnC (g : Heap) (C D : Addr) (own : List (Addr × Obj)) (J : List (Str × Option Value) → List (Addr × Obj) → Prop) (s₁ : Shared) (ys : List Value) (s₄ : Shared) : Prop :=
  ∃ l₂ news₂ n, Fr g C s₄.heap (mOf l₂) ∧ News g C s₄.heap ((D, W.listOf ys.toArray n) :: (news₂ ++ own)) ∧ (∀ p ∈ own, ∀ q ∈ news₂, p.1 ≠ q.1) ∧ (∀ q ∈ news₂, q.1 ≠ D) ∧ GensGrow s₁.gens s₄.gens ∧ s₄.os = s₁.os ∧ J l₂ news₂

theorem comp_go {env : Env} {elt target iter : Expr} {ifs : List Expr} {scope : Scope} {cl : List (Str × Addr)} {pos : Pos} {Q : Value → Shared → Prop} {it : Value} {s₂ : Shared} {g : Heap} {l : List (Str × Option Value)} {fp wr : List Addr} {n : Nat} {P : Nat → Value → Heap → Prop} {St : Nat → Heap → Prop}
    (S : Steps prog w A target it fp wr n P St) (hself : ∀ i (s : Shared) (Q' E' : Value → Shared → Prop), St i s.heap → Q' it s → wpAny (model prog w) A (pyIter it) Q' E' s)
    (J : Nat → List Value → List (Str × Option Value) → List (Addr × Obj) → Prop)
    (hst : St 0 s₂.heap) (hg : ∀ b o, g.get? b = some o → s₂.heap.get? b = some o) (hgs : g.objs.size ≤ s₂.heap.objs.size) (hwr : ∀ b ∈ wr, g.get? b = none) (hfp : ∀ b ∈ fp, b ∈ wr ∨ ∃ o, g.get? b = some o) (hlt : ∀ b ∈ fp, b < s₂.heap.objs.size)
    (hn : n ≤ sizeLine) (hl : mOf l = fun _ => none) (h0 : J 0 [] l []) (hys : ∀ i ys l news, J i ys l news → ys.length ≤ i)
    (turn : ∀ C D i v ys k l₁ news₁ s₁ own, i < n → P i v s₁.heap → J i ys l₁ news₁ → (∀ p ∈ own, ∀ q ∈ news₁, p.1 ≠ q.1) → (∀ p ∈ own, p.1 ≠ D) → (∀ q ∈ news₁, q.1 ≠ D) → GensGrow s₂.gens s₁.gens → s₁.os = s₂.os → Fr g C s₁.heap (mOf l₁) → News g C s₁.heap ((D, W.listOf ys.toArray k) :: (news₁ ++ own)) →
      wpAny (model prog w) A (assign target (compEnvC scope cl C env) v) (fun _ s₃ => wpAny (model prog w) A (testsOf prog w ifs (compEnvC scope cl C env)) (fun ok s₄ =>
        if ok = true then wpAny (model prog w) A (eval elt (compEnvC scope cl C env)) (fun y s₅ => TurnC g C D own (J (i + 1) (ys ++ [y])) s₂ ys s₅) (fun _ _ => False) s₄ else TurnC g C D own (J (i + 1) ys) s₂ ys s₄) (fun _ _ => False) s₃) (fun _ _ => False) s₁)
    (done : ∀ D k ys l₁ news₁ s', J n ys l₁ news₁ → GensGrow s₂.gens s'.gens → s'.os = s₂.os → (∀ b o, g.get? b = some o → s'.heap.get? b = some o) → (∀ p ∈ (D, W.listOf ys.toArray k) :: news₁, s'.heap.get? p.1 = some p.2 ∧ g.get? p.1 = none) → s₂.heap.objs.size ≤ D → Q (.ref D) s') :
    CompGo prog w A elt target iter ifs scope cl pos env Q it s₂ := by
  intro D C h tk hD hC hDC hns hDl hk
  have hCw : C ∉ wr := fun hm => absurd (hlt C (S.sub C hm)) (Nat.not_lt.mpr hC)
  have hDw : D ∉ wr := fun hm => absurd (hlt D (S.sub D hm)) (Nat.not_lt.mpr hD)
  have hgn : ∀ b, s₂.heap.objs.size ≤ b → g.get? b = none := fun b hb => Heap.get?_none_of_le (Nat.le_trans hgs hb)
  have F0 : Fr g C h (mOf l) := ⟨by rw [hl]; exact hns, fun b o e => hk b o (hg b o e), Nat.le_trans hgs hC⟩
  have N0 : News g C h [(D, W.listOf ([] : List Value).toArray 0)] := fun p hp => by rw [List.mem_singleton.mp hp]; exact ⟨hDl, hDC, hgn D hD⟩
  have st0 : St 0 h := S.frame _ _ _ hst fun b _ o e => hk b o e
  have loop : codeAny (model prog w) A (.compLoop (.ListComp elt [⟨target, iter, ifs, 0⟩] scope pos) 0 it (.ref D) (compEnvC scope cl C env)) (compPost (model prog w) A (fun _ _ => False) none Q (.ref D) C) { s₂ with heap := h, toks := tk } := by
    refine comp_loop (fun k s' => ∃ i ys kk l₁ news₁, k = n + 1 - i ∧ i ≤ n ∧ St i s'.heap ∧ Fr g C s'.heap (mOf l₁) ∧ News g C s'.heap ((D, W.listOf ys.toArray kk) :: news₁) ∧ (∀ q ∈ news₁, q.1 ∉ wr) ∧ (∀ q ∈ news₁, q.1 ≠ D) ∧ J i ys l₁ news₁ ∧ GensGrow s₂.gens s'.gens ∧ s'.os = s₂.os) ?_ (n + 1)
      ⟨0, [], 0, l, [], rfl, Nat.zero_le _, st0, F0, N0, (fun _ h => nomatch h), (fun _ h => nomatch h), h0, .refl _, rfl⟩
    rintro k s' ⟨i, ys, kk, l₁, news₁, rfl, hi, hst', F', N', hnw', hnD, hJ, hgg, hos⟩
    have moveF : ∀ h₁ : Heap, (∀ b o, b ∉ wr → s'.heap.get? b = some o → h₁.get? b = some o) → Fr g C h₁ (mOf l₁) ∧ News g C h₁ ((D, W.listOf ys.toArray kk) :: news₁) := fun h₁ hk₁ =>
      ⟨⟨F'.ns.at' fun o e => hk₁ _ o hCw e, fun b o e => hk₁ b o (fun hb => by rw [hwr b hb] at e; cases e) (F'.keep b o e), F'.above⟩,
        fun p hp => ⟨hk₁ _ _ (by rcases List.mem_cons.mp hp with rfl | hp; exact hDw; exact hnw' p hp) (N' p hp).1, (N' p hp).2⟩⟩
    by_cases hlt' : i < n
    · refine wpAny_mono (S.item i s' (fun v s₃ => wpAny (model prog w) A (assign target (compEnvC scope cl C env) v) (fun _ s₂' =>
          wpAny (model prog w) A (testsOf prog w ifs (compEnvC scope cl C env)) (fun ok s₃ =>
            if ok = true then wpAny (model prog w) A (eval elt (compEnvC scope cl C env)) (fun x s₄ =>
              wpAny (model prog w) A (call (.builtin "list.append") [.ref D, x]) (fun _ s₅ => ∃ m, m < n + 1 - i ∧ ∃ i ys kk l₁ news₁, m = n + 1 - i ∧ i ≤ n ∧ St i s₅.heap ∧ Fr g C s₅.heap (mOf l₁) ∧ News g C s₅.heap ((D, W.listOf ys.toArray kk) :: news₁) ∧ (∀ q ∈ news₁, q.1 ∉ wr) ∧ (∀ q ∈ news₁, q.1 ≠ D) ∧ J i ys l₁ news₁ ∧ GensGrow s₂.gens s₅.gens ∧ s₅.os = s₂.os) (fun _ _ => False) s₄) (fun _ _ => False) s₃
            else ∃ m, m < n + 1 - i ∧ ∃ i ys kk l₁ news₁, m = n + 1 - i ∧ i ≤ n ∧ St i s₃.heap ∧ Fr g C s₃.heap (mOf l₁) ∧ News g C s₃.heap ((D, W.listOf ys.toArray kk) :: news₁) ∧ (∀ q ∈ news₁, q.1 ∉ wr) ∧ (∀ q ∈ news₁, q.1 ≠ D) ∧ J i ys l₁ news₁ ∧ GensGrow s₂.gens s₃.gens ∧ s₃.os = s₂.os) (fun _ _ => False) s₂') (fun _ _ => False) s₃) (fun _ _ => False) hlt' hst' fun v h₁ tk₁ hP st₁ hk₁ => ?_) (fun r s₁ h₁ => ?_) fun _ _ x => x.elim
      · obtain ⟨F₁, N₁⟩ := moveF h₁ hk₁
        have Nown : News g C h₁ (ownOf g wr h₁) := news_ownOf hCw
        have N₂ : News g C h₁ ((D, W.listOf ys.toArray kk) :: (news₁ ++ ownOf g wr h₁)) := fun p hp => by
          rcases List.mem_cons.mp hp with rfl | hp
          · exact N₁ _ (.head _)
          · rcases List.mem_append.mp hp with hp | hp
            · exact N₁ p (.tail _ hp)
            · exact Nown p hp
        have hoD : ∀ p ∈ ownOf g wr h₁, p.1 ≠ D := fun p hp e => hDw (by rw [← e]; exact ownOf_sub p hp)
        have fin : ∀ (ys₁ : List Value) (s₃ : Shared) l₂ news₂ kk₂, Fr g C s₃.heap (mOf l₂) → News g C s₃.heap ((D, W.listOf ys₁.toArray kk₂) :: (news₂ ++ ownOf g wr h₁)) → (∀ p ∈ ownOf g wr h₁, ∀ q ∈ news₂, p.1 ≠ q.1) → (∀ q ∈ news₂, q.1 ≠ D) → GensGrow s₂.gens s₃.gens → s₃.os = s₂.os → J (i + 1) ys₁ l₂ news₂ →
            ∃ m, m < n + 1 - i ∧ ∃ i ys kk l₁ news₁, m = n + 1 - i ∧ i ≤ n ∧ St i s₃.heap ∧ Fr g C s₃.heap (mOf l₁) ∧ News g C s₃.heap ((D, W.listOf ys.toArray kk) :: news₁) ∧ (∀ q ∈ news₁, q.1 ∉ wr) ∧ (∀ q ∈ news₁, q.1 ≠ D) ∧ J i ys l₁ news₁ ∧ GensGrow s₂.gens s₃.gens ∧ s₃.os = s₂.os := by
          intro ys₁ s₃ l₂ news₂ kk₂ F₃ N₃ hsep₃ hnD₃ hg₃ hos₃ hJ₃
          refine ⟨n + 1 - (i + 1), by omega, i + 1, ys₁, kk₂, l₂, news₂, rfl, hlt', S.frame _ _ _ st₁ fun b hb o e => ?_, F₃, fun p hp => N₃ p ?_, fun q hq hw => ?_, hnD₃, hJ₃, hg₃, hos₃⟩
          · rcases hfp b hb with hw | ⟨o', e'⟩
            · exact (N₃ (b, o) (.tail _ (List.mem_append_right _ (mem_ownOf hw (hwr b hw) e)))).1
            · have e2 := F₁.keep b o' e'
              exact (F₃.keep b o' e').trans (e2.symm.trans e)
          · rcases List.mem_cons.mp hp with rfl | hp
            · exact .head _
            · exact .tail _ (List.mem_append_left _ hp)
          · obtain ⟨o, e⟩ := S.live _ _ st₁ _ hw
            exact hsep₃ (q.1, o) (mem_ownOf hw (hwr _ hw) e) q hq rfl
        refine wpAny_mono (turn C D i v ys kk l₁ news₁ _ (ownOf g wr h₁) hlt' hP hJ (fun p hp q hq e => hnw' q hq (by rw [← e]; exact ownOf_sub p hp)) hoD hnD hgg hos F₁ N₂) (fun _ s₃ h₃ => wpAny_mono h₃ (fun ok s₄ h₄ => ?_) fun _ _ x => x.elim) fun _ _ x => x.elim
        cases ok with
        | false =>
          rw [if_neg (by decide)] at h₄ ⊢
          obtain ⟨l₂, news₂, kk₂, F₃, N₃, hsep₃, hnD₃, hg₃, hos₃, hJ₃⟩ := h₄
          exact fin _ _ _ _ _ F₃ N₃ hsep₃ hnD₃ hg₃ hos₃ hJ₃
        | true =>
          rw [if_pos rfl] at h₄ ⊢
          refine wpAny_mono h₄ (fun y s₅ h₅ => ?_) fun _ _ x => x.elim
          obtain ⟨l₂, news₂, kk₂, F₃, N₃, hsep₃, hnD₃, hg₃, hos₃, hJ₃⟩ := h₅
          have hyl := hys _ _ _ _ hJ₃
          rw [List.length_append, List.length_singleton] at hyl
          refine appendMid (l₁ := []) F₃ N₃ (fun _ h => nomatch h) (fun p hp => ?_) (by rw [List.size_toArray]; omega) fun h' F₄ N₄ => ?_
          · rcases List.mem_append.mp hp with hp | hp
            · exact hnD₃ p hp
            · exact hoD p hp
          · rw [List.push_toArray] at N₄
            exact fin _ { s₅ with heap := h' } _ _ _ F₄ N₄ hsep₃ hnD₃ hg₃ hos₃ hJ₃
      · obtain ⟨v, rfl, h₁⟩ := h₁
        exact h₁
    · have hin : i = n := by omega
      subst hin
      refine wpAny_mono (S.done s' (fun s₁ => compPost (model prog w) A (fun _ _ => False) none Q (.ref D) C (.ok .next) s₁) (fun _ _ => False) hst' fun h₁ tk hk₁ => ?_) (fun r s₁ h₁ => ?_) fun _ _ x => x.elim
      · obtain ⟨F₁, N₁⟩ := moveF h₁ hk₁
        refine ⟨_, F₁.ns, fun h' hs' => ?_⟩
        refine done D kk ys l₁ news₁ _ hJ hgg hos (fun b o e => ?_) (fun p hp => ⟨hs'.extBut _ _ (N₁ p hp).2.1 (N₁ p hp).1, (N₁ p hp).2.2⟩) hD
        exact hs'.extBut b o (fun e2 => by rw [e2, hgn C hC] at e; cases e) (F₁.keep b o e)
      · obtain ⟨rfl, h₁⟩ := h₁
        exact h₁
  exact codeAny_compStart_list loop (hself 0 _ _ _ st0 loop)

/-- [.. for x in a list ..] -/
theorem comp_list {env : Env} {s : Shared} {elt iter : Expr} {x : Str} {px : Pos} {ifs : List Expr} {scope : Scope} {cl : List (Str × Addr)} {pos : Pos} {Q : Value → Shared → Prop} {l : List (Str × Option Value)} {a : Addr} {vs : List Value}
    (J : Nat → List Value → List (Str × Option Value) → List (Addr × Obj) → Prop) (hh : A.handled = none) (hl : s.heap.IsList a vs.toArray)
    (hn : vs.length ≤ sizeLine) (hm : mOf l = fun _ => none) (h0 : J 0 [] l []) (hys : ∀ i ys l news, J i ys l news → ys.length ≤ i)
    (turn : ∀ C D i v ys k l₁ news₁ s₁ own, vs[i]? = some v → J i ys l₁ news₁ → (∀ p ∈ own, ∀ q ∈ news₁, p.1 ≠ q.1) → (∀ p ∈ own, p.1 ≠ D) → (∀ q ∈ news₁, q.1 ≠ D) → GensGrow s.gens s₁.gens → s₁.os = s.os → Fr s.heap C s₁.heap (mOf (setL x (some v) l₁)) → News s.heap C s₁.heap ((D, W.listOf ys.toArray k) :: (news₁ ++ own)) →
      wpAny (model prog w) A (testsOf prog w ifs (compEnvC scope cl C env)) (fun ok s₄ =>
        if ok = true then wpAny (model prog w) A (eval elt (compEnvC scope cl C env)) (fun y s₅ => TurnC s.heap C D own (J (i + 1) (ys ++ [y])) s ys s₅) (fun _ _ => False) s₄ else TurnC s.heap C D own (J (i + 1) ys) s ys s₄) (fun _ _ => False) s₁)
    (done : ∀ D k ys l₁ news₁ s', J vs.length ys l₁ news₁ → GensGrow s.gens s'.gens → s'.os = s.os → (∀ b o, s.heap.get? b = some o → s'.heap.get? b = some o) → (∀ p ∈ (D, W.listOf ys.toArray k) :: news₁, s'.heap.get? p.1 = some p.2 ∧ s.heap.get? p.1 = none) → Q (.ref D) s')
    (hk : scope.kind = .function) (hx : scope.names.lookup x = some .local) :
    wpAny (model prog w) A (pyIter (.ref a)) (CompGo prog w A elt (.Name x px) iter ifs scope cl pos env Q) (fun _ _ => False) s := by
  obtain ⟨oa, hoa, _⟩ := id hl
  have hne : a ≠ s.heap.objs.size := Nat.ne_of_lt (Heap.lt_size hoa)
  refine wpAny_pyIter_list hl ?_
  have W := Walks.list (prog := prog) (w := w) (A := A) hh s.heap.objs.size a hne vs.toArray
  refine comp_go (g := s.heap) (Steps.ofWalks (x := x) (px := px) W list_live) (fun i s Q' E' st hQ => W.self i s _ _ st hQ) J ⟨⟨_, Heap.get?_push_size _ rfl, rfl, rfl⟩, hl.at fun o e => Heap.get?_push_of_some _ e⟩ (fun b o e => Heap.get?_push_of_some _ e) ?_ ?_ ?_ ?_ (by rw [List.size_toArray]; exact hn) hm h0 hys ?_ ?_
  · dsimp only; rw [Heap.size_push]; exact Nat.le_succ _
  · intro b hb; rw [List.mem_singleton.mp hb]; exact Heap.get?_none_of_le (Nat.le_refl _)
  · intro b hb
    rcases List.mem_cons.mp hb with rfl | hb
    · exact .inl (.head _)
    · rw [List.mem_singleton.mp hb]; exact .inr ⟨oa, hoa⟩
  · intro b hb
    dsimp only; rw [Heap.size_push]
    rcases List.mem_cons.mp hb with rfl | hb
    · exact Nat.lt_succ_self _
    · rw [List.mem_singleton.mp hb]; exact Nat.lt_succ_of_lt (Heap.lt_size hoa)
  · intro C D i v ys k l₁ news₁ s₁ own hi hP hJ hsep hoD hnD hg hos F₁ N₁
    refine wpAny_assign_Name (stE F₁ N₁ (fun h' F₂ N₂ _ => ?_) rfl (by exact hk) (lookup_relabel_local hx))
    exact turn C D i v ys k l₁ news₁ _ own (by simpa using hP) hJ hsep hoD hnD hg hos F₂ N₂
  · intro D k ys l₁ news₁ s' hJ hg hos hkp hN _
    rw [List.size_toArray] at hJ
    exact done D k ys l₁ news₁ s' hJ hg hos hkp hN

/-- [.. for x, y in a list of tuples ..] -/
theorem comp_pairs {env : Env} {s : Shared} {elt iter target : Expr} {elts : List Expr} {kk : Nat} {pt : Pos} {ifs : List Expr} {scope : Scope} {cl : List (Str × Addr)} {pos : Pos} {Q : Value → Shared → Prop} {l : List (Str × Option Value)} {a : Addr} {vs : List Value}
    (J : Nat → List Value → List (Str × Option Value) → List (Addr × Obj) → Prop) (htg : target = .Tuple elts kk pt) (hh : A.handled = none) (hl : s.heap.IsList a vs.toArray) (hrf : ∀ (i : Nat) (v : Value), vs[i]? = some v → ∃ T, v = Value.ref T)
    (hn : vs.length ≤ sizeLine) (hm : mOf l = fun _ => none) (h0 : J 0 [] l []) (hys : ∀ i ys l news, J i ys l news → ys.length ≤ i)
    (turn : ∀ C D i v ys k l₁ news₁ s₁ own, vs[i]? = some v → J i ys l₁ news₁ → (∀ p ∈ own, ∀ q ∈ news₁, p.1 ≠ q.1) → (∀ p ∈ own, p.1 ≠ D) → (∀ q ∈ news₁, q.1 ≠ D) → GensGrow s.gens s₁.gens → s₁.os = s.os → Fr s.heap C s₁.heap (mOf l₁) → News s.heap C s₁.heap ((D, W.listOf ys.toArray k) :: (news₁ ++ own)) →
      wpAny (model prog w) A (assign target (compEnvC scope cl C env) v) (fun _ s₃ => wpAny (model prog w) A (testsOf prog w ifs (compEnvC scope cl C env)) (fun ok s₄ =>
        if ok = true then wpAny (model prog w) A (eval elt (compEnvC scope cl C env)) (fun y s₅ => TurnC s.heap C D own (J (i + 1) (ys ++ [y])) s ys s₅) (fun _ _ => False) s₄ else TurnC s.heap C D own (J (i + 1) ys) s ys s₄) (fun _ _ => False) s₃) (fun _ _ => False) s₁)
    (done : ∀ D k ys l₁ news₁ s', J vs.length ys l₁ news₁ → GensGrow s.gens s'.gens → s'.os = s.os → (∀ b o, s.heap.get? b = some o → s'.heap.get? b = some o) → (∀ p ∈ (D, W.listOf ys.toArray k) :: news₁, s'.heap.get? p.1 = some p.2 ∧ s.heap.get? p.1 = none) → Q (.ref D) s') :
    wpAny (model prog w) A (pyIter (.ref a)) (CompGo prog w A elt target iter ifs scope cl pos env Q) (fun _ _ => False) s := by
  subst htg
  obtain ⟨oa, hoa, _⟩ := id hl
  have hne : a ≠ s.heap.objs.size := Nat.ne_of_lt (Heap.lt_size hoa)
  refine wpAny_pyIter_list hl ?_
  have W := Walks.list (prog := prog) (w := w) (A := A) hh s.heap.objs.size a hne vs.toArray
  refine comp_go (g := s.heap) (Steps.listT hh s.heap.objs.size a hne vs.toArray (fun i v e => hrf i v (by simpa using e))) (fun i s Q' E' st hQ => W.self i s _ _ st hQ) J ⟨⟨_, Heap.get?_push_size _ rfl, rfl, rfl⟩, hl.at fun o e => Heap.get?_push_of_some _ e⟩ (fun b o e => Heap.get?_push_of_some _ e) ?_ ?_ ?_ ?_ (by rw [List.size_toArray]; exact hn) hm h0 hys ?_ ?_
  · dsimp only; rw [Heap.size_push]; exact Nat.le_succ _
  · intro b hb; rw [List.mem_singleton.mp hb]; exact Heap.get?_none_of_le (Nat.le_refl _)
  · intro b hb
    rcases List.mem_cons.mp hb with rfl | hb
    · exact .inl (.head _)
    · rw [List.mem_singleton.mp hb]; exact .inr ⟨oa, hoa⟩
  · intro b hb
    dsimp only; rw [Heap.size_push]
    rcases List.mem_cons.mp hb with rfl | hb
    · exact Nat.lt_succ_self _
    · rw [List.mem_singleton.mp hb]; exact Nat.lt_succ_of_lt (Heap.lt_size hoa)
  · intro C D i v ys k l₁ news₁ s₁ own hi hP hJ hsep hoD hnD hg hos F₁ N₁
    exact turn C D i v ys k l₁ news₁ _ own (by simpa using hP) hJ hsep hoD hnD hg hos F₁ N₁
  · intro D k ys l₁ news₁ s' hJ hg hos hkp hN _
    rw [List.size_toArray] at hJ
    exact done D k ys l₁ news₁ s' hJ hg hos hkp hN

/-- [.. for i, x in enumerate(list) ..] -/
theorem comp_enum {env : Env} {s : Shared} {elt iter target : Expr} {elts : List Expr} {kk : Nat} {pt : Pos} {ifs : List Expr} {scope : Scope} {cl : List (Str × Addr)} {pos : Pos} {Q : Value → Shared → Prop} {l : List (Str × Option Value)} {a : Addr} {vs : List Value}
    (J : Nat → List Value → List (Str × Option Value) → List (Addr × Obj) → Prop) (htg : target = .Tuple elts kk pt) (hh : A.handled = none) (hl : s.heap.IsList a vs.toArray)
    (hn : vs.length ≤ sizeLine) (hm : mOf l = fun _ => none) (h0 : J 0 [] l []) (hys : ∀ i ys l news, J i ys l news → ys.length ≤ i)
    (turn : ∀ C D i v T t ys k l₁ news₁ s₁ own, vs[i]? = some v → s₁.heap.IsTuple T #[.int (i : Nat) t, v] → J i ys l₁ news₁ → (∀ p ∈ own, ∀ q ∈ news₁, p.1 ≠ q.1) → (∀ p ∈ own, p.1 ≠ D) → (∀ q ∈ news₁, q.1 ≠ D) → GensGrow s.gens s₁.gens → s₁.os = s.os → Fr s.heap C s₁.heap (mOf l₁) → News s.heap C s₁.heap ((D, W.listOf ys.toArray k) :: (news₁ ++ own)) →
      wpAny (model prog w) A (assign target (compEnvC scope cl C env) (.ref T)) (fun _ s₃ => wpAny (model prog w) A (testsOf prog w ifs (compEnvC scope cl C env)) (fun ok s₄ =>
        if ok = true then wpAny (model prog w) A (eval elt (compEnvC scope cl C env)) (fun y s₅ => TurnC s.heap C D own (J (i + 1) (ys ++ [y])) s ys s₅) (fun _ _ => False) s₄ else TurnC s.heap C D own (J (i + 1) ys) s ys s₄) (fun _ _ => False) s₃) (fun _ _ => False) s₁)
    (done : ∀ D k ys l₁ news₁ s', J vs.length ys l₁ news₁ → GensGrow s.gens s'.gens → s'.os = s.os → (∀ b o, s.heap.get? b = some o → s'.heap.get? b = some o) → (∀ p ∈ (D, W.listOf ys.toArray k) :: news₁, s'.heap.get? p.1 = some p.2 ∧ s.heap.get? p.1 = none) → Q (.ref D) s') :
    wpAny (model prog w) A (call (.type "enumerate") [.ref a]) (fun v s₁ => wpAny (model prog w) A (pyIter v) (CompGo prog w A elt target iter ifs scope cl pos env Q) (fun _ _ => False) s₁) (fun _ _ => False) s := by
  subst htg
  obtain ⟨oa, hoa, _⟩ := id hl
  have hlt : a < s.heap.objs.size := Heap.lt_size hoa
  refine call_enumerate_list hl fun h₁ he hit hz hk₁ => wpAny_pyIter_enum he ?_
  have n1 : a ≠ s.heap.objs.size := Nat.ne_of_lt hlt
  have D := Draws.list (prog := prog) (w := w) (A := A.in1) hh s.heap.objs.size a n1 vs.toArray
  have W := (WalksT.enumerateD D (s.heap.objs.size + 1) (Nat.succ_ne_self _) (by
    intro hm
    rcases List.mem_cons.mp hm with e | hm
    · exact absurd e (Nat.succ_ne_self _)
    · have e := List.mem_singleton.mp hm
      rw [← e] at hlt; exact absurd hlt (Nat.not_lt.mpr (Nat.le_succ _))) (.head _)).toU
  refine comp_go (s₂ := { s with heap := h₁ }) (g := s.heap) (Steps.ofWalksU W ?_) (fun i s Q' E' st hQ => W.self i s _ _ st hQ) J ⟨⟨_, he⟩, hit, hl.at fun o e => hk₁ a o e⟩ (fun b o e => hk₁ b o e) ?_ ?_ ?_ ?_ (by rw [List.size_toArray]; exact hn) hm h0 hys ?_ ?_
  · rintro i h ⟨⟨old, e1⟩, ⟨o, e2, _⟩, _⟩ b hb
    rcases List.mem_cons.mp hb with rfl | hb
    · exact ⟨_, e1⟩
    · rw [List.mem_singleton.mp hb]; exact ⟨o, e2⟩
  · dsimp only; omega
  · intro b hb
    rcases List.mem_cons.mp hb with rfl | hb
    · exact Heap.get?_none_of_le (Nat.le_succ _)
    · rw [List.mem_singleton.mp hb]; exact Heap.get?_none_of_le (Nat.le_refl _)
  · intro b hb
    rcases List.mem_cons.mp hb with rfl | hb
    · exact .inl (.head _)
    · rcases List.mem_cons.mp hb with rfl | hb
      · exact .inl (.tail _ (.head _))
      · rw [List.mem_singleton.mp hb]; exact .inr ⟨oa, hoa⟩
  · intro b hb
    dsimp only
    rw [hz]
    rcases List.mem_cons.mp hb with rfl | hb
    · exact Nat.lt_succ_self _
    · rcases List.mem_cons.mp hb with rfl | hb
      · exact Nat.lt_succ_of_lt (Nat.lt_succ_self _)
      · rw [List.mem_singleton.mp hb]; exact Nat.lt_succ_of_lt (Nat.lt_succ_of_lt hlt)
  · rintro C D' i v ys k l₁ news₁ s₁ own hi ⟨T, vals, rfl, ⟨t, x, hx, rfl⟩, hT⟩ hJ hsep hoD hnD hg hos F₁ N₁
    exact turn C D' i x T t ys k l₁ news₁ s₁ own (by simpa using hx) hT hJ hsep hoD hnD hg hos F₁ N₁
  · intro D' k ys l₁ news₁ s' hJ hg hos hkp hN _
    rw [List.size_toArray] at hJ
    exact done D' k ys l₁ news₁ s' hJ hg hos hkp hN
end
end Mine
end
section
open PySem PySem.W PySem.W.X PyProof.Rows
set_option Elab.async false
set_option maxRecDepth 100000
namespace Mine
open PySem

/-- two rows, item for item -/
inductive Two {α β : Type} (P : α → β → Prop) : List α → List β → Prop where
  | nil : Two P [] []
  | cons {v : α} {u : β} {vs us} (e : P v u) (t : Two P vs us) : Two P (v :: vs) (u :: us)
variable {α β : Type} {P P' : α → β → Prop}
theorem Two.length {vs : List α} {us : List β} (h : Two P vs us) : vs.length = us.length := by
  induction h with
  | nil => rfl
  | cons _ _ ih => simp [ih]
theorem Two.mono {vs : List α} {us : List β} (h : Two P vs us) (f : ∀ v u, P v u → P' v u) : Two P' vs us := by
  induction h with
  | nil => exact .nil
  | cons e _ ih => exact .cons (f _ _ e) ih
theorem Two.append {vs ws : List α} {us xs : List β} (h : Two P vs us) (h' : Two P ws xs) : Two P (vs ++ ws) (us ++ xs) := by
  induction h with
  | nil => exact h'
  | cons e _ ih => exact .cons e ih
theorem Two.snoc {vs : List α} {us : List β} {v : α} {u : β} (h : Two P vs us) (e : P v u) : Two P (vs ++ [v]) (us ++ [u]) := h.append (.cons e .nil)
theorem Two.drop {vs : List α} {us : List β} (h : Two P vs us) : ∀ k, Two P (vs.drop k) (us.drop k) := by
  induction h with
  | nil => intro k; simp; exact .nil
  | cons e t ih => intro k; cases k with
    | zero => exact .cons e t
    | succ k => exact ih k
theorem Two.take {vs : List α} {us : List β} (h : Two P vs us) : ∀ k, Two P (vs.take k) (us.take k) := by
  induction h with
  | nil => intro k; simp; exact .nil
  | cons e t ih => intro k; cases k with
    | zero => exact .nil
    | succ k => exact .cons e (ih k)
theorem Two.get {vs : List α} {us : List β} (h : Two P vs us) : ∀ {i : Nat} {u : β}, us[i]? = some u → ∃ v, vs[i]? = some v ∧ P v u := by
  induction h with
  | nil => intro i u e; simp at e
  | cons e _ ih => intro i u e'; cases i with
    | zero => simp only [List.getElem?_cons_zero, Option.some.injEq] at e'; subst e'; exact ⟨_, rfl, e⟩
    | succ i => exact ih (by simpa using e')
theorem Two.at {vs : List α} {us : List β} (h : Two P vs us) : ∀ {i : Nat} {v : α}, vs[i]? = some v → ∃ u, us[i]? = some u ∧ P v u := by
  induction h with
  | nil => intro i v e; simp at e
  | cons e _ ih => intro i u e'; cases i with
    | zero => simp only [List.getElem?_cons_zero, Option.some.injEq] at e'; subst e'; exact ⟨_, rfl, e⟩
    | succ i => exact ih (by simpa using e')

abbrev tup2 (x y : Value) (n : Nat) : Obj := { cls := .type "tuple", data := .seq #[x, y] n }
/-- a tuple of two whose items answer u -/
def TupV {γ : Type} (R : Value → Value → γ → Prop) (h : Heap) (v : Value) (u : γ) : Prop := ∃ T x y, v = .ref T ∧ h.IsTuple T #[x, y] ∧ R x y u
def TupIn {γ : Type} (R : Value → Value → γ → Prop) (news : List (Addr × Obj)) (v : Value) (u : γ) : Prop := ∃ T x y n, v = .ref T ∧ (T, tup2 x y n) ∈ news ∧ R x y u
def TupList {γ : Type} (R : Value → Value → γ → Prop) (h : Heap) (b : Addr) (us : List γ) : Prop := ∃ vs, h.IsList b vs.toArray ∧ Two (TupV R h) vs us
section
variable {γ : Type} {R : Value → Value → γ → Prop} {h h' : Heap}
theorem TupV.keep {v : Value} {u : γ} (x : TupV R h v u) (k : ∀ b o, h.get? b = some o → h'.get? b = some o) : TupV R h' v u := by
  obtain ⟨T, x, y, e, ⟨o, e1, e2⟩, r⟩ := x
  exact ⟨T, x, y, e, ⟨o, k _ _ e1, e2⟩, r⟩
theorem TupList.keep {b : Addr} {us : List γ} (x : TupList R h b us) (k : ∀ b o, h.get? b = some o → h'.get? b = some o) : TupList R h' b us := by
  obtain ⟨vs, hl, t⟩ := x
  exact ⟨vs, hl.at fun o e => k b o e, t.mono fun v u x => x.keep k⟩
theorem TupIn.to {g : Heap} {L : Addr} {news : List (Addr × Obj)} {v : Value} {u : γ} (x : TupIn R news v u) (N : News g L h news) : TupV R h v u := by
  obtain ⟨T, x, y, n, e, hm, r⟩ := x
  exact ⟨T, x, y, e, ⟨_, (N _ hm).1, rfl, _, rfl⟩, r⟩
theorem TupIn.more {news news' : List (Addr × Obj)} {v : Value} {u : γ} (x : TupIn R news v u) (k : ∀ p ∈ news, p ∈ news') : TupIn R news' v u := by
  obtain ⟨T, x, y, n, e, hm, r⟩ := x
  exact ⟨T, x, y, n, e, k _ hm, r⟩
theorem TupV.ref {v : Value} {u : γ} (x : TupV R h v u) : ∃ T, v = Value.ref T := by
  obtain ⟨T, _, _, e, _⟩ := x
  exact ⟨T, e⟩
theorem Two.refs {vs : List Value} {us : List γ} (t : Two (TupV R h) vs us) : ∀ (i : Nat) (v : Value), vs[i]? = some v → ∃ T, v = Value.ref T := fun i v e => by
  obtain ⟨u, _, x⟩ := t.at e
  exact x.ref
end
/-- a bracket with what is laid behind it -/
abbrev Dressed := List Nat × List Nat
def DressR (x y : Value) (u : Dressed) : Prop := ∃ t1 t2, x = .str ⟨u.1.toArray⟩ t1 ∧ y = .str ⟨u.2.toArray⟩ t2
theorem allLt_at {d : Addr} : ∀ {l : List (Addr × Obj)}, AllLt d l → ∀ p ∈ l, p.1 < d
  | [], _, _, h => nomatch h
  | q :: r, h, p, hp => by
    rcases List.mem_cons.mp hp with rfl | hp
    · exact h.1
    · exact allLt_at h.2 p hp
theorem outNews {h₀ g h' : Heap} {L : Addr} {m : Str → Option Value} {news new : List (Addr × Obj)} (F : Fr h₀ L g m) (N : News h₀ L g news) (hk : ∀ b o, g.get? b = some o → h'.get? b = some o) (hn : ∀ p ∈ new, h'.get? p.1 = some p.2 ∧ g.get? p.1 = none) :
    Fr h₀ L h' m ∧ News h₀ L h' (new ++ news) := by
  refine ⟨F.keeps hk, fun p hp => ?_⟩
  rcases List.mem_append.mp hp with hp | hp
  · obtain ⟨e, e0⟩ := hn p hp
    refine ⟨e, fun eL => ?_, ?_⟩
    · obtain ⟨o, _, _, eo, _⟩ := F.ns
      rw [eL, eo] at e0; cases e0
    · cases eh : h₀.get? p.1 with
      | none => rfl
      | some o => rw [F.keep _ _ eh] at e0; cases e0
  · exact ⟨hk _ _ (N p hp).1, (N p hp).2⟩
theorem mOf_nil : mOf [] = fun _ => none := by funext x; rfl
theorem mOf_n1 (a : Str) : mOf [(a, none)] = fun _ => none := (mOf_none a []).trans mOf_nil
theorem mOf_n2 (a b : Str) : mOf [(a, none), (b, none)] = fun _ => none := (mOf_none b [(a, none)]).trans (mOf_n1 a)
end Mine
end
section
set_option Elab.async false
set_option maxRecDepth 100000
namespace Mine
open PySem

/-- a piece of text that mail reads as it lies: one bracket, or none -/
inductive OkP : List Nat → Prop where
  | nil : OkP []
  | op : OkP [40]
  | cl : OkP [41]
  | quo (c : Nat) (h : c = 40 ∨ c = 41) : OkP [34, c, 34]
  | esc (c : Nat) : OkP [92, c]
def par (p : List Nat) : List Nat := if p = [40] ∨ p = [41] then p else []
/-- the brackets alone -/
def chkC : List Nat → Int → Bool
  | [], o => decide (o = 0)
  | c :: r, o => if c = 40 then chkC r (o + 1) else if c = 41 then (if o - 1 < 0 then false else chkC r (o - 1)) else chkC r o
def quo (p : List Nat) : Bool := decide (p.head? = some 34)
/-- what is left of a piece when what stands between quotation marks is cut out -/
def bare (p : List Nat) : List Nat := if quo p then [] else p

theorem chk_bare : ∀ (cs : List (List Nat)) (i : Nat) (o : Int), (∀ p ∈ cs, OkP p) → chkRun (escGo false i (cs.map bare).flatten) o = chkC (cs.flatMap par) o
  | [], i, o, _ => by simp [escGo, chkRun, chkC]
  | p :: cs, i, o, h => by
    have ih := fun i o => chk_bare cs i o fun q hq => h q (.tail _ hq)
    have hp := h p (.head _)
    rw [List.map_cons, List.flatten_cons, List.flatMap_cons]
    cases hp with
    | nil => simpa [bare, quo, par] using ih i o
    | op => simp [bare, quo, par, escGo, chkRun, chkC, ih]
    | cl => simp [bare, quo, par, escGo, chkRun, chkC, ih]
    | quo c hc => simpa [bare, quo, par] using ih i o
    | esc c => simp [bare, quo, par, escGo, chkRun, chkC, ih]

theorem escGo_append {p r : List Nat} {i : Nat} (h : OkP p) : escGo false i (p ++ r) = escGo false i p ++ escGo false (i + p.length) r := by
  cases h with
  | nil => simp [escGo]
  | op => simp [escGo]
  | cl => simp [escGo]
  | quo c hc => rcases hc with rfl | rfl <;> simp [escGo]
  | esc c => simp [escGo]

/-- the state between two pieces -/
theorem strip_pieces (xs : List Nat) : ∀ (cs : List (List Nat)) (pre : List Nat) (st : StripSt), (∀ p ∈ cs, OkP p) → xs = pre ++ cs.flatten → st.op = none → st.start ≤ pre.length →
    stripEnd xs (stripRun xs (escGo false pre.length cs.flatten) st) = st.res.flatten ++ pre.drop st.start ++ (cs.map bare).flatten
  | [], pre, st, _, hx, ho, hs => by
    rw [List.flatten_nil, List.append_nil] at hx
    subst hx
    rw [List.flatten_nil, esc_end_false, stripRun]
    simp only [stripEnd, List.map_nil, List.flatten_nil, List.append_nil]
    split
    · rw [List.flatten_append, List.flatten_singleton, cut, List.take_length]
    · rw [List.drop_eq_nil_of_le (by omega), List.append_nil]
  | p :: cs, pre, st, h, hx, ho, hs => by
    have hp := h p (.head _)
    have hcs := fun q hq => h q (List.mem_cons_of_mem _ hq)
    have hx' : xs = (pre ++ p) ++ cs.flatten := by rw [hx, List.flatten_cons, List.append_assoc]
    have ih := fun st' => strip_pieces xs cs (pre ++ p) st' hcs hx'
    rw [List.flatten_cons, escGo_append hp, List.map_cons, List.flatten_cons]
    rw [List.length_append] at ih
    cases hp with
    | nil =>
      have := ih st ho (by simpa using hs)
      simpa [escGo, bare, quo] using this
    | op =>
      have := ih st ho (by simp; omega)
      rw [List.drop_append_of_le_length hs] at this
      simpa [escGo, stripRun, stripStep, bare, quo] using this
    | cl =>
      have := ih st ho (by simp; omega)
      rw [List.drop_append_of_le_length hs] at this
      simpa [escGo, stripRun, stripStep, bare, quo] using this
    | esc c =>
      have := ih st ho (by simp; omega)
      rw [List.drop_append_of_le_length hs] at this
      simpa [escGo, stripRun, stripStep, bare, quo] using this
    | quo c hc =>
      have hcut : cut xs st.start pre.length = pre.drop st.start := by rw [cut, hx, List.take_left']; rfl
      have hc' : ¬ [c] = [34] := by rcases hc with rfl | rfl <;> decide
      have hc2 : ¬ c = 92 := by rcases hc with rfl | rfl <;> decide
      have hc3 : ¬ c = 34 := by rcases hc with rfl | rfl <;> decide
      have key := ih ⟨pre.length + 2 + 1, none, if st.start = pre.length then st.res else st.res ++ [cut xs st.start pre.length]⟩ rfl (by simp)
      have e1 : escGo false pre.length [34, c, 34] = [(pre.length, [34]), (pre.length + 1, [c]), (pre.length + 2, [34])] := by simp [escGo, hc2]
      rw [e1]
      have e2 : stripRun xs ([(pre.length, [34]), (pre.length + 1, [c]), (pre.length + 2, [34])] ++ escGo false (pre.length + [34, c, 34].length) cs.flatten) st =
          stripRun xs (escGo false (pre.length + [34, c, 34].length) cs.flatten) ⟨pre.length + 2 + 1, none, if st.start = pre.length then st.res else st.res ++ [cut xs st.start pre.length]⟩ := by
        obtain ⟨sa, so, sr⟩ := st
        simp only at ho
        subst ho
        simp [stripRun, stripStep, hc3]
      rw [e2, key]
      have e3 : bare [34, c, 34] = [] := by simp [bare, quo]
      rw [e3]
      have e4 : (pre ++ [34, c, 34]).drop (pre.length + 2 + 1) = [] := List.drop_eq_nil_of_le (by simp)
      rw [show (⟨pre.length + 2 + 1, none, if st.start = pre.length then st.res else st.res ++ [cut xs st.start pre.length]⟩ : StripSt).start = pre.length + 2 + 1 from rfl, e4]
      simp only [List.nil_append, List.append_nil]
      congr 1
      split
      · rename_i e
        rw [List.drop_eq_nil_of_le (by omega), List.append_nil]
      · rw [List.flatten_append, List.flatten_singleton, hcut]

theorem bare_self : ∀ (cs : List (List Nat)), (∀ p ∈ cs, OkP p) → 34 ∉ cs.flatten → (cs.map bare).flatten = cs.flatten
  | [], _, _ => rfl
  | p :: cs, h, hn => by
    rw [List.flatten_cons] at hn
    rw [List.map_cons, List.flatten_cons, List.flatten_cons, bare_self cs (fun q hq => h q (.tail _ hq)) (fun hm => hn (List.mem_append_right _ hm))]
    congr 1
    have hp := h p (.head _)
    cases hp with
    | quo c hc => exact absurd (List.mem_append_left _ (by simp)) hn
    | _ => simp [bare, quo]

/-- _check_parenthesis of such pieces sees the brackets alone -/
theorem checkP_pieces (cs : List (List Nat)) (h : ∀ p ∈ cs, OkP p) : checkP ⟨cs.flatten.toArray⟩ = chkC (cs.flatMap par) 0 := by
  have hs : strip ⟨cs.flatten.toArray⟩ = ⟨(cs.map bare).flatten.toArray⟩ := by
    unfold strip
    split
    · have := strip_pieces cs.flatten cs [] ⟨0, none, []⟩ h (by simp) rfl (Nat.le_refl _)
      simp only [List.length_nil, List.flatten_nil, List.drop_nil, List.nil_append] at this
      rw [← this]
      simp [escs]
    · rename_i hn
      rw [bare_self cs h (by simpa using hn)]
  rw [checkP, hs, escs]
  have := chk_bare cs 0 0 h
  simpa using this
end Mine
end
section
open PySem PySem.W PySem.W.X PyProof.Rows PyProof.V PySem.Spec PySem.SeqAt
set_option Elab.async false
set_option maxRecDepth 100000
namespace Mine
open PySem

def rowD (r : List Int) : PyData := .list (r.map PyData.int)
theorem rowsD_lay : ∀ rs : List (List Int), PyData.canLayAll0 (rs.map rowD) = true
  | [] => by simp [PyData.canLayAll0]
  | r :: rs => by simp [PyData.canLayAll0, PyData.canLay0, rowD, canLayAll0_ints r, rowsD_lay rs]
theorem rowsD_depth : ∀ rs : List (List Int), PyData.depthAll (rs.map rowD) ≤ 2
  | [] => by simp [PyData.depthAll]
  | r :: rs => by
    have h1 := rowsD_depth rs
    have h2 := PySem.W.depthAll_ints r
    simp only [List.map_cons, PyData.depthAll, PyData.depth, rowD]
    omega
theorem rowsD_shaped (rs : List (List Int)) : shaped (.list (rs.map rowD)) = true := by
  have h1 := rowsD_depth rs
  have h2 : PyData.depth (.list (rs.map rowD)) ≤ 64 := by simp only [PyData.depth]; omega
  show (PyData.canLay0 (.list (rs.map rowD)) && decide (PyData.depth (.list (rs.map rowD)) ≤ 64)) = true
  rw [Bool.and_eq_true]
  exact ⟨by simp only [PyData.canLay0]; exact rowsD_lay rs, decide_eq_true h2⟩
theorem rowsD_mix : ∀ rs qs : List (List Int), noMixAll (rs.map rowD) (qs.map rowD) = true
  | [], [] => by simp [noMixAll]
  | [], _ :: _ => by simp [noMixAll]
  | _ :: _, [] => by simp [noMixAll]
  | r :: rs, q :: qs => by simp [noMixAll, noMix, rowD, noMix_ints r q, rowsD_mix rs qs]
theorem rowsD_same : ∀ rs qs : List (List Int), PySem.Spec.sameAll (rs.map rowD) (qs.map rowD) = decide (rs = qs)
  | [], [] => by simp [PySem.Spec.sameAll]
  | [], _ :: _ => by simp [PySem.Spec.sameAll]
  | _ :: _, [] => by simp [PySem.Spec.sameAll]
  | r :: rs, q :: qs => by
    simp only [List.map_cons, PySem.Spec.sameAll, rowD, PySem.Spec.same]
    rw [same_ints, show PySem.Spec.sameAll (rs.map rowD) (qs.map rowD) = decide (rs = qs) from rowsD_same rs qs]
    by_cases h : r = q <;> simp [h]
theorem rows_readAll {h : Heap} : ∀ {as : List Addr} {rs : List (List Int)}, as.length = rs.length → (∀ (i : Nat) (a : Addr) (r : List Int), as[i]? = some a → rs[i]? = some r → IntList h a r) → ∃ bs, ReadsAll h (as.map Value.ref) (rs.map rowD) bs
  | [], [], _, _ => ⟨_, .nil⟩
  | [], _ :: _, e, _ => by simp at e
  | _ :: _, [], e, _ => by simp at e
  | a :: as, r :: rs, e, k => by
    obtain ⟨bs, hb⟩ := rows_readAll (as := as) (rs := rs) (by simpa using e) fun i b q hb hq => k (i + 1) b q hb hq
    obtain ⟨vs, hl, hi⟩ := k 0 a r rfl rfl
    exact ⟨_, .cons (reads_of_ints hl hi) hb⟩
theorem rows_reads {h : Heap} {a : Addr} {rs : List (List Int)} (x : RowList h a rs) : ∃ bs, Reads h (.ref a) (.list (rs.map rowD)) bs := by
  obtain ⟨as, hl, hn, hi⟩ := x
  obtain ⟨bs, hb⟩ := rows_readAll hn hi
  obtain ⟨o, ho, hc, n, hd⟩ := hl
  exact ⟨_, Reads.list ho hc hd (by simpa using hb)⟩
theorem eq_rows {prog : Program} {w : World} {A : Around} {E : Value → Shared → Prop} {s : Shared} {a b : Addr} {rs qs : List (List Int)} {Q : Value → Shared → Prop} (x : RowList s.heap a rs) (y : RowList s.heap b qs) (hu : A.units + 64 < cLine)
    (h : Q (.bool (decide (rs = qs))) s) : wpAny (model prog w) A (compareOp .Eq (.ref a) (.ref b)) Q E s := by
  obtain ⟨as, ra⟩ := rows_reads x
  obtain ⟨bs, rb⟩ := rows_reads y
  exact eq_dataH_same ra rb (rowsD_shaped rs) (rowsD_shaped qs) hu (by simp only [noMix]; exact rowsD_mix rs qs) (by simp only [PySem.Spec.same]; rw [rowsD_same]; exact h)

/-- the end of a law that leaves generators and one grown table -/
theorem postT {M : Model} {A : Around} {cd : Code} {s s₁ : Shared} {cw : ClaimW} {cl : Str → Option Addr} {mean : ExcName → Option Value} {args : List WData} {tabs : List (Addr × Addr)} (hT : TabsAt tabs s₁.heap) (hr : ∀ a x, cw.raises a x = false) (hp : cw.post args (.bool true) args = true) (hg0 : s₁.gens = #[])
    (h : codeAny M A cd (fun r s' => r = .ok (.ret (.bool true)) ∧ (∀ b o, (ghostOf s₁.heap tabs).get? b = some o → s'.heap.get? b = some o) ∧ s'.os = s₁.os ∧ GensGrow s₁.gens s'.gens ∧ GrownAll tabs s'.heap) s) : codeAny M A cd (GoodWG cw cl mean args s₁) s :=
  codeAny_mono h fun r s' hh => by
    obtain ⟨rfl, hk, hos, hg, hgr⟩ := hh
    have keep : ∀ b o, b ∉ tabs.map (·.2) → s₁.heap.get? b = some o → s'.heap.get? b = some o := fun b o hb e => hk b o (ghost_ne e hb)
    have grown : ∀ b o, b ∈ tabs.map (·.2) → s₁.heap.get? b = some o → isCodeTable s₁.heap b ∧ o = tabObj #[] ∧ ∃ ps, s'.heap.get? b = some (tabObj ps) := fun b o hb e => by
      obtain ⟨q, hq, rfl⟩ := List.mem_map.mp hb
      have e2 := (hT q hq).2
      rw [e] at e2
      exact ⟨((hT q hq).1.tab (hT q hq).2).isCodeTable, Option.some.inj e2, hgr.get q hq⟩
    refine ⟨.inl ⟨_, _, [], rfl, fun cls => hr _ _, .bool true, hp, fun _ => ⟨List.nodup_nil, fun _ h => nomatch h⟩⟩, ⟨fun b o e => ?_, fun b o e => ?_⟩, hos, ?_⟩
    · by_cases hb : b ∈ tabs.map (·.2)
      · obtain ⟨ht, rfl, ps, hP⟩ := grown b o hb e
        exact .inr (.inl ⟨ht, rfl, #[], ps, rfl, by rw [Array.empty_append]; exact hP⟩)
      · exact .inl (keep b o hb e)
    · by_cases hb : b ∈ tabs.map (·.2)
      · obtain ⟨_, _, ps, hP⟩ := grown b o hb e
        exact ⟨_, hP⟩
      · exact ⟨o, keep b o hb e⟩
    · intro y hy
      obtain ⟨k, hk', rfl⟩ := Array.mem_iff_getElem.mp hy
      exact hg.new k _ (by rw [hg0]; exact Nat.zero_le _) (Array.getElem?_eq_getElem hk')
end Mine
end
section
open PySem PySem.W PySem.W.X PyProof.Rows
set_option Elab.async false
set_option maxRecDepth 100000
namespace Mine
open PySem

section
variable {prog : Program} {w : World} {A : Around} {E : Value → Shared → Prop} {s : Shared} {h₀ : Heap} {L : Addr} {m : Str → Option Value} {news : List (Addr × Obj)}
/-- a slice of a list of any values -/
theorem sliceV {value slice : Expr} {l : Addr} {vs ws : List Value} {vl vu : Value} {lo hi : Option Int} {ops : List Value} {Q : Value → Shared → Prop}
    (F : Fr h₀ L s.heap m) (N : News h₀ L s.heap news) (hl : s.heap.IsList l vs.toArray) (pl : IsPart vl lo) (pu : IsPart vu hi) (hp : slicePick vs.toArray lo hi none = ws.toArray) (hsz : vs.length ≤ 1000000)
    (h : ∀ S h', Fr h₀ L h' m → News h₀ L h' ((S, W.listOf ws.toArray 0) :: news) → (∀ p ∈ news, p.1 < S) → Q (.ref S) { s with heap := h' })
    (hs : subscripted slice false (.ref l) (.ref s.heap.objs.size) = operate ops (getItem (.ref l) (.ref s.heap.objs.size)) := by with_unfolding_all rfl)
    (ht : ∀ r, letTemporaryGo value (.ref l) r = pure () := by intro _; with_unfolding_all rfl) :
    wpAny (model prog w) A (subscriptTail value slice (.ref l) (.ref s.heap.objs.size)) Q E { s with heap := s.heap.push { cls := .type "slice", data := .fields #[vl, vu, .none] } } := by
  refine slice_list3 F N hl pl pu .none (by simp) (fun h' F' N' => ?_) hs ht (by rw [List.size_toArray, sizeLine_eq]; omega)
  rw [hp] at N'
  exact h _ h' F' N' fun p hp => Nat.lt_succ_of_lt (Heap.lt_size (N p hp).1)
/-- two lists put together -/
theorem addL {l b : Addr} {vs ws : List Value} {Q : Value → Shared → Prop} (F : Fr h₀ L s.heap m) (N : News h₀ L s.heap news) (hl : s.heap.IsList l vs.toArray) (hb : s.heap.IsList b ws.toArray) (hsz : vs.length + ws.length ≤ 1000000)
    (h : ∀ S h', Fr h₀ L h' m → News h₀ L h' ((S, W.listOf (vs ++ ws).toArray 0) :: news) → (∀ p ∈ news, p.1 < S) → Q (.ref S) { s with heap := h' }) :
    wpAny (model prog w) A (binaryOp .Add (.ref l) (.ref b)) Q E s :=
  add_arrays F N hl hb (fun h' F' N' => h _ h' F' (by simpa using N') fun p hp => Heap.lt_size (N p hp).1) (by rw [List.size_toArray, List.size_toArray, sizeLine_eq]; omega)
end
theorem pick_ab (vs : List Value) (a b : Nat) {x y : Int} (hx : x = (a : Int)) (hy : y = (b : Int)) (hb : b ≤ vs.length) (hab : a ≤ b) : slicePick vs.toArray (some x) (some y) none = ((vs.drop a).take (b - a)).toArray := by
  subst hx hy
  exact slicePick_run vs.toArray a b (by rw [List.size_toArray]; exact hb) hab
theorem pick_from (vs : List Value) (a : Nat) {x : Int} (hx : x = (a : Int)) : slicePick vs.toArray (some x) none none = (vs.drop a).toArray := by
  subst hx
  exact slicePick_from' vs.toArray a
end Mine
end
section
open PySem PySem.W PySem.W.X PyProof.Rows
set_option Elab.async false
set_option maxRecDepth 100000
namespace Mine
open PySem

section
variable {prog : Program} {w : World} {A : Around}
/-- as CompGo, with any end -/
def CompGoR (prog : Program) (w : World) (A : Around) (elt target iter : Expr) (ifs : List Expr) (scope : Scope) (cl : List (Str × Addr)) (pos : Pos) (env : Env) (R : Addr → Addr → Result → Shared → Prop) (it : Value) (s₂ : Shared) : Prop :=
  ∀ D C h tk, s₂.heap.objs.size ≤ D → s₂.heap.objs.size ≤ C → D ≠ C → h.Ns C (fun _ => none) → h.get? D = some (W.listOf #[] 0) → (∀ b o, s₂.heap.get? b = some o → h.get? b = some o) →
    codeAny (model prog w) A (.compStart (.ListComp elt [⟨target, iter, ifs, 0⟩] scope pos) 0 it (.ref D) (compEnvC scope cl C env)) (R D C) { s₂ with heap := h, toks := tk }

/-- y = [..], y a local: y is stored before the comprehension's own names go -/
theorem comp_assign {env : Env} {s : Shared} {E : Value → Shared → Prop} {elt target iter : Expr} {y : Str} {py : Pos} {ifs : List Expr} {scope : Scope} (cl : List (Str × Addr)) {pos spos : Pos} {Q : Flow → Shared → Prop}
    (hsw : swapsWith (.ListComp elt [⟨target, iter, ifs, 0⟩] scope pos) (some (.Name y py)) spos.line env = pure true)
    (hclos : closureFor scope env = pure cl) (hcell : ∀ y ∈ scope.names, y.2 ≠ .cell) (hkind : scope.kind = .function)
    (hnames : ∀ y ∈ scope.names, y.2 = .local → scope.names.lookup y.1 = some .local)
    (h : wpAny (model prog w) A (eval iter env) (fun xv s₁ => wpAny (model prog w) A (pyIter xv) (CompGoR prog w A elt target iter ifs scope cl pos env fun D C => compPost (model prog w) A (fun _ _ => False) (some (assign (.Name y py) env)) (fun _ s' => Q .next s') (.ref D) C) (fun _ _ => False) s₁) (fun _ _ => False) s)
    (hs : ∀ x, foldedSetIterable iter env x = pure x := by intro _; rfl) :
    wpAny (model prog w) A (exec (.Assign [.Name y py] (.ListComp elt [⟨target, iter, ifs, 0⟩] scope pos) spos) env) Q E s := by
  refine wpAny_mono (E := fun _ _ => False) (Q := Q) ?_ (fun _ _ x => x) fun _ _ x => x.elim
  rw [exec_Assign_Name_used _ _ _ _ hsw]
  refine wpAny_bind (wpAny_standAt (wpAny_bind ?_))
  show wpAny _ A (do let _ ← comprehension (.ListComp elt [⟨target, iter, ifs, 0⟩] scope pos) scope env _ (newList []) false (eval iter env) (some (assign (.Name y py) env))) _ _ s
  refine wpAny_bind (wpAny_mono (Q := fun _ s' => Q .next s') ?_ (fun _ s' hq => wpAny_pure (wpAny_pure hq)) fun _ _ e => e)
  refine wpAny_comprehension_free rfl hs hclos hkind hnames (wpAny_mono h (fun xv s₁ h₁ => wpAny_mono h₁ (fun it s₂ h₂ => ?_) fun _ _ e => e) fun _ _ e => e)
  refine wpAny_newObj_type (wpAny_newFunctionEnv hcell (by intro y hy; simp at hy) (fun h₁ hns₁ hsb₁ => ?_) hkind)
  dsimp only at hns₁ hsb₁ ⊢
  have hD0 : (s₂.heap.push { cls := .type "list", dict := none, data := .seq ([] : List Value).toArray }).objs.size = s₂.heap.objs.size + 1 := Heap.size_push ..
  refine h₂ s₂.heap.objs.size _ h₁ _ (Nat.le_refl _) (by rw [hD0]; exact Nat.le_succ _) (by rw [hD0]; exact Nat.ne_of_lt (Nat.lt_succ_self _)) hns₁ ?_ fun b o e => ?_
  · exact hsb₁.extBut _ _ (by rw [hD0]; exact Nat.ne_of_lt (Nat.lt_succ_self _)) (Heap.get?_push_of_some _ (Heap.get?_push_size _ rfl))
  · have hb := Heap.lt_size e
    exact hsb₁.extBut b o (by rw [hD0]; exact Nat.ne_of_lt (Nat.lt_succ_of_lt hb)) (Heap.get?_push_of_some _ (Heap.get?_push_of_some _ e))

theorem comp_goR {env : Env} {elt target iter : Expr} {ifs : List Expr} {scope : Scope} {cl : List (Str × Addr)} {pos : Pos} {R : Addr → Addr → Result → Shared → Prop} {it : Value} {s₂ : Shared} {g : Heap} {l : List (Str × Option Value)} {fp wr : List Addr} {n : Nat} {P : Nat → Value → Heap → Prop} {St : Nat → Heap → Prop}
    (S : Steps prog w A target it fp wr n P St) (hself : ∀ i (s : Shared) (Q' E' : Value → Shared → Prop), St i s.heap → Q' it s → wpAny (model prog w) A (pyIter it) Q' E' s)
    (J : Nat → List Value → List (Str × Option Value) → List (Addr × Obj) → Prop)
    (hst : St 0 s₂.heap) (hg : ∀ b o, g.get? b = some o → s₂.heap.get? b = some o) (hgs : g.objs.size ≤ s₂.heap.objs.size) (hwr : ∀ b ∈ wr, g.get? b = none) (hfp : ∀ b ∈ fp, b ∈ wr ∨ ∃ o, g.get? b = some o) (hlt : ∀ b ∈ fp, b < s₂.heap.objs.size)
    (hn : n ≤ sizeLine) (hl : mOf l = fun _ => none) (h0 : J 0 [] l []) (hys : ∀ i ys l news, J i ys l news → ys.length ≤ i)
    (turn : ∀ C D i v ys k l₁ news₁ s₁ own, i < n → P i v s₁.heap → J i ys l₁ news₁ → (∀ p ∈ own, ∀ q ∈ news₁, p.1 ≠ q.1) → (∀ p ∈ own, p.1 ≠ D) → (∀ q ∈ news₁, q.1 ≠ D) → GensGrow s₂.gens s₁.gens → s₁.os = s₂.os → Fr g C s₁.heap (mOf l₁) → News g C s₁.heap ((D, W.listOf ys.toArray k) :: (news₁ ++ own)) →
      wpAny (model prog w) A (assign target (compEnvC scope cl C env) v) (fun _ s₃ => wpAny (model prog w) A (testsOf prog w ifs (compEnvC scope cl C env)) (fun ok s₄ =>
        if ok = true then wpAny (model prog w) A (eval elt (compEnvC scope cl C env)) (fun y s₅ => TurnC g C D own (J (i + 1) (ys ++ [y])) s₂ ys s₅) (fun _ _ => False) s₄ else TurnC g C D own (J (i + 1) ys) s₂ ys s₄) (fun _ _ => False) s₃) (fun _ _ => False) s₁)
    (done : ∀ D C k ys l₁ news₁ s', J n ys l₁ news₁ → GensGrow s₂.gens s'.gens → s'.os = s₂.os → Fr g C s'.heap (mOf l₁) → News g C s'.heap ((D, W.listOf ys.toArray k) :: news₁) → s₂.heap.objs.size ≤ D → s₂.heap.objs.size ≤ C → R D C (.ok .next) s') :
    CompGoR prog w A elt target iter ifs scope cl pos env R it s₂ := by
  intro D C h tk hD hC hDC hns hDl hk
  have hCw : C ∉ wr := fun hm => absurd (hlt C (S.sub C hm)) (Nat.not_lt.mpr hC)
  have hDw : D ∉ wr := fun hm => absurd (hlt D (S.sub D hm)) (Nat.not_lt.mpr hD)
  have hgn : ∀ b, s₂.heap.objs.size ≤ b → g.get? b = none := fun b hb => Heap.get?_none_of_le (Nat.le_trans hgs hb)
  have F0 : Fr g C h (mOf l) := ⟨by rw [hl]; exact hns, fun b o e => hk b o (hg b o e), Nat.le_trans hgs hC⟩
  have N0 : News g C h [(D, W.listOf ([] : List Value).toArray 0)] := fun p hp => by rw [List.mem_singleton.mp hp]; exact ⟨hDl, hDC, hgn D hD⟩
  have st0 : St 0 h := S.frame _ _ _ hst fun b _ o e => hk b o e
  have loop : codeAny (model prog w) A (.compLoop (.ListComp elt [⟨target, iter, ifs, 0⟩] scope pos) 0 it (.ref D) (compEnvC scope cl C env)) (R D C) { s₂ with heap := h, toks := tk } := by
    refine comp_loop (fun k s' => ∃ i ys kk l₁ news₁, k = n + 1 - i ∧ i ≤ n ∧ St i s'.heap ∧ Fr g C s'.heap (mOf l₁) ∧ News g C s'.heap ((D, W.listOf ys.toArray kk) :: news₁) ∧ (∀ q ∈ news₁, q.1 ∉ wr) ∧ (∀ q ∈ news₁, q.1 ≠ D) ∧ J i ys l₁ news₁ ∧ GensGrow s₂.gens s'.gens ∧ s'.os = s₂.os) ?_ (n + 1)
      ⟨0, [], 0, l, [], rfl, Nat.zero_le _, st0, F0, N0, (fun _ h => nomatch h), (fun _ h => nomatch h), h0, .refl _, rfl⟩
    rintro k s' ⟨i, ys, kk, l₁, news₁, rfl, hi, hst', F', N', hnw', hnD, hJ, hgg, hos⟩
    have moveF : ∀ h₁ : Heap, (∀ b o, b ∉ wr → s'.heap.get? b = some o → h₁.get? b = some o) → Fr g C h₁ (mOf l₁) ∧ News g C h₁ ((D, W.listOf ys.toArray kk) :: news₁) := fun h₁ hk₁ =>
      ⟨⟨F'.ns.at' fun o e => hk₁ _ o hCw e, fun b o e => hk₁ b o (fun hb => by rw [hwr b hb] at e; cases e) (F'.keep b o e), F'.above⟩,
        fun p hp => ⟨hk₁ _ _ (by rcases List.mem_cons.mp hp with rfl | hp; exact hDw; exact hnw' p hp) (N' p hp).1, (N' p hp).2⟩⟩
    by_cases hlt' : i < n
    · refine wpAny_mono (S.item i s' (fun v s₃ => wpAny (model prog w) A (assign target (compEnvC scope cl C env) v) (fun _ s₂' =>
          wpAny (model prog w) A (testsOf prog w ifs (compEnvC scope cl C env)) (fun ok s₃ =>
            if ok = true then wpAny (model prog w) A (eval elt (compEnvC scope cl C env)) (fun x s₄ =>
              wpAny (model prog w) A (call (.builtin "list.append") [.ref D, x]) (fun _ s₅ => ∃ m, m < n + 1 - i ∧ ∃ i ys kk l₁ news₁, m = n + 1 - i ∧ i ≤ n ∧ St i s₅.heap ∧ Fr g C s₅.heap (mOf l₁) ∧ News g C s₅.heap ((D, W.listOf ys.toArray kk) :: news₁) ∧ (∀ q ∈ news₁, q.1 ∉ wr) ∧ (∀ q ∈ news₁, q.1 ≠ D) ∧ J i ys l₁ news₁ ∧ GensGrow s₂.gens s₅.gens ∧ s₅.os = s₂.os) (fun _ _ => False) s₄) (fun _ _ => False) s₃
            else ∃ m, m < n + 1 - i ∧ ∃ i ys kk l₁ news₁, m = n + 1 - i ∧ i ≤ n ∧ St i s₃.heap ∧ Fr g C s₃.heap (mOf l₁) ∧ News g C s₃.heap ((D, W.listOf ys.toArray kk) :: news₁) ∧ (∀ q ∈ news₁, q.1 ∉ wr) ∧ (∀ q ∈ news₁, q.1 ≠ D) ∧ J i ys l₁ news₁ ∧ GensGrow s₂.gens s₃.gens ∧ s₃.os = s₂.os) (fun _ _ => False) s₂') (fun _ _ => False) s₃) (fun _ _ => False) hlt' hst' fun v h₁ tk₁ hP st₁ hk₁ => ?_) (fun r s₁ h₁ => ?_) fun _ _ x => x.elim
      · obtain ⟨F₁, N₁⟩ := moveF h₁ hk₁
        have Nown : News g C h₁ (ownOf g wr h₁) := news_ownOf hCw
        have N₂ : News g C h₁ ((D, W.listOf ys.toArray kk) :: (news₁ ++ ownOf g wr h₁)) := fun p hp => by
          rcases List.mem_cons.mp hp with rfl | hp
          · exact N₁ _ (.head _)
          · rcases List.mem_append.mp hp with hp | hp
            · exact N₁ p (.tail _ hp)
            · exact Nown p hp
        have hoD : ∀ p ∈ ownOf g wr h₁, p.1 ≠ D := fun p hp e => hDw (by rw [← e]; exact ownOf_sub p hp)
        have fin : ∀ (ys₁ : List Value) (s₃ : Shared) l₂ news₂ kk₂, Fr g C s₃.heap (mOf l₂) → News g C s₃.heap ((D, W.listOf ys₁.toArray kk₂) :: (news₂ ++ ownOf g wr h₁)) → (∀ p ∈ ownOf g wr h₁, ∀ q ∈ news₂, p.1 ≠ q.1) → (∀ q ∈ news₂, q.1 ≠ D) → GensGrow s₂.gens s₃.gens → s₃.os = s₂.os → J (i + 1) ys₁ l₂ news₂ →
            ∃ m, m < n + 1 - i ∧ ∃ i ys kk l₁ news₁, m = n + 1 - i ∧ i ≤ n ∧ St i s₃.heap ∧ Fr g C s₃.heap (mOf l₁) ∧ News g C s₃.heap ((D, W.listOf ys.toArray kk) :: news₁) ∧ (∀ q ∈ news₁, q.1 ∉ wr) ∧ (∀ q ∈ news₁, q.1 ≠ D) ∧ J i ys l₁ news₁ ∧ GensGrow s₂.gens s₃.gens ∧ s₃.os = s₂.os := by
          intro ys₁ s₃ l₂ news₂ kk₂ F₃ N₃ hsep₃ hnD₃ hg₃ hos₃ hJ₃
          refine ⟨n + 1 - (i + 1), by omega, i + 1, ys₁, kk₂, l₂, news₂, rfl, hlt', S.frame _ _ _ st₁ fun b hb o e => ?_, F₃, fun p hp => N₃ p ?_, fun q hq hw => ?_, hnD₃, hJ₃, hg₃, hos₃⟩
          · rcases hfp b hb with hw | ⟨o', e'⟩
            · exact (N₃ (b, o) (.tail _ (List.mem_append_right _ (mem_ownOf hw (hwr b hw) e)))).1
            · have e2 := F₁.keep b o' e'
              exact (F₃.keep b o' e').trans (e2.symm.trans e)
          · rcases List.mem_cons.mp hp with rfl | hp
            · exact .head _
            · exact .tail _ (List.mem_append_left _ hp)
          · obtain ⟨o, e⟩ := S.live _ _ st₁ _ hw
            exact hsep₃ (q.1, o) (mem_ownOf hw (hwr _ hw) e) q hq rfl
        refine wpAny_mono (turn C D i v ys kk l₁ news₁ _ (ownOf g wr h₁) hlt' hP hJ (fun p hp q hq e => hnw' q hq (by rw [← e]; exact ownOf_sub p hp)) hoD hnD hgg hos F₁ N₂) (fun _ s₃ h₃ => wpAny_mono h₃ (fun ok s₄ h₄ => ?_) fun _ _ x => x.elim) fun _ _ x => x.elim
        cases ok with
        | false =>
          rw [if_neg (by decide)] at h₄ ⊢
          obtain ⟨l₂, news₂, kk₂, F₃, N₃, hsep₃, hnD₃, hg₃, hos₃, hJ₃⟩ := h₄
          exact fin _ _ _ _ _ F₃ N₃ hsep₃ hnD₃ hg₃ hos₃ hJ₃
        | true =>
          rw [if_pos rfl] at h₄ ⊢
          refine wpAny_mono h₄ (fun y s₅ h₅ => ?_) fun _ _ x => x.elim
          obtain ⟨l₂, news₂, kk₂, F₃, N₃, hsep₃, hnD₃, hg₃, hos₃, hJ₃⟩ := h₅
          have hyl := hys _ _ _ _ hJ₃
          rw [List.length_append, List.length_singleton] at hyl
          refine appendMid (l₁ := []) F₃ N₃ (fun _ h => nomatch h) (fun p hp => ?_) (by rw [List.size_toArray]; omega) fun h' F₄ N₄ => ?_
          · rcases List.mem_append.mp hp with hp | hp
            · exact hnD₃ p hp
            · exact hoD p hp
          · rw [List.push_toArray] at N₄
            exact fin _ { s₅ with heap := h' } _ _ _ F₄ N₄ hsep₃ hnD₃ hg₃ hos₃ hJ₃
      · obtain ⟨v, rfl, h₁⟩ := h₁
        exact h₁
    · have hin : i = n := by omega
      subst hin
      refine wpAny_mono (S.done s' (fun s₁ => R D C (.ok .next) s₁) (fun _ _ => False) hst' fun h₁ tk hk₁ => ?_) (fun r s₁ h₁ => ?_) fun _ _ x => x.elim
      · obtain ⟨F₁, N₁⟩ := moveF h₁ hk₁
        exact done D C kk ys l₁ news₁ _ hJ hgg hos F₁ N₁ hD hC
      · obtain ⟨rfl, h₁⟩ := h₁
        exact h₁
  exact codeAny_compStart_list loop (hself 0 _ _ _ st0 loop)


/-- the end of y = [..] in a def's frame -/
theorem comp_end {env : Env} {s s' : Shared} {y : Str} {py : Pos} {Q : Shared → Prop} {h₀ : Heap} {lf lc : List (Str × Option Value)} {news newc : List (Addr × Obj)} {D C : Addr} {o : Obj}
    (F : Fr h₀ env.locals s.heap (mOf lf)) (N : News h₀ env.locals s.heap news) (hC : s.heap.objs.size ≤ C) (Fc : Fr s.heap C s'.heap (mOf lc)) (Nc : News s.heap C s'.heap ((D, o) :: newc))
    (hk : env.scope.kind = .function) (hy : env.kindOf y = some .local)
    (done : ∀ h' tk, Fr h₀ env.locals h' (mOf (setL y (some (.ref D)) lf)) → News h₀ env.locals h' ((D, o) :: newc ++ news) → (∀ b o, b ≠ env.locals → s.heap.get? b = some o → h'.get? b = some o) → Q { s' with heap := h', toks := tk }) :
    compPost (model prog w) A (fun _ _ => False) (some (assign (.Name y py) env)) (fun _ s' => Q s') (.ref D) C (.ok .next) s' := by
  have hLC : env.locals ≠ C := fun e => absurd F.ns.lt (e ▸ Nat.not_lt.mpr hC)
  obtain ⟨F1, N1⟩ := outNews F N Fc.keep (fun p hp => ⟨(Nc p hp).1, (Nc p hp).2.2⟩)
  show wpAny _ A (assign (.Name y py) env (.ref D)) _ _ s'
  refine wpAny_assign_Name (stE F1 N1 (fun h₂ F₂ N₂ hk₂ => ?_) rfl hk hy)
  refine ⟨_, Fc.ns.at' fun o e => hk₂ _ o (Ne.symm hLC) e, fun h₃ hs₃ => ?_⟩
  have hs : ∀ b o, s.heap.get? b = some o → b ≠ C := fun b o e q => absurd (Heap.lt_size e) (q ▸ Nat.not_lt.mpr hC)
  refine done h₃ _ ⟨F₂.ns.at' fun o e => hs₃.extBut _ _ hLC e, fun b o e => hs₃.extBut b o (hs b o (F.keep b o e)) (F₂.keep b o e), F₂.above⟩ (fun p hp => ⟨hs₃.extBut _ _ ?_ (N₂ p hp).1, (N₂ p hp).2⟩) fun b o hb e => hs₃.extBut b o (hs b o e) (hk₂ b o hb (Fc.keep b o e))
  rcases List.mem_append.mp hp with hp | hp
  · exact (Nc p hp).2.1
  · exact hs _ _ (N p hp).1

/-- y = [.. for a, b in a list of tuples ..] -/
theorem comp_pairsA {env : Env} {s : Shared} {elt iter target : Expr} {elts : List Expr} {kk : Nat} {pt : Pos} {ifs : List Expr} {scope : Scope} {cl : List (Str × Addr)} {pos py : Pos} {y : Str} {Q : Shared → Prop} {l lf : List (Str × Option Value)} {a : Addr} {vs : List Value} {h₀ : Heap} {news : List (Addr × Obj)}
    (J : Nat → List Value → List (Str × Option Value) → List (Addr × Obj) → Prop) (htg : target = .Tuple elts kk pt) (hh : A.handled = none) (F : Fr h₀ env.locals s.heap (mOf lf)) (N : News h₀ env.locals s.heap news) (hl : s.heap.IsList a vs.toArray) (hrf : ∀ (i : Nat) (v : Value), vs[i]? = some v → ∃ T, v = Value.ref T)
    (hn : vs.length ≤ sizeLine) (hm : mOf l = fun _ => none) (h0 : J 0 [] l []) (hys : ∀ i ys l news, J i ys l news → ys.length ≤ i)
    (turn : ∀ C D i v ys k l₁ news₁ s₁ own, vs[i]? = some v → J i ys l₁ news₁ → (∀ p ∈ own, ∀ q ∈ news₁, p.1 ≠ q.1) → (∀ p ∈ own, p.1 ≠ D) → (∀ q ∈ news₁, q.1 ≠ D) → GensGrow s.gens s₁.gens → s₁.os = s.os → Fr s.heap C s₁.heap (mOf l₁) → News s.heap C s₁.heap ((D, W.listOf ys.toArray k) :: (news₁ ++ own)) →
      wpAny (model prog w) A (assign target (compEnvC scope cl C env) v) (fun _ s₃ => wpAny (model prog w) A (testsOf prog w ifs (compEnvC scope cl C env)) (fun ok s₄ =>
        if ok = true then wpAny (model prog w) A (eval elt (compEnvC scope cl C env)) (fun y s₅ => TurnC s.heap C D own (J (i + 1) (ys ++ [y])) s ys s₅) (fun _ _ => False) s₄ else TurnC s.heap C D own (J (i + 1) ys) s ys s₄) (fun _ _ => False) s₃) (fun _ _ => False) s₁)
    (hk : env.scope.kind = .function) (hy : env.kindOf y = some .local)
    (done : ∀ D k ys l₁ newc s', J vs.length ys l₁ newc → GensGrow s.gens s'.gens → s'.os = s.os → Fr h₀ env.locals s'.heap (mOf (setL y (some (.ref D)) lf)) → News h₀ env.locals s'.heap ((D, W.listOf ys.toArray k) :: newc ++ news) → (∀ b o, b ≠ env.locals → s.heap.get? b = some o → s'.heap.get? b = some o) → (∀ p ∈ (D, W.listOf ys.toArray k) :: newc, s.heap.get? p.1 = none) → Q s') :
    wpAny (model prog w) A (pyIter (.ref a)) (CompGoR prog w A elt target iter ifs scope cl pos env fun D C => compPost (model prog w) A (fun _ _ => False) (some (assign (.Name y py) env)) (fun _ s' => Q s') (.ref D) C) (fun _ _ => False) s := by
  subst htg
  obtain ⟨oa, hoa, _⟩ := id hl
  have hne : a ≠ s.heap.objs.size := Nat.ne_of_lt (Heap.lt_size hoa)
  refine wpAny_pyIter_list hl ?_
  have W := Walks.list (prog := prog) (w := w) (A := A) hh s.heap.objs.size a hne vs.toArray
  refine comp_goR (g := s.heap) (Steps.listT hh s.heap.objs.size a hne vs.toArray (fun i v e => hrf i v (by simpa using e))) (fun i s Q' E' st hQ => W.self i s _ _ st hQ) J ⟨⟨_, Heap.get?_push_size _ rfl, rfl, rfl⟩, hl.at fun o e => Heap.get?_push_of_some _ e⟩ (fun b o e => Heap.get?_push_of_some _ e) ?_ ?_ ?_ ?_ (by rw [List.size_toArray]; exact hn) hm h0 hys ?_ ?_
  · dsimp only; rw [Heap.size_push]; exact Nat.le_succ _
  · intro b hb; rw [List.mem_singleton.mp hb]; exact Heap.get?_none_of_le (Nat.le_refl _)
  · intro b hb
    rcases List.mem_cons.mp hb with rfl | hb
    · exact .inl (.head _)
    · rw [List.mem_singleton.mp hb]; exact .inr ⟨oa, hoa⟩
  · intro b hb
    dsimp only; rw [Heap.size_push]
    rcases List.mem_cons.mp hb with rfl | hb
    · exact Nat.lt_succ_self _
    · rw [List.mem_singleton.mp hb]; exact Nat.lt_succ_of_lt (Heap.lt_size hoa)
  · intro C D i v ys k l₁ news₁ s₁ own hi hP hJ hsep hoD hnD hg hos F₁ N₁
    exact turn C D i v ys k l₁ news₁ s₁ own (by simpa using hP) hJ hsep hoD hnD hg hos F₁ N₁
  · intro D C k ys l₁ news₁ s' hJ hg hos Fc Nc hD hC
    rw [List.size_toArray] at hJ
    have hC' : s.heap.objs.size ≤ C := by
      dsimp only at hC; rw [Heap.size_push] at hC; exact Nat.le_of_succ_le hC
    refine comp_end (lc := l₁) F N hC' Fc Nc hk hy fun h' tk F' N' hk' => ?_
    exact done D k ys l₁ news₁ _ hJ hg hos F' N' hk' fun p hp => (Nc p hp).2.2
end
end Mine
end
section
open PySem PySem.W PySem.W.X PyProof.Rows
set_option Elab.async false
set_option maxRecDepth 100000
namespace Mine
open PySem

section
variable {prog : Program} {w : World} {A : Around}
/-- y = [.. for x in a list ..] -/
theorem comp_listA {env : Env} {s : Shared} {elt iter : Expr} {x : Str} {px : Pos} {ifs : List Expr} {scope : Scope} {cl : List (Str × Addr)} {pos py : Pos} {y : Str} {Q : Shared → Prop} {l lf : List (Str × Option Value)} {a : Addr} {vs : List Value} {h₀ : Heap} {news : List (Addr × Obj)}
    (J : Nat → List Value → List (Str × Option Value) → List (Addr × Obj) → Prop) (hh : A.handled = none) (F : Fr h₀ env.locals s.heap (mOf lf)) (N : News h₀ env.locals s.heap news) (hl : s.heap.IsList a vs.toArray)
    (hn : vs.length ≤ sizeLine) (hm : mOf l = fun _ => none) (h0 : J 0 [] l []) (hys : ∀ i ys l news, J i ys l news → ys.length ≤ i)
    (turn : ∀ C D i v ys k l₁ news₁ s₁ own, vs[i]? = some v → J i ys l₁ news₁ → (∀ p ∈ own, ∀ q ∈ news₁, p.1 ≠ q.1) → (∀ p ∈ own, p.1 ≠ D) → (∀ q ∈ news₁, q.1 ≠ D) → GensGrow s.gens s₁.gens → s₁.os = s.os → Fr s.heap C s₁.heap (mOf (setL x (some v) l₁)) → News s.heap C s₁.heap ((D, W.listOf ys.toArray k) :: (news₁ ++ own)) →
      wpAny (model prog w) A (testsOf prog w ifs (compEnvC scope cl C env)) (fun ok s₄ =>
        if ok = true then wpAny (model prog w) A (eval elt (compEnvC scope cl C env)) (fun y s₅ => TurnC s.heap C D own (J (i + 1) (ys ++ [y])) s ys s₅) (fun _ _ => False) s₄ else TurnC s.heap C D own (J (i + 1) ys) s ys s₄) (fun _ _ => False) s₁)
    (hkc : scope.kind = .function) (hx : scope.names.lookup x = some .local) (hk : env.scope.kind = .function) (hy : env.kindOf y = some .local)
    (done : ∀ D k ys l₁ newc s', J vs.length ys l₁ newc → GensGrow s.gens s'.gens → s'.os = s.os → Fr h₀ env.locals s'.heap (mOf (setL y (some (.ref D)) lf)) → News h₀ env.locals s'.heap ((D, W.listOf ys.toArray k) :: newc ++ news) → (∀ b o, b ≠ env.locals → s.heap.get? b = some o → s'.heap.get? b = some o) → (∀ p ∈ (D, W.listOf ys.toArray k) :: newc, s.heap.get? p.1 = none) → Q s') :
    wpAny (model prog w) A (pyIter (.ref a)) (CompGoR prog w A elt (.Name x px) iter ifs scope cl pos env fun D C => compPost (model prog w) A (fun _ _ => False) (some (assign (.Name y py) env)) (fun _ s' => Q s') (.ref D) C) (fun _ _ => False) s := by
  obtain ⟨oa, hoa, _⟩ := id hl
  have hne : a ≠ s.heap.objs.size := Nat.ne_of_lt (Heap.lt_size hoa)
  refine wpAny_pyIter_list hl ?_
  have W := Walks.list (prog := prog) (w := w) (A := A) hh s.heap.objs.size a hne vs.toArray
  refine comp_goR (g := s.heap) (Steps.ofWalks (x := x) (px := px) W list_live) (fun i s Q' E' st hQ => W.self i s _ _ st hQ) J ⟨⟨_, Heap.get?_push_size _ rfl, rfl, rfl⟩, hl.at fun o e => Heap.get?_push_of_some _ e⟩ (fun b o e => Heap.get?_push_of_some _ e) ?_ ?_ ?_ ?_ (by rw [List.size_toArray]; exact hn) hm h0 hys ?_ ?_
  · dsimp only; rw [Heap.size_push]; exact Nat.le_succ _
  · intro b hb; rw [List.mem_singleton.mp hb]; exact Heap.get?_none_of_le (Nat.le_refl _)
  · intro b hb
    rcases List.mem_cons.mp hb with rfl | hb
    · exact .inl (.head _)
    · rw [List.mem_singleton.mp hb]; exact .inr ⟨oa, hoa⟩
  · intro b hb
    dsimp only; rw [Heap.size_push]
    rcases List.mem_cons.mp hb with rfl | hb
    · exact Nat.lt_succ_self _
    · rw [List.mem_singleton.mp hb]; exact Nat.lt_succ_of_lt (Heap.lt_size hoa)
  · intro C D i v ys k l₁ news₁ s₁ own hi hP hJ hsep hoD hnD hg hos F₁ N₁
    refine wpAny_assign_Name (stE F₁ N₁ (fun h' F₂ N₂ _ => ?_) rfl (by exact hkc) (lookup_relabel_local hx))
    exact turn C D i v ys k l₁ news₁ _ own (by simpa using hP) hJ hsep hoD hnD hg hos F₂ N₂
  · intro D C k ys l₁ news₁ s' hJ hg hos Fc Nc hD hC
    rw [List.size_toArray] at hJ
    have hC' : s.heap.objs.size ≤ C := by
      dsimp only at hC; rw [Heap.size_push] at hC; exact Nat.le_of_succ_le hC
    refine comp_end (lc := l₁) F N hC' Fc Nc hk hy fun h' tk F' N' hk' => ?_
    exact done D k ys l₁ news₁ _ hJ hg hos F' N' hk' fun p hp => (Nc p hp).2.2
end
end Mine
end
section
open PySem PySem.W PySem.W.X PyProof.Rows PySem.Calls
set_option Elab.async false
set_option maxRecDepth 100000
namespace Mine
open PySem

/-- what is known of a lambda's code object: of the elder objects, or in the ledger's part ext -/
def CodeIn (h₀ : Heap) (ext : List (Addr × Obj)) (c' : Addr) (qual : Str) : Prop := ∀ h : Heap, (∀ b o, h₀.get? b = some o → h.get? b = some o) → (∀ q ∈ ext, h.get? q.1 = some q.2) → h.CodeRec (.ref c') qual
theorem codeRec_notab {h : Heap} {c' P : Addr} {qual : Str} {line col : Nat} {v : Value} (x : h.CodeRec (.ref c') qual) (hP : h.get? P = some (tabObj #[rawInt line, rawInt col, v])) : c' ≠ P := by
  rintro rfl
  obtain ⟨c₂, oc, vs, t, e1, e2, e3, e4⟩ := x
  cases e1
  rw [hP] at e2
  cases e2
  cases e3
  simp [rawInt] at e4
theorem TurnC_tup {g : Heap} {C D Tn : Addr} {own news₁ : List (Addr × Obj)} {J : List (Str × Option Value) → List (Addr × Obj) → Prop} {s₁ s' : Shared} {ys : List Value} {l₂ : List (Str × Option Value)} {x y : Value} {n k : Nat}
    (F : Fr g C s'.heap (mOf l₂)) (N : News g C s'.heap ((Tn, tup2 x y n) :: (D, W.listOf ys.toArray k) :: (news₁ ++ own))) (l : D < Tn ∧ AllLt Tn (news₁ ++ own)) (hsep : ∀ p ∈ own, ∀ q ∈ news₁, p.1 ≠ q.1) (hnD : ∀ q ∈ news₁, q.1 ≠ D) (hg : GensGrow s₁.gens s'.gens) (hos : s'.os = s₁.os)
    (hJ : J l₂ ((Tn, tup2 x y n) :: news₁)) : TurnC g C D own J s₁ ys s' := by
  refine ⟨_, (Tn, tup2 x y n) :: news₁, k, F, news_sub N fun q hq => ?_, fun p hp q hq => ?_, fun q hq => ?_, hg, hos, hJ⟩
  · simp only [List.mem_cons, List.mem_append] at hq ⊢
    rcases hq with h | (h | h) | h
    · exact .inr (.inl h)
    · exact .inl h
    · exact .inr (.inr (.inl h))
    · exact .inr (.inr (.inr h))
  · rcases List.mem_cons.mp hq with rfl | hq
    · exact Nat.ne_of_lt (allLt_at l.2 p (List.mem_append_right _ hp))
    · exact hsep p hp q hq
  · rcases List.mem_cons.mp hq with rfl | hq
    · exact Nat.ne_of_gt l.1
    · exact hnD q hq
theorem mkLam3 {M : Model} {A : Around} {E : Value → Shared → Prop} {s : Shared} {h₀ : Heap} {L a c P : Addr} {m mg mb : Str → Option Value} {cn : Str} {cs : Scope} {ccd : Value} {cl : List (Str × Addr)} {l₁ l₂ : List (Addr × Obj)}
    {p : Program} {loose : List Str} {mean : ExcName → Option Value} {name qual : Str} {params : Arguments} {body : Expr} {scope : Scope} {ps : Array Value} {pos : Pos} {firstLine : Nat} {clos : List (Str × Addr)} {Q : Value → Shared → Prop}
    (F : Fr h₀ L s.heap m) (N : News h₀ L s.heap (l₁ ++ (P, tabObj ps) :: l₂)) (T : Top p loose mean mg mb h₀) (C : CodeHd h₀ c P) (hcd : ccd = .ref c) (h1 : ∀ p ∈ l₁, p.1 ≠ P) (h2 : ∀ p ∈ l₂, p.1 ≠ P)
    (hps : ps = #[] ∨ ∃ c', ps = #[rawInt pos.line, rawInt pos.col, .ref c'] ∧ h₀.CodeRec (.ref c') qual)
    (hcl : closureFor scope (envX cn cs L a ccd cl) = pure clos)
    (h : ∀ f c' ext ctv h' tk, Fr h₀ L h' m → News h₀ L h' ((f, kla_obj name qual params body scope clos ((mg "__name__").getD .none) c' ctv) :: (l₁ ++ (P, tabObj #[rawInt pos.line, rawInt pos.col, .ref c']) :: (l₂ ++ ext))) →
      CodeIn h₀ ext c' qual → (∀ q ∈ l₁ ++ (P, tabObj ps) :: l₂, q.1 < f) → (∀ r ∈ ext, ∀ q ∈ l₁ ++ (P, tabObj ps) :: l₂, q.1 < r.1) → Q (.ref f) { s with heap := h', toks := tk }) :
    wpAny M A (makeFunction name qual params (.expr body) scope (envX cn cs L a ccd cl) [] [] [] pos firstLine) Q E s := by
  rcases hps with rfl | ⟨c', rfl, hrec⟩
  · refine kla_nest F N T C hcd (updFMid h1 h2) trivial rfl hcl fun f c' oc vs t ctv h' tk F' N' d1 d2 ll1 ll2 => ?_
    refine h f c' [(c', oc)] ctv h' tk F' (fun q hq => N' q ?_) (fun g k1 k2 => ⟨c', oc, vs, t, rfl, k2 _ (.head _), d1, d2⟩) (fun q hq => Nat.lt_trans (ll1 q hq) ll2) fun r hr q hq => by rw [List.mem_singleton.mp hr]; exact ll1 q hq
    simp only [List.mem_cons, List.mem_append, List.not_mem_nil, or_false] at hq ⊢
    rcases hq with h | h | h | h | h
    · exact .inl h
    · exact .inr (.inr (.inl h))
    · exact .inr (.inr (.inr (.inl h)))
    · exact .inr (.inr (.inr (.inr h)))
    · exact .inr (.inl h)
  · refine kla_hit F N T C hcd (List.mem_append_right _ (.head _)) (by simp [TriplesOk, rawInt]) (c' := c') (by simp [codeAmong, rawInt]) hcl fun f ctv h' tk F' N' ll1 => ?_
    refine h f c' [] ctv h' tk F' (by rw [List.append_nil]; exact N') (fun g k1 _ => codeRec_keep hrec k1) ll1 fun _ h => nomatch h
end Mine
end
section
open PySem PySem.W PySem.W.X PyProof.Rows
set_option Elab.async false
set_option maxRecDepth 100000
namespace Mine
open PySem

section
variable {prog : Program} {w : World} {A : Around} {s : Shared} {env : Env} {h₀ : Heap} {target : Expr} {it : Value} {body : List Stmt} {fp wr : List Addr} {n : Nat} {P : Nat → Value → Heap → Prop} {St : Nat → Heap → Prop}

/-- as loop_any; what holds between the turns may speak of the heap -/
theorem loop_anyH {l : List (Str × Option Value)} {news : List (Addr × Obj)} {R : Result → Shared → Prop} (S : Steps prog w A target it fp wr n P St) (J : Nat → List (Str × Option Value) → List (Addr × Obj) → Heap → Prop)
    (hJm : ∀ i l₁ news₁ h h', St i h → J i l₁ news₁ h → (∀ b o, b ∉ wr → h.get? b = some o → h'.get? b = some o) → J i l₁ news₁ h')
    (hL : env.locals ∉ wr) (hwr : ∀ b ∈ wr, h₀.get? b = none) (hst : St 0 s.heap) (F : Fr h₀ env.locals s.heap (mOf l)) (N : News h₀ env.locals s.heap news) (hnw : ∀ q ∈ news, q.1 ∉ wr) (h0 : J 0 l news s.heap)
    (hfix : ∀ b ∈ fp, b ∈ wr ∨ (∃ o, h₀.get? b = some o) ∨ ∃ o, ∀ i l₁ news₁ h, J i l₁ news₁ h → (b, o) ∈ news₁)
    (turn : ∀ i v l₁ news₁ s₁ own, i < n → P i v s₁.heap → J i l₁ news₁ s₁.heap → (∀ p ∈ own, ∀ q ∈ news₁, p.1 ≠ q.1) → GensGrow s.gens s₁.gens → s₁.os = s.os → Fr h₀ env.locals s₁.heap (mOf l₁) → News h₀ env.locals s₁.heap (news₁ ++ own) →
      wpAny (model prog w) A (assign target env v) (fun _ s₂ => wpAny (model prog w) A (execs body env) (fun fl s₃ => TurnX h₀ env.locals own (fun l₂ news₂ => J (i + 1) l₂ news₂ s₃.heap) (fun fl s' => R (.ok fl) s') s fl s₃) (fun _ _ => False) s₂) (fun _ _ => False) s₁)
    (done : ∀ l₁ news₁ s₁, J n l₁ news₁ s₁.heap → GensGrow s.gens s₁.gens → s₁.os = s.os → Fr h₀ env.locals s₁.heap (mOf l₁) → News h₀ env.locals s₁.heap news₁ → R (.ok .next) s₁) :
    codeAny (model prog w) A (.forLoop target it body [] env) R s := by
  refine codeAny_forLoop_any (fun k s' => ∃ i l₁ news₁, k = n + 1 - i ∧ i ≤ n ∧ St i s'.heap ∧ Fr h₀ env.locals s'.heap (mOf l₁) ∧ News h₀ env.locals s'.heap news₁ ∧ (∀ q ∈ news₁, q.1 ∉ wr) ∧ J i l₁ news₁ s'.heap ∧ GensGrow s.gens s'.gens ∧ s'.os = s.os) ?_ (n + 1)
    ⟨0, l, news, rfl, Nat.zero_le _, hst, F, N, hnw, h0, .refl _, rfl⟩
  rintro k s' ⟨i, l₁, news₁, rfl, hi, hst', F', N', hnw', hJ, hg, hos⟩
  have moveF : ∀ h₁ : Heap, (∀ b o, b ∉ wr → s'.heap.get? b = some o → h₁.get? b = some o) → Fr h₀ env.locals h₁ (mOf l₁) ∧ News h₀ env.locals h₁ news₁ := fun h₁ hk₁ =>
    ⟨⟨F'.ns.at' fun o e => hk₁ _ o hL e, fun b o e => hk₁ b o (fun hb => by rw [hwr b hb] at e; cases e) (F'.keep b o e), F'.above⟩, fun p hp => ⟨hk₁ _ _ (hnw' p hp) (N' p hp).1, (N' p hp).2⟩⟩
  by_cases hlt : i < n
  · refine wpAny_mono (S.item i s' (fun v s₂ => wpAny (model prog w) A (assign target env v) (fun _ s₂ => wpAny (model prog w) A (execs body env) (fun f s₃ => match f with
            | .next | .cont => ∃ m, m < n + 1 - i ∧ ∃ i' l₁ news₁, m = n + 1 - i' ∧ i' ≤ n ∧ St i' s₃.heap ∧ Fr h₀ env.locals s₃.heap (mOf l₁) ∧ News h₀ env.locals s₃.heap news₁ ∧ (∀ q ∈ news₁, q.1 ∉ wr) ∧ J i' l₁ news₁ s₃.heap ∧ GensGrow s.gens s₃.gens ∧ s₃.os = s.os
            | .brk => R (.ok .next) s₃
            | .ret v => R (.ok (.ret v)) s₃) (fun _ _ => False) s₂) (fun _ _ => False) s₂) (fun _ _ => False) hlt hst' fun v h₁ tk hP st₁ hk₁ => ?_) (fun r s₁ h₁ => ?_) fun _ _ x => x.elim
    · obtain ⟨F₁, N₁⟩ := moveF h₁ hk₁
      have Nown : News h₀ env.locals h₁ (ownOf h₀ wr h₁) := news_ownOf hL
      have N₂ : News h₀ env.locals h₁ (news₁ ++ ownOf h₀ wr h₁) := fun p hp => (List.mem_append.mp hp).elim (N₁ p) (Nown p)
      refine wpAny_mono (turn i v l₁ news₁ _ (ownOf h₀ wr h₁) hlt hP (hJm _ _ _ _ _ hst' hJ hk₁) (fun p hp q hq e => hnw' q hq (by rw [← e]; exact ownOf_sub p hp)) hg hos F₁ N₂) (fun _ s₂ h₂ => wpAny_mono h₂ (fun f s₃ h₃ => ?_) fun _ _ x => x.elim) fun _ _ x => x.elim
      have fin : (∃ l₂ news₂, Fr h₀ env.locals s₃.heap (mOf l₂) ∧ News h₀ env.locals s₃.heap (news₂ ++ ownOf h₀ wr h₁) ∧ (∀ p ∈ ownOf h₀ wr h₁, ∀ q ∈ news₂, p.1 ≠ q.1) ∧ GensGrow s.gens s₃.gens ∧ s₃.os = s.os ∧ J (i + 1) l₂ news₂ s₃.heap) →
          ∃ m, m < n + 1 - i ∧ ∃ i' l₁ news₁, m = n + 1 - i' ∧ i' ≤ n ∧ St i' s₃.heap ∧ Fr h₀ env.locals s₃.heap (mOf l₁) ∧ News h₀ env.locals s₃.heap news₁ ∧ (∀ q ∈ news₁, q.1 ∉ wr) ∧ J i' l₁ news₁ s₃.heap ∧ GensGrow s.gens s₃.gens ∧ s₃.os = s.os := by
        rintro ⟨l₂, news₂, F₃, N₃, hsep₃, hg₃, hos₃, hJ₃⟩
        refine ⟨n + 1 - (i + 1), by omega, i + 1, l₂, news₂, rfl, hlt, S.frame _ _ _ st₁ fun b hb o e => ?_, F₃, fun p hp => N₃ p (List.mem_append_left _ hp), fun q hq hw => ?_, hJ₃, hg₃, hos₃⟩
        · rcases hfix b hb with hw | ⟨o', e'⟩ | ⟨o', e'⟩
          · exact (N₃ (b, o) (List.mem_append_right _ (mem_ownOf hw (hwr b hw) e))).1
          · have e2 := F₁.keep b o' e'
            exact (F₃.keep b o' e').trans (e2.symm.trans e)
          · exact ((N₃ (b, o') (List.mem_append_left _ (e' _ _ _ _ hJ₃))).1).trans ((N₁ (b, o') (e' _ _ _ _ hJ)).1.symm.trans e)
        · obtain ⟨o, e⟩ := S.live _ _ st₁ _ hw
          exact hsep₃ (q.1, o) (mem_ownOf hw (hwr _ hw) e) q hq rfl
      cases f with
      | next => exact fin h₃
      | cont => exact fin h₃
      | brk => exact h₃
      | ret v => exact h₃
    · obtain ⟨v, rfl, h₁⟩ := h₁
      exact wpAny_mono h₁ (fun _ s₂ h₂ => wpAny_mono h₂ (fun _ s₃ h₃ => wpAny_mono h₃ (fun f s₄ h₄ => h₄) fun _ _ x => x.elim) fun _ _ x => x.elim) fun _ _ x => x.elim
  · have hin : i = n := by omega
    subst hin
    refine wpAny_mono (S.done s' (fun s₁ => R (.ok .next) s₁) (fun _ _ => False) hst' fun h₁ tk hk₁ => ?_) (fun r s₁ h₁ => ?_) fun _ _ x => x.elim
    · obtain ⟨F₁, N₁⟩ := moveF h₁ hk₁
      exact done l₁ news₁ _ (hJm _ _ _ _ _ hst' hJ hk₁) hg hos F₁ N₁
    · obtain ⟨rfl, h₁⟩ := h₁
      exact wpAny_execs_nil h₁

/-- range(a, a + n), gone over -/
theorem iter_rangeH {r : Addr} {a b : Int} {t u v : Tok} {n : Nat} {x : Str} {px : Pos} {l : List (Str × Option Value)} {news : List (Addr × Obj)} {R : Result → Shared → Prop} (J : Nat → List (Str × Option Value) → List (Addr × Obj) → Heap → Prop)
    (hJm : ∀ I x k i l₁ news₁ h h', IsRangeIter h I x k 1 → J i l₁ news₁ h → (∀ b o, b ≠ I → h.get? b = some o → h'.get? b = some o) → J i l₁ news₁ h')
    (hh : A.handled = none) (F : Fr h₀ env.locals s.heap (mOf l)) (N : News h₀ env.locals s.heap news) (hr : IsRange s.heap r a b 1 t u v) (hsmall : Builtin.Range.small a b 1 = true) (hn : Builtin.Range.rangeSize a b 1 = ((n : Nat) : Int)) (hJ0 : ∀ h', (∀ b o, s.heap.get? b = some o → h'.get? b = some o) → J 0 l news h')
    (turn : ∀ i t l₁ news₁ s₁ own, i < n → J i l₁ news₁ s₁.heap → (∀ p ∈ own, ∀ q ∈ news₁, p.1 ≠ q.1) → GensGrow s.gens s₁.gens → s₁.os = s.os → Fr h₀ env.locals s₁.heap (mOf l₁) → News h₀ env.locals s₁.heap (news₁ ++ own) →
      wpAny (model prog w) A (assign (.Name x px) env (.int (a + (i : Nat)) t)) (fun _ s₂ => wpAny (model prog w) A (execs body env) (fun fl s₃ => TurnX h₀ env.locals own (fun l₂ news₂ => J (i + 1) l₂ news₂ s₃.heap) (fun fl s' => R (.ok fl) s') s fl s₃) (fun _ _ => False) s₂) (fun _ _ => False) s₁)
    (done : ∀ l₁ news₁ s₁, J n l₁ news₁ s₁.heap → GensGrow s.gens s₁.gens → s₁.os = s.os → Fr h₀ env.locals s₁.heap (mOf l₁) → News h₀ env.locals s₁.heap news₁ → R (.ok .next) s₁) :
    wpAny (model prog w) A (pyIter (.ref r)) (fun it s₂ => codeAny (model prog w) A (.forLoop (.Name x px) it body [] env) R s₂) (fun _ _ => False) s := by
  refine wpAny_pyIter_range hr hsmall ?_
  have W := LCg.range_walks (prog := prog) (w := w) (A := A) (I := s.heap.objs.size) hh a n
  refine loop_anyH (Steps.ofWalks W (fun i h st b hb => ?_)) J (fun i l₁ news₁ h h' st hj hk => ?_) ?_ ?_ ?_ (F.push _) (fun p hp => ⟨Heap.get?_push_of_some _ (N p hp).1, (N p hp).2⟩) ?_ (hJ0 _ fun b o e => Heap.get?_push_of_some _ e) ?_ ?_ ?_
  · rw [List.mem_singleton.mp hb]; exact ⟨_, st⟩
  · exact hJm _ _ _ _ _ _ _ _ st hj fun b o hb e => hk b o (fun hm => hb (List.mem_singleton.mp hm)) e
  · intro hm; exact absurd F.ns.lt ((List.mem_singleton.mp hm) ▸ Nat.lt_irrefl _)
  · intro b hb; rw [List.mem_singleton.mp hb]; exact next_is_new F
  · show IsRangeIter _ _ _ _ _
    rw [hn]; simpa using Heap.get?_push_size _ rfl
  · intro p hp hm; exact absurd (Heap.lt_size (N p hp).1) ((List.mem_singleton.mp hm) ▸ Nat.lt_irrefl _)
  · intro b hb; exact .inl hb
  · rintro i _ l₁ news₁ s₁ own hi ⟨t, rfl⟩ hJ hsep hg hos F₁ N₁
    exact turn i t l₁ news₁ s₁ own hi hJ hsep hg hos F₁ N₁
  · intro l₁ news₁ s₁ hJ
    exact done l₁ news₁ s₁ hJ
end
end Mine
end
section
open PySem PySem.W PySem.W.X PyProof.Rows
set_option Elab.async false
set_option maxRecDepth 100000
namespace Mine
open PySem

/-- what holds sequences stands -/
def SeqKeep (h h' : Heap) : Prop := ∀ b o its n, o.data = .seq its n → h.get? b = some o → h'.get? b = some o
def FieldKeep (h h' : Heap) : Prop := ∀ b o vs, o.data = .fields vs → h.get? b = some o → h'.get? b = some o
theorem SeqKeep.of {h h' : Heap} (k : ∀ b o, h.get? b = some o → h'.get? b = some o) : SeqKeep h h' := fun b o _ _ _ e => k b o e
theorem SeqKeep.trans {h h' h'' : Heap} (x : SeqKeep h h') (y : SeqKeep h' h'') : SeqKeep h h'' := fun b o its n hd e => y b o its n hd (x b o its n hd e)
theorem FieldKeep.of {h h' : Heap} (k : ∀ b o, h.get? b = some o → h'.get? b = some o) : FieldKeep h h' := fun b o _ _ e => k b o e
theorem FieldKeep.trans {h h' h'' : Heap} (x : FieldKeep h h') (y : FieldKeep h' h'') : FieldKeep h h'' := fun b o vs hd e => y b o vs hd (x b o vs hd e)
section
variable {h h' h₀ : Heap} {L : Addr} {m : Str → Option Value}
theorem Fr.seqK (F : Fr h₀ L h m) (k : ∀ b o, b ≠ L → h.get? b = some o → h'.get? b = some o) : SeqKeep h h' := fun b o its n hd e => k b o (fun q => by
  obtain ⟨oL, es, ep, f1, f2, _⟩ := F.ns
  rw [q, f1] at e; cases e; rw [f2] at hd; cases hd) e
theorem Fr.fieldK (F : Fr h₀ L h m) (k : ∀ b o, b ≠ L → h.get? b = some o → h'.get? b = some o) : FieldKeep h h' := fun b o vs hd e => k b o (fun q => by
  obtain ⟨oL, es, ep, f1, f2, _⟩ := F.ns
  rw [q, f1] at e; cases e; rw [f2] at hd; cases hd) e
theorem KeepBut.seqK {P : Addr} {s s' : Shared} {ps : Array Value} (K : KeepBut P s s') (hP : s.heap.get? P = some (tabObj ps)) : SeqKeep s.heap s'.heap := fun b o its n hd e => K.heap b o (fun q => by
  rw [q, hP] at e; cases e; cases hd) e
theorem iter_seqK {I : Addr} {x k st : Int} (hI : IsRangeIter h I x k st) (kp : ∀ b o, b ≠ I → h.get? b = some o → h'.get? b = some o) : SeqKeep h h' := fun b o its n hd e => kp b o (fun q => by
  have hI : h.get? I = some _ := hI
  rw [q, hI] at e; cases e; cases hd) e
theorem IntList.seq {a : Addr} {ns : List Int} (x : IntList h a ns) (k : SeqKeep h h') : IntList h' a ns :=
  let ⟨vs, ⟨o, e, c, n, d⟩, hi⟩ := x; ⟨vs, ⟨o, k a o _ _ d e, c, n, d⟩, hi⟩
theorem IsTuple.seq {a : Addr} {its : Array Value} (x : h.IsTuple a its) (k : SeqKeep h h') : h'.IsTuple a its := by
  obtain ⟨o, e, c, n, d⟩ := x
  exact ⟨o, k a o _ _ d e, c, n, d⟩
theorem TupV.seq {γ : Type} {R : Value → Value → γ → Prop} {v : Value} {u : γ} (x : TupV R h v u) (k : SeqKeep h h') : TupV R h' v u := by
  obtain ⟨T, a, b, e, t, r⟩ := x
  exact ⟨T, a, b, e, IsTuple.seq t k, r⟩
theorem TupList.seq {γ : Type} {R : Value → Value → γ → Prop} {b : Addr} {us : List γ} (x : TupList R h b us) (k : SeqKeep h h') : TupList R h' b us := by
  obtain ⟨vs, ⟨o, e, c, n, d⟩, t⟩ := x
  exact ⟨vs, ⟨o, k b o _ _ d e, c, n, d⟩, t.mono fun v u x => x.seq k⟩
theorem TabSt.tab {P : Addr} {l c : Nat} {q : Str} (x : TabSt h P l c q) : ∃ ps, h.get? P = some (tabObj ps) := by
  rcases x with e | ⟨_, _, e, _⟩
  · exact ⟨_, e⟩
  · exact ⟨_, e⟩
theorem TabSt.field {P : Addr} {l c : Nat} {q : Str} (x : TabSt h P l c q) (k : FieldKeep h h') : TabSt h' P l c q := by
  rcases x with e | ⟨c', h1, e, ⟨c₂, oc, vs, t, e1, e2, e3, e4⟩⟩
  · exact .inl (k _ _ _ rfl e)
  · exact .inr ⟨c', h1, k _ _ _ rfl e, ⟨c₂, oc, vs, t, e1, k _ _ _ e3 e2, e3, e4⟩⟩
theorem TabSt.iter {P I : Addr} {l c : Nat} {q : Str} {x k st : Int} (y : TabSt h P l c q) (hI : IsRangeIter h I x k st) (kp : ∀ b o, b ≠ I → h.get? b = some o → h'.get? b = some o) : TabSt h' P l c q := by
  have hI : h.get? I = some _ := hI
  have hP : P ≠ I := fun q => by
    obtain ⟨ps, e⟩ := y.tab
    rw [q, hI] at e; cases e
  rcases y with e | ⟨c', h1, e, ⟨c₂, oc, vs, t, e1, e2, e3, e4⟩⟩
  · exact .inl (kp _ _ hP e)
  · refine .inr ⟨c', h1, kp _ _ hP e, ⟨c₂, oc, vs, t, e1, kp _ _ (fun q => ?_) e2, e3, e4⟩⟩
    rw [q, hI] at e2; cases e2; cases e3; simp [rawInt] at e4
end
section
variable {prog : Program} {w : World} {A : Around} {E : Value → Shared → Prop} {s : Shared} {h₀ : Heap} {L : Addr} {m : Str → Option Value} {news : List (Addr × Obj)}
theorem newTupK {vs : List Value} {Q : Value → Shared → Prop} (F : Fr h₀ L s.heap m) (N : News h₀ L s.heap news) (hsz : vs.length ≤ 1000)
    (h : ∀ T h', Fr h₀ L h' m → News h₀ L h' ((T, { cls := .type "tuple", data := .seq vs.toArray }) :: news) → (∀ b o, s.heap.get? b = some o → h'.get? b = some o) → Q (.ref T) { s with heap := h' }) : wpAny (model prog w) A (newTuple vs) Q E s := by
  simp only [newTuple]
  refine wpAny_newObj_type ?_ (by simp only [sizeOk, List.size_toArray]; rw [sizeLine_eq]; omega)
  exact h _ _ (F.push _) (News.push F N _) fun b o e => Heap.get?_push_of_some _ e
theorem unpackK {t : Addr} {its : List Value} {n : Nat} {Q : List Value → Shared → Prop} (F : Fr h₀ L s.heap m) (N : News h₀ L s.heap news) (ht : s.heap.IsTuple t its.toArray)
    (hh : A.handled = none) (hn : n = its.length) (h : ∀ h', Fr h₀ L h' m → News h₀ L h' news → (∀ b o, s.heap.get? b = some o → h'.get? b = some o) → Q its { s with heap := h' }) : wpAny (model prog w) A (unpackItems (.ref t) n none) Q E s := by
  have e : its.toArray.size = n := by rw [List.size_toArray, hn]
  subst e
  refine unpackItems_tuple hh ht fun h' he => ?_
  have := h h' (F.extBut he (Nat.le_refl _)) (N.extBut he (Nat.le_refl _)) fun b o e => he b o (Nat.ne_of_lt (Heap.lt_size e)) e
  simpa using this
/-- sliceV, and all that stood stands -/
theorem sliceK {value slice : Expr} {l : Addr} {vs ws : List Value} {vl vu : Value} {lo hi : Option Int} {ops : List Value} {Q : Value → Shared → Prop}
    (F : Fr h₀ L s.heap m) (N : News h₀ L s.heap news) (hl : s.heap.IsList l vs.toArray) (pl : IsPart vl lo) (pu : IsPart vu hi) (hp : slicePick vs.toArray lo hi none = ws.toArray) (hsz : vs.length ≤ 1000000)
    (h : ∀ S h', Fr h₀ L h' m → News h₀ L h' ((S, W.listOf ws.toArray 0) :: news) → (∀ b o, s.heap.get? b = some o → h'.get? b = some o) → Q (.ref S) { s with heap := h' })
    (hs : subscripted slice false (.ref l) (.ref s.heap.objs.size) = operate ops (getItem (.ref l) (.ref s.heap.objs.size)) := by with_unfolding_all rfl)
    (ht : ∀ r, letTemporaryGo value (.ref l) r = pure () := by intro _; with_unfolding_all rfl) :
    wpAny (model prog w) A (subscriptTail value slice (.ref l) (.ref s.heap.objs.size)) Q E { s with heap := s.heap.push { cls := .type "slice", data := .fields #[vl, vu, .none] } } := by
  refine subscriptTail_ops (Heap.IsList.typeIs (s := { s with heap := s.heap.push { cls := .type "slice", data := .fields #[vl, vu, .none] } }) (hl.push _)) list_getitem_lookup
    (wpAny_getItem_list_slice (hl.push _) (Heap.IsSliceOf.new ..) pl pu .none (by simp) ?_ (by rw [List.size_toArray, sizeLine_eq]; omega)) hs ht
  have N1 := News.push (F.push { cls := .type "slice", data := .fields #[vl, vu, .none] }) (N.grown fun _ _ e => Heap.get?_push_of_some _ e) { cls := .type "list", data := .seq (slicePick vs.toArray lo hi none) }
  rw [hp] at N1 ⊢
  exact h _ _ ((F.push _).push _) N1 fun b o e => Heap.get?_push_of_some _ (Heap.get?_push_of_some _ e)
theorem ne_ints {a b : Addr} {ns ms : List Int} {Q : Value → Shared → Prop} (x : IntList s.heap a ns) (y : IntList s.heap b ms) (hu : A.units + 64 < cLine) (e : ns = ms) (h : Q (.bool false) s) : wpAny (model prog w) A (compareOp .NotEq (.ref a) (.ref b)) Q E s := by
  obtain ⟨vs, hl, hi⟩ := x
  obtain ⟨us, hl', hi'⟩ := y
  refine ne_intsK hl hi hl' hi' hu ?_
  rw [decide_eq_true e]; exact h
end
end Mine
end
section
open PySem PySem.W PySem.W.X PyProof.Rows
set_option Elab.async false
set_option maxRecDepth 100000
namespace Mine
open PySem

theorem zipApart_at (I l1 l2 : Nat) (h1 : l1 < I) (h2 : l2 < I) : ZipApart (I + 4) (I + 2) (I + 3) I (I + 1) l1 l2 := by
  constructor <;> (refine neN ?_; omega)
section
variable {prog : Program} {w : World} {A : Around} {s : Shared} {env : Env} {h₀ : Heap} {body : List Stmt}
/-- zip(list, list), gone over -/
theorem zip_list {a b : Addr} {xs ys : List Value} {target : Expr} {elts : List Expr} {kk : Nat} {pt : Pos} {l : List (Str × Option Value)} {news : List (Addr × Obj)} {R : Result → Shared → Prop} (J : Nat → List (Str × Option Value) → List (Addr × Obj) → Prop)
    (htg : target = .Tuple elts kk pt) (hh : A.handled = none) (F : Fr h₀ env.locals s.heap (mOf l)) (N : News h₀ env.locals s.heap news) (hl1 : s.heap.IsList a xs.toArray) (hl2 : s.heap.IsList b ys.toArray) (h0 : J 0 l news)
    (hfix1 : (∃ o, h₀.get? a = some o) ∨ ∃ o, ∀ i l₁ news₁, J i l₁ news₁ → (a, o) ∈ news₁) (hfix2 : (∃ o, h₀.get? b = some o) ∨ ∃ o, ∀ i l₁ news₁, J i l₁ news₁ → (b, o) ∈ news₁)
    (turn : ∀ i x y T l₁ news₁ s₁ own, xs[i]? = some x → ys[i]? = some y → s₁.heap.IsTuple T #[x, y] → J i l₁ news₁ → (∀ p ∈ own, ∀ q ∈ news₁, p.1 ≠ q.1) → GensGrow s.gens s₁.gens → s₁.os = s.os → Fr h₀ env.locals s₁.heap (mOf l₁) → News h₀ env.locals s₁.heap (news₁ ++ own) →
      wpAny (model prog w) A (assign target env (.ref T)) (fun _ s₂ => wpAny (model prog w) A (execs body env) (TurnX h₀ env.locals own (J (i + 1)) (fun fl s' => R (.ok fl) s') s) (fun _ _ => False) s₂) (fun _ _ => False) s₁)
    (done : ∀ l₁ news₁ s₁, J (min xs.length ys.length) l₁ news₁ → GensGrow s.gens s₁.gens → s₁.os = s.os → Fr h₀ env.locals s₁.heap (mOf l₁) → News h₀ env.locals s₁.heap news₁ → R (.ok .next) s₁) :
    wpAny (model prog w) A (call (.type "zip") [.ref a, .ref b]) (fun v s₁ => wpAny (model prog w) A (pyIter v) (fun it s₂ => codeAny (model prog w) A (.forLoop target it body [] env) R s₂) (fun _ _ => False) s₁) (fun _ _ => False) s := by
  subst htg
  obtain ⟨oa, hoa, _⟩ := id hl1
  obtain ⟨ob, hob, _⟩ := id hl2
  have hlt1 : a < s.heap.objs.size := Heap.lt_size hoa
  have hlt2 : b < s.heap.objs.size := Heap.lt_size hob
  have hLs : env.locals < s.heap.objs.size := F.ns.lt
  refine call_zip_2 hl1 hl2 fun h' hz hTI hTO hi1 hi2 hsz hk => wpAny_pyIter_zip hz ?_
  have W := (WalksT.zip2 (prog := prog) (w := w) hh _ _ _ _ _ _ _ (zipApart_at s.heap.objs.size a b hlt1 hlt2) xs.toArray ys.toArray).toU
  have hold : ∀ b, s.heap.objs.size ≤ b → h₀.get? b = none := fun b hb => Heap.get?_none_of_le (Nat.le_trans F.above (Nat.le_of_lt (Nat.lt_of_lt_of_le hLs hb)))
  have hwr : ∀ c ∈ [s.heap.objs.size + 4, s.heap.objs.size + 2, s.heap.objs.size + 3, s.heap.objs.size, s.heap.objs.size + 1], s.heap.objs.size ≤ c := fun c hc => by
    simp only [List.mem_cons, List.not_mem_nil, or_false] at hc
    rcases hc with rfl | rfl | rfl | rfl | rfl
    · exact Nat.le_add_right _ _
    · exact Nat.le_add_right _ _
    · exact Nat.le_add_right _ _
    · exact Nat.le_refl _
    · exact Nat.le_add_right _ _
  have hlive : ∀ i (h : Heap), (IsZip h (s.heap.objs.size + 4) (s.heap.objs.size + 2) (s.heap.objs.size + 3) .none ∧ IsPair h (s.heap.objs.size + 2) (.ref s.heap.objs.size) (.ref (s.heap.objs.size + 1)) ∧ (∃ a b, IsPair h (s.heap.objs.size + 3) a b) ∧ h.IsListIter s.heap.objs.size a i ∧ h.IsListIter (s.heap.objs.size + 1) b i ∧ h.IsList a xs.toArray ∧ h.IsList b ys.toArray) →
      ∀ c ∈ [s.heap.objs.size + 4, s.heap.objs.size + 2, s.heap.objs.size + 3, s.heap.objs.size, s.heap.objs.size + 1], ∃ o, h.get? c = some o := fun i h st c hc => by
    obtain ⟨g1, g2, ⟨_, _, g3⟩, ⟨o1, g4, _⟩, ⟨o2, g5, _⟩, _⟩ := st
    simp only [List.mem_cons, List.not_mem_nil, or_false] at hc
    rcases hc with rfl | rfl | rfl | rfl | rfl
    · exact ⟨_, g1⟩
    · exact ⟨_, g2⟩
    · exact ⟨_, g3⟩
    · exact ⟨_, g4⟩
    · exact ⟨_, g5⟩
  have S := Steps.ofWalksU (elts := elts) (k := kk) (pos := pt) W (fun i h st c hc => hlive i h st c (by
    simp only [List.mem_cons, List.not_mem_nil, or_false] at hc ⊢
    rcases hc with h | h | h | h <;> simp [h]))
  have S' := S.moreWr (wr' := [s.heap.objs.size + 4, s.heap.objs.size + 2, s.heap.objs.size + 3, s.heap.objs.size, s.heap.objs.size + 1]) (fun c hc => by
      simp only [List.mem_cons, List.not_mem_nil, or_false] at hc ⊢
      rcases hc with h | h | h | h <;> simp [h]) (fun c hc => by
      simp only [List.mem_cons, List.not_mem_nil, or_false] at hc ⊢
      rcases hc with h | h | h | h | h <;> simp [h]) hlive
  refine loop_any (s := { s with heap := h' }) S' J ?_ ?_ ⟨hz, hTI, ⟨_, _, hTO⟩, hi1, hi2, hl1.at fun o e => hk a o e, hl2.at fun o e => hk b o e⟩ (F.keeps hk) (fun p hp => ⟨hk _ _ (N p hp).1, (N p hp).2⟩) ?_ h0 ?_ ?_ ?_
  · intro hm; exact absurd hLs (Nat.not_lt.mpr (hwr _ hm))
  · intro c hc; exact hold c (hwr c hc)
  · intro p hp hm; exact absurd (Heap.lt_size (N p hp).1) (Nat.not_lt.mpr (hwr _ hm))
  · intro c hc
    simp only [List.mem_cons, List.not_mem_nil, or_false] at hc
    rcases hc with rfl | rfl | rfl | rfl | rfl | rfl | rfl
    · exact .inl (by simp)
    · exact .inl (by simp)
    · exact .inl (by simp)
    · exact .inl (by simp)
    · exact .inl (by simp)
    · exact .inr hfix1
    · exact .inr hfix2
  · rintro i v l₁ news₁ s₁ own hi ⟨T, vals, rfl, ⟨x, y, hx, hy, rfl⟩, hT⟩ hJ hsep hg hos F₁ N₁
    exact turn i x y T l₁ news₁ s₁ own (by simpa using hx) (by simpa using hy) hT hJ hsep hg hos F₁ N₁
  · intro l₁ news₁ s₁ hJ
    rw [List.size_toArray, List.size_toArray] at hJ
    exact done l₁ news₁ s₁ hJ
end
end Mine
end
section
open PySem PySem.W PySem.W.X PyProof.Rows
set_option Elab.async false
set_option maxRecDepth 100000
set_option maxHeartbeats 4000000
namespace Mine
open PySem

section
theorem reset_Iter01 : True := by
  w_top off
  trivial
local macro_rules | `(tactic| walk_at "storeName") => `(tactic| (k_here; k_dflt (refine' stM ?k1 ?k2 ?k3 ?k4 ?_; (case k1 => assumption); (case k2 => assumption); (case k3 => assumption); (case k4 => assumption); k_whole); intro h' F' N' Mv'; (try dsimp only)))
local macro_rules | `(tactic| walk_at "newTuple") => `(tactic| (k_here; k_dflt (refine' newTupleM ?k1 ?k2 ?k3 ?_; (case k1 => assumption); (case k2 => assumption); (case k3 => assumption); k_whole); intro h' F' N' Mv' hz'; (try dsimp only)))
theorem iter_call {w : World} {p : Program} {loose : List Str} {mean : ExcName → Option Value} {mg mb : Str → Option Value} {A : Around} {h₀ : Heap} {L : Addr} {m : Str → Option Value} {news : List (Addr × Obj)} {s : Shared} {x : Str} {t : Tok}
    {Q E : Value → Shared → Prop} (F : Fr h₀ L s.heap m) (X : (hd.heap_39 w.params).In h₀) (T : Top p loose mean mg mb h₀) (N : News h₀ L s.heap news) (hroom : A.depth < recursionLimit)
    (hQ : ∀ a own s', Fr h₀ L s'.heap m → News h₀ L s'.heap news → Itr PySem.Challenge.rw_pg0117_01.row.prog w h₀ a s.gens.size (escs x) own s' → (∀ p ∈ own, s.heap.objs.size ≤ p.1) → s.heap.objs.size ≤ a →
      GensGrow s.gens s'.gens → s'.os = s.os → Q (.ref a) s') :
    wpAny (model PySem.Challenge.rw_pg0117_01.row.prog w) A (call (.ref 39) [.str x t]) Q E s := by
  revert X
  k_fill
  intro X
  refine wpAny_call ?_
  have XS := X.keeps F.keep
  have TS := T.keeps F.keep
  obtain ⟨o, ho⟩ : ∃ o, (hd.heap_39 w.params).lookup 39 = some o := ⟨_, by k_is⟩
  have hcd : codeIn (hd.heap_39 w.params) (.ref 38) (Str.ofString "_iter_escaped_chars") = true := by k_is
  refine codeAny_call_generator hroom (XS 39 _ (by k_is)) rfl rfl rfl rfl (codeRec_of XS hcd) ?_
  refine wpAny_of_eq (by exact rfl) ?_
  refine wpAny_newFunctionEnv (by decide) (locs rfl) (fun h₁ hn₁ hs₁ => ?_) rfl
  have hC : s.heap.objs.size < h₁.objs.size := hn₁.lt
  have keep₁ : ∀ b o, s.heap.get? b = some o → h₁.get? b = some o := fun b o e => hs₁.extBut b o (Nat.ne_of_lt (Heap.lt_size e)) (Heap.get?_push_of_some _ e)
  refine ⟨TS.nolimit.keeps keep₁, ?_⟩
  obtain ⟨oC, es, ep, hoC, hdC, hkC, hmC⟩ := id hn₁
  have hC0 : h₀.objs.size ≤ s.heap.objs.size := Nat.le_of_lt (Nat.lt_of_le_of_lt F.above F.ns.lt)
  have F₁ := F.keeps keep₁
  refine hQ _ [(s.heap.objs.size, oC)] _ (F₁.push _) (fun q hq => ⟨Heap.get?_push_of_some _ (keep₁ _ _ (N q hq).1), (N q hq).2⟩) ⟨⟨_, _, _, Heap.get?_push_size _ rfl, rfl, rfl, rfl⟩, ?_, ?_, _, Array.getElem?_push_size .., ?_⟩ ?_ (Nat.le_of_lt hC) (GensGrow.push _ rfl) rfl
  · intro q hq
    rw [List.mem_singleton.mp hq]
    exact Nat.ne_of_lt hC
  · intro q hq
    rw [List.mem_singleton.mp hq]
    exact Heap.get?_push_of_some _ hoC
  rotate_left
  · intro q hq
    rw [List.mem_singleton.mp hq]
    exact Nat.le_refl _
  rw [genP_iff]
  intro A' s' hh hb ho'
  show SegX _ A' _ _ _ _ _
  refine sx_func ?_
  have hgC : s'.heap.get? s.heap.objs.size = some oC := ho' _ (List.mem_singleton.mpr rfl)
  have FC : Fr h₀ s.heap.objs.size s'.heap (mOf [("addr", some (.str x t))]) := ⟨⟨oC, es, ep, hgC, hdC, hkC, fun n => (hmC n).trans (congrFun (mOf_lookup _) n)⟩, hb, hC0⟩
  have NC : News h₀ s.heap.objs.size s'.heap [] := News.nil
  have MvC : Moving [(s.heap.objs.size, oC)] s'.heap s'.heap := Moving.refl _ _
  have WC : Wr [(s.heap.objs.size, oC)] s'.heap s.heap.objs.size := .inl ⟨_, List.mem_singleton.mpr rfl, rfl⟩
  change SegX _ _ _ (Sem.wrap _ _ _ _ (execs _ (envOf _ _ s.heap.objs.size 39 (.ref 38)))) _ _ _
  refine sx_execs_cons (sx_wrap ?_)
  k_steps
  refine sx_execs_cons (sx_wrap ?_)
  k_steps
  refine sx_execs_cons (sx_For ?_)
  k_steps
  rename_i h₂ F₂ N₂ Mv₂
  refine call_enumerate_str fun h₃ he hit hz hk₃ => wpAny_pyIter_enum he fun p' => ?_
  have F₃ := F₂.keeps hk₃
  obtain ⟨oS, hoS, hcS, hdS⟩ := hit
  have Mv₃ := Mv₂.keeps hk₃
  have hCl : s.heap.objs.size < h₂.objs.size := F₂.ns.lt
  have hfr : ∀ b, h₂.objs.size ≤ b → s'.heap.get? b = none := fun b hb' => Mv₂.fresh (fun q hq => by rw [List.mem_singleton.mp hq]; exact hCl) hb'
  have hnew : ∀ b, h₂.objs.size ≤ b → h₀.get? b = none := fun b hb' => by
    cases q : h₀.get? b with
    | none => rfl
    | some o' => exact absurd (Heap.lt_size (F₂.keep b o' q)) (Nat.not_lt.mpr hb')
  have N₃ : News h₀ s.heap.objs.size h₃ [(h₂.objs.size + 1, enumO h₂.objs.size 0 .none), (h₂.objs.size, oS)] := by
    intro q hq
    rcases List.mem_cons.mp hq with rfl | hq
    · exact ⟨he, by show h₂.objs.size + 1 ≠ s.heap.objs.size; omega, hnew _ (Nat.le_succ _)⟩
    · rw [List.mem_singleton.mp hq]
      exact ⟨hoS, by show h₂.objs.size ≠ s.heap.objs.size; omega, hnew _ (Nat.le_refl _)⟩
  generalize hCe : s.heap.objs.size = C at *
  generalize hie : h₂.objs.size = it at *
  have hni : News h₀ C h₃ [(it + 1, enumO it 0 .none), (it, oS)] := N₃
  refine sx_induct (I := fun k A s P => ∃ i esc own₀ s₀ pv tp ch old oS, k = x.cps.size + 1 - i ∧ i ≤ x.cps.size ∧ A.handled = none ∧ Fr h₀ C s.heap (gm x t pv tp esc ch) ∧ oS.cls = .type (strIterType x) ∧ oS.data = .fields #[.str x t, .int (i : Nat) 0] ∧
    News h₀ C s.heap [(it + 1, enumO it i old), (it, oS)] ∧ Moving own₀ (Shared.heap s₀) s.heap ∧ s.gens = s₀.gens ∧ s.os = s₀.os ∧ (∀ p ∈ own₀, p.1 = C ∨ p.1 = it + 1 ∨ p.1 = it) ∧ Wr own₀ s₀.heap C ∧ Wr own₀ s₀.heap (it + 1) ∧ Wr own₀ s₀.heap it ∧ (esc = true → 1 ≤ i ∧ pv = (i : Int) - 1) ∧
    P = EndP PySem.Challenge.rw_pg0117_01.row.prog w h₀ (escGo esc i (x.cps.toList.drop i)) own₀ s₀) ?_ (x.cps.size + 1) A' _ _
    ⟨0, false, _, s', 0, _, none, .none, oS, rfl, Nat.zero_le _, hh, frTo F₃ ((mOf_none "ch" [("addr", some (.str x t)), ("pos", some (.int 0 s'.toks)), ("escape", some (.bool false))]).symm), hcS, hdS, N₃, Mv₃, rfl, rfl, (fun q hq => .inl (by rw [List.mem_singleton.mp hq])), WC, .inr (hfr _ (Nat.le_succ _)), .inr (hfr _ (Nat.le_refl _)), (fun e => nomatch e), rfl⟩
  clear F₃ N₃ Mv₃ hni hnew hfr hoS hk₃ he hz Mv₂ N₂ F₂ WC MvC NC FC hgC hcS hdS ho' hb hh
  rintro k ih A s P ⟨i, esc, own₀, s₀, pv, tp, ch, old, oS, rfl, hi, hh, F, hcS, hdS, N, Mv, hg, hos, W0, W1, W2, W3, hesc, rfl⟩
  refine sx_forTurn ?_
  have hit : s.heap.get? it = some oS := (N _ (.tail _ (.head _))).1
  have hen : IsEnum s.heap (it + 1) it i old := (N _ (.head _)).1
  have hnC : it ≠ C := (N _ (.tail _ (.head _))).2.1
  have hnC1 : it + 1 ≠ C := (N _ (.head _)).2.1
  by_cases hlt : i < x.cps.size
  · refine wpAny_pyNext_enum_itemD (Draws.strU (by exact hh) it x t) hen ⟨oS, hit, hcS, hdS⟩ hlt (Nat.succ_ne_self it) (by simp) fun v h₁ tk₁ hP heo hst₁ hT hz₁ hk₁ => ?_
    obtain ⟨c, u, hc, rfl⟩ := hP
    refine wpAny_letOwnedTupleGo_enum heo fun h₂ he₂ hs₂ => ?_
    obtain ⟨oS', hoS', hcS', hdS'⟩ := hst₁
    replace hs₂ : Heap.SameBut (it + 1) h₁ h₂ := hs₂
    have k12 : ∀ b o, b ≠ it + 1 → b ≠ it → s.heap.get? b = some o → h₂.get? b = some o := fun b o q1 q2 e => hs₂.extBut b o q1 (hk₁ b o q1 q2 e)
    have hW : ∀ b o, h₀.get? b = some o → b ≠ it + 1 ∧ b ≠ it := fun b o e => ⟨(fun q => by rw [q, (N _ (.head _)).2.2] at e; cases e), (fun q => by rw [q, (N _ (.tail _ (.head _))).2.2] at e; cases e)⟩
    have F2 : Fr h₀ C h₂ (gm x t pv tp esc ch) := ⟨F.ns.at' fun o e => k12 C o hnC1.symm hnC.symm e, fun b o e => k12 b o (hW b o e).1 (hW b o e).2 (F.keep b o e), F.above⟩
    have N2 : News h₀ C h₂ [(it + 1, enumO it (i + 1) (.str ⟨#[c]⟩ u)), (it, oS')] := by
      intro q hq
      rcases List.mem_cons.mp hq with rfl | hq
      · exact ⟨he₂, hnC1, (N _ (.head _)).2.2⟩
      · rw [List.mem_singleton.mp hq]
        exact ⟨hs₂.extBut _ _ (by show it ≠ it + 1; omega) hoS', hnC, (N _ (.tail _ (.head _))).2.2⟩
    have Mv2 : Moving own₀ s₀.heap h₂ := Mv.but (fun b => b = it + 1 ∨ b = it) (fun b hb' => by rcases hb' with rfl | rfl; exact W2; exact W3) fun b o hb' e => k12 b o (fun q => hb' (.inl q)) (fun q => hb' (.inr q)) e
    have htl : it + 1 < s.heap.objs.size := Heap.lt_size hen
    have hT2 : h₂.IsTuple s.heap.objs.size #[.int i tk₁, .str ⟨#[c]⟩ u] := ⟨_, hs₂.extBut _ _ (by show s.heap.objs.size ≠ it + 1; omega) hT, rfl, _, rfl⟩
    refine assign2 (by exact hh) F2 N2 hT2 fun h₃ F3 N3 hk₃ => ?_
    have F3 : Fr h₀ C h₃ (gm x t i tk₁ esc (some (.str ⟨#[c]⟩ u))) := frTo F3 rfl
    have Mv3 : Moving own₀ s₀.heap h₃ := Mv2.but (fun b => b = C) (fun b hb' => hb' ▸ W1) hk₃
    have hdr : x.cps.toList.drop i = c :: x.cps.toList.drop (i + 1) := drop_of (by simpa using hc)
    rw [hdr]
    clear Mv2 F2 N2 hT2 hk₃ k12 hs₂ he₂ hT hz₁ hk₁ heo hoS' F N Mv hit hen hcS hdS
    have hTf : ∀ (h : Heap) (_ : Fr h₀ C h (gm x t i tk₁ esc (some (.str ⟨#[c]⟩ u)))) (_ : News h₀ C h [(it + 1, enumO it (i + 1) (.str ⟨#[c]⟩ u)), (it, oS')]) (_ : Moving own₀ s₀.heap h), s₀.heap.get? h.objs.size = none ∧ h.objs.size ≠ it + 1 ∧ h.objs.size ≠ it := fun h F N Mv => by
      have l1 : C < h.objs.size := F.ns.lt
      have l2 : it + 1 < h.objs.size := Heap.lt_size (N _ (.head _)).1
      refine ⟨Mv.fresh (fun p hp => ?_) (Nat.le_refl _), by omega, by omega⟩
      rcases W0 p hp with e | e | e <;> rw [e]
      · exact l1
      · exact l2
      · exact Nat.lt_of_succ_lt l2
    cases esc with
    | true =>
      refine sx_execs_cons (sx_If ?_)
      k_steps
      rw [if_pos rfl]
      refine sx_execs_cons (sx_Yield rfl rfl rfl ?_)
      k_steps
      rename_i t' k1 hlen h4 F4 N4 Mv4 hz4 lv kk pp hkk
      rw [esc_true]
      have hs : (Str.ofString "\\" ++ (⟨#[c]⟩ : Str)) = ⟨[92, c].toArray⟩ := rfl
      rw [hs] at N4
      obtain ⟨f1, f2, f3⟩ := hTf h₃ F3 N3 Mv3
      refine gen_yield F4 N4 f2 f3 f1 Mv4 hg hos W1 W2 W3 hkk ?_
      intro A s'' own' hh' W0' W1' W2' W3' F5 N5
      have Mv5 : Moving own' s''.heap s''.heap := Moving.refl _ _
      refine sx_execs_cons (sx_wrap ?_)
      k_steps
      rename_i h6 F6 N6 Mv6
      refine s_again _ _ _ _ _ _ _ _ rfl (ih (x.cps.size + 1 - (i + 1)) (by omega) _ _ _ ⟨i + 1, false, own', s'', i, tk₁, _, _, oS', rfl, hlt, hh', frTo F6 rfl, hcS', hdS', N6, Mv6, rfl, rfl, W0', W1', W2', W3', (fun e => nomatch e), rfl⟩)
    | false =>
      refine sx_execs_cons (sx_If ?_)
      k_steps
      rw [if_neg Bool.false_ne_true]
      refine sx_execs_cons (sx_If ?_)
      k_steps
      by_cases hb : c = 92
      · have hq : ((⟨#[c]⟩ : Str) == Str.ofString "\\") = true := by rw [hb]; decide
        rw [if_pos hq, esc_back hb]
        refine sx_execs_cons (sx_wrap ?_)
        k_steps
        rename_i h6 F6 N6 Mv6
        refine s_again _ _ _ _ _ _ _ _ rfl (ih (x.cps.size + 1 - (i + 1)) (by omega) _ _ _ ⟨i + 1, true, own₀, s₀, i, tk₁, _, _, oS', rfl, hlt, hh, frTo F6 rfl, hcS', hdS', N6, Mv6, hg, hos, W0, W1, W2, W3, (fun _ => ⟨Nat.succ_le_succ (Nat.zero_le _), by push_cast; omega⟩), rfl⟩)
      · have hq : ¬ ((⟨#[c]⟩ : Str) == Str.ofString "\\") = true := by
          intro e
          have e1 : (⟨#[c]⟩ : Str) = Str.ofString "\\" := by simpa using e
          have e2 : (⟨#[c]⟩ : Str) = ⟨#[92]⟩ := e1.trans (by decide)
          exact hb (by simpa using e2)
        rw [if_neg hq, esc_sign hb]
        refine sx_execs_cons (sx_Yield rfl rfl rfl ?_)
        k_steps
        rename_i h4 F4 N4 Mv4 hz4 lv kk pp hkk
        obtain ⟨f1, f2, f3⟩ := hTf h₃ F3 N3 Mv3
        refine gen_yield (cs := [c]) F4 N4 f2 f3 f1 Mv4 hg hos W1 W2 W3 hkk ?_
        intro A s'' own' hh' W0' W1' W2' W3' F5 N5
        refine s_again _ _ _ _ _ _ _ _ rfl (ih (x.cps.size + 1 - (i + 1)) (by omega) _ _ _ ⟨i + 1, false, own', s'', i, tk₁, _, _, oS', rfl, hlt, hh', frTo F5 rfl, hcS', hdS', N5, Moving.refl _ _, rfl, rfl, W0', W1', W2', W3', (fun e => nomatch e), rfl⟩)
  · have hin : i = x.cps.size := by omega
    subst hin
    have hdr : x.cps.toList.drop x.cps.size = [] := by simp
    rw [hdr]
    refine wpAny_pyNext_enum_endD (Draws.strU (by exact hh) it x t) hen ⟨oS, hit, hcS, hdS⟩ fun h₁ hx₁ => ?_
    have k1 : ∀ b o, b ≠ it → s.heap.get? b = some o → h₁.get? b = some o := hx₁
    refine sx_block_nil ?_
    have hW : ∀ b o, h₀.get? b = some o → b ≠ it := fun b o e => (fun q => by rw [q, (N _ (.tail _ (.head _))).2.2] at e; cases e)
    have F1 : Fr h₀ C h₁ (gm x t pv tp esc ch) := ⟨F.ns.at' fun o e => k1 C o hnC.symm e, fun b o e => k1 b o (hW b o e) (F.keep b o e), F.above⟩
    have Mv1 : Moving own₀ s₀.heap h₁ := Mv.but (fun b => b = it) (fun b hb' => hb' ▸ W3) k1
    have N1 : News h₀ C h₁ [] := News.nil
    refine sx_execs_cons (sx_If ?_)
    cases esc with
    | false =>
      k_steps
      rw [if_neg Bool.false_ne_true]
      refine sx_execs_nil (s_end _ _ _ _ _ _ (.ok (.ret .none)) _ rfl ⟨rfl, hg, Mv1.woke hos⟩)
    | true =>
      k_steps
      rw [if_pos rfl]
      refine sx_execs_cons (sx_Yield rfl rfl rfl ?_)
      k_steps
      rename_i h4 F4 N4 Mv4 hz4 lv kk pp hkk
      obtain ⟨g1, g2⟩ := hesc rfl
      have f1 : s₀.heap.get? h₁.objs.size = none := by
        refine Mv1.fresh (fun p hp => ?_) (Nat.le_refl _)
        have l1 : it + 1 < h₁.objs.size := Heap.lt_size (k1 _ _ (Nat.succ_ne_self it) hen)
        rcases W0 p hp with e | e | e <;> rw [e]
        · exact F1.ns.lt
        · exact l1
        · exact Nat.lt_of_succ_lt l1
      refine gen_yield0 (pv := pv) (cs := [92]) (by rw [g2]; omega) F4 N4 f1 Mv4 hg hos W1 hkk ?_
      intro A s'' own' hh' W1' F5
      exact s_end _ _ _ _ _ _ (.ok (.ret .none)) _ rfl ⟨rfl, rfl, ⟨fun _ _ _ e => e, rfl⟩⟩
end
end Mine
end
section
open PySem PySem.W PySem.W.X PyProof.Rows
set_option Elab.async false
set_option maxRecDepth 100000
set_option maxHeartbeats 1000000
namespace Mine
open PySem

section
theorem reset_Strip01 : True := by
  w_top off
  trivial
local macro_rules | `(tactic| walk_at "no key Strip01 0") => `(tactic| skip)
local macro_rules | `(tactic| walk_at "storeName") => `(tactic| (k_here; k_dflt (refine' stL ?k1 ?k2 ?_; (case k1 => assumption); (case k2 => assumption); k_whole); intro h' F' N'; (try dsimp only)))
local macro_rules | `(tactic| walk_at "call builtin:list.append") => `(tactic| (k_here; k_dflt (refine' appendHead ?k1 ?k2 ?k3 ?k4 ?_; (case k1 => assumption); (case k2 => assumption); (case k3 => assumption); (case k4 => assumption); k_whole); intro h' F' N'; (try dsimp only)))

theorem strip_call {w : World} {p : Program} {loose : List Str} {mean : ExcName → Option Value} {mg mb : Str → Option Value} {A : Around} {s : Shared} {x : Str} {t : Tok}
    {Q E : Value → Shared → Prop} (X : (hd.heap_39 w.params).In s.heap) (T : Top p loose mean mg mb s.heap) (hh : A.handled = none) (hroom : A.depth + 1 < recursionLimit) (hu : A.units + 100 < cLine) (hx : x.length ≤ 1000)
    (hQ : ∀ u s', Keep s s' → Q (.str (strip x) u) s') :
    wpAny (model PySem.Challenge.rw_pg0117_01.row.prog w) A (call (.ref 46) [.str x t]) Q E s := by
  have hx' : x.cps.size ≤ 1000 := hx
  revert X
  k_fill
  intro X
  refine enter (X _ _ (by k_is)) (codeRec_of X (by k_is)) T.nolimit (by omega) (BindsTo.of_eq rfl) (locs rfl) rfl rfl rfl (by decide) fun h₁ F N => ?_
  have hfo := StrLaws.found_one x 34
  rw [show (⟨#[34]⟩ : Str) = Str.ofString "\"" from by decide] at hfo
  k_steps
  · rename_i hq
    rw [hq] at hfo
    have e : strip x = x := by unfold strip; rw [if_neg (of_decide_eq_false hfo.symm)]
    rw [e] at hQ
    exact hQ _ _ ⟨F.keep, rfl, .refl _⟩
  rename_i hq _ _ _ _ _ R _ _ _ _ h₅ F₅ N₅
  rw [hq] at hfo
  have hmem : 34 ∈ x.cps.toList := of_decide_eq_true hfo.symm
  have e : strip x = ⟨(stripEnd x.cps.toList (stripRun x.cps.toList (escs x) ⟨0, none, []⟩)).toArray⟩ := by unfold strip; rw [if_pos hmem]
  rw [e] at hQ
  clear hfo e
  refine for_gen ?_
  k_steps
  refine iter_call F₅ X T N₅ (by show A.depth + 1 < recursionLimit; omega) fun a own s₁ F₆ N₆ I hown ha hgg hos => ?_
  refine ⟨a, _, rfl, I.gen, ?_⟩
  refine loop_gen2 (l := lS x t 0 _ .none R none none) F₅ N₅ hown ha hh (by show A.depth + 1 < recursionLimit; omega) T.nolimit
    (fun items l news => ∃ (st : StripSt) (ts to : Tok) (vals : List Value) (n : Nat) (pv cv : Option Value), stripRun x.cps.toList items st = stripRun x.cps.toList (escs x) ⟨0, none, []⟩ ∧ Texts vals st.res ∧ vals.length + items.length ≤ x.cps.size ∧ (∀ c ∈ st.res, c.length ≤ x.cps.toList.length) ∧
      l = lS x t st.start ts (opV st.op to) R pv cv ∧ news = [(R, W.listOf vals.toArray n)])
    (frTo F₆ (((mOf_none "ch" _).trans (mOf_none "pos" _)).symm)) N₆ I ⟨⟨0, none, []⟩, _, 0, [], 0, none, none, rfl, .nil, (by simpa using escs_length x), (fun _ h => nomatch h), rfl, rfl⟩ ?_ ?_
  · rintro ⟨ip, ic⟩ rest l₁ news₁ s₂ t' u ext ⟨st, ts, to, vals, n, pv, cv, hrun, htx, hvl, hcl, rfl, rfl⟩ hgq hos₂ hsep F₇ N₇
    have hvs : vals.toArray.size ≤ sizeLine := by rw [List.size_toArray, sizeLine_eq]; omega
    have hse : ∀ p ∈ ext, p.1 ≠ R := fun p hp => hsep p hp _ (.head _)
    have hvl' : vals.length + rest.length ≤ x.cps.size := by rw [List.length_cons] at hvl; omega
    have hic := strEq1 ic 34 (Str.ofString "\"") (by decide)
    obtain ⟨sta, sop, sres⟩ := st
    rw [stripRun] at hrun
    cases sop with
    | none =>
      simp only [opV] at F₇
      k_steps
      · rename_i h1 _ h' F' N'
        rw [h1] at hic
        have hc := of_decide_eq_true hic.symm
        simp only [stripStep, if_pos hc] at hrun
        exact ⟨_, _, F', N', hsep, rfl, rfl, _, ts, t', vals, n, _, _, hrun, htx, hvl', hcl, rfl, rfl⟩
      · rename_i h1
        rw [h1] at hic
        have hc := of_decide_eq_false hic.symm
        simp only [stripStep, if_neg hc] at hrun
        exact ⟨_, _, F₇, N₇, hsep, rfl, rfl, _, ts, to, vals, n, _, _, hrun, htx, hvl', hcl, rfl, rfl⟩
    | some o =>
      simp only [opV] at F₇
      k_steps
      · rename (_ == _) = true => h1
        rename _ ≠ _ => h2
        rename Fr _ _ _ _ => F4
        rename News _ _ _ _ => N4
        rw [h1] at hic
        have hc := of_decide_eq_true hic.symm
        have hne : ¬ sta = o := fun q => h2 (by rw [q])
        simp only [stripStep, if_pos hc, if_neg hne] at hrun
        rw [slice_cut] at N4
        refine ⟨lS x t (ip + 1) _ .none R _ _, [(R, W.listOf (vals ++ [_]).toArray _)], F4, (by simpa using N4), (fun p hp q hq => by rw [List.mem_singleton.mp hq]; exact hse p hp), rfl, rfl, _, _, 0, vals ++ [_], _, _, _, hrun, htx.snoc, ?_, ?_, rfl, rfl⟩
        · rw [List.length_append, List.length_singleton]; rw [List.length_cons] at hvl; omega
        · intro c hc'
          rcases List.mem_append.mp hc' with hc' | hc'
          · exact hcl c hc'
          · rw [List.mem_singleton.mp hc']; exact cut_le _ _ _
      · rename (_ == _) = true => h1
        rename (_ : Int) = _ => h2
        rename Fr _ _ _ _ => F4
        rename News _ _ _ _ => N4
        rw [h1] at hic
        have hc := of_decide_eq_true hic.symm
        have hne : sta = o := by omega
        simp only [stripStep, if_pos hc, if_pos hne] at hrun
        exact ⟨lS x t (ip + 1) _ .none R _ _, _, F4, N4, hsep, rfl, rfl, _, _, 0, vals, n, _, _, hrun, htx, hvl', hcl, rfl, rfl⟩
      · rename_i h1
        rw [h1] at hic
        have hc := of_decide_eq_false hic.symm
        simp only [stripStep, if_neg hc] at hrun
        exact ⟨_, _, F₇, N₇, hsep, rfl, rfl, _, ts, to, vals, n, _, _, hrun, htx, hvl', hcl, rfl, rfl⟩
  · rintro l₁ news₁ s₂ ⟨st, ts, to, vals, n, pv, cv, hrun, htx, hvl, hcl, rfl, rfl⟩ hgq hos₂ F₇ N₇
    dsimp only
    have hlen : vals.length = st.res.length := htx.length
    have hxl : x.cps.toList.length = x.cps.size := by simp
    have hrun' : st = stripRun x.cps.toList (escs x) ⟨0, none, []⟩ := hrun
    have fin : ∀ (s' : Shared), Fr s.heap s.heap.objs.size s'.heap (mOf (lS x t st.start ts (opV st.op to) R pv cv)) → s'.os = s₂.os → s'.gens = s₂.gens → Keep s s' := fun s' F e1 e2 =>
      ⟨F.keep, by rw [e1, hos₂, hos], by rw [e2]; exact hgg.only (Nat.le_refl _) hgq⟩
    k_steps
    · rename (_ : Int) < _ => h2
      rename Fr _ _ _ _ => F4
      rename News _ _ _ _ => N4
      rw [slice_cut'] at N4
      have hlt : st.start < x.cps.toList.length := by rw [hxl]; have : x.length = x.cps.size := rfl; omega
      have N5 : News s.heap s.heap.objs.size _ [(R, W.listOf (vals ++ [_]).toArray _)] := (by simpa using N4)
      refine join_texts (N := x.cps.toList.length) N5 htx.snoc ?_ ?_ fun t' k => ?_
      · intro c hc'
        rcases List.mem_append.mp hc' with hc' | hc'
        · exact hcl c hc'
        · rw [List.mem_singleton.mp hc']; exact cut_le _ _ _
      · rw [List.length_append, List.length_singleton, hxl]
        rw [List.length_nil] at hvl
        exact Nat.le_trans (Nat.mul_le_mul (show _ ≤ 1001 by omega) (show _ ≤ 1000 by omega)) (by decide)
      · have e : stripEnd x.cps.toList (stripRun x.cps.toList (escs x) ⟨0, none, []⟩) = (st.res ++ [cut x.cps.toList st.start x.cps.toList.length]).flatten := by rw [← hrun']; unfold stripEnd; rw [if_pos hlt]
        rw [e] at hQ
        exact hQ _ _ (fin _ F4 rfl rfl)
    · rename ¬ (_ : Int) < _ => h2
      have hlt : ¬ st.start < x.cps.toList.length := by rw [hxl]; have : x.length = x.cps.size := rfl; omega
      refine join_texts (N := x.cps.toList.length) N₇ htx hcl ?_ fun t' k => ?_
      · rw [hxl]
        rw [List.length_nil] at hvl
        exact Nat.le_trans (Nat.mul_le_mul (show _ ≤ 1001 by omega) (show _ ≤ 1000 by omega)) (by decide)
      · have e : stripEnd x.cps.toList (stripRun x.cps.toList (escs x) ⟨0, none, []⟩) = st.res.flatten := by rw [← hrun']; unfold stripEnd; rw [if_neg hlt]
        rw [e] at hQ
        exact hQ _ _ (fin _ F₇ rfl rfl)
end
end Mine
end
section
open PySem PySem.W PySem.W.X PyProof.Rows
set_option Elab.async false
set_option maxRecDepth 100000
set_option maxHeartbeats 1000000
namespace Mine
open PySem

section
theorem reset_Check01 : True := by
  w_top off
  trivial
local macro_rules | `(tactic| walk_at "storeName") => `(tactic| (k_here; k_dflt (refine' stL ?k1 ?k2 ?_; (case k1 => assumption); (case k2 => assumption); k_whole); intro h' F' N'; (try dsimp only)))
abbrev lC (y : Str) (t : Tok) (o : Int) (to : Tok) (pv cv : Option Value) : List (Str × Option Value) :=
  [("addr", some (.str y t)), ("opens", some (.int o to)), ("pos", pv), ("ch", cv)]

theorem check_call {w : World} {p : Program} {loose : List Str} {mean : ExcName → Option Value} {mg mb : Str → Option Value} {A : Around} {s : Shared} {x : Str} {t : Tok}
    {Q E : Value → Shared → Prop} (X : (hd.heap_39 w.params).In s.heap) (T : Top p loose mean mg mb s.heap) (hh : A.handled = none) (hroom : A.depth + 2 < recursionLimit) (hu : A.units + 200 < cLine) (hx : x.length ≤ 1000)
    (hQ : ∀ s', Keep s s' → Q (.bool (checkP x)) s') :
    wpAny (model PySem.Challenge.rw_pg0117_01.row.prog w) A (call (.ref 53) [.str x t]) Q E s := by
  revert X
  k_fill
  intro X
  refine enter (X _ _ (by k_is)) (codeRec_of X (by k_is)) T.nolimit (by omega) (BindsTo.of_eq rfl) (locs rfl) rfl rfl rfl (by decide) fun h₁ F N => ?_
  k_steps
  refine strip_call (X.keeps F.keep) (T.keeps F.keep) hh (by show A.depth + 1 + 1 < recursionLimit; omega) (by show A.units + 3 + 100 < cLine; omega) hx fun u s₁ K₁ => ?_
  have F₁ := K₁.fr F
  have N₁ := K₁.news N
  k_steps
  refine for_gen ?_
  k_steps
  rename Fr _ _ _ _ => F₅
  rename News _ _ _ _ => N₅
  refine iter_call F₅ X T N₅ (by show A.depth + 1 < recursionLimit; omega) fun a own s₂ F₆ N₆ I hown ha hgg hos => ?_
  refine ⟨a, _, rfl, I.gen, ?_⟩
  have hK : ∀ s₃ : Shared, (∀ b o, s.heap.get? b = some o → s₃.heap.get? b = some o) → GenOnlyQ s₁.gens.size s₂.gens s₃.gens → s₃.os = s₂.os → Keep s s₃ := fun s₃ k g e =>
    ⟨k, e.trans (hos.trans K₁.os), GensGrow.trans K₁.gens (hgg.only (Nat.le_refl _) g)⟩
  refine loop_gen2 (l := lC (strip x) u 0 _ none none) F₅ N₅ hown ha hh (by show A.depth + 1 < recursionLimit; omega) T.nolimit
    (fun items l news => ∃ (o : Int) (to : Tok) (pv cv : Option Value), chkRun items o = checkP x ∧ 0 ≤ o ∧ l = lC (strip x) u o to pv cv ∧ news = [])
    (frTo F₆ (((mOf_none "ch" _).trans (mOf_none "pos" _)).symm)) N₆ I ⟨0, _, none, none, rfl, by omega, rfl, rfl⟩ ?_ ?_
  · rintro ⟨ip, ic⟩ rest l₁ news₁ s₃ t' u' ext ⟨o, to, pv, cv, hrun, ho, rfl, rfl⟩ hgq hos₂ hsep F₇ N₇
    have hi1 := strEq1 ic 40 (Str.ofString "(") (by decide)
    have hi2 := strEq1 ic 41 (Str.ofString ")") (by decide)
    rw [chkRun] at hrun
    dsimp only at hrun
    k_steps
    · rename (_ == _) = true => h1
      rename Fr _ _ _ _ => F4
      rename News _ _ _ _ => N4
      have hc := of_decide_eq_true (hi1.symm.trans h1)
      rw [if_pos hc] at hrun
      exact ⟨lC (strip x) u (o + 1) _ _ _, [], F4, N4, (fun _ _ _ h => nomatch h), rfl, rfl, o + 1, _, _, _, hrun, by omega, rfl, rfl⟩
    · rename (_ == _) = true => h2
      rename (_ == _) = false => h1
      rename (_ : Int) < 0 => h3
      rename Fr _ _ _ _ => F4
      have hc1 := of_decide_eq_false (hi1.symm.trans h1)
      have hc2 := of_decide_eq_true (hi2.symm.trans h2)
      rw [if_neg hc1, if_pos hc2, if_pos h3] at hrun
      rw [← hrun] at hQ
      exact hQ _ (hK _ F4.keep hgq hos₂)
    · rename (_ == _) = true => h2
      rename (_ == _) = false => h1
      rename ¬ (_ : Int) < 0 => h3
      rename Fr _ _ _ _ => F4
      rename News _ _ _ _ => N4
      have hc1 := of_decide_eq_false (hi1.symm.trans h1)
      have hc2 := of_decide_eq_true (hi2.symm.trans h2)
      rw [if_neg hc1, if_pos hc2, if_neg h3] at hrun
      exact ⟨lC (strip x) u (o - 1) _ _ _, [], F4, N4, (fun _ _ _ h => nomatch h), rfl, rfl, o - 1, _, _, _, hrun, by omega, rfl, rfl⟩
    · rename (_ == Str.ofString "(") = false => h1
      rename (_ == Str.ofString ")") = false => h2
      have hc1 := of_decide_eq_false (hi1.symm.trans h1)
      have hc2 := of_decide_eq_false (hi2.symm.trans h2)
      rw [if_neg hc1, if_neg hc2] at hrun
      exact ⟨lC (strip x) u o _ _ _, [], F₇, N₇, (fun _ _ _ h => nomatch h), rfl, rfl, o, _, _, _, hrun, ho, rfl, rfl⟩
  · rintro l₁ news₁ s₃ ⟨o, to, pv, cv, hrun, ho, rfl, rfl⟩ hgq hos₂ F₇ N₇
    dsimp only
    k_steps
    rw [← hrun] at hQ
    exact hQ _ (hK _ F₇.keep hgq hos₂)
end
end Mine
end
section
open PySem PySem.W PySem.W.X PyProof.Rows
set_option Elab.async false
set_option maxRecDepth 100000
set_option maxHeartbeats 1000000
namespace Mine
open PySem

section
theorem reset_Bis01 : True := by
  w_top off
  trivial
local macro_rules | `(tactic| walk_at "no key Bis01 0") => `(tactic| skip)
local macro_rules | `(tactic| walk_at "no key Bis01 1") => `(tactic| skip)
local macro_rules | `(tactic| walk_at "storeName") => `(tactic| (k_here; k_dflt (refine' stL ?k1 ?k2 ?_; (case k1 => assumption); (case k2 => assumption); k_whole); intro h' F' N'; (try dsimp only)))
local macro_rules | `(tactic| walk_at "exec While Compare cons nil") => `(tactic| (refine Halt.mk ?_))

theorem bisR_call {w : World} {p : Program} {loose : List Str} {mean : ExcName → Option Value} {mg mb : Str → Option Value} {A : Around} {s : Shared} {a : Addr} {ns : List Int} {x : Int} {t : Tok}
    {Q E : Value → Shared → Prop} (X : (hd.heap_39 w.params).In s.heap) (T : Top p loose mean mg mb s.heap) (hh : A.handled = none) (hroom : A.depth < recursionLimit) (hu : A.units + 100 < cLine) (hl : IntList s.heap a ns) (hn : ns.length ≤ 1000)
    (hQ : ∀ u s', Keep s s' → Q (.int (halved (fun i => decide (x < ns.getD i 0)) ns.length) u) s') :
    wpAny (model PySem.Challenge.rw_pg0117_01.row.prog w) A (call (.ref 23) [.ref a, .int x t]) Q E s := by
  revert X
  k_fill
  intro X
  have hD : s.heap.get? 16 = some _ := X 16 _ (by k_is)
  have hN : s.heap.Ns 16 _ := ⟨_, _, _, hD, rfl, (fun e he => ⟨_, _, congrArg DictEntry.key (List.mem_singleton.mp (Array.mem_toList_iff.mpr he))⟩), fun _ => rfl⟩
  have hT : s.heap.get? 15 = some _ := X 15 _ (by k_is)
  have ho : s.heap.get? 23 = some _ := X 23 _ (by k_is)
  refine' enter (binds := [("a", .ref a), ("x", .int x t), ("lo", .int 0 _), ("hi", .none), ("key", .none)]) ho (codeRec_of X (by k_is)) T.nolimit hroom ?hb ?hl rfl rfl rfl (by decide) ?go
  case hb =>
    intro M A E' Q' hq Γ p hΓ
    refine (show ∃ o, s.heap.get? 15 = some o ∧ _ from ⟨_, hT, ?_⟩)
    refine (show Sem.wp M Γ (((nsGet 16 (Str.ofString "key") >>= _) >>= _) >>= _) _ _ _ _ from ?_)
    rw [Sem.wp_bind', Sem.wp_bind', Sem.wp_bind', Sem.wp_nsGet _ _ _ _ _ hN]
    exact hq
  case hl => exact locs rfl
  intro h₁ F N
  k_steps
  refine lenI (hl.keep F.keep) hn ?_
  k_steps
  rename Fr _ _ _ _ => F₂
  have F₂ : Fr s.heap s.heap.objs.size _ (mOf (lB a (.int x t) .none 0 _ ns.length _ none)) := frTo F₂ ((mOf_none "mid" _).symm)
  refine Halt.go (while_inv (I := fun n s' => ∃ lo hi tl th mv, n = hi - lo ∧ lo ≤ hi ∧ hi ≤ ns.length ∧ halve (fun i => decide (x < ns.getD i 0)) (hi - lo) lo hi = halved (fun i => decide (x < ns.getD i 0)) ns.length ∧
    Fr s.heap s.heap.objs.size s'.heap (mOf (lB a (.int x t) .none lo tl hi th mv)) ∧ s'.gens = s.gens ∧ s'.os = s.os) ?_ ns.length ⟨0, ns.length, _, _, none, rfl, Nat.zero_le _, Nat.le_refl _, rfl, F₂, rfl, rfl⟩)
  clear F₂
  rintro n s' ⟨lo, hi, tl, th, mv, rfl, hle, hhi, hrun, F, hg, hos⟩
  have N : News s.heap s.heap.objs.size s'.heap [] := News.nil
  have hl' := hl.keep F.keep
  k_steps
  · rename (_ : Int) < _ => hlt
    have hlt : lo < hi := by omega
    rename Fr _ _ _ _ => F₃
    refine itemI (k := (lo + hi) / 2) (hl.keep F₃.keep) (by omega) hn (half_eq lo hi) fun t' => ?_
    rw [halve_step _ _ _ hlt] at hrun
    rw [half_eq] at F₃
    k_steps
    · rename (_ : Int) < List.getD _ _ _ => hx
      rename Fr _ _ _ _ => F₄
      rw [if_pos (decide_eq_true hx)] at hrun
      exact ⟨_, by omega, lo, (lo + hi) / 2, _, _, _, rfl, by omega, by omega, hrun, F₄, hg, hos⟩
    · rename ¬ (_ : Int) < List.getD _ _ _ => hx
      rename Fr _ _ _ _ => F₄
      rw [if_neg (by rw [decide_eq_true_eq]; exact hx)] at hrun
      exact ⟨_, by omega, (lo + hi) / 2 + 1, hi, _, _, _, rfl, by omega, by omega, hrun, F₄, hg, hos⟩
  · rename ¬ (_ : Int) < _ => hlt
    have hlt : ¬ lo < hi := by omega
    rw [halve_done _ _ _ _ hlt] at hrun
    rw [← hrun] at hQ
    exact hQ _ _ ⟨F.keep, hos, by show GensGrow s.gens s'.gens; rw [hg]; exact .refl _⟩

theorem bisLk_call {w : World} {p : Program} {loose : List Str} {mean : ExcName → Option Value} {mg mb : Str → Option Value} {A : Around} {s : Shared} {a kf : Addr} {vs : List Value} {kp : Nat → Bool} {oc : Value} {od : Option Addr} {fd : FuncData} {sl : Array (Option Value)}
    {Q E : Value → Shared → Prop} (X : (hd.heap_39 w.params).In s.heap) (T : Top p loose mean mg mb s.heap) (hh : A.handled = none) (hroom : A.depth < recursionLimit) (hu : A.units + 100 < cLine) (hl : ValList s.heap a vs) (hn : vs.length ≤ 1000) (hkf : s.heap.get? kf = some ⟨oc, od, .func fd, sl⟩)
    (hkey : ∀ (A' : Around) i v (s' : Shared) (Q' : Value → Shared → Prop), A'.handled = none → A'.depth = A.depth + 1 → A'.units = A.units + 3 → vs[i]? = some v → Keep s s' → (∀ s'', Keep s' s'' → Q' (.bool (kp i)) s'') → wpAny (model PySem.Challenge.rw_pg0117_01.row.prog w) A' (call (.ref kf) [v]) Q' (fun _ _ => False) s')
    (hQ : ∀ u s', Keep s s' → Q (.int (halved kp vs.length) u) s') :
    wpAny (model PySem.Challenge.rw_pg0117_01.row.prog w) A (call (.ref 32) [.ref a, .bool true] [(Str.ofString "key", .ref kf)]) Q E s := by
  revert X
  k_fill
  intro X
  have hT : s.heap.get? 24 = some _ := X 24 _ (by k_is)
  have ho : s.heap.get? 32 = some _ := X 32 _ (by k_is)
  refine' enter (binds := [("a", .ref a), ("x", .bool true), ("lo", .int 0 _), ("hi", .none), ("key", .ref kf)]) ho (codeRec_of X (by k_is)) T.nolimit hroom ?hb ?hl rfl rfl rfl (by decide) ?go
  case hb =>
    intro M A E' Q' hq Γ p hΓ
    refine (show ∃ o, s.heap.get? 24 = some o ∧ _ from ⟨_, hT, ?_⟩)
    exact hq
  case hl => exact locs rfl
  intro h₁ F N
  k_steps
  refine lenL (hl.keep F.keep) hn ?_
  k_steps
  rename Fr _ _ _ _ => F₂
  have F₂ : Fr s.heap s.heap.objs.size _ (mOf (lB a (.bool true) (.ref kf) 0 _ vs.length _ none)) := frTo F₂ ((mOf_none "mid" _).symm)
  refine Halt.go (while_inv (I := fun n s' => ∃ lo hi tl th mv, n = hi - lo ∧ lo ≤ hi ∧ hi ≤ vs.length ∧ halve kp (hi - lo) lo hi = halved kp vs.length ∧
    Fr s.heap s.heap.objs.size s'.heap (mOf (lB a (.bool true) (.ref kf) lo tl hi th mv)) ∧ GensGrow s.gens s'.gens ∧ s'.os = s.os) ?_ vs.length ⟨0, vs.length, _, _, none, rfl, Nat.zero_le _, Nat.le_refl _, rfl, F₂, .refl _, rfl⟩)
  clear F₂
  rintro n s' ⟨lo, hi, tl, th, mv, rfl, hle, hhi, hrun, F, hg, hos⟩
  have N : News s.heap s.heap.objs.size s'.heap [] := News.nil
  k_steps
  · rename (_ : Int) < _ => hlt
    have hlt : lo < hi := by omega
    rename Fr _ _ _ _ => F₃
    rw [halve_step _ _ _ hlt] at hrun
    rw [half_eq] at F₃
    have hmid : (lo + hi) / 2 < vs.length := by omega
    obtain ⟨v, hv⟩ : ∃ v, vs[(lo + hi) / 2]? = some v := ⟨_, List.getElem?_eq_getElem hmid⟩
    refine callWithF (kf := kf) (oc := oc) (od := od) (fd := fd) (sl := sl) ?_
    k_steps
    refine itemL (k := (((lo + hi) / 2 : Nat) : Int)) (hl.keep F₃.keep) (by omega) (by omega) (by exact hv) ?_
    k_steps
    refine hkey _ _ v _ _ hh rfl rfl hv ⟨F₃.keep, hos, hg⟩ fun s₃ K₃ => ?_
    have F₄ := K₃.fr F₃
    have N₄ : News s.heap s.heap.objs.size s₃.heap [] := News.nil
    have K₃' : Keep s s₃ := ⟨fun b o e => K₃.heap b o (F₃.keep b o e), K₃.os.trans hos, hg.trans K₃.gens⟩
    cases hkp : kp ((lo + hi) / 2) with
    | false =>
      rw [hkp] at hrun
      simp only [Bool.false_eq_true, if_false] at hrun
      k_steps
      rename Fr _ _ _ _ => F₅
      exact ⟨_, by omega, (lo + hi) / 2 + 1, hi, _, _, _, rfl, by omega, by omega, hrun, F₅, K₃'.gens, K₃'.os⟩
    | true =>
      rw [hkp] at hrun
      simp only [if_true] at hrun
      k_steps
      rename Fr _ _ _ _ => F₅
      exact ⟨_, by omega, lo, (lo + hi) / 2, _, _, _, rfl, by omega, by omega, hrun, F₅, K₃'.gens, K₃'.os⟩
  · rename ¬ (_ : Int) < _ => hlt
    have hlt : ¬ lo < hi := by omega
    rw [halve_done _ _ _ _ hlt] at hrun
    rw [← hrun] at hQ
    exact hQ _ _ ⟨F.keep, hos, hg⟩
end
end Mine
end
section
open PySem PySem.W PySem.W.X PyProof.Rows
set_option Elab.async false
set_option maxRecDepth 100000
set_option maxHeartbeats 1000000
namespace Mine
open PySem

section
theorem reset_BisL01 : True := by
  w_top off
  trivial
local macro_rules | `(tactic| walk_at "no key BisL01 0") => `(tactic| skip)
local macro_rules | `(tactic| walk_at "no key BisL01 1") => `(tactic| skip)
local macro_rules | `(tactic| walk_at "no key BisL01 2") => `(tactic| skip)
local macro_rules | `(tactic| walk_at "storeName") => `(tactic| (k_here; k_dflt (refine' stL ?k1 ?k2 ?_; (case k1 => assumption); (case k2 => assumption); k_whole); intro h' F' N'; (try dsimp only)))
local macro_rules | `(tactic| walk_at "exec While Compare cons nil") => `(tactic| (refine Halt.mk ?_))

theorem bisL_call {w : World} {p : Program} {loose : List Str} {mean : ExcName → Option Value} {mg mb : Str → Option Value} {A : Around} {s : Shared} {a : Addr} {ns : List Int} {x : Int} {t : Tok}
    {Q E : Value → Shared → Prop} (X : (hd.heap_39 w.params).In s.heap) (T : Top p loose mean mg mb s.heap) (hh : A.handled = none) (hroom : A.depth < recursionLimit) (hu : A.units + 100 < cLine) (hl : IntList s.heap a ns) (hn : ns.length ≤ 1000)
    (hQ : ∀ u s', Keep s s' → Q (.int (halved (fun i => !decide (ns.getD i 0 < x)) ns.length) u) s') :
    wpAny (model PySem.Challenge.rw_pg0117_01.row.prog w) A (call (.ref 32) [.ref a, .int x t]) Q E s := by
  revert X
  k_fill
  intro X
  have hD : s.heap.get? 25 = some _ := X 25 _ (by k_is)
  have hN : s.heap.Ns 25 _ := ⟨_, _, _, hD, rfl, (fun e he => ⟨_, _, congrArg DictEntry.key (List.mem_singleton.mp (Array.mem_toList_iff.mpr he))⟩), fun _ => rfl⟩
  have hT : s.heap.get? 24 = some _ := X 24 _ (by k_is)
  have ho : s.heap.get? 32 = some _ := X 32 _ (by k_is)
  refine' enter (binds := [("a", .ref a), ("x", .int x t), ("lo", .int 0 _), ("hi", .none), ("key", .none)]) ho (codeRec_of X (by k_is)) T.nolimit hroom ?hb ?hl rfl rfl rfl (by decide) ?go
  case hb =>
    intro M A E' Q' hq Γ p hΓ
    refine (show ∃ o, s.heap.get? 24 = some o ∧ _ from ⟨_, hT, ?_⟩)
    refine (show Sem.wp M Γ (((nsGet 25 (Str.ofString "key") >>= _) >>= _) >>= _) _ _ _ _ from ?_)
    rw [Sem.wp_bind', Sem.wp_bind', Sem.wp_bind', Sem.wp_nsGet _ _ _ _ _ hN]
    exact hq
  case hl => exact locs rfl
  intro h₁ F N
  k_steps
  refine lenI (hl.keep F.keep) hn ?_
  k_steps
  rename Fr _ _ _ _ => F₂
  have F₂ : Fr s.heap s.heap.objs.size _ (mOf (lB a (.int x t) .none 0 _ ns.length _ none)) := frTo F₂ ((mOf_none "mid" _).symm)
  refine Halt.go (while_inv (I := fun n s' => ∃ lo hi tl th mv, n = hi - lo ∧ lo ≤ hi ∧ hi ≤ ns.length ∧ halve (fun i => !decide (ns.getD i 0 < x)) (hi - lo) lo hi = halved (fun i => !decide (ns.getD i 0 < x)) ns.length ∧
    Fr s.heap s.heap.objs.size s'.heap (mOf (lB a (.int x t) .none lo tl hi th mv)) ∧ s'.gens = s.gens ∧ s'.os = s.os) ?_ ns.length ⟨0, ns.length, _, _, none, rfl, Nat.zero_le _, Nat.le_refl _, rfl, F₂, rfl, rfl⟩)
  clear F₂
  rintro n s' ⟨lo, hi, tl, th, mv, rfl, hle, hhi, hrun, F, hg, hos⟩
  have N : News s.heap s.heap.objs.size s'.heap [] := News.nil
  have hl' := hl.keep F.keep
  k_steps
  · rename (_ : Int) < _ => hlt
    have hlt : lo < hi := by omega
    rename Fr _ _ _ _ => F₃
    refine itemI (k := (lo + hi) / 2) (hl.keep F₃.keep) (by omega) hn (half_eq lo hi) fun t' => ?_
    rw [halve_step _ _ _ hlt] at hrun
    rw [half_eq] at F₃
    k_steps
    · rename List.getD _ _ _ < (_ : Int) => hx
      rename Fr _ _ _ _ => F₄
      rw [if_neg (by rw [decide_eq_true hx]; decide)] at hrun
      exact ⟨_, by omega, (lo + hi) / 2 + 1, hi, _, _, _, rfl, by omega, by omega, hrun, F₄, hg, hos⟩
    · rename ¬ List.getD _ _ _ < (_ : Int) => hx
      rename Fr _ _ _ _ => F₄
      rw [if_pos (by rw [decide_eq_false hx]; rfl)] at hrun
      exact ⟨_, by omega, lo, (lo + hi) / 2, _, _, _, rfl, by omega, by omega, hrun, F₄, hg, hos⟩
  · rename ¬ (_ : Int) < _ => hlt
    have hlt : ¬ lo < hi := by omega
    rw [halve_done _ _ _ _ hlt] at hrun
    rw [← hrun] at hQ
    exact hQ _ _ ⟨F.keep, hos, by show GensGrow s.gens s'.gens; rw [hg]; exact .refl _⟩

end
end Mine
end
section
open PySem PySem.W PySem.W.X PyProof.Rows
set_option Elab.async false
set_option maxRecDepth 100000
set_option maxHeartbeats 2000000
namespace Mine
open PySem

/-- which of the halvings; y is pushed out by x -/
def outI (b : Bool) (x y : Int) : Bool := if b then !decide (y < x) else decide (x < y)
def cellAt (p : Int → Int → Bool) : Nat → List (List Int) → Int → List (Int × Int)
  | _, [], _ => []
  | d, r :: rest, x => if halved (fun i => p x (r.getD i 0)) r.length = r.length then [((d : Int), (r.length : Int))] else cellAt p (d + 1) rest (r.getD (halved (fun i => p x (r.getD i 0)) r.length) 0)
theorem cellAt_full {p : Int → Int → Bool} {d : Nat} {r : List Int} {rest : List (List Int)} {x : Int} (h : halved (fun i => p x (r.getD i 0)) r.length = r.length) : cellAt p d (r :: rest) x = [((d : Int), (r.length : Int))] := by rw [cellAt, if_pos h]
theorem cellAt_push {p : Int → Int → Bool} {d : Nat} {r : List Int} {rest : List (List Int)} {x : Int} (h : ¬ halved (fun i => p x (r.getD i 0)) r.length = r.length) :
    cellAt p d (r :: rest) x = cellAt p (d + 1) rest (r.getD (halved (fun i => p x (r.getD i 0)) r.length) 0) := by rw [cellAt, if_neg h]
def cellStep (p : Int → Int → Bool) (st : List (List Int) × List (Int × Int)) (x : Int) : List (List Int) × List (Int × Int) := (insR p (st.1 ++ [[]]) x, st.2 ++ cellAt p 0 (st.1 ++ [[]]) x)
def cellRun (p : Int → Int → Bool) (ns : List Int) : List (List Int) × List (Int × Int) := ns.foldl (cellStep p) ([], [])
def cellsOf (b : Bool) (ns : List Int) : List (Int × Int) := (cellRun (outI b) ns).2
theorem cellRun_len (p : Int → Int → Bool) : ∀ (ns : List Int) (st : List (List Int) × List (Int × Int)), (ns.foldl (cellStep p) st).2.length ≤ st.2.length + ns.length
  | [], st => by simp
  | x :: ns, st => by
    rw [List.foldl_cons]
    refine Nat.le_trans (cellRun_len p ns _) ?_
    have h : (cellAt p 0 (st.1 ++ [[]]) x).length ≤ 1 := by
      have aux : ∀ (rs : List (List Int)) (d : Nat) (x : Int), (cellAt p d rs x).length ≤ 1 := by
        intro rs
        induction rs with
        | nil => intro d x; simp [cellAt]
        | cons r rest ih => intro d x; rw [cellAt]; split
                            · simp
                            · exact ih _ _
      exact aux _ _ _
    simp only [cellStep, List.length_append, List.length_cons]
    omega
theorem cells_len (b : Bool) (ns : List Int) : (cellsOf b ns).length ≤ ns.length := by
  have := cellRun_len (outI b) ns ([], [])
  simpa [cellsOf, cellRun] using this
/-- a tuple of two ints -/
def CellR (x y : Value) (u : Int × Int) : Prop := ∃ t1 t2, x = .int u.1 t1 ∧ y = .int u.2 t2
theorem cellAt_len (p : Int → Int → Bool) : ∀ (rs : List (List Int)) (d : Nat) (x : Int), (cellAt p d rs x).length ≤ 1
  | [], _, _ => by simp [cellAt]
  | r :: rest, d, x => by
    rw [cellAt]; split
    · simp
    · exact cellAt_len p rest _ _
theorem wp_keep {M : Model} {A : Around} {m : Sem Value} {s : Shared} {Q E : Value → Shared → Prop} {P : Value → Prop} (h : wpAny M A m (fun v s' => P v ∧ Keep s s') (fun _ _ => False) s) (k : ∀ v s', P v → Keep s s' → Q v s') : wpAny M A m Q E s :=
  wpAny_mono h (fun v s' x => k v s' x.1 x.2) fun _ _ x => x.elim
abbrev lCl (a : Addr) (b : Bool) (R Cl : Addr) (lv dv rv pv : Option Value) : List (Str × Option Value) := [("strict", some (.bool b)), ("word", some (.ref a)), ("cells", some (.ref Cl)), ("table", some (.ref R)), ("letter", lv), ("depth", dv), ("row", rv), ("place", pv)]
section
theorem reset_Cells01 : True := by
  w_top off
  trivial
local macro_rules | `(tactic| walk_at "storeName") => `(tactic| (k_here; k_dflt (refine' stL ?k1 ?k2 ?_; (case k1 => assumption); (case k2 => assumption); k_whole); intro h' F' N'; (try dsimp only)))
local macro_rules | `(tactic| walk_at "exec For") => `(tactic| (refine Halt.mk ?_))
local macro_rules | `(tactic| walk_at "exec For Tuple Call cons nil") => `(tactic| (refine Halt.mk ?_))
local macro_rules | `(tactic| walk_at "call builtin:list.append") => `(tactic| (refine Halt.mk ?_))
local macro_rules | `(tactic| walk_at "subscriptTail") => `(tactic| (refine Halt.mk ?_))
local macro_rules | `(tactic| walk_at "setItem") => `(tactic| (refine Halt.mk ?_))
local macro_rules | `(tactic| walk_at "assign Tuple") => `(tactic| (refine Halt.mk ?_))
local macro_rules | `(tactic| walk_at "eval IfExp") => `(tactic| (refine Halt.mk ?_))
local macro_rules | `(tactic| walk_at "call type:enumerate") => `(tactic| (refine Halt.mk ?_))
local macro_rules | `(tactic| walk_at "call ref") => `(tactic| (refine Halt.mk ?_))
local macro_rules | `(tactic| walk_at "unpackItems ref") => `(tactic| (refine Halt.mk ?_))

theorem cells_call {w : World} {p : Program} {loose : List Str} {mean : ExcName → Option Value} {mg mb : Str → Option Value} {A : Around} {s : Shared} {a : Addr} {ns : List Int} {bb : Bool}
    {Q E : Value → Shared → Prop} (X : (hd.heap_39 w.params).In s.heap) (T : Top p loose mean mg mb s.heap) (hh : A.handled = none) (hroom : A.depth + 2 < recursionLimit) (hu : A.units + 200 < cLine) (hl : IntList s.heap a ns) (hn : ns.length ≤ 100)
    (hQ : ∀ c s' vs n tups, Keep s s' → (∀ p ∈ (c, W.listOf (vs : List Value).toArray n) :: tups, s'.heap.get? p.1 = some p.2 ∧ s.heap.get? p.1 = none) → Two (TupIn CellR tups) vs (cellsOf bb ns) → Q (.ref c) s') :
    wpAny (model PySem.Challenge.rw_pg0117_01.row.prog w) A (call (.ref 60) [.ref a, .bool bb]) Q E s := by
  revert X
  k_fill
  intro X
  obtain ⟨vs, hl, hI⟩ := hl
  refine enter (binds := [("word", .ref a), ("strict", .bool bb)]) (X _ _ (by k_is)) (codeRec_of X (by k_is)) T.nolimit (by omega) (BindsTo.of_eq rfl) (locs rfl) rfl rfl rfl (by decide) fun h₁ F N => ?_
  k_steps
  rename_i R _ _ Cl _ lRC Tp h2 F2 N2 _
  refine Halt.go (unpackItemsN_ F2 N2 (N2.isTup (.head _)) hh rfl fun h3 F3 N3 => ?_)
  clear F2 N2
  k_steps
  rename Fr _ _ _ _ => F4
  rename News _ _ _ _ => N4
  refine Halt.go (for_any ?_)
  k_steps
  have hRC0 : Cl ≠ R := Nat.ne_of_gt lRC
  have F5 : Fr s.heap s.heap.objs.size _ (mOf (lCl a bb R Cl none none none none)) := frTo F4 (((mOf_none "place" _).trans ((mOf_none "row" _).trans ((mOf_none "depth" _).trans (mOf_none "letter" _))))).symm
  have N5 := news_sub N4 fun q (hq : q ∈ (R, W.listOf (([] : List Addr).map Value.ref).toArray 0) :: [] ++ ((Cl, W.listOf ([] : List Value).toArray 0) :: [])) => (by
    simp only [List.cons_append, List.nil_append, List.mem_cons, List.not_mem_nil, or_false] at hq ⊢
    rcases hq with h | h
    · exact .inr (.inr h)
    · exact .inr (.inl h))
  obtain ⟨oa, hoa, _⟩ := id hl
  clear F3 N3 F4 N4
  refine iter_list (l := lCl a bb R Cl none none none none) (fun i l news => ∃ lv dv rv pv as rs os n cv m tups cs, l = lCl a bb R Cl lv dv rv pv ∧ (rs, cs) = cellRun (outI bb) (ns.take i) ∧ (Cl :: R :: as).Nodup ∧ RowsAt as rs os ∧ as.length = i ∧ sizes rs ≤ i ∧ Two (TupIn CellR tups) cv cs ∧ cv.length ≤ i ∧ (∀ p ∈ tups, ∀ c ∈ Cl :: R :: as, p.1 ≠ c) ∧ news = (R, W.listOf (as.map Value.ref).toArray n) :: os ++ ((Cl, W.listOf cv.toArray m) :: tups))
    hh F5 N5 (hl.at fun o e => F5.keep a o e) ⟨none, none, none, none, [], [], [], 0, [], 0, [], [], rfl, rfl, by simp [hRC0], .nil, rfl, Nat.le_refl _, .nil, Nat.le_refl _, (fun _ h => nomatch h), rfl⟩ (.inl ⟨oa, hoa⟩) ?_ ?_ rfl rfl
  · rintro i v l₁ news₁ s₁ own hv ⟨lv, dv, rv, pv, as, rs, os, n, cv, m, tups, cs, rfl, hrc, hnd, hrs, hal, hsz, htw, hcl, htu, rfl⟩ hsep hg hos F6 N6
    have hi : i < ns.length := by have := hI.length; have := (List.getElem?_eq_some_iff.mp hv).1; omega
    obtain ⟨t, hx⟩ := hI.get i ns[i] (List.getElem?_eq_getElem hi)
    obtain rfl : v = .int ns[i] t := by rw [hv] at hx; exact Option.some.inj hx
    have hk : ns[i]? = some ns[i] := List.getElem?_eq_getElem hi
    generalize ns[i] = k at hk hx hv F6
    clear F5 N5
    have hnd1 := (List.nodup_cons.mp hnd).2
    have hClR : ∀ c ∈ R :: as, Cl ≠ c := fun c hc e => (List.nodup_cons.mp hnd).1 (e ▸ hc)
    k_steps
    rename_i B h7 F7 N7 l6
    have hRB : R ≠ B := Nat.ne_of_lt (l6 _ (.head _))
    have hClB : Cl ≠ B := Nat.ne_of_lt (l6 (Cl, W.listOf cv.toArray m) (by simp))
    have hRos : ∀ p ∈ os, p.1 ≠ R := fun p hp e => by
      have h1 : p.1 ∈ as := by rw [← hrs.adr]; exact List.mem_map.mpr ⟨p, hp, rfl⟩
      rw [e] at h1; exact (List.nodup_cons.mp hnd1).1 h1
    refine Halt.go (appendMid (l₁ := [(B, W.listOf #[] 0)]) (l₂ := os ++ ((Cl, W.listOf cv.toArray m) :: tups) ++ own) F7 N7 (fun p hp => by rw [List.mem_singleton.mp hp]; exact hRB.symm) (fun p hp => ?_) ?_ fun h8 F8 N8 => ?_)
    · rcases List.mem_append.mp hp with hp | hp
      · rcases List.mem_append.mp hp with hp | hp
        · exact hRos p hp
        · rcases List.mem_cons.mp hp with rfl | hp
          · exact hClR R (.head _)
          · exact htu p hp R (.tail _ (.head _))
      · exact hsep p hp _ (.head _)
    · rw [List.size_toArray, List.length_map, sizeLine_eq]; omega
    have hBas : B ∉ as := fun hm => by
      rw [← hrs.adr] at hm
      obtain ⟨q, hq, e⟩ := List.mem_map.mp hm
      have := l6 q (by simp [hq])
      rw [e] at this; exact absurd this (Nat.lt_irrefl _)
    have hnd' : (Cl :: R :: (as ++ [B])).Nodup := by
      rw [List.nodup_cons]
      refine ⟨fun hm => ?_, ?_⟩
      · rcases List.mem_cons.mp hm with e | hm
        · exact hClR R (.head _) e
        · rcases List.mem_append.mp hm with hm | hm
          · exact hClR Cl (.tail _ hm) rfl
          · exact hClB (List.mem_singleton.mp hm)
      · rw [List.nodup_cons] at hnd1 ⊢
        refine ⟨fun hm => ?_, ?_⟩
        · rcases List.mem_append.mp hm with hm | hm
          · exact hnd1.1 hm
          · exact hRB (List.mem_singleton.mp hm)
        · rw [List.nodup_append]
          exact ⟨hnd1.2, by simp, fun x hx y hy e => by rw [List.mem_singleton.mp hy] at e; exact hBas (e ▸ hx)⟩
    have htu' : ∀ p ∈ tups, ∀ c ∈ Cl :: R :: (as ++ [B]), p.1 ≠ c := fun p hp c hc => by
      rcases List.mem_cons.mp hc with rfl | hc
      · exact htu p hp _ (.head _)
      · rcases List.mem_cons.mp hc with rfl | hc
        · exact htu p hp _ (.tail _ (.head _))
        · rcases List.mem_append.mp hc with hc | hc
          · exact htu p hp c (.tail _ (.tail _ hc))
          · rw [List.mem_singleton.mp hc]; exact Nat.ne_of_lt (l6 p (by simp [hp]))
    have hown' : ∀ p ∈ own, ∀ c ∈ Cl :: R :: (as ++ [B]), p.1 ≠ c := fun p hp c hc => by
      rcases List.mem_cons.mp hc with rfl | hc
      · exact hsep p hp (c, W.listOf cv.toArray m) (by simp)
      · rcases List.mem_cons.mp hc with rfl | hc
        · exact hsep p hp (c, W.listOf (List.map Value.ref as).toArray n) (by simp)
        · rcases List.mem_append.mp hc with hc | hc
          · rw [← hrs.adr] at hc
            obtain ⟨q, hq, rfl⟩ := List.mem_map.mp hc
            exact hsep p hp q (by simp [hq])
          · rw [List.mem_singleton.mp hc]; exact Nat.ne_of_lt (l6 p (by simp [hp]))
    have hrs' : RowsAt (as ++ [B]) (rs ++ [[]]) (os ++ [(B, W.listOf #[] 0)]) := hrs.append (.cons (vs := []) .nil .nil)
    rw [List.push_toArray] at N8
    have hmap : List.map Value.ref as ++ [Value.ref B] = List.map Value.ref (as ++ [B]) := by simp
    rw [hmap] at N8
    have hin : cellRun (outI bb) (ns.take (i + 1)) = (insR (outI bb) (rs ++ [[]]) k, cs ++ cellAt (outI bb) 0 (rs ++ [[]]) k) := by
      rw [take_succ_of hk]; simp only [cellRun, List.foldl_append, List.foldl_cons, List.foldl_nil]
      rw [← cellRun, ← hrc]; rfl
    have hsz2 : sizes (rs ++ [[]]) ≤ i := by
      have : sizes (rs ++ [[]]) = sizes rs := by simp [sizes]
      omega
    have hsz1 : sizes (insR (outI bb) (rs ++ [[]]) k) ≤ i + 1 := Nat.le_trans (insR_sizes _ _ _) (by omega)
    have N9 : News s.heap s.heap.objs.size h8 ((R, W.listOf (List.map Value.ref (as ++ [B])).toArray (n + 1)) :: (os ++ [(B, W.listOf #[] 0)]) ++ ((Cl, W.listOf cv.toArray m) :: (tups ++ own))) := news_sub N8 fun q hq => by
      simp only [List.cons_append, List.nil_append, List.mem_cons, List.mem_append, List.not_mem_nil, or_false] at hq ⊢
      rcases hq with h | (h | h) | h | h | h <;> simp [h]
    have hall : (as ++ [B]).length = i + 1 := by rw [List.length_append, List.length_singleton, hal]
    generalize rs ++ [[]] = rs0 at hrs' hin hsz1 hsz2
    generalize as ++ [B] = as' at *
    generalize os ++ [(B, W.listOf #[] 0)] = os' at *
    have hsepB : ∀ p ∈ (Cl, W.listOf cv.toArray m) :: (tups ++ own), ∀ c ∈ R :: as', p.1 ≠ c := fun p hp c hc => by
      rcases List.mem_cons.mp hp with rfl | hp
      · exact fun e => (List.nodup_cons.mp hnd').1 (by have e' : Cl = c := e; rw [e']; exact hc)
      · rcases List.mem_append.mp hp with hp | hp
        · exact htu' p hp c (.tail _ hc)
        · exact hown' p hp c (.tail _ hc)
    have hndR := (List.nodup_cons.mp hnd').2
    clear N8 N7 hrs hmap hnd hnd1 hClR hClB hRB hRos hBas htu hal
    dsimp only
    k_steps
    refine Halt.go (for_any ?_)
    k_steps
    have after : ∀ (s₂ : Shared) (x : Int) (tx : Tok) (dv rv pv : Option Value) (os₂ : List (Addr × Obj)) (cv₂ : List Value) (m₂ : Nat) (tups₂ : List (Addr × Obj)) (sg : Shared) (R' : Flow → Shared → Prop), RowsAt as' (insR (outI bb) rs0 k) os₂ → Two (TupIn CellR tups₂) cv₂ (cs ++ cellAt (outI bb) 0 rs0 k) → cv₂.length ≤ i + 1 → (∀ p ∈ tups₂, ∀ c ∈ Cl :: R :: as', p.1 ≠ c) → (∀ p ∈ own, ∀ q ∈ tups₂, p.1 ≠ q.1) →
        Fr s.heap s.heap.objs.size s₂.heap (mOf (lCl a bb R Cl (some (.int x tx)) dv rv pv)) → News s.heap s.heap.objs.size s₂.heap ((R, W.listOf (List.map Value.ref as').toArray (n + 1)) :: os₂ ++ ((Cl, W.listOf cv₂.toArray m₂) :: (tups₂ ++ own))) → GensGrow sg.gens s₂.gens → s₂.os = sg.os →
        TurnX s.heap s.heap.objs.size own (fun l news => ∃ lv dv rv pv as rs os n cv m tups cs, l = lCl a bb R Cl lv dv rv pv ∧ (rs, cs) = cellRun (outI bb) (ns.take (i + 1)) ∧ (Cl :: R :: as).Nodup ∧ RowsAt as rs os ∧ as.length = i + 1 ∧ sizes rs ≤ i + 1 ∧ Two (TupIn CellR tups) cv cs ∧ cv.length ≤ i + 1 ∧ (∀ p ∈ tups, ∀ c ∈ Cl :: R :: as, p.1 ≠ c) ∧ news = (R, W.listOf (as.map Value.ref).toArray n) :: os ++ ((Cl, W.listOf cv.toArray m) :: tups)) R' sg .next s₂ := by
      intro s₂ x tx dv rv pv os₂ cv₂ m₂ tups₂ sg R' h1 h2 h3 h4 h5 F' N' hg' hos'
      refine ⟨_, (R, W.listOf (as'.map Value.ref).toArray (n + 1)) :: os₂ ++ ((Cl, W.listOf cv₂.toArray m₂) :: tups₂), F', news_sub N' fun q hq => ?_, fun p hp q hq => ?_, hg', hos', _, _, _, _, as', _, os₂, n + 1, cv₂, m₂, tups₂, _, rfl, hin.symm, hnd', h1, hall, hsz1, h2, h3, h4, rfl⟩
      · simp only [List.cons_append, List.mem_cons, List.mem_append] at hq ⊢
        rcases hq with h | (h | h | h) | h <;> simp [h]
      · simp only [List.cons_append, List.mem_cons, List.mem_append] at hq
        rcases hq with rfl | hq | rfl | hq
        · exact hown' p hp R (.tail _ (.head _))
        · exact hown' p hp q.1 (.tail _ (.tail _ (by rw [← h1.adr]; exact List.mem_map.mpr ⟨q, hq, rfl⟩)))
        · exact hown' p hp Cl (.head _)
        · exact h5 p hp q hq
    rename Fr _ _ _ _ => F10
    refine Halt.go (enum_list (l := lCl a bb R Cl (some (.int k t)) dv rv pv) (fun j l news => ∃ x tx dv rv pv rs₁ os₁, l = lCl a bb R Cl (some (.int x tx)) dv rv pv ∧ RowsAt as' rs₁ os₁ ∧ rs₁.take j ++ insR (outI bb) (rs₁.drop j) x = insR (outI bb) rs0 k ∧ cellAt (outI bb) j (rs₁.drop j) x = cellAt (outI bb) 0 rs0 k ∧ sizes rs₁ ≤ i ∧ news = (R, W.listOf (List.map Value.ref as').toArray (n + 1)) :: os₁ ++ ((Cl, W.listOf cv.toArray m) :: (tups ++ own)))
      rfl hh F10 N9 (isList_of (N9 _ (.head _)).1) ⟨k, t, dv, rv, pv, rs0, os', rfl, hrs', rfl, rfl, hsz2, rfl⟩ (.inr ⟨W.listOf (List.map Value.ref as').toArray (n + 1), ?_⟩) ?_ ?_)
    · rintro j l₁ news₁ ⟨x, tx, dv, rv, pv, rs₁, os₁, _, _, _, _, _, rfl⟩
      exact .head _
    · rintro j v Te te l₁ news₁ s₂ own₂ hv hTe ⟨x, tx, dv₁, rv₁, pv₁, rs₁, os₁, rfl, hr₁, heq, hce, hs₁, rfl⟩ hsep₂ hg₂ hos₂ F11 N11
      rw [List.getElem?_map] at hv
      obtain ⟨b, hb, rfl⟩ := Option.map_eq_some_iff.mp hv
      have hj : j < rs₁.length := by have := hr₁.length; have := (List.getElem?_eq_some_iff.mp hb).1; omega
      have hrj : rs₁[j]? = some rs₁[j] := List.getElem?_eq_getElem hj
      have hdj : rs₁.drop j = rs₁[j] :: rs₁.drop (j + 1) := List.drop_eq_getElem_cons hj
      have hlen : rs₁[j].length ≤ 1000 := by have := length_le_sizes (List.getElem_mem hj); omega
      generalize rs₁[j] = r at hrj hdj hlen
      rw [hdj] at heq hce
      obtain ⟨o₁, vr, nr, o₂, rfl, hir, ho1, ho2, hupd⟩ := hr₁.split hb hrj
      have hmem : (b, W.listOf vr.toArray nr) ∈ (R, W.listOf (List.map Value.ref as').toArray (n + 1)) :: (o₁ ++ (b, W.listOf vr.toArray nr) :: o₂) ++ ((Cl, W.listOf cv.toArray m) :: (tups ++ own)) ++ own₂ := by simp
      refine assignLL hh F11 N11 hTe (fun h12 F12 N12 => ?_) rfl rfl rfl rfl
      clear F11 N11
      k_steps
      refine Halt.go (wp_keep (P := fun v => ∃ u, v = .int (halved (fun i => outI bb x (r.getD i 0)) r.length) u) ?_ fun v s₃ hv K₃ => ?_)
      · have hl₂ : IntList h12 b r := ⟨vr, isList_of (N12 _ hmem).1, hir⟩
        cases bb
        · refine IfExp_ ?_
          k_steps
          refine Halt.go (bisR_call (X.keeps F12.keep) (T.keeps F12.keep) hh (by show A.depth + 1 < recursionLimit; omega) (by show A.units + 3 + 100 < cLine; omega) hl₂ hlen fun u s₃ K₃ => ?_)
          exact ⟨⟨u, rfl⟩, ⟨K₃.heap, K₃.os, K₃.gens⟩⟩
        · refine IfExp_ ?_
          k_steps
          refine Halt.go (bisL_call (X.keeps F12.keep) (T.keeps F12.keep) hh (by show A.depth + 1 < recursionLimit; omega) (by show A.units + 3 + 100 < cLine; omega) hl₂ hlen fun u s₃ K₃ => ?_)
          exact ⟨⟨u, rfl⟩, ⟨K₃.heap, K₃.os, K₃.gens⟩⟩
      obtain ⟨u, rfl⟩ := hv
      have F13 := K₃.fr F12
      have N13 := K₃.news N12
      clear F12 N12
      k_steps
      rename Fr _ _ _ _ => F14
      rename News _ _ _ _ => N14
      have hl₄ := (⟨vr, isList_of (N14 _ hmem).1, hir⟩ : IntList _ b r)
      refine lenI hl₄ hlen ?_
      have hbas : b ∈ as' := List.mem_of_getElem? hb
      have hbR : R ≠ b := fun e => (List.nodup_cons.mp hndR).1 (e ▸ hbas)
      have hClb : Cl ≠ b := fun e => (List.nodup_cons.mp hnd').1 (e ▸ List.mem_cons_of_mem _ hbas)
      have hClR : Cl ≠ R := fun e => (List.nodup_cons.mp hnd').1 (e ▸ List.mem_cons_self ..)
      obtain ⟨nt1, nt2⟩ := notin_of_nodup (List.nodup_cons.mp hndR).2 hb
      have m1 : ∀ p ∈ (R, W.listOf (List.map Value.ref as').toArray (n + 1)) :: o₁, p.1 ≠ b := fun p hp => by
        rcases List.mem_cons.mp hp with rfl | hp
        · exact hbR
        · exact fun e => nt1 (by rw [← ho1, ← e]; exact List.mem_map.mpr ⟨p, hp, rfl⟩)
      have m2 : ∀ p ∈ o₂ ++ ((Cl, W.listOf cv.toArray m) :: (tups ++ own)) ++ own₂, p.1 ≠ b := fun p hp => by
        rcases List.mem_append.mp hp with hp | hp
        · rcases List.mem_append.mp hp with hp | hp
          · exact fun e => nt2 (by rw [← ho2, ← e]; exact List.mem_map.mpr ⟨p, hp, rfl⟩)
          · exact hsepB p hp b (.tail _ hbas)
        · exact hsep₂ p hp (b, W.listOf vr.toArray nr) (by simp)
      have hlk : ∀ (vs' : List Value) (n' : Nat), (R, W.listOf (List.map Value.ref as').toArray (n + 1)) :: (o₁ ++ (b, W.listOf vs'.toArray n') :: o₂) ++ ((Cl, W.listOf cv.toArray m) :: (tups ++ own)) ++ own₂ = ((R, W.listOf (List.map Value.ref as').toArray (n + 1)) :: o₁) ++ (b, W.listOf vs'.toArray n') :: (o₂ ++ ((Cl, W.listOf cv.toArray m) :: (tups ++ own)) ++ own₂) := fun vs' n' => by simp
      have hvl : vr.toArray.size ≤ sizeLine := by rw [List.size_toArray, hir.length, sizeLine_eq]; omega
      rw [hlk] at N14
      k_steps
      · rename _ = _ => hw
        refine Halt.go (appendMid F14 N14 m1 m2 hvl fun h15 F15 N15 => ?_)
        rw [List.push_toArray, ← hlk] at N15
        have hw' : halved (fun i => outI bb x (r.getD i 0)) r.length = r.length := by
          have : ((halved (fun i => outI bb x (r.getD i 0)) r.length : Nat) : Int) = (r.length : Int) := hw
          exact Int.ofNat_inj.mp this
        rw [insR_full hw'] at heq
        rw [cellAt_full hw'] at hce
        have h16 := hupd (vr ++ [Value.int x tx]) (r ++ [x]) (nr + 1) (ints_snoc hir x tx)
        rw [heq] at h16
        generalize (o₁ ++ (b, W.listOf (vr ++ [Value.int x tx]).toArray (nr + 1)) :: o₂) = os₂ at h16 N15
        have N15' : News s.heap s.heap.objs.size h15 ((Cl, W.listOf cv.toArray m) :: ((R, W.listOf (List.map Value.ref as').toArray (n + 1)) :: os₂ ++ (tups ++ own) ++ own₂)) := news_sub N15 fun q hq => by
          simp only [List.cons_append, List.mem_cons, List.mem_append] at hq ⊢
          rcases hq with h | h | (h | h | h) | h <;> simp [h]
        clear N14 F14 N15 hl₄
        k_steps
        rename_i Tn h17 F17 N17 l17
        have mt : ∀ p ∈ (R, W.listOf (List.map Value.ref as').toArray (n + 1)) :: os₂ ++ (tups ++ own) ++ own₂, p.1 ≠ Cl := fun p hp => by
          simp only [List.cons_append, List.mem_cons, List.mem_append] at hp
          rcases hp with rfl | (hp | hp | hp) | hp
          · exact hClR.symm
          · exact fun e => (List.nodup_cons.mp hnd').1 (by rw [← e]; exact .tail _ (by rw [← h16.adr]; exact List.mem_map.mpr ⟨p, hp, rfl⟩))
          · exact htu' p hp Cl (.head _)
          · exact hown' p hp Cl (.head _)
          · exact hsep₂ p hp (Cl, W.listOf cv.toArray m) (by simp)
        have l18 : ∀ p ∈ (Cl, W.listOf cv.toArray m) :: ((R, W.listOf (List.map Value.ref as').toArray (n + 1)) :: os₂ ++ (tups ++ own) ++ own₂), p.1 < Tn := allLt_at l17
        refine Halt.go (appendMid (l₁ := [(Tn, _)]) F17 N17 (fun p hp => by rw [List.mem_singleton.mp hp]; exact Nat.ne_of_gt l17.1) mt (by rw [List.size_toArray, sizeLine_eq]; omega) fun h19 F19 N19 => ?_)
        rw [List.push_toArray] at N19
        dsimp only [TurnX]
        k_steps
        refine after _ x tx (some (.int (j : Nat) te)) (some (.ref b)) (some (.int (halved (fun i => outI bb x (r.getD i 0)) r.length) u)) os₂ (cv ++ [Value.ref Tn]) (m + 1) ((Tn, tup2 (.int (j : Nat) te) (.int (halved (fun i => outI bb x (r.getD i 0)) r.length) u) 0) :: tups) _ _ h16 ?_ ?_ ?_ ?_ ?_ ?_ ?_ ?_
        · rw [← hce]
          exact (htw.mono fun v u e => e.more fun p hp => .tail _ hp).snoc ⟨Tn, _, _, 0, rfl, .head _, te, u, rfl, by rw [hw']⟩
        · rw [List.length_append, List.length_singleton]; omega
        · intro p hp c hc
          rcases List.mem_cons.mp hp with rfl | hp
          · rcases List.mem_cons.mp hc with rfl | hc
            · exact Nat.ne_of_gt l17.1
            · rcases List.mem_cons.mp hc with rfl | hc
              · exact Nat.ne_of_gt (l18 (c, W.listOf (List.map Value.ref as').toArray (n + 1)) (by simp))
              · rw [← h16.adr] at hc
                obtain ⟨q, hq, rfl⟩ := List.mem_map.mp hc
                exact Nat.ne_of_gt (l18 q (by simp [hq]))
          · exact htu' p hp c hc
        · intro p hp q hq
          rcases List.mem_cons.mp hq with rfl | hq
          · exact Nat.ne_of_lt (l18 p (by simp [hp]))
          · exact hsep p hp q (by simp [hq])
        · exact F19
        · refine news_sub N19 fun q hq => ?_
          simp only [List.cons_append, List.nil_append, List.mem_cons, List.mem_append] at hq ⊢
          rcases hq with h | h | h | h | h | h <;> simp [h]
        · exact hg.trans (hg₂.trans K₃.gens)
        · exact K₃.os.trans (hos₂.trans hos)
      · rename _ ≠ _ => hw
        have hw' : ¬ halved (fun i => outI bb x (r.getD i 0)) r.length = r.length := fun e => hw (by exact congrArg Int.ofNat e)
        have hlt : halved (fun i => outI bb x (r.getD i 0)) r.length < r.length := by
          have := (halve_le (fun i => outI bb x (r.getD i 0)) r.length 0 r.length (Nat.zero_le _)).1
          exact Nat.lt_of_le_of_ne this hw'
        refine Halt.go (itemI (k := halved (fun i => outI bb x (r.getD i 0)) r.length) (⟨vr, isList_of (N14 _ (List.mem_append_right _ (.head _))).1, hir⟩ : IntList _ b r) hlt hlen rfl fun t' => ?_)
        rw [insR_push hw'] at heq
        rw [cellAt_push hw'] at hce
        k_steps
        rename Fr _ _ _ _ => F15
        rename News _ _ _ _ => N15
        refine Halt.go (assignPair hh F15 N15 ⟨_, (N15 _ (.head _)).1, rfl, _, rfl⟩ rfl fun h16 F16 N16 _ => ?_)
        have N17 := news_sub N16 fun q hq => List.mem_cons_of_mem _ hq
        clear N16 N15 F15
        k_steps
        rename Fr _ _ _ _ => F18
        rename News _ _ _ _ => N18
        refine Halt.go (setMid F18 N18 m1 m2 rfl (by rw [List.size_toArray, hir.length]; exact hlt) (by rw [List.size_toArray, hir.length]; omega) fun h19 F19 N19 => ?_)
        k_steps
        rw [List.setIfInBounds_toArray, ← hlk] at N19
        have hjl : (rs₁.take j).length = j := by rw [List.length_take]; omega
        refine ⟨lCl a bb R Cl (some (.int _ t')) _ _ _, _, F19, N19, fun p hp q hq => ?_, ?_, ?_, _, t', _, _, _, _, _, rfl, hupd _ _ nr (ints_set hir _ x tx), ?_, ?_, ?_, rfl⟩
        · have hq' : q ∈ (R, W.listOf (List.map Value.ref as').toArray (n + 1)) :: (o₁ ++ (b, W.listOf vr.toArray nr) :: o₂) ++ ((Cl, W.listOf cv.toArray m) :: (tups ++ own)) ∨ q.1 = b := by
            simp only [List.cons_append, List.mem_cons, List.mem_append] at hq ⊢
            rcases hq with h | (h | h | h) | h | h | h
            · exact .inl (.inl h)
            · exact .inl (.inr (.inl (.inl h)))
            · exact .inr (by rw [h])
            · exact .inl (.inr (.inl (.inr (.inr h))))
            · exact .inl (.inr (.inr (.inl h)))
            · exact .inl (.inr (.inr (.inr (.inl h))))
            · exact .inl (.inr (.inr (.inr (.inr h))))
          rcases hq' with hq' | hq'
          · exact hsep₂ p hp q hq'
          · rw [hq']; exact hsep₂ p hp (b, W.listOf vr.toArray nr) (by simp)
        · exact hg₂.trans K₃.gens
        · exact K₃.os.trans hos₂
        · rw [take_mid hjl, drop_mid hjl, ← heq]; simp
        · rw [drop_mid hjl]; exact hce
        · rw [sizes_mid hrj (by rw [List.length_set])]; exact hs₁
    · rintro l₁ news₁ s₂ ⟨x, tx, dv₁, rv₁, pv₁, rs₁, os₁, rfl, hr₁, heq, hce, hs₁, rfl⟩ hg₂ hos₂ F11 N11
      rw [List.length_map, hr₁.length, List.take_length, List.drop_length] at heq
      rw [List.length_map, hr₁.length, List.drop_length] at hce
      simp only [insR, List.append_nil] at heq
      simp only [cellAt] at hce
      subst heq
      dsimp only
      k_steps
      refine after _ x tx dv₁ rv₁ pv₁ _ cv m tups _ _ hr₁ ?_ ?_ htu' ?_ ?_ ?_ ?_ ?_
      · rw [← hce, List.append_nil]; exact htw
      · omega
      · exact fun p hp q hq => hsep p hp q (by simp [hq])
      · exact F11
      · exact N11
      · exact hg.trans hg₂
      · exact hos₂.trans hos
  · rintro l₁ news₁ s₁ ⟨lv, dv, rv, pv, as, rs, os, n, cv, m, tups, cs, rfl, hrc, hnd, hrs, hal, hsz, htw, hcl, htu, rfl⟩ hg hos F6 N6
    have hln : vs.length = ns.length := hI.length
    rw [hln, List.take_length] at hrc
    dsimp only
    k_steps
    refine hQ Cl _ cv m tups ⟨F6.keep, hos, hg⟩ (fun p hp => ?_) ?_
    · have := N6 p (List.mem_append_right _ hp)
      exact ⟨this.1, this.2.2⟩
    · rw [cellsOf, ← hrc]; exact htw
end
end Mine
end
section
open PySem PySem.W PySem.W.X PyProof.Rows
set_option Elab.async false
set_option maxRecDepth 100000
set_option maxHeartbeats 2000000
namespace Mine
open PySem

abbrev Front := List Nat × Int
def frontNext (low : Int) (f : Front) (l : Int) (sg : List Nat) : Front := if l = low then (f.1 ++ [40], f.2 + 1) else if l = low + 1 then (f.1 ++ [41], f.2 - 1) else (f.1 ++ sg, f.2)
def lastF (fs : List Front) : Front := fs.getLastD ([], 0)
def frontsUp (low : Int) (ws : List Int) (ss : List (List Nat)) : Nat → List Front
  | 0 => [([], 0)]
  | i + 1 => frontsUp low ws ss i ++ [frontNext low (lastF (frontsUp low ws ss i)) (ws.getD i 0) (ss.getD i [])]
theorem frontsUp_length (low : Int) (ws : List Int) (ss : List (List Nat)) : ∀ i, (frontsUp low ws ss i).length = i + 1
  | 0 => rfl
  | i + 1 => by rw [frontsUp, List.length_append, frontsUp_length low ws ss i]; rfl
theorem lastF_mem (low : Int) (ws : List Int) (ss : List (List Nat)) (i : Nat) : (frontsUp low ws ss i)[i]? = some (lastF (frontsUp low ws ss i)) := by
  have h := frontsUp_length low ws ss i
  have hne : frontsUp low ws ss i ≠ [] := fun e => by rw [e] at h; simp at h
  rw [lastF, List.getLastD_eq_getLast?, List.getLast?_eq_getElem?, h]
  simp [show i < (frontsUp low ws ss i).length by omega]
theorem frontsUp_small {low : Int} {ws : List Int} {ss : List (List Nat)} (hs : ∀ c ∈ ss, c.length ≤ 10) : ∀ i, ∀ f ∈ frontsUp low ws ss i, f.1.length ≤ i * 10 ∧ -(i : Int) ≤ f.2 ∧ f.2 ≤ i
  | 0, f, hf => by rw [List.mem_singleton.mp hf]; simp
  | i + 1, f, hf => by
    have ih := frontsUp_small (low := low) (ws := ws) hs i
    rcases List.mem_append.mp hf with hf | hf
    · have := ih f hf; omega
    · rw [List.mem_singleton.mp hf]
      have hl := ih _ (List.mem_of_getElem? (lastF_mem low ws ss i))
      have hsg : (ss.getD i []).length ≤ 10 := by
        by_cases h : i < ss.length
        · simp only [List.getD_eq_getElem?_getD, List.getElem?_eq_getElem h, Option.getD_some]
          exact hs _ (List.getElem_mem h)
        · simp [List.getD_eq_getElem?_getD, List.getElem?_eq_none (Nat.le_of_not_lt h)]
      unfold frontNext
      split
      · simp only [List.length_append, List.length_singleton]; push_cast; omega
      · split
        · simp only [List.length_append, List.length_singleton]; push_cast; omega
        · simp only [List.length_append]; push_cast; omega
theorem addS2 {prog : Program} {w : World} {A : Around} {E : Value → Shared → Prop} {s : Shared} {x y : Str} {a b : List Nat} {t u : Tok} {Q : Value → Shared → Prop} (hx : x = ⟨a.toArray⟩) (hy : y = ⟨b.toArray⟩) (h1 : a.length + b.length ≤ 1000000)
    (h : ∀ t' k, Q (.str ⟨(a ++ b).toArray⟩ t') { s with toks := k }) : wpAny (model prog w) A (binaryOp .Add (.str x t) (.str y u)) Q E s := by
  subst hx hy; exact addS h1 h
/-- a tuple of a text and an int -/
def FrontR (x y : Value) (u : Front) : Prop := ∃ t1 t2, x = .str ⟨u.1.toArray⟩ t1 ∧ y = .int u.2 t2
abbrev lFr (a b : Addr) (low : Int) (tl : Tok) (Fn : Addr) (lv sv tv hv : Option Value) : List (Str × Option Value) := [("low", some (.int low tl)), ("signs", some (.ref b)), ("word", some (.ref a)), ("fronts", some (.ref Fn)), ("letter", lv), ("sign", sv), ("text", tv), ("height", hv)]
section
theorem reset_Fronts01 : True := by
  w_top off
  trivial
local macro_rules | `(tactic| walk_at "storeName") => `(tactic| (k_here; k_dflt (refine' stL ?k1 ?k2 ?_; (case k1 => assumption); (case k2 => assumption); k_whole); intro h' F' N'; (try dsimp only)))
local macro_rules | `(tactic| walk_at "exec For") => `(tactic| (refine Halt.mk ?_))
local macro_rules | `(tactic| walk_at "exec For Tuple Call cons nil") => `(tactic| (refine Halt.mk ?_))
local macro_rules | `(tactic| walk_at "call builtin:list.append") => `(tactic| (refine Halt.mk ?_))
local macro_rules | `(tactic| walk_at "assign Tuple") => `(tactic| (refine Halt.mk ?_))
local macro_rules | `(tactic| walk_at "call type:zip") => `(tactic| (refine Halt.mk ?_))
local macro_rules | `(tactic| walk_at "binaryOp Add str str") => `(tactic| (refine Halt.mk ?_))
local macro_rules | `(tactic| walk_at "subscriptTail Name UnaryOp ref int") => `(tactic| (refine Halt.mk ?_))

theorem fronts_call {w : World} {p : Program} {loose : List Str} {mean : ExcName → Option Value} {mg mb : Str → Option Value} {A : Around} {s : Shared} {a b : Addr} {ws : List Int} {ss : List (List Nat)} {low : Int} {tl : Tok}
    {Q E : Value → Shared → Prop} (X : (hd.heap_39 w.params).In s.heap) (T : Top p loose mean mg mb s.heap) (hh : A.handled = none) (hroom : A.depth + 2 < recursionLimit) (hu : A.units + 200 < cLine) (hl : IntList s.heap a ws) (hl2 : TextList s.heap b ss) (hn : ws.length ≤ 20) (hn2 : ss.length = ws.length) (hs : ∀ c ∈ ss, c.length ≤ 10)
    (hQ : ∀ c s' vs n tups, Keep s s' → (∀ p ∈ (c, W.listOf (vs : List Value).toArray n) :: tups, s'.heap.get? p.1 = some p.2 ∧ s.heap.get? p.1 = none) → Two (TupIn FrontR tups) vs (frontsUp low ws ss ws.length) → Q (.ref c) s') :
    wpAny (model PySem.Challenge.rw_pg0117_01.row.prog w) A (call (.ref 67) [.ref a, .ref b, .int low tl]) Q E s := by
  revert X
  k_fill
  intro X
  obtain ⟨vs, hl, hI⟩ := hl
  obtain ⟨zs, hl2, hT⟩ := hl2
  refine enter (binds := [("word", .ref a), ("signs", .ref b), ("low", .int low tl)]) (X _ _ (by k_is)) (codeRec_of X (by k_is)) T.nolimit (by omega) (BindsTo.of_eq rfl) (locs rfl) rfl rfl rfl (by decide) fun h₁ F N => ?_
  k_steps
  refine Halt.go (for_any ?_)
  k_steps
  rename_i t0 D0 _ _ Fn _ _ _ lD _ F3 N3
  have hDF : D0 ≠ Fn := Nat.ne_of_lt lD
  have F4 : Fr s.heap s.heap.objs.size _ (mOf (lFr a b low tl Fn none none none none)) := frTo F3 (((mOf_none "height" _).trans ((mOf_none "text" _).trans ((mOf_none "sign" _).trans (mOf_none "letter" _))))).symm
  obtain ⟨oa, hoa, _⟩ := id hl
  obtain ⟨ob, hob, _⟩ := id hl2
  have hvn : vs.length = ws.length := hI.length
  have hzn : zs.length = ss.length := hT.length
  refine Halt.go (zip_list (l := lFr a b low tl Fn none none none none) (fun i l news => ∃ lv sv tv hv vals n tups, l = lFr a b low tl Fn lv sv tv hv ∧ Two (TupIn FrontR tups) vals (frontsUp low ws ss i) ∧ (∀ p ∈ tups, p.1 ≠ Fn) ∧ news = (Fn, W.listOf vals.toArray n) :: tups)
    rfl hh F4 N3 (hl.at fun o e => F3.keep a o e) (hl2.at fun o e => F3.keep b o e) ⟨none, none, none, none, [_], 0, [(D0, tup2 _ _ 0)], rfl, .cons ⟨D0, _, _, 0, rfl, .head _, t0, _, congrArg (Value.str · t0) (by decide), rfl⟩ .nil, (fun p hp => by rw [List.mem_singleton.mp hp]; exact hDF), rfl⟩ (.inl ⟨oa, hoa⟩) (.inl ⟨ob, hob⟩) ?_ ?_)
  · rintro i x y T₁ l₁ news₁ s₁ own hx hy hT₁ ⟨lv, sv, tv, hv, vals, n, tups, rfl, htw, htu, rfl⟩ hsep hg hos F5 N5
    have hi : i < ws.length := by have := (List.getElem?_eq_some_iff.mp hx).1; omega
    obtain ⟨t, hx'⟩ := hI.get i (ws.getD i 0) (by simp [List.getD, hi])
    obtain rfl : x = .int (ws.getD i 0) t := by rw [hx] at hx'; exact Option.some.inj hx'
    obtain ⟨u, hy'⟩ := hT.get (k := i) (by omega)
    obtain rfl : y = .str ⟨(ss.getD i []).toArray⟩ u := by rw [hy] at hy'; exact Option.some.inj hy'
    have hup : frontsUp low ws ss (i + 1) = frontsUp low ws ss i ++ [frontNext low (lastF (frontsUp low ws ss i)) (ws.getD i 0) (ss.getD i [])] := rfl
    have hsg : (ss.getD i []).length ≤ 10 := by
      have h9 : i < ss.length := by omega
      simp only [List.getD_eq_getElem?_getD, List.getElem?_eq_getElem h9, Option.getD_some]
      exact hs _ (List.getElem_mem h9)
    have hlast := lastF_mem low ws ss i
    have hfl := frontsUp_length low ws ss i
    have hsm := frontsUp_small (low := low) (ws := ws) hs i _ (List.mem_of_getElem? hlast)
    obtain ⟨vL, hvL, TL, xL, yL, mL, rfl, hmL, t1, t2, rfl, rfl⟩ := htw.get hlast
    have hvl : vals.length = i + 1 := by rw [htw.length, hfl]
    generalize lastF (frontsUp low ws ss i) = f at *
    generalize ws.getD i 0 = lt at *
    generalize ss.getD i [] = sg at *
    clear F3 N3 F4 hx' hy' hx hy
    refine assignLL hh F5 N5 hT₁ (fun h6 F6 N6 => ?_) rfl rfl rfl rfl
    clear F5 N5
    k_steps
    refine Halt.go (itemNeg (isList_of (N6 _ (.head _)).1) (by decide) (by omega) (by decide) (by rw [hvl, show ((-1 : Int) + ((i + 1 : Nat) : Int)).toNat = i by omega]; exact hvL) ?_)
    k_steps
    refine Halt.go (assignLL hh F6 N6 ⟨_, (N6 _ (List.mem_append_left _ (List.mem_cons_of_mem _ hmL))).1, rfl, _, rfl⟩ (fun h7 F7 N7 => ?_) rfl rfl rfl rfl)
    clear F6
    simp only [List.cons_append] at N7
    have m2 : ∀ p ∈ tups ++ own, p.1 ≠ Fn := fun p hp => by
      rcases List.mem_append.mp hp with hp | hp
      · exact htu p hp
      · exact hsep p hp _ (.head _)
    have fin : ∀ (s₂ : Shared) (Tn : Addr) (g : Front) (xs : Str) (t1 t2 : Tok) (lv' sv' tv' hv' : Option Value) (n' m' : Nat) (R' : Flow → Shared → Prop) (sg' : Shared), g = frontNext low f lt sg → xs = ⟨g.1.toArray⟩ → Fr s.heap s.heap.objs.size s₂.heap (mOf (lFr a b low tl Fn lv' sv' tv' hv')) →
        News s.heap s.heap.objs.size s₂.heap ((Tn, tup2 (.str xs t1) (.int g.2 t2) m') :: (Fn, W.listOf (vals ++ [Value.ref Tn]).toArray n') :: (tups ++ own)) → (∀ p ∈ (Fn, W.listOf vals.toArray n) :: (tups ++ own), p.1 < Tn) → GensGrow sg'.gens s₂.gens → s₂.os = sg'.os →
        TurnX s.heap s.heap.objs.size own (fun l news => ∃ lv sv tv hv vals n tups, l = lFr a b low tl Fn lv sv tv hv ∧ Two (TupIn FrontR tups) vals (frontsUp low ws ss (i + 1)) ∧ (∀ p ∈ tups, p.1 ≠ Fn) ∧ news = (Fn, W.listOf vals.toArray n) :: tups) R' sg' .next s₂ := by
      rintro s₂ Tn g xs t1 t2 lv' sv' tv' hv' n' m' R' sg' hg9 rfl F' N' hT hg' hos'
      refine ⟨_, (Fn, W.listOf (vals ++ [Value.ref Tn]).toArray n') :: (Tn, tup2 (.str ⟨g.1.toArray⟩ t1) (.int g.2 t2) m') :: tups, F', news_sub N' fun q hq => ?_, fun p hp q hq => ?_, hg', hos', lv', sv', tv', hv', _, n', _, rfl, ?_, ?_, rfl⟩
      · simp only [List.cons_append, List.mem_cons, List.mem_append] at hq ⊢
        rcases hq with h | h | h | h <;> simp [h]
      · rcases List.mem_cons.mp hq with rfl | hq
        · exact hsep p hp (Fn, W.listOf vals.toArray n) (.head _)
        · rcases List.mem_cons.mp hq with rfl | hq
          · exact Nat.ne_of_lt (hT p (by simp [hp]))
          · exact hsep p hp q (.tail _ hq)
      · rw [hup, ← hg9]
        exact (htw.mono fun v u e => e.more fun p hp => .tail _ hp).snoc ⟨Tn, _, _, m', rfl, .head _, t1, t2, rfl, rfl⟩
      · intro p hp
        rcases List.mem_cons.mp hp with rfl | hp
        · exact Nat.ne_of_gt (hT _ (.head _))
        · exact htu p hp
    k_steps
    · rename lt = low => hlow
      refine Halt.go (addS2 (a := f.1) (b := [40]) rfl (by decide) (by simp only [List.length_singleton]; omega) fun t' k' => ?_)
      k_steps
      rename_i Tn h8 F8 N8 l8
      have l9 : ∀ p ∈ (Fn, W.listOf vals.toArray n) :: (tups ++ own), p.1 < Tn := allLt_at l8
      refine Halt.go (appendMid (l₁ := [(Tn, _)]) F8 N8 (fun p hp => by rw [List.mem_singleton.mp hp]; exact Nat.ne_of_gt l8.1) m2 (by rw [List.size_toArray, sizeLine_eq]; omega) fun h9 F9 N9 => ?_)
      rw [List.push_toArray] at N9
      k_steps
      exact fin _ Tn (f.1 ++ [40], f.2 + 1) _ _ _ _ _ _ _ _ _ _ _ (by rw [frontNext, if_pos hlow]) rfl F9 N9 l9 hg hos
    · rename lt ≠ low => hlow
      rename lt = low + 1 => hlow1
      refine Halt.go (addS2 (a := f.1) (b := [41]) rfl (by decide) (by simp only [List.length_singleton]; omega) fun t' k' => ?_)
      k_steps
      rename_i Tn h8 F8 N8 l8
      have l9 : ∀ p ∈ (Fn, W.listOf vals.toArray n) :: (tups ++ own), p.1 < Tn := allLt_at l8
      refine Halt.go (appendMid (l₁ := [(Tn, _)]) F8 N8 (fun p hp => by rw [List.mem_singleton.mp hp]; exact Nat.ne_of_gt l8.1) m2 (by rw [List.size_toArray, sizeLine_eq]; omega) fun h9 F9 N9 => ?_)
      rw [List.push_toArray] at N9
      k_steps
      exact fin _ Tn (f.1 ++ [41], f.2 - 1) _ _ _ _ _ _ _ _ _ _ _ (by rw [frontNext, if_neg hlow, if_pos hlow1]) rfl F9 N9 l9 hg hos
    · rename lt ≠ low => hlow
      rename lt ≠ low + 1 => hlow1
      refine Halt.go (addS2 (a := f.1) (b := sg) rfl rfl (by omega) fun t' k' => ?_)
      k_steps
      rename_i Tn h8 F8 N8 l8
      have l9 : ∀ p ∈ (Fn, W.listOf vals.toArray n) :: (tups ++ own), p.1 < Tn := allLt_at l8
      refine Halt.go (appendMid (l₁ := [(Tn, _)]) F8 N8 (fun p hp => by rw [List.mem_singleton.mp hp]; exact Nat.ne_of_gt l8.1) m2 (by rw [List.size_toArray, sizeLine_eq]; omega) fun h9 F9 N9 => ?_)
      rw [List.push_toArray] at N9
      k_steps
      exact fin _ Tn (f.1 ++ sg, f.2) _ _ _ _ _ _ _ _ _ _ _ (by rw [frontNext, if_neg hlow, if_neg hlow1]) rfl F9 N9 l9 hg hos
  · rintro l₁ news₁ s₁ ⟨lv, sv, tv, hv, vals, n, tups, rfl, htw, htu, rfl⟩ hg hos F5 N5
    rw [show min vs.length zs.length = ws.length by omega] at htw
    clear F3 N3 F4
    dsimp only
    k_steps
    exact hQ Fn _ vals n tups ⟨F5.keep, hos, hg⟩ (fun p hp => ⟨(N5 p hp).1, (N5 p hp).2.2⟩) htw
end
end Mine
end
section
open PySem PySem.W PySem.W.X PyProof.Rows
set_option Elab.async false
set_option maxRecDepth 100000
set_option maxHeartbeats 4000000
namespace Mine
open PySem

def lackText (f : Front) (lack : Nat) : List Nat := (List.replicate lack 40 ++ f.1) ++ List.replicate ((lack : Int) + f.2).toNat 41
def keyR (f : Front) (lack : Nat) : Bool := checkP ⟨(lackText f lack).toArray⟩ == false
def foundR (fs : List Front) (lack : Nat) : Nat := halved (fun i => keyR (fs.getD i ([], 0)) lack) fs.length
def lowered (ws : List Int) (k : Nat) : List Int := ws.set (k - 1) (ws.getD (k - 1) 0 - 1)
def raiseUp (fs : List Front) (ws : List Int) : Nat → List Int × Bool
  | 0 => (ws, false)
  | k + 1 => if (raiseUp fs ws k).2 then raiseUp fs ws k else if foundR fs k > ws.length then ((raiseUp fs ws k).1, true) else (lowered (raiseUp fs ws k).1 (foundR fs k), false)
def passR (low : Int) (ss : List (List Nat)) (ws : List Int) : List Int := (raiseUp (frontsUp low ws ss ws.length) ws ws.length).1
def raisedUp (order : List Int) (ss : List (List Nat)) (ws : List Int) : Nat → List Int
  | 0 => ws
  | i + 1 => passR (order.getD i 0) ss (raisedUp order ss ws i)
theorem lowered_length (ws : List Int) (k : Nat) : (lowered ws k).length = ws.length := by rw [lowered, List.length_set]
theorem raiseUp_length (fs : List Front) (ws : List Int) : ∀ k, (raiseUp fs ws k).1.length = ws.length
  | 0 => rfl
  | k + 1 => by
    have ih := raiseUp_length fs ws k
    rw [raiseUp]
    split
    · exact ih
    · split
      · exact ih
      · show (lowered _ _).length = _
        rw [lowered_length, ih]
theorem passR_length (low : Int) (ss : List (List Nat)) (ws : List Int) : (passR low ss ws).length = ws.length := raiseUp_length _ _ _
theorem raisedUp_length (order : List Int) (ss : List (List Nat)) (ws : List Int) : ∀ k, (raisedUp order ss ws k).length = ws.length
  | 0 => rfl
  | k + 1 => by rw [raisedUp, passR_length, raisedUp_length order ss ws k]
theorem raiseUp_stop {fs : List Front} {ws : List Int} {k : Nat} (h : (raiseUp fs ws k).2 = true) : ∀ j, raiseUp fs ws (k + j) = raiseUp fs ws k
  | 0 => rfl
  | j + 1 => by
    have ih := raiseUp_stop h j
    rw [← Nat.add_assoc, raiseUp, ih, if_pos h]
theorem chkC_open : ∀ (n : Nat) (r : List Nat) (o : Int), chkC (List.replicate n 40 ++ r) o = chkC r (o + n)
  | 0, r, o => by simp
  | n + 1, r, o => by
    rw [List.replicate_succ, List.cons_append, chkC, if_pos rfl, chkC_open n r (o + 1)]
    congr 1; push_cast; omega
theorem chkC_close : ∀ n : Nat, chkC (List.replicate n 41) n = true
  | 0 => by simp [chkC]
  | n + 1 => by
    rw [List.replicate_succ, chkC, if_neg (by decide), if_pos rfl, if_neg (by push_cast; omega)]
    have : (((n + 1 : Nat) : Int) - 1) = (n : Int) := by push_cast; omega
    rw [this]; exact chkC_close n
theorem rep_flatR (c n : Nat) : (List.replicate n [c]).flatten = List.replicate n c := by
  induction n with
  | zero => rfl
  | succ n ih => rw [List.replicate_succ, List.flatten_cons, ih]; rfl
theorem keyR_zero (lack : Nat) : keyR ([], 0) lack = false := by
  have h := checkP_pieces (List.replicate lack [40] ++ List.replicate lack [41]) fun p hp => by
    rcases List.mem_append.mp hp with hp | hp
    · rw [List.eq_of_mem_replicate hp]; exact .op
    · rw [List.eq_of_mem_replicate hp]; exact .cl
  rw [List.flatten_append, rep_flatR, rep_flatR, List.flatMap_append, List.flatMap_def, List.flatMap_def, List.map_replicate, List.map_replicate, show par [40] = [40] from by decide, show par [41] = [41] from by decide, rep_flatR, rep_flatR, chkC_open] at h
  have h2 : chkC (List.replicate lack 41) (0 + (lack : Int)) = true := by rw [Int.zero_add]; exact chkC_close lack
  rw [h2] at h
  have e : lackText ([], 0) lack = List.replicate lack 40 ++ List.replicate lack 41 := by
    rw [lackText, List.append_nil]; simp
  rw [keyR, e, h]; rfl
theorem halve_pos {p : Nat → Bool} (h0 : p 0 = false) : ∀ (f lo hi : Nat), hi - lo ≤ f → 0 < hi → (lo < hi ∨ 0 < lo) → 0 < halve p f lo hi
  | 0, lo, hi, h1, _, h3 => by
    rw [halve_done _ _ _ _ (by omega)]; omega
  | f + 1, lo, hi, h1, h2, h3 => by
    by_cases h : lo < hi
    · simp only [halve, if_pos h]
      split
      · rename_i hp
        have hm : (lo + hi) / 2 ≠ 0 := fun e => by rw [e, h0] at hp; cases hp
        exact halve_pos h0 f lo _ (by omega) (by omega) (by omega)
      · exact halve_pos h0 f _ hi (by omega) h2 (.inr (by omega))
    · rw [halve_done _ _ _ _ h]; omega
theorem foundR_pos {fs : List Front} (h : fs[0]? = some ([], 0)) (lack : Nat) : 1 ≤ foundR fs lack := by
  have hl : 0 < fs.length := by have := (List.getElem?_eq_some_iff.mp h).1; omega
  refine halve_pos ?_ _ _ _ (Nat.le_refl _) hl (.inl hl)
  rw [List.getD_eq_getElem?_getD, h]; exact keyR_zero lack
theorem fronts_head (low : Int) (ws : List Int) (ss : List (List Nat)) : ∀ i, (frontsUp low ws ss i)[0]? = some ([], 0)
  | 0 => rfl
  | i + 1 => by
    rw [frontsUp, List.getElem?_append_left (by rw [frontsUp_length]; omega)]
    exact fronts_head low ws ss i
abbrev lRa (b c : Addr) (Wd : Addr) (lv fv bv : Option Value) : List (Str × Option Value) := [("order", some (.ref c)), ("signs", some (.ref b)), ("word", some (.ref Wd)), ("low", lv), ("fronts", fv), ("behind", bv)]
section
theorem reset_Raised01 : True := by
  w_top off
  trivial
local macro_rules | `(tactic| walk_at "no key Raised01 0") => `(tactic| skip)
local macro_rules | `(tactic| walk_at "storeName") => `(tactic| (k_here; k_dflt (refine' stE ?k1 ?k2 ?_ ?k3 ?k4 ?k5; (case k1 => assumption); (case k2 => assumption); (case k3 => rfl); (case k4 => rfl); (case k5 => rfl); k_whole); intro h' F' N' hk'; clear hk'; (try dsimp only)))
local macro_rules | `(tactic| walk_at "exec For") => `(tactic| (refine Halt.mk ?_))
local macro_rules | `(tactic| walk_at "exec For Name Call cons nil") => `(tactic| (refine Halt.mk ?_))
local macro_rules | `(tactic| walk_at "setItem") => `(tactic| (refine Halt.mk ?_))
local macro_rules | `(tactic| walk_at "subscriptTail") => `(tactic| ((with_reducible show wpAny _ _ (subscriptTail _ _ (Value.ref _) (Value.int _ _)) _ _ _); (refine Halt.mk ?_)))
local macro_rules | `(tactic| walk_at "getItem ref int") => `(tactic| (refine Halt.mk ?_))
local macro_rules | `(tactic| walk_at "eval Name") => `(tactic| (k_here; k_dflt (refine' nameFB ?F ?c ?v ?d ?_ ?a ?b ?e ?g; (case a => rfl); (case b => rfl); (case F => k_asm); (case c => rfl); (case v => assumption); (case d => assumption); (case e => decide); (case g => decide); k_whole)))
local macro_rules | `(tactic| walk_at "binaryOp Mult str int") => `(tactic| (refine Halt.mk ?_))
local macro_rules | `(tactic| walk_at "binaryOp Add str str") => `(tactic| (refine Halt.mk ?_))
local macro_rules | `(tactic| walk_at "eval Lambda") => `(tactic| (refine Halt.mk ?_))
local macro_rules | `(tactic| walk_at "call ref") => `(tactic| (refine Halt.mk ?_))

theorem raised_call {w : World} {p : Program} {loose : List Str} {mean : ExcName → Option Value} {mg mb : Str → Option Value} {A : Around} {s : Shared} {g : Heap} {a b c : Addr} {ws order : List Int} {ss : List (List Nat)}
    {Q E : Value → Shared → Prop} (X : (hd.heap_39 w.params).In g) (T : Top p loose mean mg mb g) (C : CodeHd g 73 69) (hg0 : ∀ b o, g.get? b = some o → s.heap.get? b = some o) (hgP : g.get? 69 = none) (hP : s.heap.get? 69 = some (tabObj #[]))
    (hh : A.handled = none) (hroom : A.depth + 10 < recursionLimit) (hu : A.units + 500 < cLine) (hl : IntList s.heap a ws) (hl2 : TextList s.heap b ss) (hl3 : IntList s.heap c order) (hn : ws.length ≤ 10) (hn2 : ss.length = ws.length) (hs : ∀ c ∈ ss, c.length ≤ 10)
    (hQ : ∀ b s', KeepBut 69 s s' → (∃ tab, s'.heap.get? 69 = some (tabObj tab)) → s.heap.get? b = none → IntList s'.heap b (raisedUp order ss ws order.length) → Q (.ref b) s') :
    wpAny (model PySem.Challenge.rw_pg0117_01.row.prog w) A (call (.ref 74) [.ref a, .ref b, .ref c]) Q E s := by
  revert X
  k_fill
  intro X
  have hgg : ∀ b o, g.get? b = some o → (hideAll s.heap [69]).get? b = some o := fun b o e => hideAll_get _ (hg0 b o e) (fun hm => by rw [List.mem_singleton.mp hm, hgP] at e; cases e)
  have X' := X.keeps hgg
  have T' := T.keeps hgg
  have C' := C.keeps hgg
  have XS := X.keeps hg0
  refine enterC (binds := [("word", .ref a), ("signs", .ref b), ("order", .ref c)]) [(69, tabObj #[])] (fun q hq => by rw [List.mem_singleton.mp hq]; exact hP) (XS _ _ (by k_is)) (codeRec_of XS (by k_is)) (T.nolimit.keeps hg0) (by omega) (BindsTo.of_eq rfl) rfl (by decide +kernel) rfl rfl rfl fun h₁ tk cells F N Y hk₁ => ?_
  have hkeep : ∀ b o, b ≠ 69 → s.heap.get? b = some o → (hideAll s.heap [69]).get? b = some o := fun b o hb e => hideAll_get _ e (fun hm => hb (List.mem_singleton.mp hm))
  have sqH : SeqKeep s.heap (hideAll s.heap [69]) := fun b o its n hd e => hkeep b o (fun q => by rw [q, hP] at e; cases e; cases hd) e
  have hlH := hl.seq sqH
  have hl3H := hl3.seq sqH
  have hl2H : TextList (hideAll s.heap [69]) b ss := by
    obtain ⟨vs, ⟨o, e, c, n, d⟩, t⟩ := hl2
    exact ⟨vs, ⟨o, sqH b o _ _ d e, c, n, d⟩, t⟩
  have hPl : 69 < s.heap.objs.size := Heap.lt_size hP
  have F' := (frTo F rfl : Fr (hideAll s.heap [69]) s.heap.objs.size h₁ (mOf [("order", some (.ref c)), ("signs", some (.ref b)), ("word", some (.ref a))]))
  obtain ⟨oLk, rfl, dL⟩ := CellsAre.one Y
  have dL : oLk.data = .cell none := dL
  have N' : News (hideAll s.heap [69]) s.heap.objs.size h₁ [(s.heap.objs.size + 1, oLk), (69, tabObj #[])] := N
  clear N X C T Y hl hl2 hl3 hgg hg0 hgP XS F sqH
  generalize hgH : hideAll s.heap [69] = gH at *
  obtain ⟨vs, hlH, hI⟩ := hlH
  have hvn : vs.length = ws.length := hI.length
  k_steps
  rename_i Wd n0 _ _ _ l1 _ F1 N1
  obtain ⟨os, hl3o, hI3⟩ := hl3H
  obtain ⟨oo, hoo, _⟩ := id hl3o
  obtain ⟨zs, hl2o, hT2⟩ := id hl2H
  have hon : os.length = order.length := hI3.length
  refine Halt.go (for_any ?_)
  k_steps
  have F2 : Fr gH s.heap.objs.size _ (mOf (lRa b c Wd none none none)) := frTo F1 (((mOf_none "behind" _).trans ((mOf_none "fronts" _).trans (mOf_none "low" _)))).symm
  refine iter_list (l := lRa b c Wd none none none) (fun i l news => ∃ lv fv bv wv nW oL vL tab extra, l = lRa b c Wd lv fv bv ∧ IntsAre wv (raisedUp order ss ws i) ∧ (oL : Obj).data = .cell vL ∧ TabIs tab extra 114 51 (Str.ofString "_law_raised" ++ ".<locals>." ++ "<lambda>") ∧ (∀ p ∈ extra, Wd < p.1) ∧ news = (Wd, W.listOf wv.toArray nW) :: (s.heap.objs.size + 1, oL) :: (69, tabObj tab) :: extra)
    hh F2 N1 (hl3o.at fun o e => F1.keep c o e) ⟨none, none, none, vs, n0, oLk, none, #[], [], rfl, hI, dL, .inl ⟨rfl, rfl⟩, (fun _ h => nomatch h), rfl⟩ (.inl ⟨oo, hoo⟩) ?_ ?_ rfl rfl
  · rintro i v l₁ news₁ s₁ own hv ⟨lv, fv, bv, wv, nW, oL, vL, tab, extra, rfl, hwi, dL1, htab, hex, rfl⟩ hsep hg hos F3 N3
    have hi : i < order.length := by have := (List.getElem?_eq_some_iff.mp hv).1; omega
    obtain ⟨t, hx⟩ := hI3.get i (order.getD i 0) (by simp [List.getD, hi])
    obtain rfl : v = .int (order.getD i 0) t := by rw [hv] at hx; exact Option.some.inj hx
    have hup : raisedUp order ss ws (i + 1) = passR (order.getD i 0) ss (raisedUp order ss ws i) := rfl
    have hrl := raisedUp_length order ss ws i
    generalize raisedUp order ss ws i = wi at *
    generalize order.getD i 0 = low at *
    clear F1 N1 F2 hv hx
    k_steps
    refine Halt.go (fronts_call (X'.keeps F3.keep) (T'.keeps F3.keep) hh (by show A.depth + 1 + 2 < recursionLimit; omega) (by show A.units + 3 + 200 < cLine; omega) ⟨wv, isList_of (N3 _ (.head _)).1, hwi⟩ (hl2H.keep F3.keep) (by omega) (by omega) hs fun Fo s4 fv4 n4 tups K4 hnew htw => ?_)
    obtain ⟨F4, N4⟩ := outNews F3 N3 K4.heap hnew
    have hfs0 := fronts_head low wi ss wi.length
    have hfsl := frontsUp_length low wi ss wi.length
    have hfss := frontsUp_small (low := low) (ws := wi) hs wi.length
    have hpass : passR low ss wi = (raiseUp (frontsUp low wi ss wi.length) wi wi.length).1 := rfl
    generalize hfs : frontsUp low wi ss wi.length = fs at *
    have nW3 : ∀ p ∈ (Fo, W.listOf fv4.toArray n4) :: tups, p.1 ≠ Wd ∧ p.1 ≠ s.heap.objs.size + 1 ∧ p.1 ≠ 69 := fun p hp => by
      have e := (hnew p hp).2
      refine ⟨fun q => ?_, fun q => ?_, fun q => ?_⟩
      · rw [q, (N3 (Wd, W.listOf wv.toArray nW) (by simp)).1] at e; cases e
      · rw [q, (N3 (s.heap.objs.size + 1, oL) (by simp)).1] at e; cases e
      · rw [q, (N3 (69, tabObj tab) (by simp)).1] at e; cases e
    have hnF : ∀ p ∈ tups, p.1 ≠ Wd ∧ p.1 ≠ s.heap.objs.size + 1 ∧ p.1 ≠ 69 := fun p hp => nW3 p (.tail _ hp)
    obtain ⟨hF1, hF2, hF3⟩ := nW3 _ (.head _)
    have hO : ∀ p ∈ own, p.1 ≠ Wd ∧ p.1 ≠ s.heap.objs.size + 1 ∧ p.1 ≠ 69 := fun p hp => ⟨hsep p hp (Wd, W.listOf wv.toArray nW) (by simp), hsep p hp (s.heap.objs.size + 1, oL) (by simp), hsep p hp (69, tabObj tab) (by simp)⟩
    have hOe : ∀ p ∈ own, ∀ q ∈ extra, p.1 ≠ q.1 := fun p hp q hq => hsep p hp q (by simp [hq])
    have N5 : News gH s.heap.objs.size s4.heap ((Wd, W.listOf wv.toArray nW) :: (Fo, W.listOf fv4.toArray n4) :: (s.heap.objs.size + 1, oL) :: (69, tabObj tab) :: (extra ++ (tups ++ own))) := news_sub N4 fun q hq => by
      simp only [List.cons_append, List.mem_cons, List.mem_append] at hq ⊢
      rcases hq with h | h | h | h | h | h | h <;> simp [h]
    have hos4 : s4.os = s.os := K4.os.trans (hos.trans rfl)
    have hgs4 : GensGrow s.gens s4.gens := hg.trans K4.gens
    have outer : ∀ (s₂ : Shared) (lv' fv' bv' : Option Value) (wv₂ : List Value) (nW₂ : Nat) (oL₂ : Obj) (vL₂ : Option Value) (tab₂ : Array Value) (extra₂ : List (Addr × Obj)) (sg : Shared) (R' : Flow → Shared → Prop), IntsAre wv₂ (passR low ss wi) → oL₂.data = .cell vL₂ → TabIs tab₂ extra₂ 114 51 (Str.ofString "_law_raised" ++ ".<locals>." ++ "<lambda>") → (∀ p ∈ extra₂, Wd < p.1) → (∀ p ∈ own, ∀ q ∈ extra₂, p.1 ≠ q.1) →
        Fr gH s.heap.objs.size s₂.heap (mOf (lRa b c Wd lv' fv' bv')) → News gH s.heap.objs.size s₂.heap ((Wd, W.listOf wv₂.toArray nW₂) :: (s.heap.objs.size + 1, oL₂) :: (69, tabObj tab₂) :: (extra₂ ++ own)) → GensGrow sg.gens s₂.gens → s₂.os = sg.os →
        TurnX gH s.heap.objs.size own (fun l news => ∃ lv fv bv wv nW oL vL tab extra, l = lRa b c Wd lv fv bv ∧ IntsAre wv (raisedUp order ss ws (i + 1)) ∧ (oL : Obj).data = .cell vL ∧ TabIs tab extra 114 51 (Str.ofString "_law_raised" ++ ".<locals>." ++ "<lambda>") ∧ (∀ p ∈ extra, Wd < p.1) ∧ news = (Wd, W.listOf wv.toArray nW) :: (s.heap.objs.size + 1, oL) :: (69, tabObj tab) :: extra) R' sg .next s₂ := by
      intro s₂ lv' fv' bv' wv₂ nW₂ oL₂ vL₂ tab₂ extra₂ sg R' h1 h2 h3 h4 h5 F' N' hg' hos'
      refine ⟨_, (Wd, W.listOf wv₂.toArray nW₂) :: (s.heap.objs.size + 1, oL₂) :: (69, tabObj tab₂) :: extra₂, F', N', fun p hp q hq => ?_, hg', hos', lv', fv', bv', wv₂, nW₂, oL₂, vL₂, tab₂, extra₂, rfl, hup ▸ h1, h2, h3, h4, rfl⟩
      have hx := hO p hp
      simp only [List.mem_cons] at hq
      rcases hq with rfl | rfl | rfl | hq
      · exact hx.1
      · exact hx.2.1
      · exact hx.2.2
      · exact h5 p hp q hq
    clear F3 N3 N4 hg hos hnew nW3 hsep
    k_steps
    refine Halt.go (for_any ?_)
    k_steps
    rename_i hR F7 N7 k7
    refine iter_range (n := wi.length) (l := lRa b c Wd (some (.int low t)) (some (.ref Fo)) bv) (fun j l news => ∃ bv' wv nW oL vL tab extra, l = lRa b c Wd (some (.int low t)) (some (.ref Fo)) bv' ∧ (raiseUp fs wi j).2 = false ∧ IntsAre wv (raiseUp fs wi j).1 ∧ (oL : Obj).data = .cell vL ∧ TabIs tab extra 114 51 (Str.ofString "_law_raised" ++ ".<locals>." ++ "<lambda>") ∧ (∀ p ∈ extra, Wd < p.1) ∧ (∀ p ∈ own, ∀ q ∈ extra, p.1 ≠ q.1) ∧
        news = (Wd, W.listOf wv.toArray nW) :: (Fo, W.listOf fv4.toArray n4) :: (s.heap.objs.size + 1, oL) :: (69, tabObj tab) :: (extra ++ (tups ++ own)))
      hh F7 N7 hR (range_small (by omega) (by omega) (by omega) (by omega)) (by rw [rangeSize_nat]; omega) ⟨bv, wv, nW, oL, vL, tab, extra, rfl, rfl, hwi, dL1, htab, hex, hOe, rfl⟩ ?_ ?_
    · rintro j tj l₁ news₁ s₈ own₂ hj ⟨bv', wv, nW, oL, vL, tab, extra, rfl, hst, hwi, dL1, htab, hex, hOe, rfl⟩ hsep₂ hg₂ hos₂ F8 N8
      clear F7 N7 k7 hR
      have hrl2 := raiseUp_length fs wi j
      have hrn : raiseUp fs wi (j + 1) = if foundR fs j > wi.length then ((raiseUp fs wi j).1, true) else (lowered (raiseUp fs wi j).1 (foundR fs j), false) := by rw [raiseUp, if_neg (by rw [hst]; decide)]
      generalize (raiseUp fs wi j).1 = wj at *
      have hwvl : wv.length = ws.length := by rw [hwi.length, hrl2, hrl]
      have hO2 : ∀ p ∈ own₂, p.1 ≠ Wd ∧ p.1 ≠ s.heap.objs.size + 1 ∧ p.1 ≠ 69 := fun p hp => ⟨hsep₂ p hp (Wd, W.listOf wv.toArray nW) (by simp), hsep₂ p hp (s.heap.objs.size + 1, oL) (by simp), hsep₂ p hp (69, tabObj tab) (by simp)⟩
      obtain ⟨l1a, l1b⟩ := l1
      have hE : ∀ p ∈ extra, p.1 ≠ Wd ∧ p.1 ≠ s.heap.objs.size + 1 ∧ p.1 ≠ 69 := fun p hp => by
        have := hex p hp
        exact ⟨Nat.ne_of_gt this, Nat.ne_of_gt (Nat.lt_trans l1a this), Nat.ne_of_gt (Nat.lt_trans l1b this)⟩
      have hrest : ∀ p ∈ extra ++ (tups ++ (own ++ own₂)), p.1 ≠ Wd ∧ p.1 ≠ s.heap.objs.size + 1 ∧ p.1 ≠ 69 := fun p hp => by
        rcases List.mem_append.mp hp with hp | hp
        · exact hE p hp
        · rcases List.mem_append.mp hp with hp | hp
          · exact hnF p hp
          · rcases List.mem_append.mp hp with hp | hp
            · exact hO p hp
            · exact hO2 p hp
      have hcP : s.heap.objs.size + 1 ≠ 69 := by omega
      simp only [List.cons_append, List.append_assoc] at N8
      refine wpAny_assign_Name (storeX_C (c := s.heap.objs.size + 1) F8 N8 rfl (updFMid (l₁ := [(Wd, W.listOf wv.toArray nW), (Fo, W.listOf fv4.toArray n4)]) (l₂ := (69, tabObj tab) :: (extra ++ (tups ++ (own ++ own₂)))) ?_ ?_) dL1 (fun h9 oL2 F9 N9 dL2 => ?_) rfl rfl)
      · intro p hp
        rcases List.mem_cons.mp hp with rfl | hp
        · exact Nat.ne_of_gt l1a
        · rw [List.mem_singleton.mp hp]; exact hF2
      · intro p hp
        rcases List.mem_cons.mp hp with rfl | hp
        · exact hcP.symm
        · exact (hrest p hp).2.1
      simp only [List.cons_append, List.nil_append] at N9
      rw [Int.zero_add] at dL2
      clear F8 N8
      k_steps
      have hP1 : ∀ p ∈ [(Wd, W.listOf wv.toArray nW), (Fo, W.listOf fv4.toArray n4), (s.heap.objs.size + 1, oL2)], p.1 ≠ 69 := fun p hp => by
        simp only [List.mem_cons, List.not_mem_nil, or_false] at hp
        rcases hp with rfl | rfl | rfl
        · exact Nat.ne_of_gt l1b
        · exact hF3
        · exact hcP
      refine Halt.go (kla_eval rfl (mkLam2 (l₁ := [(Wd, W.listOf wv.toArray nW), (Fo, W.listOf fv4.toArray n4), (s.heap.objs.size + 1, oL2)]) (l₂ := tups ++ (own ++ own₂)) F9 N9 T' C' rfl hP1 (fun p hp => (hrest p hp).2.2) htab rfl
        fun f c' oc tab' extra' ctv h13 tk13 F13 N13 htab' hrec hex' hexn l13 => ?_))
      simp only [List.cons_append, List.nil_append] at N13
      clear F9 N9
      k_steps
      change wpAny _ _ (call (.ref 32) [.ref Fo, .bool true] [(Str.ofString "key", .ref f)]) _ _ _
      have X13 := X'.keeps F13.keep
      have T13 := T'.keeps F13.keep
      have eF := (N13 _ (.head _)).1
      have eFo := (N13 _ (.tail _ (.tail _ (.head _)))).1
      have cL := (N13 _ (.tail _ (.tail _ (.tail _ (.head _))))).1
      have hfvl : fv4.length = fs.length := htw.length
      have hTup : ∀ q ∈ tups, h13.get? q.1 = some q.2 := fun q hq => (N13 q (by simp [hq])).1
      refine bisLk_call (kf := f) (vs := fv4) (kp := fun k => keyR (fs.getD k ([], 0)) j) X13 T13 (by exact hh) (by show A.depth + 1 < recursionLimit; omega) (by show A.units + 3 + 100 < cLine; omega) (isList_of eFo) (by omega) eF ?_ fun uf s14 K14 => ?_
      · --HK{
        intro A' k v s' Q' hh' hd' hu' hv' K hQ'
        obtain ⟨u, hu9, Tk, x, y, nk, rfl, hmk, t1, t2, rfl, rfl⟩ := htw.at hv'
        have hud : fs.getD k ([], 0) = u := by rw [List.getD_eq_getElem?_getD, hu9]; rfl
        have hus := hfss u (List.mem_of_getElem? hu9)
        rw [hud] at hQ'
        have XS := X13.keeps K.heap
        have TS := T13.keeps K.heap
        have cL' := K.heap _ _ cL
        have gT := K.heap _ _ (hTup _ hmk)
        have hkey0 : A'.depth < recursionLimit := by rw [hd']; show A.depth + 1 + 1 < _; omega
        have hkey : A'.depth + 4 < recursionLimit ∧ A'.units + 400 < cLine := ⟨by rw [hd']; show A.depth + 1 + 1 + 4 < _; omega, by rw [hu']; show A.units + 3 + 3 + 400 < _; omega⟩
        refine enterLam (binds := [("front", .ref Tk)]) (K.heap _ _ eF) (codeRec_keep hrec K.heap) TS.nolimit hkey0 rfl (locs rfl) rfl rfl rfl (by decide) fun h15 F15 N15 => ?_
        clear F13 N13 X13 T13 hrec l13 hexn hP1 hrest
        k_steps
        refine Halt.go (mulS (c := 40) (by decide) (by omega) (by omega) fun t21 k21 => ?_)
        k_steps
        rename Fr _ _ _ _ => Fa
        refine Halt.go (item_tupleT (l := [.str ⟨u.1.toArray⟩ t1, .int u.2 t2]) (j := 0) ⟨_, Fa.keep _ _ gT, rfl, _, rfl⟩ (by decide) (by decide) rfl rfl ?_)
        k_steps
        refine Halt.go (addS (by rw [List.length_replicate]; omega) fun t22 k22 => ?_)
        k_steps
        rename Fr _ _ _ _ => Fb
        refine Halt.go (item_tupleT (l := [.str ⟨u.1.toArray⟩ t1, .int u.2 t2]) (j := 1) ⟨_, Fb.keep _ _ gT, rfl, _, rfl⟩ (by decide) (by decide) rfl rfl ?_)
        k_steps
        refine Halt.go (mulS (c := 41) (by decide) (by omega) (by omega) fun t23 k23 => ?_)
        k_steps
        refine Halt.go (addS (by rw [List.length_append, List.length_replicate, List.length_replicate]; omega) fun t24 k24 => ?_)
        k_steps
        rename Fr _ _ _ _ => Fd
        refine Halt.go (check_call (XS.keeps Fd.keep) (TS.keeps Fd.keep) hh' (by show A'.depth + 1 + 2 < recursionLimit; omega) (by show A'.units + 3 + 200 < cLine; omega) ?_ fun s25 K25 => ?_)
        · simp only [Str.length, List.size_toArray, List.length_append, List.length_replicate]; omega
        · have K26 : Keep s' s25 := ⟨fun b o e => K25.heap b o (Fd.keep b o e), K25.os, K25.gens⟩
          k_steps
          exact hQ' _ K26
      · have F14 := K14.fr F13
        have N14 := K14.news N13
        have hfd : halved (fun k => keyR (fs.getD k ([], 0)) j) fv4.length = foundR fs j := by rw [foundR, hfvl]
        have hf1 := foundR_pos hfs0 j
        have hf2 : foundR fs j ≤ fs.length := (halve_le _ fs.length 0 fs.length (Nat.zero_le _)).1
        have hMe : ∀ p ∈ extra', Wd < p.1 := fun p hp => by
          rcases hexn with e | e
          · rw [e] at hp; exact hex p hp
          · rw [hex'] at hp
            rw [List.mem_singleton.mp hp]
            exact e (Wd, W.listOf wv.toArray nW) (by simp)
        have hOe' : ∀ p ∈ own, ∀ q ∈ extra', p.1 ≠ q.1 := fun p hp q hq => by
          rcases hexn with e | e
          · rw [e] at hq; exact hOe p hp q hq
          · rw [hex'] at hq
            rw [List.mem_singleton.mp hq]
            exact Nat.ne_of_lt (e p (by simp [hp]))
        have hOe2 : ∀ p ∈ own₂, ∀ q ∈ extra', p.1 ≠ q.1 := fun p hp q hq => by
          rcases hexn with e | e
          · rw [e] at hq; exact hsep₂ p hp q (by simp [hq])
          · rw [hex'] at hq
            rw [List.mem_singleton.mp hq]
            exact Nat.ne_of_lt (e p (by simp [hp]))
        have N15 : News gH s.heap.objs.size s14.heap ((Wd, W.listOf wv.toArray nW) :: (Fo, W.listOf fv4.toArray n4) :: (s.heap.objs.size + 1, oL2) :: (69, tabObj tab') :: (extra' ++ (tups ++ (own ++ own₂)))) := news_sub N14 fun q hq => List.mem_cons_of_mem _ hq
        clear F13 N13 N14 X13 T13 hrec l13 hexn hP1 eF eFo cL hTup
        rw [hfd]
        have hrest' : ∀ p ∈ (Fo, W.listOf fv4.toArray n4) :: (s.heap.objs.size + 1, oL2) :: (69, tabObj tab') :: (extra' ++ (tups ++ (own ++ own₂))), p.1 ≠ Wd := fun p hp => by
          simp only [List.mem_cons, List.mem_append] at hp
          rcases hp with rfl | rfl | rfl | hp | hp | hp | hp
          · exact hF1
          · exact Nat.ne_of_lt l1a
          · exact Nat.ne_of_lt l1b
          · exact Nat.ne_of_gt (hMe p hp)
          · exact (hnF p hp).1
          · exact (hO p hp).1
          · exact (hO2 p hp).1
        have hos14 : s14.os = s.os := K14.os.trans (hos₂.trans hos4)
        generalize hfo : foundR fs j = fo at *
        have inner : ∀ (s₂ : Shared) (wv₂ : List Value) (sg : Shared) (R' : Flow → Shared → Prop), (raiseUp fs wi (j + 1)).2 = false → IntsAre wv₂ (raiseUp fs wi (j + 1)).1 → Fr gH s.heap.objs.size s₂.heap (mOf (lRa b c Wd (some (.int low t)) (some (.ref Fo)) (some (.int fo uf)))) →
            News gH s.heap.objs.size s₂.heap ([] ++ (Wd, W.listOf wv₂.toArray nW) :: ((Fo, W.listOf fv4.toArray n4) :: (s.heap.objs.size + 1, oL2) :: (69, tabObj tab') :: (extra' ++ (tups ++ (own ++ own₂))))) → GensGrow sg.gens s₂.gens → s₂.os = sg.os →
            TurnX gH s.heap.objs.size own₂ (fun l news => ∃ bv' wv nW oL vL tab extra, l = lRa b c Wd (some (.int low t)) (some (.ref Fo)) bv' ∧ (raiseUp fs wi (j + 1)).2 = false ∧ IntsAre wv (raiseUp fs wi (j + 1)).1 ∧ (oL : Obj).data = .cell vL ∧ TabIs tab extra 114 51 (Str.ofString "_law_raised" ++ ".<locals>." ++ "<lambda>") ∧ (∀ p ∈ extra, Wd < p.1) ∧ (∀ p ∈ own, ∀ q ∈ extra, p.1 ≠ q.1) ∧
              news = (Wd, W.listOf wv.toArray nW) :: (Fo, W.listOf fv4.toArray n4) :: (s.heap.objs.size + 1, oL) :: (69, tabObj tab) :: (extra ++ (tups ++ own))) R' sg .next s₂ := by
          intro s₂ wv₂ sg R' h0 h1 F' N' hg' hos'
          refine ⟨_, (Wd, W.listOf wv₂.toArray nW) :: (Fo, W.listOf fv4.toArray n4) :: (s.heap.objs.size + 1, oL2) :: (69, tabObj tab') :: (extra' ++ (tups ++ own)), F', news_sub N' fun q hq => ?_, fun p hp q hq => ?_, hg', hos', _, wv₂, nW, oL2, _, tab', extra', rfl, h0, h1, dL2, htab', hMe, hOe', rfl⟩
          · simp only [List.nil_append, List.cons_append, List.append_assoc, List.mem_cons, List.mem_append] at hq ⊢
            rcases hq with h | h | h | h | h | h | h | h <;> simp [h]
          · simp only [List.mem_cons, List.mem_append] at hq
            have hx := hO2 p hp
            rcases hq with rfl | rfl | rfl | rfl | hq | hq | hq
            · exact hx.1
            · exact hsep₂ p hp (Fo, W.listOf fv4.toArray n4) (by simp)
            · exact hx.2.1
            · exact hx.2.2
            · exact hOe2 p hp q hq
            · exact hsep₂ p hp q (by simp [hq])
            · exact hsep₂ p hp q (by simp [hq])
        k_steps
        · rename (_ : Int) < _ => hgt
          rename Fr _ _ _ _ => F16
          rename News _ _ _ _ => N16
          have hgt' : fo > wi.length := by omega
          rw [if_pos hgt'] at hrn
          have hall : raiseUp fs wi wi.length = raiseUp fs wi (j + 1) := by
            have := raiseUp_stop (fs := fs) (ws := wi) (k := j + 1) (by rw [hrn]) (wi.length - (j + 1))
            rw [show j + 1 + (wi.length - (j + 1)) = wi.length by omega] at this
            exact this
          dsimp only [TurnX]
          k_steps
          refine outer _ (some (.int low t)) (some (.ref Fo)) (some (.int fo uf)) wv nW oL2 _ tab' extra' _ _ ?_ dL2 htab' hMe hOe' ?_ ?_ ?_ ?_
          · rw [hpass, hall, hrn]; exact hwi
          · exact F16
          · refine news_sub N16 fun q hq => ?_
            simp only [List.mem_cons, List.mem_append] at hq ⊢
            rcases hq with h | h | h | h | h <;> simp [h]
          · exact hgs4.trans (hg₂.trans K14.gens)
          · exact hos14
        · rename ¬ (_ : Int) < _ => hgt
          rename Fr _ _ _ _ => F16
          rename News _ _ _ _ => N16
          have hgt' : ¬ fo > wi.length := by omega
          rw [if_neg hgt'] at hrn
          have hfl : fo - 1 < wj.length := by omega
          have ek : ((fo : Int) - 1) = ((fo - 1 : Nat) : Int) := by omega
          obtain ⟨tx, hx⟩ := hwi.get (fo - 1) (wj.getD (fo - 1) 0) (by simp [List.getD, hfl])
          refine Halt.go (wpAny_getItem_list (isList_of (N16 _ (.head _)).1) (by omega) (by omega) (by rw [ek]; simpa using hx) ?_)
          k_steps
          rename Fr _ _ _ _ => F17
          rename News _ _ _ _ => N17
          refine Halt.go (setMid (l₁ := []) F17 N17 (fun _ h => nomatch h) hrest' ek (by rw [List.size_toArray]; omega) (by rw [List.size_toArray]; omega) fun h19 F19 N19 => ?_)
          rw [List.setIfInBounds_toArray] at N19
          k_steps
          refine inner _ _ _ _ (by rw [hrn]) ?_ F19 N19 (hg₂.trans K14.gens) (K14.os.trans hos₂)
          rw [hrn]; exact ints_set hwi _ _ _
    · rintro l₁ news₁ s₈ ⟨bv', wv, nW, oL, vL, tab, extra, rfl, hst, hwi, dL1, htab, hex, hOe, rfl⟩ hg₂ hos₂ F8 N8
      dsimp only
      clear F7 N7 k7 hR
      k_steps
      refine outer _ (some (.int low t)) (some (.ref Fo)) bv' wv nW oL _ tab extra _ _ ?_ dL1 htab hex hOe ?_ ?_ ?_ ?_
      · rw [hpass]; exact hwi
      · exact F8
      · refine news_sub N8 fun q hq => ?_
        simp only [List.mem_cons, List.mem_append] at hq ⊢
        rcases hq with h | h | h | h | h <;> simp [h]
      · exact hgs4.trans hg₂
      · exact hos₂.trans hos4
  · rintro l₁ news₁ s₁ ⟨lv, fv, bv, wv, nW, oL, vL, tab, extra, rfl, hwi, dL1, htab, hex, rfl⟩ hg hos F3 N3
    dsimp only
    rw [hon] at hwi
    k_steps
    refine hQ Wd _ ⟨fun b o hb e => F3.keep b o (hkeep b o hb e), hos, hg⟩ ⟨tab, (N3 _ (.tail _ (.tail _ (.head _)))).1⟩ ?_ ⟨wv, isList_of (N3 _ (.head _)).1, hwi⟩
    cases e : s.heap.get? Wd with
    | none => rfl
    | some o =>
      have := hkeep Wd o (Nat.ne_of_gt l1.2) e
      rw [(N3 _ (.head _)).2.2] at this; cases this
end
end Mine
end
section
set_option Elab.async false
set_option maxRecDepth 100000
namespace Mine
open PySem

def hiddenA : List (List Nat) := [[34, 40, 34], [34, 41, 34], [92, 40], [92, 41], [92, 34], [92, 92]]
def numsOf (ns : List Int) : List Int := ns.take 4 ++ [17, 7, 4, 9, 2]
def wordOf (ns : List Int) : List Int := (numsOf ns).map fun n => Int.fmod n 3
def signOf (n : Int) : List Nat := hiddenA.getD (Int.fmod (Int.fdiv n 3) 6).toNat []
def signsOf (ns : List Int) : List (List Nat) := (numsOf ns).map signOf
def orderOf (ns : List Int) : List Int := if Int.fmod (ns.length : Int) 2 = 0 then [0, 1, 0] else [1, 0, 1]

/-- a front with its text in pieces, and the same of brackets alone -/
def FrontP (f g : Front) : Prop := f.2 = g.2 ∧ ∃ cs : List (List Nat), (∀ p ∈ cs, OkP p) ∧ f.1 = cs.flatten ∧ cs.flatMap par = g.1
theorem FrontP.start : FrontP ([], 0) ([], 0) := ⟨rfl, [], (fun _ h => nomatch h), rfl, rfl⟩
theorem FrontP.put {f g : Front} (x : FrontP f g) {p : List Nat} (h : OkP p) (d : Int) : FrontP (f.1 ++ p, f.2 + d) (g.1 ++ par p, g.2 + d) := by
  obtain ⟨e, cs, h1, h2, h3⟩ := x
  refine ⟨by rw [e], cs ++ [p], fun q hq => ?_, by rw [h2, List.flatten_append, List.flatten_singleton], by rw [← h3, List.flatMap_append]; simp⟩
  rcases List.mem_append.mp hq with hq | hq
  · exact h1 q hq
  · rw [List.mem_singleton.mp hq]; exact h
theorem FrontP.next {f g : Front} (x : FrontP f g) (low l : Int) {sg : List Nat} (h : OkP sg) (hp : par sg = []) : FrontP (frontNext low f l sg) (frontNext low g l []) := by
  unfold frontNext
  split
  · have := x.put .op 1
    rwa [show par [40] = [40] from by decide] at this
  · split
    · have := x.put .cl (-1)
      rwa [show par [41] = [41] from by decide] at this
    · have := x.put h 0
      rw [hp, Int.add_zero, Int.add_zero] at this
      exact this
/-- two rows of fronts of the same length -/
def FrontsP (fs gs : List Front) : Prop := fs.length = gs.length ∧ ∀ i, FrontP (fs.getD i ([], 0)) (gs.getD i ([], 0))
theorem lastF_getD (fs : List Front) : lastF fs = fs.getD (fs.length - 1) ([], 0) := by
  rw [lastF, List.getLastD_eq_getLast?, List.getLast?_eq_getElem?]; rfl
theorem fronts_P {ss : List (List Nat)} (hs : ∀ i, OkP (ss.getD i []) ∧ par (ss.getD i []) = []) (low : Int) (ws : List Int) : ∀ i, FrontsP (frontsUp low ws ss i) (frontsUp low ws [] i)
  | 0 => ⟨rfl, fun i => by
    cases i with
    | zero => exact .start
    | succ i => exact .start⟩
  | i + 1 => by
    obtain ⟨hl, ih⟩ := fronts_P hs low ws i
    have hlast : FrontP (lastF (frontsUp low ws ss i)) (lastF (frontsUp low ws [] i)) := by
      rw [lastF_getD, lastF_getD, hl]; exact ih _
    refine ⟨by rw [frontsUp_length, frontsUp_length], fun k => ?_⟩
    have l1 := frontsUp_length low ws ss i
    have l2 := frontsUp_length low ws [] i
    rw [frontsUp, frontsUp]
    by_cases hk : k < i + 1
    · have := ih k
      simp only [List.getD_eq_getElem?_getD] at this ⊢
      rw [List.getElem?_append_left (by omega), List.getElem?_append_left (by omega)]; exact this
    · by_cases hk2 : k = i + 1
      · subst hk2
        simp only [List.getD_eq_getElem?_getD]
        rw [List.getElem?_append_right (by omega), List.getElem?_append_right (by omega), l1, l2]
        simp only [Nat.sub_self, List.getElem?_cons_zero, Option.getD_some]
        have e : ([] : List (List Nat))[i]?.getD [] = [] := by simp
        rw [e]
        have hsi := hs i
        rw [List.getD_eq_getElem?_getD] at hsi
        exact hlast.next _ _ hsi.1 hsi.2
      · simp only [List.getD_eq_getElem?_getD]
        rw [List.getElem?_eq_none (by simp; omega), List.getElem?_eq_none (by simp; omega)]
        exact .start
/-- the law's words with the check of the brackets alone -/
def keyA (f : Front) (lack : Nat) : Bool := chkC (lackText f lack) 0 == false
def foundA (fs : List Front) (lack : Nat) : Nat := halved (fun i => keyA (fs.getD i ([], 0)) lack) fs.length
def raiseA (fs : List Front) (ws : List Int) : Nat → List Int × Bool
  | 0 => (ws, false)
  | k + 1 => let r := raiseA fs ws k; if r.2 then r else let b := foundA fs k; if b > ws.length then (r.1, true) else (lowered r.1 b, false)
def passA (low : Int) (ws : List Int) : List Int := (raiseA (frontsUp low ws [] ws.length) ws ws.length).1
theorem key_A {f g : Front} (x : FrontP f g) (lack : Nat) : keyR f lack = keyA g lack := by
  obtain ⟨e, cs, h1, h2, h3⟩ := x
  have h := checkP_pieces (List.replicate lack [40] ++ cs ++ List.replicate ((lack : Int) + g.2).toNat [41]) fun p hp => by
    rcases List.mem_append.mp hp with hp | hp
    · rcases List.mem_append.mp hp with hp | hp
      · rw [List.eq_of_mem_replicate hp]; exact .op
      · exact h1 p hp
    · rw [List.eq_of_mem_replicate hp]; exact .cl
  rw [List.flatten_append, List.flatten_append, rep_flatR, rep_flatR, List.flatMap_append, List.flatMap_append, h3, List.flatMap_def, List.flatMap_def, List.map_replicate, List.map_replicate, show par [40] = [40] from by decide, show par [41] = [41] from by decide, rep_flatR, rep_flatR] at h
  rw [keyR, keyA, lackText, lackText, h2, e, h]
theorem found_A {fs gs : List Front} (x : FrontsP fs gs) (lack : Nat) : foundR fs lack = foundA gs lack := by
  rw [foundR, foundA, x.1]
  congr 1
  funext i
  exact key_A (x.2 i) lack
theorem raise_A {fs gs : List Front} (x : FrontsP fs gs) (ws : List Int) : ∀ k, raiseUp fs ws k = raiseA gs ws k
  | 0 => rfl
  | k + 1 => by rw [raiseUp, raiseA, raise_A x ws k, found_A x k]
theorem pass_A {ss : List (List Nat)} (hs : ∀ i, OkP (ss.getD i []) ∧ par (ss.getD i []) = []) (low : Int) (ws : List Int) : passR low ss ws = passA low ws := by
  rw [passR, passA, raise_A (fronts_P hs low ws _)]
theorem raised_A {ss : List (List Nat)} (hs : ∀ i, OkP (ss.getD i []) ∧ par (ss.getD i []) = []) (order ws : List Int) : ∀ k, raisedUp order ss ws k = (order.take k).foldl (fun w low => passA low w) ws ∨ order.length < k
  | 0 => .inl rfl
  | k + 1 => by
    rcases raised_A hs order ws k with e | e
    · by_cases h : k < order.length
      · left
        rw [raisedUp, e, pass_A hs, List.take_add_one, List.getElem?_eq_getElem h, Option.toList_some, List.foldl_append, List.foldl_cons, List.foldl_nil]
        congr 1
        simp [List.getD, h]
      · exact .inr (by omega)
    · exact .inr (by omega)
theorem okP_hidden : ∀ k : Nat, OkP (hiddenA.getD k []) ∧ par (hiddenA.getD k []) = []
  | 0 => ⟨.quo 40 (.inl rfl), by decide⟩
  | 1 => ⟨.quo 41 (.inr rfl), by decide⟩
  | 2 => ⟨.esc 40, by decide⟩
  | 3 => ⟨.esc 41, by decide⟩
  | 4 => ⟨.esc 34, by decide⟩
  | 5 => ⟨.esc 92, by decide⟩
  | _ + 6 => ⟨.nil, by show par [] = []; decide⟩
theorem okP_signs (ns : List Int) (i : Nat) : OkP ((signsOf ns).getD i []) ∧ par ((signsOf ns).getD i []) = [] := by
  simp only [signsOf, List.getD_eq_getElem?_getD, List.getElem?_map]
  cases (numsOf ns)[i]? with
  | none => exact ⟨.nil, by decide⟩
  | some n => exact okP_hidden _
/-- a front of brackets alone by its height and its lowest height -/
def FrontH (g : Front) (q : Int × Int) : Prop := g.2 = q.1 ∧ q.2 ≤ 0 ∧ q.2 ≤ q.1 ∧ ∀ r o, 0 ≤ o → chkC (g.1 ++ r) o = if o + q.2 < 0 then false else chkC r (o + q.1)
def nextH (low : Int) (q : Int × Int) (l : Int) : Int × Int := if l = low then (q.1 + 1, q.2) else if l = low + 1 then (q.1 - 1, min q.2 (q.1 - 1)) else q
theorem FrontH.start : FrontH ([], 0) (0, 0) := ⟨rfl, Int.le_refl _, Int.le_refl _, fun r o h => by
  rw [if_neg (by omega), List.nil_append, Int.add_zero]⟩
theorem FrontH.next {g : Front} {q : Int × Int} (x : FrontH g q) (low l : Int) : FrontH (frontNext low g l []) (nextH low q l) := by
  obtain ⟨e, h0, h1, hc⟩ := x
  unfold frontNext nextH
  split
  · refine ⟨by rw [e], h0, by show q.2 ≤ q.1 + 1; omega, fun r o ho => ?_⟩
    have e40 : chkC (40 :: r) (o + q.1) = chkC r (o + q.1 + 1) := by rw [chkC, if_pos rfl]
    rw [List.append_assoc, hc _ o ho, List.singleton_append, e40, Int.add_assoc]
  · split
    · refine ⟨by rw [e], by show min q.2 (q.1 - 1) ≤ 0; omega, by show min q.2 (q.1 - 1) ≤ q.1 - 1; omega, fun r o ho => ?_⟩
      have e41 : chkC (41 :: r) (o + q.1) = if o + q.1 - 1 < 0 then false else chkC r (o + q.1 - 1) := by rw [chkC, if_neg (by decide), if_pos rfl]
      rw [List.append_assoc, hc _ o ho, List.singleton_append, e41]
      show (if o + q.2 < 0 then false else if o + q.1 - 1 < 0 then false else chkC r (o + q.1 - 1)) = if o + min q.2 (q.1 - 1) < 0 then false else chkC r (o + (q.1 - 1))
      by_cases k1 : o + q.2 < 0
      · rw [if_pos k1, if_pos (by omega)]
      · rw [if_neg k1]
        by_cases k2 : o + q.1 - 1 < 0
        · rw [if_pos k2, if_pos (by omega)]
        · rw [if_neg k2, if_neg (by omega)]
          congr 1; omega
    · exact ⟨e, h0, h1, fun r o ho => by rw [List.append_nil]; exact hc r o ho⟩
def heightsUp (low : Int) (q : Int × Int) : List Int → List (Int × Int)
  | [] => [q]
  | l :: ws => q :: heightsUp low (nextH low q l) ws
/-- item for item -/
def FrontsH (gs : List Front) (qs : List (Int × Int)) : Prop := gs.length = qs.length ∧ ∀ i, FrontH (gs.getD i ([], 0)) (qs.getD i (0, 0))
def heightsAt (low : Int) (ws : List Int) : Nat → Int × Int
  | 0 => (0, 0)
  | i + 1 => nextH low (heightsAt low ws i) (ws.getD i 0)
theorem front_at (low : Int) (ws : List Int) : ∀ i, FrontH (lastF (frontsUp low ws [] i)) (heightsAt low ws i)
  | 0 => .start
  | i + 1 => by
    have ih := front_at low ws i
    have e : lastF (frontsUp low ws [] (i + 1)) = frontNext low (lastF (frontsUp low ws [] i)) (ws.getD i 0) [] := by
      rw [frontsUp, lastF, List.getLastD_eq_getLast?, List.getLast?_concat]; simp
    rw [e]
    exact ih.next _ _
theorem fronts_get (low : Int) (ws : List Int) : ∀ n k, k ≤ n → (frontsUp low ws [] n).getD k ([], 0) = lastF (frontsUp low ws [] k)
  | 0, k, h => by
    have : k = 0 := by omega
    subst this; rfl
  | n + 1, k, h => by
    have l1 := frontsUp_length low ws [] n
    by_cases hk : k ≤ n
    · rw [← fronts_get low ws n k hk, frontsUp]
      simp only [List.getD_eq_getElem?_getD]
      rw [List.getElem?_append_left (by omega)]
    · have : k = n + 1 := by omega
      subst this
      have := lastF_mem low ws [] (n + 1)
      rw [List.getD_eq_getElem?_getD, this]; rfl
theorem heights_get (low : Int) : ∀ (ws : List Int) (q : Int × Int) (k : Nat), k ≤ ws.length → (heightsUp low q ws).getD k (0, 0) = (List.range k).foldl (fun q i => nextH low q (ws.getD i 0)) q
  | [], q, k, h => by
    have : k = 0 := by simpa using h
    subst this; rfl
  | l :: ws, q, 0, h => rfl
  | l :: ws, q, k + 1, h => by
    have ih := heights_get low ws (nextH low q l) k (by simpa using h)
    rw [heightsUp, List.getD_cons_succ, ih, List.range_succ_eq_map, List.foldl_cons, List.foldl_map]
    rfl
theorem heights_at (low : Int) (ws : List Int) : ∀ k, heightsAt low ws k = (List.range k).foldl (fun q i => nextH low q (ws.getD i 0)) (0, 0)
  | 0 => rfl
  | k + 1 => by rw [heightsAt, heights_at low ws k, List.range_succ, List.foldl_append]; rfl
theorem heightsUp_length (low : Int) : ∀ (ws : List Int) (q : Int × Int), (heightsUp low q ws).length = ws.length + 1
  | [], _ => rfl
  | l :: ws, q => by rw [heightsUp, List.length_cons, heightsUp_length low ws, List.length_cons]
theorem fronts_H (low : Int) (ws : List Int) : FrontsH (frontsUp low ws [] ws.length) (heightsUp low (0, 0) ws) := by
  refine ⟨by rw [frontsUp_length, heightsUp_length], fun i => ?_⟩
  by_cases h : i ≤ ws.length
  · rw [fronts_get low ws _ i h, heights_get low ws _ i h, ← heights_at]; exact front_at low ws i
  · rw [List.getD_eq_getElem?_getD, List.getD_eq_getElem?_getD, List.getElem?_eq_none (by rw [frontsUp_length]; omega), List.getElem?_eq_none (by rw [heightsUp_length]; omega)]
    exact .start
def keyH (q : Int × Int) (lack : Nat) : Bool := decide ((lack : Int) + q.2 < 0)
def foundH (qs : List (Int × Int)) (lack : Nat) : Nat := halved (fun i => keyH (qs.getD i (0, 0)) lack) qs.length
def raiseH (qs : List (Int × Int)) (n : Nat) : Nat → List Int → Nat → List Int
  | 0, ws, _ => ws
  | f + 1, ws, k => let b := foundH qs k; if b > n then ws else raiseH qs n f (lowered ws b) (k + 1)
def passH (low : Int) (ws : List Int) : List Int := raiseH (heightsUp low (0, 0) ws) ws.length ws.length ws 0
theorem chkC_close' {o : Int} (h : 0 ≤ o) : chkC (List.replicate o.toNat 41) o = true := by
  have := chkC_close o.toNat
  rwa [Int.toNat_of_nonneg h] at this
theorem key_H {g : Front} {q : Int × Int} (x : FrontH g q) (lack : Nat) : keyA g lack = keyH q lack := by
  obtain ⟨e, h0, h1, hc⟩ := x
  rw [keyA, keyH, lackText, List.append_assoc, chkC_open, hc _ _ (by omega), e, Int.zero_add]
  by_cases k : (lack : Int) + q.2 < 0
  · rw [if_pos k, decide_eq_true k]; rfl
  · rw [if_neg k, decide_eq_false k, chkC_close' (by omega)]; rfl
theorem found_H {gs : List Front} {qs : List (Int × Int)} (x : FrontsH gs qs) (lack : Nat) : foundA gs lack = foundH qs lack := by
  rw [foundA, foundH, x.1]
  congr 1
  funext i
  exact key_H (x.2 i) lack
theorem raise_stop {gs : List Front} {ws : List Int} {k : Nat} (h : (raiseA gs ws k).2 = true) : ∀ j, raiseA gs ws (k + j) = raiseA gs ws k
  | 0 => rfl
  | j + 1 => by
    have ih := raise_stop h j
    rw [← Nat.add_assoc, raiseA, ih]; simp only [h, if_true]
theorem raise_H {gs : List Front} {qs : List (Int × Int)} (x : FrontsH gs qs) (ws : List Int) : ∀ f k, (raiseA gs ws k).2 = false → (raiseA gs ws (k + f)).1 = raiseH qs ws.length f (raiseA gs ws k).1 k
  | 0, k, _ => rfl
  | f + 1, k, h => by
    have e : raiseA gs ws (k + 1) = if foundH qs k > ws.length then ((raiseA gs ws k).1, true) else (lowered (raiseA gs ws k).1 (foundH qs k), false) := by
      rw [raiseA]; simp only [h, Bool.false_eq_true, if_false, found_H x k]
    rw [raiseH]
    by_cases hb : foundH qs k > ws.length
    · rw [if_pos hb] at e
      simp only [if_pos hb]
      rw [show k + (f + 1) = k + 1 + f by omega, raise_stop (by rw [e]), e]
    · rw [if_neg hb] at e
      simp only [if_neg hb]
      rw [show k + (f + 1) = k + 1 + f by omega, raise_H x ws f (k + 1) (by rw [e]), e]
theorem pass_H (low : Int) (ws : List Int) : passA low ws = passH low ws := by
  have := raise_H (fronts_H low ws) ws ws.length 0 rfl
  rw [Nat.zero_add] at this
  exact this
/-- the words of at most n letters -/
def wordsA : Nat → List (List Int)
  | 0 => [[]]
  | n + 1 => [] :: (wordsA n).flatMap fun w => [0 :: w, 1 :: w, 2 :: w]
theorem mem_wordsA : ∀ (n : Nat) (w : List Int), w.length ≤ n → (∀ x ∈ w, x = 0 ∨ x = 1 ∨ x = 2) → w ∈ wordsA n
  | 0, w, h, _ => by
    have : w = [] := List.length_eq_zero_iff.mp (by omega)
    rw [this]; exact .head _
  | n + 1, [], _, _ => .head _
  | n + 1, p :: w, h, hw => by
    refine .tail _ (List.mem_flatMap.mpr ⟨w, mem_wordsA n w (by simpa using h) (fun q hq => hw q (.tail _ hq)), ?_⟩)
    rcases hw p (.head _) with rfl | rfl | rfl <;> simp
def swapP (p : Int × Int) : Int × Int := (p.2, p.1)
def lawA1 (w : List Int) : Bool := decide (cellsOf false (w.map fun x => 2 - x) = (cellsOf true w).map swapP)
def lawA2 (order w : List Int) : Bool :=
  let r := order.foldl (fun w low => passH low w) w
  let q := (heightsUp 1 (0, 0) r).getD r.length (0, 0)
  decide (r = (cellsOf true w).map (·.2)) && ((!decide (q.2 < 0) && decide (q.1 = 0)) == decide (q.1 = 0))
def tailA : List Int := [2, 1, 1, 0, 2]
theorem lawA1_nil : lawA1 tailA = true := by decide +kernel
theorem lawA1_a : (wordsA 3).all (fun w => lawA1 (0 :: (w ++ tailA))) = true := by decide +kernel
theorem lawA1_b : (wordsA 3).all (fun w => lawA1 (1 :: (w ++ tailA))) = true := by decide +kernel
theorem lawA1_c : (wordsA 3).all (fun w => lawA1 (2 :: (w ++ tailA))) = true := by decide +kernel
theorem lawA2_nil : lawA2 [0, 1, 0] tailA = true := by decide +kernel
theorem lawA2_a : (wordsA 3).all (fun w => lawA2 [0, 1, 0] (0 :: (w ++ tailA))) = true := by decide +kernel
theorem lawA2_b : (wordsA 3).all (fun w => lawA2 [0, 1, 0] (1 :: (w ++ tailA))) = true := by decide +kernel
theorem lawA2_c : (wordsA 3).all (fun w => lawA2 [0, 1, 0] (2 :: (w ++ tailA))) = true := by decide +kernel
theorem lawA3_nil : lawA2 [1, 0, 1] tailA = true := by decide +kernel
theorem lawA3_a : (wordsA 3).all (fun w => lawA2 [1, 0, 1] (0 :: (w ++ tailA))) = true := by decide +kernel
theorem lawA3_b : (wordsA 3).all (fun w => lawA2 [1, 0, 1] (1 :: (w ++ tailA))) = true := by decide +kernel
theorem lawA3_c : (wordsA 3).all (fun w => lawA2 [1, 0, 1] (2 :: (w ++ tailA))) = true := by decide +kernel
theorem of_words {f : List Int → Bool} (hn : f tailA = true) (ha : (wordsA 3).all (fun w => f (0 :: (w ++ tailA))) = true) (hb : (wordsA 3).all (fun w => f (1 :: (w ++ tailA))) = true) (hc : (wordsA 3).all (fun w => f (2 :: (w ++ tailA))) = true)
    {w : List Int} (hl : w.length ≤ 4) (hw : ∀ x ∈ w, x = 0 ∨ x = 1 ∨ x = 2) : f (w ++ tailA) = true := by
  cases w with
  | nil => exact hn
  | cons c w =>
    have hm := mem_wordsA 3 w (by simpa using hl) fun q hq => hw q (.tail _ hq)
    rcases hw c (.head _) with rfl | rfl | rfl
    · exact List.all_eq_true.mp ha w hm
    · exact List.all_eq_true.mp hb w hm
    · exact List.all_eq_true.mp hc w hm
theorem chk_last (low : Int) (ws : List Int) : chkC (lastF (frontsUp low ws [] ws.length)).1 0 = (!decide (((heightsUp low (0, 0) ws).getD ws.length (0, 0)).2 < 0) && decide (((heightsUp low (0, 0) ws).getD ws.length (0, 0)).1 = 0)) ∧ (lastF (frontsUp low ws [] ws.length)).2 = ((heightsUp low (0, 0) ws).getD ws.length (0, 0)).1 := by
  have h := (fronts_H low ws).2 ws.length
  rw [fronts_get low ws _ _ (Nat.le_refl _)] at h
  obtain ⟨e, h0, h1, hc⟩ := h
  refine ⟨?_, e⟩
  have h2 := hc [] 0 (Int.le_refl _)
  rw [List.append_nil, Int.zero_add, Int.zero_add, chkC] at h2
  rw [h2]
  by_cases k : ((heightsUp low (0, 0) ws).getD ws.length (0, 0)).2 < 0
  · rw [if_pos k, decide_eq_true k]; rfl
  · rw [if_neg k, decide_eq_false k]; rfl
theorem word_mem (ns : List Int) : ∃ w : List Int, w.length ≤ 4 ∧ (∀ x ∈ w, x = 0 ∨ x = 1 ∨ x = 2) ∧ wordOf ns = w ++ tailA := by
  refine ⟨(ns.take 4).map fun n => Int.fmod n 3, by rw [List.length_map, List.length_take]; omega, fun x hx => ?_, ?_⟩
  · obtain ⟨n, _, rfl⟩ := List.mem_map.mp hx
    have h1 := Int.fmod_nonneg_of_pos n (b := 3) (by decide)
    have h2 := Int.fmod_lt_of_pos n (b := 3) (by decide)
    omega
  · rw [wordOf, numsOf, List.map_append]; rfl
/-- the plain law -/
structure PlainA (ns : List Int) : Prop where
  turned : cellsOf false ((wordOf ns).map fun x => 2 - x) = (cellsOf true (wordOf ns)).map swapP
  raised : raisedUp (orderOf ns) (signsOf ns) (wordOf ns) 3 = (cellsOf true (wordOf ns)).map (·.2)
  chk : checkP ⟨(lastF (frontsUp 1 (raisedUp (orderOf ns) (signsOf ns) (wordOf ns) 3) (signsOf ns) (wordOf ns).length)).1.toArray⟩ = decide ((lastF (frontsUp 1 (raisedUp (orderOf ns) (signsOf ns) (wordOf ns) 3) (signsOf ns) (wordOf ns).length)).2 = 0)
theorem plainA (ns : List Int) : PlainA ns := by
  obtain ⟨w, hl, hw, e⟩ := word_mem ns
  have h1 := of_words lawA1_nil lawA1_a lawA1_b lawA1_c hl hw
  have ho : ∃ o, orderOf ns = o ∧ o.length = 3 ∧ lawA2 o (w ++ tailA) = true := by
    unfold orderOf
    split
    · exact ⟨_, rfl, rfl, of_words lawA2_nil lawA2_a lawA2_b lawA2_c hl hw⟩
    · exact ⟨_, rfl, rfl, of_words lawA3_nil lawA3_a lawA3_b lawA3_c hl hw⟩
  obtain ⟨o, eo, ho, h2⟩ := ho
  rw [← e] at h1 h2
  have hr : raisedUp (orderOf ns) (signsOf ns) (wordOf ns) 3 = o.foldl (fun w low => passA low w) (wordOf ns) := by
    rw [eo]
    rcases raised_A (okP_signs ns) o (wordOf ns) 3 with e | e
    · rw [e, List.take_of_length_le (by omega)]
    · omega
  have hr : raisedUp (orderOf ns) (signsOf ns) (wordOf ns) 3 = o.foldl (fun w low => passH low w) (wordOf ns) := by
    rw [hr]; congr 1; funext w low; exact pass_H low w
  have h2 : decide (raisedUp (orderOf ns) (signsOf ns) (wordOf ns) 3 = (cellsOf true (wordOf ns)).map (·.2)) && (chkC (lastF (frontsUp 1 (raisedUp (orderOf ns) (signsOf ns) (wordOf ns) 3) [] (raisedUp (orderOf ns) (signsOf ns) (wordOf ns) 3).length)).1 0 == decide ((lastF (frontsUp 1 (raisedUp (orderOf ns) (signsOf ns) (wordOf ns) 3) [] (raisedUp (orderOf ns) (signsOf ns) (wordOf ns) 3).length)).2 = 0)) := by
    rw [(chk_last _ _).1, (chk_last _ _).2, hr]; exact h2
  simp only [Bool.and_eq_true, decide_eq_true_eq, beq_iff_eq] at h2
  have hl : (raisedUp (orderOf ns) (signsOf ns) (wordOf ns) 3).length = (wordOf ns).length := raisedUp_length _ _ _ _
  rw [hl] at h2
  refine ⟨of_decide_eq_true h1, h2.1, ?_⟩
  have hf := fronts_P (okP_signs ns) 1 (raisedUp (orderOf ns) (signsOf ns) (wordOf ns) 3) (wordOf ns).length
  have hlast : FrontP (lastF (frontsUp 1 (raisedUp (orderOf ns) (signsOf ns) (wordOf ns) 3) (signsOf ns) (wordOf ns).length)) (lastF (frontsUp 1 (raisedUp (orderOf ns) (signsOf ns) (wordOf ns) 3) [] (wordOf ns).length)) := by
    rw [lastF_getD, lastF_getD, hf.1]; exact hf.2 _
  obtain ⟨e2, cs, k1, k2, k3⟩ := hlast
  rw [k2, checkP_pieces cs k1, k3, e2]
  exact h2.2
end Mine
end
section
open PySem PySem.W PySem.W.X PyProof.Rows PyProof.V PySem.Spec PySem.SeqAt
set_option Elab.async false
set_option maxRecDepth 100000
set_option maxHeartbeats 4000000
namespace Mine
open PySem

theorem news_145 {h₀ h : Heap} {L : Addr} {a b c d e : Addr × Obj} (N : News h₀ L h [a, b, c, d, e]) : News h₀ L h [a, d, e] := news_sub N fun q hq => by
  simp only [List.mem_cons, List.not_mem_nil, or_false] at hq ⊢
  rcases hq with h | h | h <;> simp [h]
theorem news_2345 {h₀ h : Heap} {L : Addr} {a b c d e : Addr × Obj} (N : News h₀ L h ([a, b, c] ++ d :: [e])) : News h₀ L h [b, c, d, e] := news_sub N fun q hq => by
  simp only [List.cons_append, List.nil_append, List.mem_cons, List.not_mem_nil, or_false] at hq ⊢
  exact .inr hq
def cellD (p : Int × Int) : PyData := .tuple [.int p.1, .int p.2]
theorem cellsD_lay : ∀ ps : List (Int × Int), PyData.canLayAll0 (ps.map cellD) = true
  | [] => by simp [PyData.canLayAll0]
  | p :: ps => by simp [PyData.canLayAll0, PyData.canLay0, cellD, cellsD_lay ps]
theorem cellsD_depth : ∀ ps : List (Int × Int), PyData.depthAll (ps.map cellD) ≤ 2
  | [] => by simp [PyData.depthAll]
  | p :: ps => by
    have h1 := cellsD_depth ps
    simp only [List.map_cons, PyData.depthAll, PyData.depth, cellD]
    omega
theorem cellsD_shaped (ps : List (Int × Int)) : shaped (.list (ps.map cellD)) = true := by
  have h1 := cellsD_depth ps
  have h2 : PyData.depth (.list (ps.map cellD)) ≤ 64 := by simp only [PyData.depth]; omega
  show (PyData.canLay0 (.list (ps.map cellD)) && decide (PyData.depth (.list (ps.map cellD)) ≤ 64)) = true
  rw [Bool.and_eq_true]
  exact ⟨by simp only [PyData.canLay0]; exact cellsD_lay ps, decide_eq_true h2⟩
theorem cellsD_mix : ∀ ps qs : List (Int × Int), noMixAll (ps.map cellD) (qs.map cellD) = true
  | [], [] => by simp [noMixAll]
  | [], _ :: _ => by simp [noMixAll]
  | _ :: _, [] => by simp [noMixAll]
  | p :: ps, q :: qs => by simp [noMixAll, noMix, cellD, cellsD_mix ps qs]
theorem cells_readAll {h : Heap} {vs : List Value} {us : List (Int × Int)} (t : Two (TupV CellR h) vs us) : ∃ bs, ReadsAll h vs (us.map cellD) bs := by
  induction t with
  | nil => exact ⟨_, .nil⟩
  | cons e _ ih =>
    obtain ⟨bs, hb⟩ := ih
    obtain ⟨T, x, y, rfl, ⟨o, e1, e2, n, e3⟩, t1, t2, rfl, rfl⟩ := e
    exact ⟨_, .cons (.tuple e1 e2 e3 (.cons (.int _ _) (.cons (.int _ _) .nil))) hb⟩
theorem cells_reads {h : Heap} {a : Addr} {us : List (Int × Int)} (x : TupList CellR h a us) : ∃ bs, Reads h (.ref a) (.list (us.map cellD)) bs := by
  obtain ⟨vs, ⟨o, ho, hc, n, hd⟩, t⟩ := x
  obtain ⟨bs, hb⟩ := cells_readAll t
  exact ⟨_, Reads.list ho hc hd (by simpa using hb)⟩
theorem ne_cells {prog : Program} {w : World} {A : Around} {E : Value → Shared → Prop} {s : Shared} {a b : Addr} {us : List (Int × Int)} {Q : Value → Shared → Prop} (x : TupList CellR s.heap a us) (y : TupList CellR s.heap b us) (hu : A.units + 64 < cLine)
    (h : Q (.bool false) s) : wpAny (model prog w) A (compareOp .NotEq (.ref a) (.ref b)) Q E s := by
  obtain ⟨as, ra⟩ := cells_reads x
  obtain ⟨bs, rb⟩ := cells_reads y
  exact ne_dataH_same ra rb (cellsD_shaped us) (cellsD_shaped us) hu (by simp only [noMix]; exact cellsD_mix us us) (by rw [PySem.Spec.same_self]; exact h)
theorem allLt_of {d : Addr} : ∀ {l : List (Addr × Obj)}, (∀ p ∈ l, p.1 < d) → AllLt d l
  | [], _ => trivial
  | _ :: _, h => ⟨h _ (.head _), allLt_of fun p hp => h p (.tail _ hp)⟩
abbrev lA (a Nb Wd Sg Wi Dp : Addr) : List (Str × Option Value) := [("script", some (.ref a)), ("numbers", some (.ref Nb)), ("word", some (.ref Wd)), ("signs", some (.ref Sg)), ("wide", some (.ref Wi)), ("deep", some (.ref Dp))]
abbrev lN2 (a b : Str) (x y : Option Value) : List (Str × Option Value) := [(a, x), (b, y)]
abbrev lN1 (a : Str) (x : Option Value) : List (Str × Option Value) := [(a, x)]
section
theorem reset_LawA01 : True := by
  w_top off
  trivial
local macro_rules | `(tactic| walk_at "storeName") => `(tactic| (k_here; k_dflt (refine' stE ?k1 ?k2 ?_ ?k3 ?k4 ?k5; (case k1 => assumption); (case k2 => assumption); (case k3 => rfl); (case k4 => rfl); (case k5 => rfl); k_whole); intro h' F' N' hk'; (try dsimp only)))
local macro_rules | `(tactic| walk_at "call ref") => `(tactic| (refine Halt.mk ?_))
local macro_rules | `(tactic| walk_at "exec Assign cons ListComp") => `(tactic| (refine Halt.mk ?_))
local macro_rules | `(tactic| walk_at "eval ListComp") => `(tactic| (refine Halt.mk ?_))
local macro_rules | `(tactic| walk_at "eval IfExp") => `(tactic| (refine Halt.mk ?_))
local macro_rules | `(tactic| walk_at "eval Name") => `(tactic| ((with_reducible show wpAny _ _ (eval (Expr.Name _ _) (compEnvC _ _ _ _)) _ _ _); k_dflt (refine' nameCF ?F ?c ?e ?e2 ?_ ?a ?b ?d; (case F => assumption); (case c => rfl); (case e => assumption); (case e2 => assumption); (case a => rfl); (case b => rfl); (case d => decide); k_whole)))
local macro_rules | `(tactic| walk_at "eval Name") => `(tactic| ((with_reducible show wpAny _ _ (eval (Expr.Name _ _) (compEnvC _ _ _ _)) _ _ _); k_dflt (refine' nameC ?F ?c ?_ ?a ?b ?d; (case F => assumption); (case c => rfl); (case a => rfl); (case b => rfl); (case d => decide); k_whole)))
local macro_rules | `(tactic| walk_at "exec For") => `(tactic| (refine Halt.mk ?_))
local macro_rules | `(tactic| walk_at "exec For Name Call cons nil") => `(tactic| (refine Halt.mk ?_))
local macro_rules | `(tactic| walk_at "binaryOp Add ref ref") => `(tactic| (refine Halt.mk ?_))
local macro_rules | `(tactic| walk_at "newTuple") => `(tactic| (refine Halt.mk ?_))
local macro_rules | `(tactic| walk_at "unpackItems ref") => `(tactic| (refine Halt.mk ?_))
local macro_rules | `(tactic| walk_at "compareOp Eq ref ref") => `(tactic| (refine Halt.mk ?_))
local macro_rules | `(tactic| walk_at "compareOp NotEq ref ref") => `(tactic| (refine Halt.mk ?_))
local macro_rules | `(tactic| walk_at "assign Tuple") => `(tactic| (refine Halt.mk ?_))
local macro_rules | `(tactic| walk_at "subscriptTail") => `(tactic| ((with_reducible show wpAny _ _ (subscriptTail _ _ (Value.ref _) (Value.int _ _)) _ _ _); (refine Halt.mk ?_)))
local macro_rules | `(tactic| walk_at "subscriptTail Call UnaryOp ref int") => `(tactic| (refine Halt.mk ?_))
local macro_rules | `(tactic| walk_at "subscriptTail Name Slice ref ref") => `(tactic| (refine Halt.mk ?_))

theorem law01 : PySem.Challenge.rw_pg0117_01.Holds := hd (by
  k_fill
  intro w s₀ s₁ mg mb G Y fa o pm cd doc dV kV ho hd' hcd hD hmg hg args vals as hpre hlay hrd hwl hlo
  have KX := km_in_of Y
  km_tabs Y
  have X := (Ground.X G).1
  have V := (Ground.X G).2
  refine Ground.open G ?_
  intro T B D TE TW
  try (refine guard_noD D (by decide +kernel) ?_; clear D)
  km_lay T hmg ho hd' cd
  clear hmg
  wrow_args hpre hlay hrd hwl hlo
  all_goals (
    first | refine callC_kw (enter_call ?_) | refine enter_call ?_
    w_top on
    refine postT hT9 (fun _ _ => rfl) (postW_of rfl (w_eq_bool (w_res rfl) w_lit) rfl) hg ?_
    w_call any ho hd' hcd hD T F
    clear hd'
    kn_ghosts F T
    k_drop
    skip)
  rename Fr _ _ _ _ => F
  rename News _ _ _ _ => N
  rename IntsAre _ _ => hI
  rename Heap.IsList _ _ _ => hl
  rename Frag.In _ _ => X
  rename Top _ _ _ _ _ _ => T
  rename CodeHd _ _ _ => C
  rename List Int => ns
  rename List Value => sv
  rename ¬ (_ : Int) < _ => h63
  have hn63 : ns.length ≤ 63 := by omega
  rename _ = Data.cell _ => dH0
  rename Obj => oHid
  have dH : oHid.data = .cell none := dH0
  obtain ⟨aS, hl, F1⟩ : ∃ aS, (ghostOf s₁.heap [(73, 69)]).IsList aS sv.toArray ∧ Fr (ghostOf s₁.heap [(73, 69)]) s₁.heap.objs.size _ (mOf [("script", some (.ref aS))]) := ⟨_, hl, frTo F rfl⟩
  clear F G Y TE TW B V hD hT8
  have hgP : (ghostOf s₁.heap [(73, 69)]).get? 69 = none := hideAll_none _ (.head _)
  have hsvl : sv.length = ns.length := hI.length
  k_steps
  refine Halt.go (sliceV (ws := sv.take 4) F1 N (hl.at fun o e => F1.keep _ o e) .none (.int _ _) (by have := slicePick_upto' sv.toArray 4; simpa using this) (by omega) fun S h2 F2 N2 l2 => ?_)
  clear F1 N
  k_steps
  rename Fr _ _ _ _ => F3
  rename News _ _ _ _ => N3
  refine Halt.go (addL F3 N3 (isList_of (N3 _ (.tail _ (.head _))).1) (isList_of (N3 _ (.head _)).1) (by simp only [List.length_take, List.length_cons, List.length_nil]; omega) fun Nb h4 F4 N4 l4 => ?_)
  clear F3 N3
  k_steps
  rename Fr _ _ _ _ => F5
  rename News _ _ _ _ => N5
  obtain ⟨nv, hnI, N6⟩ : ∃ nv, IntsAre nv (numsOf ns) ∧ News (ghostOf s₁.heap [(73, 69)]) s₁.heap.objs.size _ [(Nb, W.listOf nv.toArray 0), (s₁.heap.objs.size + 1, oHid), (69, tabObj #[])] := by
    refine ⟨_, ?_, news_145 N5⟩
    exact (hI.take 4).append (.cons 17 _ (.cons 7 _ (.cons 4 _ (.cons 9 _ (.cons 2 _ .nil)))))
  have hnn : (numsOf ns).length ≤ 9 := by rw [numsOf, List.length_append, List.length_take]; simp only [List.length_cons, List.length_nil]; omega
  have hnvl : nv.length = (numsOf ns).length := hnI.length
  clear N5 N4 F4 l4 l2
  refine Halt.go (comp_assign [] rfl rfl (by decide) rfl (by decide) ?_)
  k_steps
  refine comp_listA (l := lN1 "number" none) (fun i ys l news => ∃ pv, l = lN1 "number" pv ∧ news = [] ∧ IntsAre ys (((numsOf ns).take i).map fun n => Int.fmod n 3) ∧ ys.length ≤ i) rfl F5 N6 (isList_of (N6 _ (.head _)).1) (by rw [hnvl, sizeLine_eq]; omega) (mOf_n1 _)
    ⟨none, rfl, rfl, .nil, Nat.le_refl _⟩ (fun i ys l news ⟨_, _, _, _, h⟩ => h) ?_ (by exact rfl) (by exact rfl) (by exact rfl) (by exact rfl) ?_
  · rintro C D i v ys k l₁ news₁ s₂ own hv ⟨pv', rfl, rfl, hys, hyl⟩ hsep hoD hnD hg₂ hos₂ F7 N7
    have hi : i < (numsOf ns).length := by have := (List.getElem?_eq_some_iff.mp hv).1; omega
    obtain ⟨t, hx⟩ := hnI.get i (numsOf ns)[i] (List.getElem?_eq_getElem hi)
    obtain rfl : v = .int (numsOf ns)[i] t := by rw [hv] at hx; exact Option.some.inj hx
    have hk : (numsOf ns)[i]? = some (numsOf ns)[i] := List.getElem?_eq_getElem hi
    generalize (numsOf ns)[i] = x at hk hx hv F7
    refine wpAny_tests_nil ?_
    rw [if_pos rfl]
    dsimp only at F7 N7
    clear F5 N6
    k_steps
    refine ⟨_, [], k, F7, N7, hsep, (fun _ h => nomatch h), hg₂, hos₂, _, rfl, rfl, ?_, ?_⟩
    · rw [take_succ_of hk, List.map_append]
      exact ints_snoc hys _ _
    · rw [List.length_append, List.length_singleton]; omega
  rintro Wd k wv l₁ newc s7 ⟨pv', rfl, rfl, hwI, _⟩ hg7 hos7 F7 N7 hk7 hn7
  rw [hnvl, List.take_length] at hwI
  have hwI : IntsAre wv (wordOf ns) := hwI
  clear F5 N6
  k_steps
  rename_i Hl _ _ _ _ h9 oH F9 N9 dH9
  have hHl : TextList h9 Hl hiddenA := ⟨[_, _, _, _, _, _], isList_of (N9 _ (List.mem_append_left _ (.head _))).1, .cons (c := [34, 40, 34]) rfl (.cons (c := [34, 41, 34]) rfl (.cons (c := [92, 40]) rfl (.cons (c := [92, 41]) rfl (.cons (c := [92, 34]) rfl (.cons (c := [92, 92]) rfl .nil)))))⟩
  have N10 := news_2345 N9
  have gH := (N10 _ (.tail _ (.tail _ (.head _)))).1
  clear N9
  refine Halt.go (comp_assign [("hidden", s₁.heap.objs.size + 1)] rfl rfl (by decide) rfl (by decide) ?_)
  k_steps
  refine comp_listA (l := lN1 "number" none) (fun i ys l news => ∃ pv, l = lN1 "number" pv ∧ news = [] ∧ Texts ys (((numsOf ns).take i).map signOf) ∧ ys.length ≤ i) rfl F9 N10 (isList_of (N10 _ (.tail _ (.head _))).1) (by rw [hnvl, sizeLine_eq]; omega) (mOf_n1 _)
    ⟨none, rfl, rfl, .nil, Nat.le_refl _⟩ (fun i ys l news ⟨_, _, _, _, h⟩ => h) ?_ (by exact rfl) (by exact rfl) (by exact rfl) (by exact rfl) ?_
  · rintro C D i v ys k l₁ news₁ s₂ own hv ⟨pv', rfl, rfl, hys, hyl⟩ hsep hoD hnD hg₂ hos₂ F11 N11
    have hi : i < (numsOf ns).length := by have := (List.getElem?_eq_some_iff.mp hv).1; omega
    obtain ⟨t, hx⟩ := hnI.get i (numsOf ns)[i] (List.getElem?_eq_getElem hi)
    obtain rfl : v = .int (numsOf ns)[i] t := by rw [hv] at hx; exact Option.some.inj hx
    have hk : (numsOf ns)[i]? = some (numsOf ns)[i] := List.getElem?_eq_getElem hi
    generalize (numsOf ns)[i] = x at hk hx hv F11
    have hd6 : 0 ≤ ((x.fdiv 3).fmod 6) ∧ ((x.fdiv 3).fmod 6) < 6 := ⟨Int.fmod_nonneg_of_pos _ (by omega), Int.fmod_lt_of_pos _ (by omega)⟩
    refine wpAny_tests_nil ?_
    rw [if_pos rfl]
    dsimp only at F11 N11
    clear F9 N10
    k_steps
    refine Halt.go (itemT (k := ((x.fdiv 3).fmod 6).toNat) (hHl.keep F11.keep) (by show _ < 6; omega) (by decide) (by omega) fun t' => ?_)
    k_steps
    refine ⟨_, [], k, F11, N11, hsep, (fun _ h => nomatch h), hg₂, hos₂, _, rfl, rfl, ?_, ?_⟩
    · rw [take_succ_of hk, List.map_append]
      exact hys.push rfl
    · rw [List.length_append, List.length_singleton]; omega
  rintro Sg k₂ zv l₁ newc s12 ⟨pv', rfl, rfl, hzT, _⟩ hg12 hos12 F12 N12 hk12 hn12
  rw [hnvl, List.take_length] at hzT
  have hzT : Texts zv (signsOf ns) := hzT
  clear F9 N10
  have hWn : (wordOf ns).length ≤ 9 := by rw [wordOf, List.length_map]; exact hnn
  have hwvl : wv.length = (wordOf ns).length := hwI.length
  k_steps
  refine Halt.go (cells_call (bb := true) (X.keeps F12.keep) (T.keeps F12.keep) rfl (by show 1 + claimMargin + 1 + 2 < recursionLimit; decide +kernel) (by show 4 + 3 + 200 < cLine; decide) ⟨wv, isList_of (N12 _ (.tail _ (.head _))).1, hwI⟩ (by omega) fun Wi s13 vi ni ti K13 hn13 ht13 => ?_)
  obtain ⟨F13, N13⟩ := outNews F12 N12 K13.heap hn13
  have hPi : ∀ p ∈ (Wi, W.listOf vi.toArray ni) :: ti, p.1 ≠ 69 := fun p hp q => by
    have e := (hn13 p hp).2
    rw [q, (N12 (69, tabObj #[]) (by simp)).1] at e; cases e
  have N14 : News (ghostOf s₁.heap [(73, 69)]) s₁.heap.objs.size s13.heap ((Wd, W.listOf wv.toArray k) :: (Sg, W.listOf zv.toArray k₂) :: (69, tabObj #[]) :: (Wi, W.listOf vi.toArray ni) :: ti) := news_sub N13 fun q hq => by
    simp only [List.mem_cons] at hq
    rcases hq with h | h | h | h | h <;> simp [h]
  have hPd : Wd ≠ 69 := fun q => by
    have e := (N14 (Wd, W.listOf wv.toArray k) (by simp)).1
    rw [q, (N14 (69, tabObj #[]) (by simp)).1] at e; cases e
  have hPs : Sg ≠ 69 := fun q => by
    have e := (N14 (Sg, W.listOf zv.toArray k₂) (by simp)).1
    rw [q, (N14 (69, tabObj #[]) (by simp)).1] at e; cases e
  have hvil : vi.length = (cellsOf true (wordOf ns)).length := ht13.length
  have hcl : ∀ b (ws : List Int), (cellsOf b ws).length ≤ ws.length := cells_len
  have hcw := hcl true (wordOf ns)
  clear N13 N12 F12 hk12 hn12 hn13
  k_steps
  rename_i h15 F15 N15 _
  refine Halt.go (comp_eval [] rfl (by decide) rfl (by decide) ?_)
  k_steps
  refine comp_list (l := lN1 "letter" none) (fun i ys l news => ∃ pv, l = lN1 "letter" pv ∧ news = [] ∧ IntsAre ys (((wordOf ns).take i).map fun x => 2 - x) ∧ ys.length ≤ i) rfl (isList_of (N15 _ (.head _)).1) (by rw [hwvl, sizeLine_eq]; omega) (mOf_n1 _)
    ⟨none, rfl, rfl, .nil, Nat.le_refl _⟩ (fun i ys l news ⟨_, _, _, _, h⟩ => h) ?_ ?_ rfl rfl
  · rintro C D i v ys k l₁ news₁ s₂ own hv ⟨pv', rfl, rfl, hys, hyl⟩ hsep hoD hnD hg₂ hos₂ F16 N16
    have hi : i < (wordOf ns).length := by have := (List.getElem?_eq_some_iff.mp hv).1; omega
    obtain ⟨t, hx⟩ := hwI.get i (wordOf ns)[i] (List.getElem?_eq_getElem hi)
    obtain rfl : v = .int (wordOf ns)[i] t := by rw [hv] at hx; exact Option.some.inj hx
    have hk : (wordOf ns)[i]? = some (wordOf ns)[i] := List.getElem?_eq_getElem hi
    generalize (wordOf ns)[i] = x at hk hx hv F16
    refine wpAny_tests_nil ?_
    rw [if_pos rfl]
    dsimp only at F16 N16
    clear F15 N15
    k_steps
    refine ⟨_, [], k, F16, N16, hsep, (fun _ h => nomatch h), hg₂, hos₂, _, rfl, rfl, ?_, ?_⟩
    · rw [take_succ_of hk, List.map_append]
      exact ints_snoc hys _ _
    · rw [List.length_append, List.length_singleton]; omega
  rintro Dl kd dv l₁ newc s16 ⟨pv', rfl, rfl, hdI, _⟩ hg16 hos16 hk16 hn16
  rw [hwvl, List.take_length] at hdI
  obtain ⟨F16, N16⟩ := outNews F15 N15 hk16 hn16
  clear F15 N15 hn16
  have hpl := plainA ns
  k_steps
  refine Halt.go (cells_call (bb := false) (X.keeps F16.keep) (T.keeps F16.keep) rfl (by show 1 + claimMargin + 1 + 2 < recursionLimit; decide +kernel) (by show 4 + 3 + 200 < cLine; decide) ⟨dv, isList_of (N16 _ (.head _)).1, hdI⟩ (by rw [List.length_map]; omega) fun Dp s17 vd nd td K17 hn17 ht17 => ?_)
  obtain ⟨F17, N17⟩ := outNews F16 N16 K17.heap hn17
  rw [hpl.turned] at ht17
  have N18 : News (ghostOf s₁.heap [(73, 69)]) s₁.heap.objs.size s17.heap ((Wd, W.listOf wv.toArray k) :: (Sg, W.listOf zv.toArray k₂) :: (69, tabObj #[]) :: (Wi, W.listOf vi.toArray ni) :: (Dp, W.listOf vd.toArray nd) :: (ti ++ td)) := news_sub N17 fun q hq => by
    simp only [List.mem_cons, List.mem_append] at hq
    rcases hq with h | h | h | h | h | h | h <;> simp [h]
  clear N17 N16 F16 hn17 hk16
  k_steps
  rename_i h19 F19 N19 _
  have w19 : Two (TupV CellR h19) vi (cellsOf true (wordOf ns)) := ht13.mono fun v u e => (e.more fun p hp => by simp [hp]).to N19
  have hvd : vd.length ≤ 9 := by rw [ht17.length, List.length_map]; omega
  refine Halt.go (comp_eval [] rfl (by decide) rfl (by decide) ?_)
  k_steps
  refine comp_pairs (l := lN2 "row" "column" none none) (fun i ys l news => ∃ rv cv, l = lN2 "row" "column" rv cv ∧ Two (TupIn CellR news) ys (((cellsOf true (wordOf ns)).take i).map swapP) ∧ ys.length ≤ i) rfl rfl (isList_of (N19 _ (.tail _ (.tail _ (.tail _ (.head _))))).1) w19.refs (by rw [hvil, sizeLine_eq]; omega) (mOf_n2 _ _)
    ⟨none, none, rfl, .nil, Nat.le_refl _⟩ (fun i ys l news ⟨_, _, _, _, h⟩ => h) ?_ ?_
  · rintro C D i v ys k l₁ news₁ s₂ own hv ⟨rv, cv, rfl, htx, hyl⟩ hsep hoD hnD hg₂ hos₂ F20 N20
    obtain ⟨u, hui, T₂, x, y, rfl, ⟨o, e, e2⟩, t1, t2, rfl, rfl⟩ := w19.at hv
    refine assignLL rfl F20 N20 ⟨o, F20.keep _ _ e, e2⟩ (fun h' F21 N21 => ?_) rfl rfl rfl rfl
    refine wpAny_tests_nil ?_
    rw [if_pos rfl]
    clear F20 N20 F19 N19
    k_steps
    refine Halt.go (kup_newTuple F21 N21 (fun Tn h22 F22 N22 l22 => ?_) (by simp [sizeLine_eq]))
    k_steps
    refine TurnC_tup F22 N22 ⟨l22 _ (.head _), ?_⟩ hsep hnD hg₂ hos₂ ⟨_, _, rfl, ?_, ?_⟩
    · exact allLt_of fun p hp => l22 p (.tail _ hp)
    · rw [take_succ_of hui, List.map_append]
      exact (htx.mono fun v u e => e.more fun p hp => .tail _ hp).snoc ⟨Tn, _, _, _, rfl, .head _, _, _, rfl, rfl⟩
    · rw [List.length_append, List.length_singleton]; omega
  rintro Sw ks sv2 l₁ newc s23 ⟨rv, cv, rfl, hswI, _⟩ hg23 hos23 hk23 hn23
  rw [hvil, List.take_length] at hswI
  obtain ⟨F23, N23⟩ := outNews F19 N19 hk23 hn23
  have tSw : TupList CellR s23.heap Sw ((cellsOf true (wordOf ns)).map swapP) := ⟨sv2, isList_of (N23 _ (.head _)).1, hswI.mono fun v u e => (e.more fun p hp => by simp [hp]).to N23⟩
  have tDp : TupList CellR s23.heap Dp ((cellsOf true (wordOf ns)).map swapP) := ⟨vd, isList_of (N23 (Dp, W.listOf vd.toArray nd) (by simp)).1, ht17.mono fun v u e => (e.more fun p hp => by simp [hp]).to N23⟩
  have N24 : News (ghostOf s₁.heap [(73, 69)]) s₁.heap.objs.size s23.heap ((Wd, W.listOf wv.toArray k) :: (Sg, W.listOf zv.toArray k₂) :: (69, tabObj #[]) :: (Wi, W.listOf vi.toArray ni) :: ti) := news_sub N23 fun q hq => by
    simp only [List.mem_cons] at hq
    rcases hq with h | h | h | h | h <;> simp [h]
  clear F19 N19 N18 F17 N23 hn23 hk23 w19
  k_steps
  refine Halt.go (ne_cells tDp tSw (by show 4 + 3 + 64 < cLine; decide) ?_)
  clear tDp tSw
  k_steps
  have F24 : Fr (ghostOf s₁.heap [(73, 69)]) s₁.heap.objs.size s23.heap (mOf (lA aS Nb Wd Sg Wi Dp)) := F23
  clear F23
  refine Halt.go (wpAny_mono (Q := fun v s' => Halt (∃ O vals n, v = .ref O ∧ s'.gens = s23.gens ∧ s'.os = s23.os ∧ Fr (ghostOf s₁.heap [(73, 69)]) s₁.heap.objs.size s'.heap (mOf (lA aS Nb Wd Sg Wi Dp)) ∧ News (ghostOf s₁.heap [(73, 69)]) s₁.heap.objs.size s'.heap ((O, W.listOf (vals : List Value).toArray n) :: (Wd, W.listOf wv.toArray k) :: (Sg, W.listOf zv.toArray k₂) :: (69, tabObj #[]) :: (Wi, W.listOf vi.toArray ni) :: ti) ∧ (∀ p ∈ (Wd, W.listOf wv.toArray k) :: (Sg, W.listOf zv.toArray k₂) :: (69, tabObj #[]) :: (Wi, W.listOf vi.toArray ni) :: ti, p.1 < O) ∧ IntsAre vals (orderOf ns))) ?_ (fun v s' h => ?_) fun _ _ x => x)
  · refine IfExp_ ?_
    k_steps
    all_goals rename_i hf O hO FO NO lO
    all_goals refine Halt.go ⟨O, _, _, rfl, rfl, rfl, FO, NO, allLt_at lO, ?_⟩
    · rw [orderOf, if_pos hf]; exact .cons 0 _ (.cons 1 _ (.cons 0 _ .nil))
    · rw [orderOf, if_neg hf]; exact .cons 1 _ (.cons 0 _ (.cons 1 _ .nil))
  obtain ⟨O, ov, on, rfl, hg25, hos25, F25, N25, lO, hoI⟩ := h
  have hsl : ∀ c ∈ signsOf ns, c.length ≤ 10 := fun c hc => by
    obtain ⟨n, _, rfl⟩ := List.mem_map.mp hc
    have := (okP_hidden (Int.fmod (Int.fdiv n 3) 6).toNat).1
    rw [signOf]
    generalize hiddenA.getD (Int.fmod (Int.fdiv n 3) 6).toNat [] = x at this
    cases this <;> simp
  have hsn : (signsOf ns).length = (wordOf ns).length := by rw [signsOf, wordOf, List.length_map, List.length_map]
  have ho3 : (orderOf ns).length = 3 := by unfold orderOf; split <;> rfl
  have hPL : 69 ≠ s₁.heap.objs.size := (N25 (69, tabObj #[]) (by simp)).2.1
  clear F24 N24
  k_steps
  rename_i h26 F26 N26 hk26
  have P26 := (N26 (69, tabObj #[]) (by simp)).1
  refine Halt.go (raised_call X T C F26.keep hgP P26 rfl (by show 1 + claimMargin + 1 + 10 < recursionLimit; decide +kernel) (by show 4 + 3 + 500 < cLine; decide) ⟨wv, isList_of (N26 (Wd, W.listOf wv.toArray k) (by simp)).1, hwI⟩ ⟨zv, isList_of (N26 (Sg, W.listOf zv.toArray k₂) (by simp)).1, hzT⟩ ⟨ov, isList_of (N26 _ (.head _)).1, hoI⟩ (by omega) hsn hsl fun Rb s27 K27 hT27 hnR hR => ?_)
  rw [ho3] at hR
  obtain ⟨tab, hT27⟩ := hT27
  obtain ⟨rvs, ⟨oR, eR, cR, nR, dR⟩, rI⟩ := hR
  have hrl : (raisedUp (orderOf ns) (signsOf ns) (wordOf ns) 3).length = (wordOf ns).length := raisedUp_length _ _ _ _
  have F27 : Fr (ghostOf s₁.heap [(73, 69)]) s₁.heap.objs.size s27.heap _ := ⟨F26.ns.at' fun o e => K27.heap _ o (Ne.symm hPL) e, fun b o e => K27.heap b o (fun q => by rw [q, hgP] at e; cases e) (F26.keep b o e), F26.above⟩
  have N27 : News (ghostOf s₁.heap [(73, 69)]) s₁.heap.objs.size s27.heap ((Rb, oR) :: (69, tabObj tab) :: (Sg, W.listOf zv.toArray k₂) :: (Wi, W.listOf vi.toArray ni) :: ti) := fun q hq => by
    rcases List.mem_cons.mp hq with rfl | hq
    · refine ⟨eR, fun e => ?_, ?_⟩
      · obtain ⟨oL, _, _, f1, _⟩ := F26.ns
        have hnR : h26.get? Rb = none := hnR
        have e : Rb = s₁.heap.objs.size := e
        rw [e] at hnR
        exact absurd (hnR.symm.trans f1) (by simp)
      · cases e : (ghostOf s₁.heap [(73, 69)]).get? Rb with
        | none => rfl
        | some o =>
          have hnR : h26.get? Rb = none := hnR
          have := F26.keep _ _ e
          rw [hnR] at this; cases this
    · rcases List.mem_cons.mp hq with rfl | hq
      · exact ⟨hT27, hPL, hgP⟩
      · have hm : q ∈ (O, W.listOf ov.toArray on) :: (Wd, W.listOf wv.toArray k) :: (Sg, W.listOf zv.toArray k₂) :: (69, tabObj #[]) :: (Wi, W.listOf vi.toArray ni) :: ti := by
          rcases List.mem_cons.mp hq with rfl | hq
          · simp
          · simp [List.mem_cons.mp hq]
        refine ⟨K27.heap _ _ ?_ (N26 q hm).1, (N26 q hm).2⟩
        rcases List.mem_cons.mp hq with rfl | hq
        · exact hPs
        · exact hPi q hq
  clear F26 N26 hk26 N25 F25 hnR hT27 eR
  k_steps
  rename_i h28 F28 N28 hk28
  have iR : IntList h28 Rb (raisedUp (orderOf ns) (signsOf ns) (wordOf ns) 3) := ⟨rvs, ⟨oR, (N28 _ (.head _)).1, cR, nR, dR⟩, rI⟩
  refine Halt.go (fronts_call (X.keeps F28.keep) (T.keeps F28.keep) rfl (by show 1 + claimMargin + 1 + 2 < recursionLimit; decide +kernel) (by show 4 + 3 + 200 < cLine; decide) iR ⟨zv, isList_of (N28 (Sg, W.listOf zv.toArray k₂) (by simp)).1, hzT⟩ (by omega) (by omega) hsl fun Fo s29 fv nf tf K29 hn29 ht29 => ?_)
  obtain ⟨F29, N29⟩ := outNews F28 N28 K29.heap hn29
  clear F28 N28 hk28 hn29 iR
  k_steps
  rw [hrl] at ht29
  have hlast := lastF_mem 1 (raisedUp (orderOf ns) (signsOf ns) (wordOf ns) 3) (signsOf ns) (wordOf ns).length
  have hfl := frontsUp_length 1 (raisedUp (orderOf ns) (signsOf ns) (wordOf ns) 3) (signsOf ns) (wordOf ns).length
  have hsm := frontsUp_small (low := 1) (ws := raisedUp (orderOf ns) (signsOf ns) (wordOf ns) 3) hsl (wordOf ns).length _ (List.mem_of_getElem? hlast)
  have hchk := hpl.chk
  obtain ⟨vL, hvL, TL, xL, yL, mL, rfl, hmL, t1, t2, rfl, rfl⟩ := ht29.get hlast
  have hfvl : fv.length = (wordOf ns).length + 1 := by rw [ht29.length, hfl]
  generalize lastF (frontsUp 1 (raisedUp (orderOf ns) (signsOf ns) (wordOf ns) 3) (signsOf ns) (wordOf ns).length) = f at *
  refine Halt.go (itemNeg (isList_of (N29 _ (.head _)).1) (by decide) (by omega) (by decide) (by rw [hfvl, show ((-1 : Int) + (((wordOf ns).length + 1 : Nat) : Int)).toNat = (wordOf ns).length by omega]; exact hvL) ?_)
  k_steps
  refine Halt.go (assignLL rfl F29 N29 ⟨_, (N29 _ (List.mem_append_left _ (List.mem_cons_of_mem _ hmL))).1, rfl, _, rfl⟩ (fun h30 F30 N30 => ?_) rfl rfl rfl rfl)
  have N31 : News (ghostOf s₁.heap [(73, 69)]) s₁.heap.objs.size h30 ((Rb, oR) :: (69, tabObj tab) :: (Wi, W.listOf vi.toArray ni) :: ti) := news_sub N30 fun q hq => by
    simp only [List.mem_cons] at hq
    rcases hq with h | h | h | h <;> simp [h]
  clear F29 N29 N30
  k_steps
  refine Halt.go (check_call (X.keeps F30.keep) (T.keeps F30.keep) rfl (by show 1 + claimMargin + 1 + 2 < recursionLimit; decide +kernel) (by show 4 + 3 + 200 < cLine; decide) (by simp only [Str.length, List.size_toArray]; omega) fun s32 K32 => ?_)
  have F32 := K32.fr F30
  have N32 := K32.news N31
  clear F30 N31
  rw [hchk]
  have hne : ((decide (f.2 = 0) == true) != (f.2 == 0)) = false := by by_cases h : f.2 = 0 <;> simp [h]
  have w32 : Two (TupV CellR s32.heap) vi (cellsOf true (wordOf ns)) := ht13.mono fun v u e => (e.more fun p hp => by simp [hp]).to N32
  k_steps
  refine Halt.go (comp_eval [] rfl (by decide) rfl (by decide) ?_)
  k_steps
  refine comp_pairs (l := lN2 "row" "column" none none) (fun i ys l news => ∃ rv cv, l = lN2 "row" "column" rv cv ∧ news = [] ∧ IntsAre ys (((cellsOf true (wordOf ns)).take i).map (·.2)) ∧ ys.length ≤ i) rfl rfl (isList_of (N32 _ (.tail _ (.tail _ (.head _)))).1) w32.refs (by rw [hvil, sizeLine_eq]; omega) (mOf_n2 _ _)
    ⟨none, none, rfl, rfl, .nil, Nat.le_refl _⟩ (fun i ys l news ⟨_, _, _, _, _, h⟩ => h) ?_ ?_
  · rintro C D i v ys k l₁ news₁ s₂ own hv ⟨rv, cv, rfl, rfl, hys, hyl⟩ hsep hoD hnD hg₂ hos₂ F20 N20
    obtain ⟨u, hui, T₂, x, y, rfl, ⟨o, e, e2⟩, t1, t2, rfl, rfl⟩ := w32.at hv
    refine assignLL rfl F20 N20 ⟨o, F20.keep _ _ e, e2⟩ (fun h' F21 N21 => ?_) rfl rfl rfl rfl
    refine wpAny_tests_nil ?_
    rw [if_pos rfl]
    clear F20 N20 F32 N32
    k_steps
    refine ⟨_, [], k, F21, N21, hsep, (fun _ h => nomatch h), hg₂, hos₂, _, _, rfl, rfl, ?_, ?_⟩
    · rw [take_succ_of hui, List.map_append]
      exact ints_snoc hys _ _
    · rw [List.length_append, List.length_singleton]; omega
  rintro Cw kc cw l₁ newc s33 ⟨rv, cv, rfl, rfl, hcI, _⟩ hg33 hos33 hk33 hn33
  rw [hvil, List.take_length] at hcI
  obtain ⟨F33, N33⟩ := outNews F32 N32 hk33 hn33
  clear F32 N32 hn33 hk33 w32
  k_steps
  refine Halt.go (eq_intsK ⟨oR, (N33 (Rb, oR) (by simp)).1, cR, nR, dR⟩ rI (isList_of (N33 _ (.head _)).1) hcI (by show 4 + 3 + 64 < cLine; decide) ?_)
  rw [decide_eq_true hpl.raised]
  have g27 : GensGrow s23.gens s27.gens := by rw [← hg25]; exact K27.gens
  k_steps
  · exact hos33.trans (K32.os.trans (K29.os.trans (K27.os.trans (hos25.trans (hos23.trans (K17.os.trans (hos16.trans (K13.os.trans (hos12.trans hos7)))))))))
  · exact hg7.trans (hg12.trans (K13.gens.trans (hg16.trans (K17.gens.trans (hg23.trans (g27.trans (K29.gens.trans (K32.gens.trans hg33)))))))))
end
end Mine
end
theorem PySem.Challenge.cw_pg0117_01_holds : PySem.Challenge.rw_pg0117_01.Holds :=
  Mine.law01
