/- What meets the conditions of VcCore meets the model's own triples. -/
import Derived.Test.YtjlaclgikmmmlaaVcCore
namespace Go.Vc
variable {P : Program}

theorem mapTA {α β : Type} (f : α → β) (c : Array α) : (c.toList.map f).toArray = c.map f := by
  rw [← Array.toList_map]

theorem up_val {o : Oper} {a : Act} {next : Act → World → Prop} {Q : Exit → Act → World → Prop} {K : Value → World → Prop} {Kp : KP} {w : World} (s : Sem Value)
    (h : outOf P s w K Kp) (hK : ∀ v w', K v w' → next (a.put o.dst v) w') (hp : ∀ ch w', Kp ch w' → Q (.panic ch) a w') :
    o.upon P a next Q ((do pure (Next.value (← s)) : Sem Next).run P w) := by
  unfold outOf at h
  simp only [Sem.run_bind]
  cases hr : s.run P w with
  | ok v w' => rw [hr] at h; simpa [Oper.upon] using hK _ _ h
  | halt x w' => rw [hr] at h; cases x <;> simp_all [Oper.upon, Result.andThen]

theorem up_skip {o : Oper} {a : Act} {next : Act → World → Prop} {Q : Exit → Act → World → Prop} {K : Value → World → Prop} {Kp : KP} {w : World} (s : Sem Unit)
    (h : outOf P (do s; pure undef) w K Kp) (hK : ∀ v w', K v w' → next (a.put o.dst v) w') (hp : ∀ ch w', Kp ch w' → Q (.panic ch) a w') :
    o.upon P a next Q ((do s; pure Next.skip : Sem Next).run P w) := by
  unfold outOf at h
  simp only [Sem.run_bind] at h ⊢
  cases hr : s.run P w with
  | ok v w' => rw [hr] at h; simpa [Oper.upon] using hK _ _ h
  | halt x w' => rw [hr] at h; cases x <;> simp_all [Oper.upon, Result.andThen]

theorem up_call {o : Oper} {a : Act} {next : Act → World → Prop} {Q : Exit → Act → World → Prop} {K : Value → World → Prop} {Kp : KP} {w : World} (s : Sem Next)
    (h : callOut P s w K Kp) (hK : ∀ v w', K v w' → next (a.put o.dst v) w') (hp : ∀ ch w', Kp ch w' → Q (.panic ch) a w') :
    o.upon P a next Q (s.run P w) := by
  unfold callOut at h
  cases hr : s.run P w with
  | ok v w' =>
    rw [hr] at h
    cases v <;> simp_all [Oper.upon]
    exact h.mono fun e w'' he => by
      cases e with
      | returned v => exact hK _ _ he
      | panicked ch => exact hp _ _ he
      | outgrown => exact he.elim
  | halt x w' => rw [hr] at h; cases x <;> simp_all [Oper.upon]

theorem nil_run {x : Value} {w : World} {K : Value → World → Prop} {Kp : KP} (h : outOf P (nilSem x) w K Kp) :
    outOf P (nilSem x) w K Kp ∧ ∀ fn f c, x ≠ .func (.method fn) f c := by
  refine ⟨h, fun fn f c he => ?_⟩
  subst he
  simp [outOf, nilSem, stuck] at h

theorem eqGuard_opd (op : BinOp) (t : TypeId) (x y : Operand) (a b : Value) : eqGuard op t x y a b = eqGuard op t (opd (isConst x)) (opd (isConst y)) a b := by
  cases x <;> cases y <;> rfl

theorem opV_sound {o : Oper} {a : Act} {next : Act → World → Prop} {Q : Exit → Act → World → Prop} {K : Value → World → Prop} {Kp : KP} {w : World} {x : VOp} {ρ : Operand → Value}
    (hρ : execOp a.eval o = execOp ρ o) (hx : toV ρ o.type o.op = some x) (h : outOf P x.sem w K Kp) (hK : ∀ v w', K v w' → next (a.put o.dst v) w') (hp : ∀ ch w', Kp ch w' → Q (.panic ch) a w') :
    o.wp P a w next Q := by
  unfold Oper.wp
  rw [hρ]
  clear hρ
  unfold execOp
  obtain ⟨dst, op, ty, pos, after, guard⟩ := o
  cases op with
  | nilCheck v =>
    simp only [toV, Option.some.injEq] at hx
    subst hx
    obtain ⟨h, hn⟩ := nil_run h
    have hs : nilSem (ρ v) = nilSem (ρ v) := rfl
    have key : ∀ y : Value, (∀ fn f c, y ≠ .func (.method fn) f c) → outOf P (nilSem y) w K Kp →
      Oper.upon P { dst := dst, op := .nilCheck v, type := ty, pos := pos, after := after, guard := guard } a next Q ((do pure (Next.value (← nilSem y)) : Sem Next).run P w) := fun y _ hy => up_val _ hy hK hp
    have := key _ hn h
    dsimp only
    generalize ρ v = y at *
    cases y with
    | pointer p => cases p <;> exact this
    | func fn f c => cases fn <;> first | exact absurd rfl (hn _ _ _) | exact this
    | _ => exact this
  | call c =>
    simp only [toV] at hx
    cases hc : c.callee with
    | builtin b =>
      rw [hc] at hx
      simp only [Option.some.injEq] at hx
      subst hx
      simp only [resolve, hc, invoke]
      simp only [VOp.sem] at h
      have e1 : (c.args.toList.map ρ).toArray = c.args.map ρ := mapTA _ _
      have e2 : c.argTypes.toList.toArray = c.argTypes := by simp
      rw [e1, e2] at h
      have h' := up_val (P := P) (o := { dst := dst, op := .call c, type := ty, pos := pos, after := after, guard := guard }) (a := a) (next := next) (Q := Q) _ h hK hp
      cases b <;> first | exact h' | (exfalso; simp [outOf, bltSem, stuck] at h)
    | value f => rw [hc] at hx; simp at hx
    | invoke r n => rw [hc] at hx; simp at hx
  | binOp op t x y yt =>
    simp only [toV, Option.some.injEq] at hx
    subst hx
    simp only [VOp.sem] at h
    rw [← eqGuard_opd] at h
    exact up_val _ h hK hp
  | build t ps =>
    simp only [toV, Option.some.injEq] at hx
    subst hx
    refine up_val _ ?_ hK hp
    have : (ps.toList.map fun p => (p.1, ρ p.2)).toArray = ps.map fun (i, x) => (i, ρ x) := mapTA _ _
    rw [← this]; exact h
  | buildSlice t n ps =>
    simp only [toV, Option.some.injEq] at hx
    subst hx
    refine up_val _ ?_ hK hp
    have : (ps.toList.map fun p => (p.1, ρ p.2)).toArray = ps.map fun (i, x) => (i, ρ x) := mapTA _ _
    rw [← this]; exact h
  | makeFunc fn first cap =>
    simp only [toV, Option.some.injEq] at hx
    subst hx
    refine up_val _ ?_ hK hp
    have e1 : (first.toList.map ρ).toArray = first.map ρ := mapTA _ _
    have e2 : (cap.toList.map ρ).toArray = cap.map ρ := mapTA _ _
    rw [← e1, ← e2]; exact h
  | _ =>
    first
    | (simp only [toV, Option.some.injEq] at hx; subst hx; first | exact up_val _ h hK hp | exact up_skip _ h hK hp)
    | (simp [toV] at hx)

theorem callV_sound {o : Oper} {a : Act} {next : Act → World → Prop} {Q : Exit → Act → World → Prop} {K : Value → World → Prop} {Kp : KP} {w : World} {ρ : Operand → Value} {c : Call}
    {f : VCallee} {args : List Value} (hρ : execOp a.eval o = execOp ρ o) (ho : o.op = .call c) (hx : toC ρ c = some (f, args)) (h : callOut P (f.deferred args.toArray >>= fun d => invoke d.target d.args) w K Kp)
    (hK : ∀ v w', K v w' → next (a.put o.dst v) w') (hp : ∀ ch w', Kp ch w' → Q (.panic ch) a w')
    (hf : ∀ f, ρ (.func f) = .func (.func f) #[] #[]) :
    o.wp P a w next Q := by
  unfold Oper.wp
  rw [hρ]
  unfold execOp
  rw [ho]
  refine up_call _ ?_ hK hp
  unfold toC at hx
  have e1 : (c.args.toList.map ρ).toArray = c.args.map ρ := mapTA _ _
  have key : ∀ g, f = g → args = c.args.toList.map ρ → resolve ρ c o.type = g.deferred (c.args.map ρ) → callOut P (do let d ← resolve ρ c o.type; invoke d.target d.args) w K Kp := by
    rintro g rfl rfl hg
    rw [hg, ← e1]; exact h
  split at hx
  · rename_i f' hc
    simp only [Option.some.injEq, Prod.mk.injEq] at hx
    refine key _ hx.1.symm hx.2.symm ?_
    simp only [resolve, hc, VCallee.deferred]
    rw [hf]
  · rename_i x _ hc
    simp only [Option.some.injEq, Prod.mk.injEq] at hx
    refine key _ hx.1.symm hx.2.symm ?_
    simp only [resolve, hc, VCallee.deferred]
  · rename_i r n hc
    simp only [Option.some.injEq, Prod.mk.injEq] at hx
    refine key _ hx.1.symm hx.2.symm ?_
    simp only [resolve, hc, VCallee.deferred]
  · cases hx

/-! ### frames -/

structure Agree (n : Nat) (e : Env) (k : Known) (a : Act) : Prop where
  size : n ≤ a.tmps.size
  env : ∀ t, a.tmps.getD t undef = e t
  kn1 : ∀ t b, k t = some (some b) → e t = .bool b
  kn0 : ∀ t, k t = some none → e t = undef
  defers : a.defers = []

def KnOk (e : Env) (k : Known) : Prop := (∀ t b, k t = some (some b) → e t = .bool b) ∧ ∀ t, k t = some none → e t = undef

theorem Agree.eval {n : Nat} {e : Env} {k : Known} {a : Act} (h : Agree n e k a) : a.eval = evalE e := by
  funext x
  cases x <;> simp only [Act.eval, evalE]
  exact h.env _

theorem beq_t {t d : Nat} : Nat.beq t d = decide (t = d) := by
  rw [Bool.eq_iff_iff]; simp

theorem Agree.put {n : Nat} {e : Env} {k : Known} {a : Act} (h : Agree n e k a) {d : Option Nat} (hd : ∀ x, d = some x → x < n) (v : Value) (q : Option (Option Bool))
    (hq1 : ∀ b, q = some (some b) → v = .bool b) (hq0 : q = some none → v = undef) : Agree n (Vc.put e d v) (putK k d q) (a.put d v) := by
  cases d with
  | none => exact h
  | some d =>
    have hd := hd d rfl
    have hs := h.size
    refine ⟨by simp [Act.put, h.size], fun t => ?_, fun t b => ?_, fun t => ?_, h.defers⟩
    · by_cases htd : t = d
      · subst htd
        have : t < a.tmps.size := by omega
        simp [Act.put, Vc.put, this]
      · have hb : Nat.beq t d = false := by rw [beq_t]; simpa using htd
        simp only [Vc.put, hb, cond_false, Act.put]
        rw [← h.env t]
        simp [Array.getElem?_setIfInBounds_ne (Ne.symm htd)]
    · by_cases htd : t = d
      · subst htd; simpa [putK, Vc.put] using hq1 b
      · have hb : Nat.beq t d = false := by rw [beq_t]; simpa using htd
        simpa [putK, Vc.put, hb] using h.kn1 t b
    · by_cases htd : t = d
      · subst htd; simpa [putK, Vc.put] using hq0
      · have hb : Nat.beq t d = false := by rw [beq_t]; simpa using htd
        simpa [putK, Vc.put, hb] using h.kn0 t

theorem kn_ok1 {n : Nat} {e : Env} {k : Known} {a : Act} (h : Agree n e k a) {x : Operand} {b : Bool} (hk : kn k x = some (some b)) : evalE e x = .bool b := by
  cases x with
  | tmp t => exact h.kn1 _ _ hk
  | const v => cases v <;> simp_all [kn, evalE]
  | _ => simp [kn] at hk
theorem kn_ok0 {n : Nat} {e : Env} {k : Known} {a : Act} (h : Agree n e k a) {x : Operand} (hk : kn k x = some none) : evalE e x = undef := by
  cases x with
  | tmp t => exact h.kn0 _ hk
  | const v => cases v <;> simp_all [kn]
  | _ => simp [kn] at hk

end Go.Vc
