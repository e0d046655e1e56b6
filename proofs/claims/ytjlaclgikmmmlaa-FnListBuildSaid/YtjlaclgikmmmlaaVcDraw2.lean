/- What meets the condition of a region that draws its order is met whatever order is drawn. -/
import Derived.Test.YtjlaclgikmmmlaaVcDraw
namespace Go.Vc
variable {P : Program}

theorem toV_congr {ρ ρ' : Operand → Value} {ty : TypeId} (op : Op) (h : ∀ x ∈ op.operands, ρ x = ρ' x) : toV ρ ty op = toV ρ' ty op := by
  have pairs : ∀ ps : Array (Nat × Operand), (∀ x ∈ (ps.toList.map (·.2)).toArray, ρ x = ρ' x) → (ps.toList.map fun p => (p.1, ρ p.2)) = (ps.toList.map fun p => (p.1, ρ' p.2)) := fun ps hp =>
    List.map_congr_left fun p hm => by
      simp only [hp p.2 (by simpa using ⟨p.1, by simpa using hm⟩)]
  have maps : ∀ ps : Array Operand, (∀ x ∈ ps, ρ x = ρ' x) → ps.toList.map ρ = ps.toList.map ρ' := fun ps hp =>
    List.map_congr_left fun p hm => hp p (by simpa using hm)
  cases op <;> simp only [Op.operands] at h <;> simp only [toV]
  case build t ps => rw [pairs ps h]
  case buildSlice t n ps => rw [pairs ps h]
  case makeFunc fn first cap => rw [maps first fun x hx => h x (by simp [hx]), maps cap fun x hx => h x (by simp [hx])]
  case call c =>
    cases hc : c.callee with
    | builtin b => simp only; rw [maps c.args fun x hx => h x (by simp [Call.operands, hx])]
    | _ => rfl
  case makeMap t r => cases r <;> simp_all
  case slice t x lo hi mx => cases lo <;> cases hi <;> cases mx <;> simp_all
  all_goals (first | rfl | (simp_all; done))

theorem run_val {s : Sem Value} {v : Value} {w w' : World} (h : s.run P w = .ok v w') : (do pure (Next.value (← s)) : Sem Next).run P w = .ok (.value v) w' := by
  simp [h]

theorem exec_of_toV {o : Oper} {ρ : Operand → Value} {x : VOp} {v : Value} {w w' : World} (hf : isLoad o.op = true ∨ isPure o.op = true) (hx : toV ρ o.type o.op = some x)
    (h : x.sem.run P w = .ok v w') : (execOp ρ o).run P w = .ok (.value v) w' := by
  obtain ⟨dst, op, ty, pos, after, guard⟩ := o
  unfold execOp
  cases op with
  | nilCheck y =>
    simp only [toV, Option.some.injEq] at hx
    subst hx
    simp only [VOp.sem] at h
    dsimp only
    have key : ∀ z : Value, (nilSem z).run P w = .ok v w' → z = ρ y → (do pure (Next.value (← nilSem z)) : Sem Next).run P w = .ok (.value v) w' := fun z hz _ => run_val hz
    have hk := key _ h rfl
    clear key
    generalize ρ y = z at *
    cases z with
    | pointer p => cases p <;> exact hk
    | func fn f c => cases fn <;> first | (exfalso; simp [nilSem, stuck] at h; done) | exact hk
    | _ => exact hk
  | call c =>
    simp only [toV] at hx
    cases hc : c.callee with
    | builtin b =>
      rw [hc] at hx
      simp only [Option.some.injEq] at hx
      subst hx
      simp only [resolve, hc, invoke]
      simp only [VOp.sem] at h
      rw [mapTA, show c.argTypes.toList.toArray = c.argTypes from by simp] at h
      have h' := run_val h
      cases b <;> first | exact h' | (exfalso; simp [bltSem, stuck] at h)
    | value f => rw [hc] at hx; simp at hx
    | invoke r n => rw [hc] at hx; simp at hx
  | binOp op t x y yt =>
    simp only [toV, Option.some.injEq] at hx
    subst hx
    simp only [VOp.sem] at h
    rw [← eqGuard_opd] at h
    exact run_val h
  | build t ps =>
    simp only [toV, Option.some.injEq] at hx
    subst hx
    simp only [VOp.sem, mapTA] at h
    exact run_val h
  | makeFunc fn first cap =>
    simp only [toV, Option.some.injEq] at hx
    subst hx
    simp only [VOp.sem, mapTA] at h
    exact run_val h
  | _ =>
    first
    | (simp only [toV, Option.some.injEq] at hx; subst hx; exact run_val h)
    | (simp [isLoad, isPure] at hf; done)
    | (simp [toV] at hx; done)

theorem toC_congr {ρ ρ' : Operand → Value} {c : Call} (h : ∀ x ∈ c.operands, ρ x = ρ' x) : toC ρ c = toC ρ' c := by
  have maps : c.args.toList.map ρ = c.args.toList.map ρ' := List.map_congr_left fun p hm => h p (by simp [Call.operands]; exact .inr (by simpa using hm))
  unfold toC
  rw [maps]
  cases hc : c.callee with
  | value x => cases x <;> simp_all [Call.operands]
  | invoke r n => have := h r (by simp [Call.operands, hc]); simp only [this]
  | builtin b => rfl

def cnt (l : Array Bool) : Nat := l.toList.countP (fun b => !b)
theorem cnt_set {l : Array Bool} {i : Nat} (hi : i < l.size) (hf : ¬ lst l i) : cnt (l.setIfInBounds i true) + 1 = cnt l := by
  unfold cnt
  have hli : i < l.toList.length := by simpa using hi
  rw [Array.toList_setIfInBounds, List.countP_set hli]
  have hv : l.toList[i] = false := by
    unfold lst at hf
    simp [hi] at hf
    simpa using hf
  have hm : 0 < l.toList.countP (fun b => !b) := List.countP_pos_iff.2 ⟨l.toList[i], List.getElem_mem hli, by simp [hv]⟩
  rw [hv]
  simp only [Bool.not_false, if_true, Bool.not_true, Bool.false_eq_true, if_false]
  omega
theorem cnt_zero {l : Array Bool} (h : cnt l = 0) (j : Nat) (hj : j < l.size) : lst l j := by
  unfold cnt at h
  have := List.countP_eq_zero.1 h l.toList[j] (List.getElem_mem (by simpa using hj))
  simpa [lst, hj] using this

theorem not_lst_getD {l : Array Bool} {j : Nat} (hj : j < l.size) : l.getD j true = false ↔ ¬ lst l j := by
  unfold lst
  simp [hj]
end Go.Vc
