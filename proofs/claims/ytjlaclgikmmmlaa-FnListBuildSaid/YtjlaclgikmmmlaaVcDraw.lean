/- Regions that draw their order: the floating operations as early as may be, the others in whatever order they may come up. -/
import Derived.Test.YtjlaclgikmmmlaaVcSound2
namespace Go.Vc
variable {P : Program}

theorem memN_eq {x : Nat} {l : List Nat} : memN x l = true ↔ x ∈ l := by
  induction l with
  | nil => simp [memN]
  | cons y l ih =>
    unfold memN
    rw [beq_t]
    by_cases h : x = y <;> simp [h, ih]
theorem memN_false {x : Nat} {l : List Nat} : memN x l = false ↔ x ∉ l := by
  rw [← memN_eq]; simp

theorem allIx_spec {α : Type} {f : Nat → α → Bool} : ∀ {i : Nat} {l : List α}, allIx f i l = true → ∀ j x, l[j]? = some x → f (i + j) x = true
  | _, [], _, j, x, h => by simp at h
  | i, y :: l, hf, j, x, h => by
    simp only [allIx, Bool.and_eq_true] at hf
    cases j with
    | zero => simp at h; subst h; exact hf.1
    | succ j =>
      have := allIx_spec hf.2 j x (by simpa using h)
      rwa [show i + (j + 1) = i + 1 + j from by omega]

theorem firstFl_spec {all : List Oper} {k : Known} {listed : List Nat} : ∀ {i : Nat} {l : List Oper} {p : Nat × Oper}, firstFl all k listed i l = some p →
    ∃ j, p.1 = i + j ∧ l[j]? = some p.2 ∧ (isFloat p.2.op = true ∨ left all k p.2 = some true) ∧ p.1 ∉ listed ∧ rdy p.2 listed = true
  | _, [], _, h => by simp [firstFl] at h
  | i, o :: l, p, h => by
    unfold firstFl at h
    cases hc : ((isFloat o.op || (left all k o == some true)) && !memN i listed && rdy o listed) with
    | true =>
      rw [hc] at h
      simp only [cond_true, Option.some.injEq] at h
      subst h
      simp only [Bool.and_eq_true, Bool.not_eq_true', memN_false, Bool.or_eq_true, beq_iff_eq] at hc
      exact ⟨0, by simp, by simp, hc.1.1, hc.1.2, hc.2⟩
    | false =>
      rw [hc] at h
      simp only [cond_false] at h
      obtain ⟨j, h1, h2, h3⟩ := firstFl_spec h
      exact ⟨j + 1, by omega, by simpa using h2, h3⟩
theorem firstFl_none {all : List Oper} {k : Known} {listed : List Nat} : ∀ {i : Nat} {l : List Oper}, firstFl all k listed i l = none → ∀ j o, l[j]? = some o → i + j ∉ listed → rdy o listed = true →
    isFloat o.op = false ∧ left all k o ≠ some true
  | _, [], _, j, o, h, _, _ => by simp at h
  | i, y :: l, hn, j, o, h, hm, hr => by
    unfold firstFl at hn
    cases hc : ((isFloat y.op || (left all k y == some true)) && !memN i listed && rdy y listed) with
    | true => rw [hc] at hn; simp at hn
    | false =>
      rw [hc] at hn
      cases j with
      | zero =>
        simp at h
        subst h
        have hm' : memN i listed = false := memN_false.2 (by simpa using hm)
        rw [hr, hm'] at hc
        simp at hc
        exact hc
      | succ j => exact firstFl_none hn j o (by simpa using h) (by rwa [show i + 1 + j = i + (j + 1) from by omega]) hr
theorem firstG_none {all : List Oper} {k : Known} {listed : List Nat} : ∀ {i : Nat} {l : List Oper}, firstG all k listed i l = none → ∀ j o, l[j]? = some o → i + j ∉ listed → rdy o listed = true → (left all k o).isNone = true → gslot all o = none
  | _, [], _, j, o, h, _, _, _ => by simp at h
  | i, y :: l, hn, j, o, h, hm, hr, hl => by
    unfold firstG at hn
    cases hc : (!memN i listed && rdy y listed && (left all k y).isNone) with
    | true =>
      rw [hc] at hn
      simp only [cond_true] at hn
      cases j with
      | zero => simp at h; subst h; exact hn
      | succ j =>
        exfalso
        simp only [Bool.and_eq_true] at hc
        unfold left at hc
        rw [hn] at hc
        cases hg : y.guard <;> rw [hg] at hc <;> simp at hc
    | false =>
      rw [hc] at hn
      cases j with
      | zero =>
        simp at h
        subst h
        have hm' : memN i listed = false := memN_false.2 (by simpa using hm)
        rw [hr, hm', hl] at hc
        cases hc
      | succ j => exact firstG_none hn j o (by simpa using h) (by rwa [show i + 1 + j = i + (j + 1) from by omega]) hr hl
theorem rdyAll_mem {listed : List Nat} : ∀ {i : Nat} {l : List Oper} (j : Nat) (o : Oper), l[j]? = some o → i + j ∉ listed → rdy o listed = true → (i + j, o) ∈ rdyAll listed i l
  | _, [], j, o, h, _, _ => by simp at h
  | i, y :: l, j, o, h, hm, hr => by
    unfold rdyAll
    cases j with
    | zero =>
      simp at h
      subst h
      have hm' : memN i listed = false := memN_false.2 (by simpa using hm)
      rw [hr, hm']
      simp
    | succ j =>
      have := rdyAll_mem (listed := listed) (i := i + 1) (l := l) j o (by simpa using h) (by rwa [show i + 1 + j = i + (j + 1) from by omega]) hr
      rw [show i + (j + 1) = i + 1 + j from by omega]
      cases (!memN i listed && rdy y listed) with
      | true => simp only [cond_true]; exact List.mem_cons_of_mem _ this
      | false => simpa using this
theorem allR_mem {f : Nat × Oper → Prop} : ∀ {l : List (Nat × Oper)}, allR f l → ∀ p ∈ l, f p
  | [], h, _, _ => h.elim
  | [x], h, p, hp => by simp at hp; subst hp; exact h
  | x :: y :: l, h, p, hp => by
    cases hp with
    | head => exact h.1
    | tail _ hm => exact allR_mem h.2 p hm

/-- What a closed check gives of one operation of the region. -/
structure OkAt (all : List Oper) (tab : List (List Nat)) (i : Nat) (o : Oper) : Prop where
  sel : ∀ cs b, o.op ≠ .select cs b
  back : ∀ e ∈ o.after, Region.binds .any e = true → e.on < i
  anc : ∀ j ∈ (nth tab i).getD [], ∃ e ∈ o.after, Region.binds .any e = true ∧ (e.on = j ∨ j ∈ (nth tab e.on).getD [])
  flt : (isFloat o.op = true ∨ o.guard ≠ none) → ∃ d, o.dst = some d ∧ d ∉ reads all o ∧ ∀ m om, all[m]? = some om → m ≠ i →
    (d ∈ names all om → i ∈ (nth tab m).getD []) ∧ ∀ dm, om.dst = some dm → dm ∈ reads all o → m ∈ (nth tab i).getD [] ∨ i ∈ (nth tab m).getD []

theorem drawOk_spec {all : List Oper} {tab : List (List Nat)} (h : drawOk all tab = true) {i : Nat} {o : Oper} (hi : all[i]? = some o) : OkAt all tab i o := by
  have h := allIx_spec h i o hi
  rw [Nat.zero_add] at h
  simp only [Bool.and_eq_true] at h
  obtain ⟨⟨⟨h2, h3⟩, h4⟩, h5⟩ := h
  refine ⟨?_, ?_, ?_, ?_⟩
  · intro cs b hs; rw [hs] at h2; cases h2
  · intro e he hb
    have := List.all_eq_true.1 h3 e (by simpa using he)
    rw [hb, Bool.not_true, Bool.false_or, Nat.blt_eq] at this; exact this
  · intro j hj
    have := List.all_eq_true.1 h4 j hj
    obtain ⟨e, he, hb⟩ := List.any_eq_true.1 this
    simp only [Bool.and_eq_true, Bool.or_eq_true, memN_eq] at hb
    refine ⟨e, by simpa using he, hb.1, ?_⟩
    rcases hb.2 with hb2 | hb2
    · exact .inl (Nat.eq_of_beq_eq_true hb2)
    · exact .inr hb2
  · intro hf
    have hf' : (isFloat o.op || o.guard.isSome) = true := by
      rcases hf with hf | hf
      · rw [hf]; rfl
      · cases hg : o.guard with
        | none => exact absurd hg hf
        | some g => simp
    rw [hf'] at h5
    simp only [cond_true] at h5
    cases hd : o.dst with
    | none => rw [hd] at h5; cases h5
    | some d =>
      rw [hd] at h5
      simp only [floatOk, Bool.and_eq_true, Bool.not_eq_true', memN_false] at h5
      refine ⟨d, rfl, h5.1, fun m om hm hne => ?_⟩
      have := allIx_spec h5.2 m om hm
      rw [Nat.zero_add] at this
      have hne' : Nat.beq m i = false := by rw [beq_t]; simpa using hne
      rw [hne', Bool.false_or, Bool.and_eq_true] at this
      obtain ⟨ha, hb⟩ := this
      constructor
      · intro hn
        rw [memN_eq.2 hn] at ha
        exact memN_eq.1 (by simpa using ha)
      · intro dm hdm hr
        rw [hdm] at hb
        simp only [memN_eq.2 hr, cond_true, Bool.or_eq_true, memN_eq] at hb
        exact hb

def lst (l : Array Bool) (j : Nat) : Prop := l.getD j false = true

/-- Is the operation carried out, as the slots stand? -/
def wantedE (all : List Oper) (e : Env) (o : Oper) : Bool :=
  match o.guard with
  | none => true
  | some (_, want) => match gslot all o with
    | none => false
    | some s => (match e s with | .bool b => some b | _ => none) == some want

/-- The delayed operation j yields v in the state e, w. -/
def Del (P : Program) (all : List Oper) (outs : List (Nat × VOp × Value)) (j : Nat) (o : Oper) (e : Env) (w : World) (v : Value) : Prop :=
  (wantedE all e o = false ∧ v = undef) ∨
  (wantedE all e o = true ∧ isFloat o.op = true ∧
    ((∃ x, o.op = .move x ∧ evalE e x = v) ∨
     (∃ c x y t, o.op = .pick c x y ∧ evalE e c = .bool t ∧ evalE e (if t then x else y) = v) ∨
     (∃ x, isMove o.op = false ∧ isPick o.op = false ∧ toV (evalE e) o.type o.op = some x ∧ ((isLoad o.op = false ∧ ∀ w, x.sem.run P w = .ok v w) ∨ (x.sem.run P w = .ok v w ∧ (j, x, v) ∈ outs)))))

structure Sim (P : Program) (n : Nat) (all : List Oper) (tab : List (List Nat)) (listed : List Nat) (outs : List (Nat × VOp × Value)) (e : Env) (w : World) (l' : Array Bool) (a : Act) : Prop where
  lsize : l'.size = all.length
  size : n ≤ a.tmps.size
  defers : a.defers = []
  sub : ∀ j, lst l' j → j ∈ listed
  down' : ∀ j o, all[j]? = some o → lst l' j → ∀ ed ∈ o.after, Region.binds .any ed = true → lst l' ed.on
  down : ∀ j o, all[j]? = some o → j ∈ listed → ∀ ed ∈ o.after, Region.binds .any ed = true → ed.on ∈ listed
  env : ∀ t, (∀ j o, all[j]? = some o → j ∈ listed → ¬ lst l' j → o.dst ≠ some t) → a.tmps.getD t undef = e t
  del : ∀ j o, all[j]? = some o → j ∈ listed → ¬ lst l' j → (isFloat o.op = true ∨ o.guard ≠ none) ∧ ∃ v d, o.dst = some d ∧ e d = v ∧ Del P all outs j o e w v

theorem tab_of_down {all : List Oper} {tab : List (List Nat)} (hok : drawOk all tab = true) {S : Nat → Prop}
    (hS : ∀ j o, all[j]? = some o → S j → ∀ ed ∈ o.after, Region.binds .any ed = true → S ed.on) :
    ∀ (m i : Nat), i ≤ m → ∀ o, all[i]? = some o → (∀ ed ∈ o.after, Region.binds .any ed = true → S ed.on) → ∀ j ∈ (nth tab i).getD [], S j := by
  intro m
  induction m with
  | zero =>
    intro i hi o ho hp j hj
    obtain ⟨ed, he, hb, hx⟩ := (drawOk_spec hok ho).anc j hj
    have := (drawOk_spec hok ho).back ed he hb
    omega
  | succ m ih =>
    intro i hi o ho hp j hj
    obtain ⟨ed, he, hb, hx⟩ := (drawOk_spec hok ho).anc j hj
    have hlt := (drawOk_spec hok ho).back ed he hb
    rcases hx with rfl | hx
    · exact hp ed he hb
    · have hlen : i < all.length := (List.getElem?_eq_some_iff.1 ho).1
      obtain ⟨o2, ho2⟩ : ∃ o2, all[ed.on]? = some o2 := ⟨_, List.getElem?_eq_getElem (by omega)⟩
      exact ih ed.on (by omega) o2 ho2 (fun ed2 h2 hb2 => hS _ o2 ho2 (hp ed he hb) ed2 h2 hb2) j hx

theorem eval_agree {e : Env} {a : Act} {o : Oper} {all : List Oper} (h : ∀ t ∈ reads all o, a.tmps.getD t undef = e t) : ∀ x ∈ o.op.operands, a.eval x = evalE e x := by
  intro x hx
  cases x with
  | tmp t => exact h t (List.mem_append_right _ (List.mem_filterMap.2 ⟨.tmp t, by simpa using hx, rfl⟩))
  | _ => rfl

theorem lst_set {l' : Array Bool} {i j : Nat} (hi : i < l'.size) : lst (l'.setIfInBounds i true) j ↔ lst l' j ∨ j = i := by
  unfold lst
  by_cases hij : i = j
  · subst hij; simp [hi]
  · rw [Array.getD_eq_getD_getElem?, Array.getElem?_setIfInBounds_ne hij, ← Array.getD_eq_getD_getElem?]
    constructor
    · exact .inl
    · rintro (h | h)
      · exact h
      · exact absurd h.symm hij
end Go.Vc
