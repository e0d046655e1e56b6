/- What meets the condition of a region that draws its order is met whatever order is drawn. -/
import Derived.Test.YtjlaclgikmmmlaaVcDraw3
namespace Go.Vc
variable {P : Program} {Sg : Sig}

def KnOk' (e : Env) (k : Known) : Prop := (∀ t b, k t = some (some b) → e t = .bool b) ∧ ∀ t, k t = some none → e t = undef
theorem KnOk'.put {e : Env} {k : Known} (h : KnOk' e k) (d : Option Nat) (v : Value) : KnOk' (Vc.put e d v) (putK k d none) := by
  cases d with
  | none => exact h
  | some d =>
    refine ⟨fun t b => ?_, fun t => ?_⟩
    · by_cases htd : t = d
      · subst htd; simp [putK]
      · have hb : Nat.beq t d = false := by rw [beq_t]; simpa using htd
        simpa [putK, Vc.put, hb] using h.1 t b
    · by_cases htd : t = d
      · subst htd; simp [putK]
      · have hb : Nat.beq t d = false := by rw [beq_t]; simpa using htd
        simpa [putK, Vc.put, hb] using h.2 t

theorem rdy_spec {o : Oper} {listed : List Nat} (h : rdy o listed = true) : ∀ ed ∈ o.after, Region.binds .any ed = true → ed.on ∈ listed := by
  intro ed he hb
  have := List.all_eq_true.1 h ed (by simpa using he)
  simp only [hb, Bool.not_true, Bool.false_or] at this
  exact memN_eq.1 this
theorem rdy_mk {o : Oper} {listed : List Nat} (h : ∀ ed ∈ o.after, Region.binds .any ed = true → ed.on ∈ listed) : rdy o listed = true := by
  refine List.all_eq_true.2 fun ed he => ?_
  cases hb : Region.binds .any ed with
  | false => rfl
  | true => simpa using memN_eq.2 (h ed (by simpa using he) hb)

/-- If nobody may come up, all have. -/
theorem ready_nil {ops : Array Oper} {tab : List (List Nat)} {l' : Array Bool} (hok : drawOk ops.toList tab = true) (hs : l'.size = ops.toList.length) (h : Region.ready .any ops l' = []) :
    ∀ j, j < ops.toList.length → lst l' j := by
  intro j
  induction j using Nat.strongRecOn with
  | _ j ih =>
    intro hj
    apply Classical.byContradiction
    intro hn
    obtain ⟨o, ho⟩ : ∃ o, ops.toList[j]? = some o := ⟨_, List.getElem?_eq_getElem hj⟩
    have : j ∈ Region.ready .any ops l' := mem_ready'.2 ⟨(not_lst_getD (by omega)).2 hn, o, ho, fun ed he hb => ih ed.on ((drawOk_spec hok ho).back ed he hb) (by have := (drawOk_spec hok ho).back ed he hb; omega)⟩
    rw [h] at this
    cases this

theorem left_spec {all : List Oper} {e : Env} {k : Known} (hk : KnOk' e k) {o : Oper} {b : Bool} (h : left all k o = some b) : wantedE all e o = !b := by
  unfold left at h
  unfold wantedE
  cases hg : o.guard with
  | none => rw [hg] at h; simp at h; subst h; rfl
  | some gw =>
    obtain ⟨g, want⟩ := gw
    rw [hg] at h
    cases hs : gslot all o with
    | none => rw [hs] at h; simp at h; subst h; rfl
    | some s =>
      rw [hs] at h
      simp only at h
      cases hq : k s with
      | none => rw [hq] at h; cases h
      | some q =>
        rw [hq] at h
        cases q with
        | none =>
          simp at h
          subst h
          have := hk.2 s hq
          simp only [this, undef]
          rfl
        | some c =>
          simp at h
          subst h
          have := hk.1 s c hq
          simp only [this]
          cases c <;> cases want <;> rfl
theorem left_none {all : List Oper} {k : Known} {o : Oper} (h : left all k o = none) : ∃ s, gslot all o = some s ∧ k s = none := by
  unfold left at h
  cases hg : o.guard with
  | none => rw [hg] at h; simp at h
  | some gw =>
    obtain ⟨g, want⟩ := gw
    rw [hg] at h
    cases hs : gslot all o with
    | none => rw [hs] at h; simp at h
    | some s =>
      rw [hs] at h
      simp only at h
      refine ⟨s, rfl, ?_⟩
      cases hq : k s with
      | none => rfl
      | some q => rw [hq] at h; cases q <;> simp at h
theorem left_true_guard {all : List Oper} {k : Known} {o : Oper} (h : left all k o = some true) : o.guard ≠ none := by
  intro hg
  unfold left at h
  rw [hg] at h
  simp at h

theorem KnOk'.put' {e : Env} {k : Known} (h : KnOk' e k) (d : Option Nat) (v : Value) (q : Option (Option Bool)) (h1 : ∀ b, q = some (some b) → v = .bool b) (h0 : q = some none → v = undef) : KnOk' (Vc.put e d v) (putK k d q) := by
  cases d with
  | none => exact h
  | some d =>
    refine ⟨fun t b => ?_, fun t => ?_⟩
    · by_cases htd : t = d
      · subst htd; simpa [putK, Vc.put] using h1 b
      · have hb : Nat.beq t d = false := by rw [beq_t]; simpa using htd
        simpa [putK, Vc.put, hb] using h.1 t b
    · by_cases htd : t = d
      · subst htd; simpa [putK, Vc.put] using h0
      · have hb : Nat.beq t d = false := by rw [beq_t]; simpa using htd
        simpa [putK, Vc.put, hb] using h.2 t
theorem KnOk'.know {e : Env} {k : Known} (h : KnOk' e k) {s : Nat} {b : Bool} (he : e s = .bool b) : KnOk' e (putK k (some s) (some (some b))) := by
  refine ⟨fun t c => ?_, fun t => ?_⟩
  · by_cases hts : t = s
    · subst hts; simp only [putK]; rw [beq_t]; simp; intro h; rw [he, h]
    · have hb : Nat.beq t s = false := by rw [beq_t]; simpa using hts
      simpa [putK, hb] using h.1 t c
  · by_cases hts : t = s
    · subst hts; simp only [putK]; rw [beq_t]; simp
    · have hb : Nat.beq t s = false := by rw [beq_t]; simpa using hts
      simpa [putK, hb] using h.2 t
theorem kn1' {e : Env} {k : Known} (h : KnOk' e k) {x : Operand} {b : Bool} (hk : kn k x = some (some b)) : evalE e x = .bool b := by
  cases x with
  | tmp t => exact h.1 _ _ hk
  | const v => cases v <;> simp_all [kn, evalE]
  | _ => simp [kn] at hk
theorem kn0' {e : Env} {k : Known} (h : KnOk' e k) {x : Operand} (hk : kn k x = some none) : evalE e x = undef := by
  cases x with
  | tmp t => exact h.2 _ hk
  | const v => cases v <;> simp_all [kn]
  | _ => simp [kn] at hk

theorem rdyAll_nil {listed : List Nat} : ∀ (l : List Oper) (i : Nat), (∀ j, j < l.length → i + j ∈ listed) → rdyAll listed i l = [] := by
  intro l
  induction l with
  | nil => intro i _; rfl
  | cons o l ih =>
    intro i hi
    unfold rdyAll
    have hm : memN i listed = true := memN_eq.2 (by simpa using hi 0 (by simp))
    rw [hm]
    simp only [Bool.not_true, Bool.false_and, cond_false]
    exact ih (i + 1) fun j hj => by have := hi (j + 1) (by simp; omega); rwa [show i + 1 + j = i + (j + 1) from by omega]

theorem cnt_pos_of {l' : Array Bool} {m : Nat} (hs : l'.size = m) (hall : ∀ j, j < m → lst l' j) : cnt l' = 0 := by
  refine List.countP_eq_zero.2 fun b hb => ?_
  obtain ⟨j, hj, rfl⟩ := List.getElem_of_mem hb
  have hjs : j < l'.size := by simpa using hj
  have := hall j (by rw [← hs]; exact hjs)
  unfold lst at this
  simp [hjs] at this
  simpa using this

theorem sim_sound {n : Nat} {ops : Array Oper} {tab : List (List Nat)} {K : KE} {Kp : KP} {Q : Exit → Act → World → Prop} {e0 : Env} (hS : Le Sg P) (hok : drawOk ops.toList tab = true)
    (hn : ∀ o ∈ ops.toList, ∀ x, o.dst = some x → x < n)
    (hp : ∀ ch w' a, a.defers = [] → Kp ch w' → Q (.panic ch) a w')
    (hK : ∀ e k w a, Agree n e k a → Fr (dsts ops.toList) e0 e → K e k w → Q .normal a w) :
    ∀ (m f : Nat) (listed : List Nat) (outs : List (Nat × VOp × Value)) (e : Env) (k : Known) (w : World) (l' : Array Bool) (a : Act),
      Sim P n ops.toList tab listed outs e w l' a → KnOk' e k → Fr (dsts ops.toList) e0 e → cnt l' = f →
      drawVC Sg ops.toList tab m listed outs e k w K Kp → wpAny P .any ops Q f l' a w := by
  intro m
  induction m with
  | zero => intro f listed outs e k w l' a _ _ _ _ h; exact h.elim
  | succ m ihm =>
    intro f
    induction f with
    | zero =>
      intro listed outs e k w l' a S hk hf hc h
      have hall : ∀ j, j < ops.toList.length → lst l' j := fun j hj => cnt_zero hc j (by rw [S.lsize]; exact hj)
      have hin : ∀ j, j < ops.toList.length → j ∈ listed := fun j hj => S.sub j (hall j hj)
      have hready : Region.ready .any ops l' = [] := by
        apply List.eq_nil_iff_forall_not_mem.2
        intro j hj
        obtain ⟨h1, o, ho, _⟩ := mem_ready'.1 hj
        have hjl : j < ops.toList.length := (List.getElem?_eq_some_iff.1 ho).1
        exact (not_lst_getD (by rw [S.lsize]; exact hjl)).1 h1 (hall j hjl)
      unfold drawVC at h
      have hb : (List.range ops.toList.length).all (memN · listed) = true := List.all_eq_true.2 fun j hj => memN_eq.2 (hin j (List.mem_range.1 hj))
      rw [hb] at h
      exact ⟨hready, hK e k w a ⟨S.size, fun t => S.env t fun j o hj hjl hjn => absurd (hall j (List.getElem?_eq_some_iff.1 hj).1) hjn, hk.1, hk.2, S.defers⟩ hf h⟩
    | succ f ihf =>
      intro listed outs e k w l' a S hk hf hc h
      have h0 := h
      have hne : Region.ready .any ops l' = [] → False := fun hx => by
        have := cnt_pos_of S.lsize (ready_nil hok S.lsize hx)
        omega
      have delayed : ∀ i ∈ Region.ready .any ops l', i ∈ listed → wpOp P ops Q i (wpAny P .any ops Q f (l'.setIfInBounds i true)) a w := by
        intro i hi hmem
        obtain ⟨h1, o, ho, hr⟩ := mem_ready'.1 hi
        have hil : i < ops.toList.length := (List.getElem?_eq_some_iff.1 ho).1
        have hlen : i < l'.size := by rw [S.lsize]; exact hil
        have hun := (not_lst_getD hlen).1 h1
        have hcnt := cnt_set (l := l') hlen hun
        obtain ⟨v, hrun, S'⟩ := S.delayed hok hn ho hun hmem hr
        exact hrun Q _ (ihf listed outs e k w _ _ S' hk hf (by omega) h0)
      unfold drawVC at h
      cases hb : (List.range ops.toList.length).all (memN · listed) with
      | true =>
        refine ⟨fun hx => (hne hx).elim, fun i hi => delayed i hi ?_⟩
        obtain ⟨h1, o, ho, hr⟩ := mem_ready'.1 hi
        exact memN_eq.1 (List.all_eq_true.1 hb i (List.mem_range.2 (List.getElem?_eq_some_iff.1 ho).1))
      | false =>
      rw [hb] at h
      simp only [cond_false] at h
      split at h
      · -- a guard is decided
        rename_i s hs
        obtain ⟨b, he, ht, hff⟩ := h
        cases b
        · exact ihm (f + 1) listed outs e _ w l' a S (hk.know he) hf hc (hff rfl)
        · exact ihm (f + 1) listed outs e _ w l' a S (hk.know he) hf hc (ht rfl)
      rename_i hG
      split at h
      · -- a floating operation is taken ahead
        rename_i i o hfl
        obtain ⟨j, h1, h2, h3, h4, h5⟩ := firstFl_spec hfl
        simp only [Nat.zero_add] at h1 h2 h3 h4 h5
        subst h1
        have hd : ∀ x, o.dst = some x → x ∈ dsts ops.toList := fun x hx => mem_dsts (List.mem_of_getElem? h2) hx
        have hmay : isFloat o.op = true ∨ o.guard ≠ none := h3.imp id left_true_guard
        have go : ∀ v q outs', (∀ b, q = some (some b) → v = .bool b) → (q = some none → v = undef) → (∀ x ∈ outs, x ∈ outs') → Del P ops.toList outs' i o e w v →
            drawVC Sg ops.toList tab m (i :: listed) outs' (put e o.dst v) (putK k o.dst q) w K Kp → wpAny P .any ops Q (f + 1) l' a w :=
          fun v q outs' hq1 hq0 hs hdl hh => ihm (f + 1) (i :: listed) outs' _ _ w l' a (S.take hok h2 hmay h4 (rdy_spec h5) hs hdl) (hk.put' _ _ _ hq1 hq0) (hf.put hd v) hc hh
        cases hlt : (left ops.toList k o == some true) with
        | true =>
          rw [hlt] at h
          have hl : left ops.toList k o = some true := by simpa using hlt
          exact go undef (some none) outs (fun b hb => by cases hb) (fun _ => rfl) (fun _ h => h) (.inl ⟨left_spec hk hl, rfl⟩) h
        | false =>
          rw [hlt] at h
          have hl : left ops.toList k o ≠ some true := by simpa using hlt
          have hfo : isFloat o.op = true := h3.resolve_right hl
          have hwt : wantedE ops.toList e o = true := by
            cases hlo : left ops.toList k o with
            | none =>
              obtain ⟨s, hs, _⟩ := left_none hlo
              have := firstG_none hG i o h2 (by simpa using h4) h5 (by rw [hlo]; rfl)
              rw [hs] at this
              cases this
            | some b =>
              cases b with
              | true => exact absurd hlo hl
              | false => exact left_spec hk hlo
          simp only [cond_false] at h
          unfold floatVC at h
          split at h
          · rename_i x hx
            exact go _ _ outs (fun b hb => kn1' hk hb) (fun hb => kn0' hk hb) (fun _ h => h) (.inr ⟨hwt, hfo, .inl ⟨x, hx, rfl⟩⟩) h
          · rename_i c x y hx
            split at h
            · rename_i hkc
              exact go _ _ outs (fun b hb => kn1' hk hb) (fun hb => kn0' hk hb) (fun _ h => h) (.inr ⟨hwt, hfo, .inr (.inl ⟨c, x, y, true, hx, kn1' hk hkc, rfl⟩)⟩) h
            · rename_i hkc
              exact go _ _ outs (fun b hb => kn1' hk hb) (fun hb => kn0' hk hb) (fun _ h => h) (.inr ⟨hwt, hfo, .inr (.inl ⟨c, x, y, false, hx, kn1' hk hkc, rfl⟩)⟩) h
            · exact h.elim
          · rename_i hnm hnp
            have hmv : isMove o.op = false := by
              cases hop : o.op <;> first | rfl | exact absurd hop (hnm _)
            have hpk : isPick o.op = false := by
              cases hop : o.op <;> first | rfl | exact absurd hop (hnp _ _ _)
            split at h
            · exact h.elim
            · rename_i x hx
              cases hl : isLoad o.op with
              | true =>
                rw [hl] at h
                obtain ⟨v, hv, hh⟩ := hS.ld h
                exact go v none _ (fun b hb => by cases hb) (fun hb => by cases hb) (fun _ h => List.mem_cons_of_mem _ h) (.inr ⟨hwt, hfo, .inr (.inr ⟨x, hmv, hpk, hx, .inr ⟨hv, List.mem_cons_self⟩⟩)⟩) hh
              | false =>
                rw [hl] at h
                obtain ⟨v, hv, hh⟩ := hS.pur h
                exact go v none _ (fun b hb => by cases hb) (fun hb => by cases hb) (fun _ h => h) (.inr ⟨hwt, hfo, .inr (.inr ⟨x, hmv, hpk, hx, .inl ⟨hl, hv⟩⟩)⟩) hh
      · rename_i hfl
        refine ⟨fun hx => (hne hx).elim, fun i hi => ?_⟩
        by_cases hmem : i ∈ listed
        · exact delayed i hi hmem
        obtain ⟨h1, o, ho, hr⟩ := mem_ready'.1 hi
        have hil : i < ops.toList.length := (List.getElem?_eq_some_iff.1 ho).1
        have hlen : i < l'.size := by rw [S.lsize]; exact hil
        have hun := (not_lst_getD hlen).1 h1
        have ho' : ops[i]? = some o := by simpa using ho
        have hcnt := cnt_set (l := l') hlen hun
        have hrd := rdy_mk (o := o) (listed := listed) fun ed he hb => S.sub _ (hr ed he hb)
        have hA := allR_mem h (0 + i, o) (rdyAll_mem i o ho (by simpa using hmem) hrd)
        simp only [Nat.zero_add] at hA
        obtain ⟨hnf, hnl⟩ := firstFl_none hfl i o ho (by simpa using hmem) hrd
        have hwt : wantedE ops.toList e o = true := by
          cases hlo : left ops.toList k o with
          | none =>
            obtain ⟨s, hs, _⟩ := left_none hlo
            have := firstG_none hG i o ho (by simpa using hmem) hrd (by rw [hlo]; rfl)
            rw [hs] at this
            cases this
          | some b =>
            cases b with
            | true => exact absurd hlo hnl
            | false => exact left_spec hk hlo
        have hwa := (S.wanted hok ho hr).trans hwt
        have hex := S.exec hok ho hr
        have hd : ∀ x, o.dst = some x → x ∈ dsts ops.toList := fun x hx => mem_dsts (List.mem_of_getElem? ho) hx
        have go : ∀ v w', sames Sg ((nth tab i).getD []) w' outs (drawVC Sg ops.toList tab m (i :: listed) (keepOuts ((nth tab i).getD []) outs) (put e o.dst v) (putK k o.dst none) w' K Kp) →
            wpAny P .any ops Q f (l'.setIfInBounds i true) (a.put o.dst v) w' := by
          intro v w' hh
          obtain ⟨hh, hs⟩ := sames_mem hS hh
          exact ihm f _ _ _ _ w' _ _ (S.anchor hok hn ho hmem hr hs) (hk.put _ _) (hf.put hd v) (by omega) hh
        have hpp : ∀ ch w', Kp ch w' → Q (.panic ch) a w' := fun ch w' => hp ch w' a S.defers
        unfold wpOp
        simp only [ho', hwa, if_true]
        refine .inl ?_
        unfold anchorVC at hA
        split at hA
        · rename_i x hx
          have := go _ w hA
          unfold Oper.wp
          rw [hex]
          unfold execOp
          rw [hx]
          simpa [Oper.upon] using this
        · split at hA
          · rename_i x hx
            exact opV_sound hex hx (hS.op hA) go hpp
          · split at hA
            · rename_i c hop
              split at hA
              · rename_i fn args hc
                exact callV_sound hex hop hc (hS.call hA) go hpp (fun _ => rfl)
              · exact hA.elim
            · exact hA.elim

theorem draw_sound {n : Nat} {ops : Array Oper} {id : Nat} {a : Act} {e : Env} {k : Known} {w : World} {K : KE} {Kp : KP} {Q : Exit → Act → World → Prop} (hS : Le Sg P) (hm : P.follows .mixedOrders = true)
    (hn : ∀ o ∈ ops.toList, ∀ x, o.dst = some x → x < n) (ha : Agree n e k a)
    (hp : ∀ ch w' a, a.defers = [] → Kp ch w' → Q (.panic ch) a w')
    (hK : ∀ e' k w a, Agree n e' k a → Fr (dsts ops.toList) e e' → K e' k w → Q .normal a w)
    (hok : drawOk ops.toList (mkTab ops.toList []) = true)
    (h : drawVC Sg ops.toList (mkTab ops.toList []) (2 * ops.toList.length + 2) [] [] e k { w with drawn := w.drawn + 1 } K Kp) : (Code.region id ops true).wp P Q a w := by
  refine wp_region_any hm (sim_sound hS hok hn hp hK (2 * ops.toList.length + 2) ops.size [] [] e k _ _ a ?_ ⟨ha.kn1, ha.kn0⟩ (Fr.refl _ _) ?_ h)
  · have h0 : ∀ j, ¬ lst (Array.replicate ops.size false) j := by
      intro j hj
      unfold lst at hj
      by_cases hjl : j < ops.size <;> simp [hjl] at hj
    have hnil : ∀ {p : Prop} (j : Nat), j ∈ ([] : List Nat) → p := fun j hj => by simp at hj
    exact ⟨by simp, ha.size, ha.defers, fun j hj => absurd hj (h0 j), fun j o _ hj => absurd hj (h0 j), fun j o _ hj => hnil j hj, fun t _ => ha.env t, fun j o _ hj => hnil j hj⟩
  · unfold cnt
    rw [Array.toList_replicate, List.countP_replicate]
    simp

end Go.Vc
