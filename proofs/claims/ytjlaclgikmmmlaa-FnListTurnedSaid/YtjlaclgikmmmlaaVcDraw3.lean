/- What meets the condition of a region that draws its order is met whatever order is drawn. -/
import Derived.Test.YtjlaclgikmmmlaaVcDraw2
namespace Go.Vc
variable {P : Program}

section
variable {n : Nat} {ops : Array Oper} {tab : List (List Nat)} {listed : List Nat} {outs : List (Nat × VOp × Value)} {e : Env} {w : World} {l' : Array Bool} {a : Act}

theorem mem_ready' {j : Nat} : j ∈ Region.ready .any ops l' ↔ l'.getD j true = false ∧ ∃ o, ops.toList[j]? = some o ∧ ∀ ed ∈ o.after, Region.binds .any ed = true → lst l' ed.on := by
  rw [mem_ready]; simp [lst]

theorem wanted_none {o : Oper} {y : Nat → Option Bool} (h : o.guard = none) : Region.wanted o y = true := by simp [Region.wanted, h]

/-- What op i reads in the actual frame is what it reads in the canonical one. -/
theorem Sim.reads (hok : drawOk ops.toList tab = true) (S : Sim P n ops.toList tab listed outs e w l' a) {i : Nat} {o : Oper} (hi : ops.toList[i]? = some o)
    (hr : ∀ ed ∈ o.after, Region.binds .any ed = true → lst l' ed.on) : ∀ t ∈ Vc.reads ops.toList o, a.tmps.getD t undef = e t := by
  intro t ht
  refine S.env t fun j oj hj hjl hjn hd => ?_
  obtain ⟨hf, v, d, hdst, _, _⟩ := S.del j oj hj hjl hjn
  rw [hd] at hdst
  obtain rfl := Option.some.inj hdst
  obtain ⟨d', hd', hself, hall⟩ := (drawOk_spec hok hj).flt hf
  rw [hd] at hd'
  obtain rfl := Option.some.inj hd'
  by_cases hij : i = j
  · subst hij
    have : o = oj := Option.some.inj (hi.symm.trans hj)
    subst this
    exact hself ht
  · have hm := (hall i o hi hij).1 (by unfold names; exact List.mem_append_right _ ht)
    exact hjn (tab_of_down hok (S := lst l') S.down' i i (Nat.le_refl _) o hi hr j hm)

theorem Sim.exec (hok : drawOk ops.toList tab = true) (S : Sim P n ops.toList tab listed outs e w l' a) {i : Nat} {o : Oper} (hi : ops.toList[i]? = some o)
    (hr : ∀ ed ∈ o.after, Region.binds .any ed = true → lst l' ed.on) : execOp a.eval o = execOp (evalE e) o :=
  execOp_congr o (drawOk_spec hok hi).sel (eval_agree (S.reads hok hi hr))

theorem Del.put {all : List Oper} {outs outs' : List (Nat × VOp × Value)} {j : Nat} {o : Oper} {e : Env} {w w' : World} {u : Value} {d : Nat} (hnd : d ∉ Vc.reads all o) (v : Value)
    (hsub : ∀ x ∈ outs, x ∈ outs') (hrun : ∀ x u, (j, x, u) ∈ outs → x.sem.run P w = .ok u w → x.sem.run P w' = .ok u w') (h : Del P all outs j o e w u) :
    Del P all outs' j o (Vc.put e (some d) v) w' u := by
  have hne : ∀ t ∈ Vc.reads all o, Vc.put e (some d) v t = e t := by
    intro t ht
    have htd : t ≠ d := fun h => hnd (h ▸ ht)
    have hb : Nat.beq t d = false := by rw [beq_t]; simpa using htd
    simp [Vc.put, hb]
  have hcg : ∀ x ∈ o.op.operands, evalE e x = evalE (Vc.put e (some d) v) x := by
    intro x hx
    cases x with
    | tmp t => exact (hne t (List.mem_append_right _ (List.mem_filterMap.2 ⟨.tmp t, by simpa using hx, rfl⟩))).symm
    | _ => rfl
  have hwt : wantedE all (Vc.put e (some d) v) o = wantedE all e o := by
    unfold wantedE
    cases hg : o.guard with
    | none => rfl
    | some gw =>
      cases hs : gslot all o with
      | none => rfl
      | some s => simp only [hne s (List.mem_append_left _ (by rw [hs]; simp))]
  rcases h with ⟨hw, hu⟩ | ⟨hw, hf, h⟩
  · exact .inl ⟨hwt.trans hw, hu⟩
  · refine .inr ⟨hwt.trans hw, hf, ?_⟩
    rcases h with ⟨x, hx, hv⟩ | ⟨c, x, y, t, hx, hc, hv⟩ | ⟨x, hnm, hnp, hx, hc⟩
    · exact .inl ⟨x, hx, by rw [← hcg x (by rw [hx]; simp [Op.operands])]; exact hv⟩
    · refine .inr (.inl ⟨c, x, y, t, hx, by rw [← hcg c (by rw [hx]; simp [Op.operands])]; exact hc, ?_⟩)
      cases t
      · simpa using (hcg y (by rw [hx]; simp [Op.operands])).symm.trans (by simpa using hv)
      · simpa using (hcg x (by rw [hx]; simp [Op.operands])).symm.trans (by simpa using hv)
    · refine .inr (.inr ⟨x, hnm, hnp, by rw [← toV_congr o.op hcg]; exact hx, ?_⟩)
      rcases hc with hc | ⟨hc, hm⟩
      · exact .inl hc
      · exact .inr ⟨hrun x u hm hc, hsub _ hm⟩

theorem Sim.wanted (hok : drawOk ops.toList tab = true) (S : Sim P n ops.toList tab listed outs e w l' a) {i : Nat} {o : Oper} (hi : ops.toList[i]? = some o)
    (hr : ∀ ed ∈ o.after, Region.binds .any ed = true → lst l' ed.on) : Region.wanted o (yielded ops a.tmps) = wantedE ops.toList e o := by
  have hrd := S.reads hok hi hr
  unfold Region.wanted wantedE
  cases hg : o.guard with
  | none => rfl
  | some gw =>
    obtain ⟨g, want⟩ := gw
    have hgs : gslot ops.toList o = (nth ops.toList g).bind (·.dst) := by unfold gslot; rw [hg]
    have hx : (ops[g]?).bind (·.dst) = gslot ops.toList o := by rw [hgs, nth_eq]; simp
    unfold yielded
    simp only [hx]
    cases hs : gslot ops.toList o with
    | none => rfl
    | some s =>
      have := hrd s (List.mem_append_left _ (by rw [hs]; simp))
      simp only [Option.bind_some]
      rw [← this]
      cases hv : a.tmps[s]? with
      | none => simp [Array.getD_eq_getD_getElem?, hv, undef]
      | some v => simp only [Array.getD_eq_getD_getElem?, hv, Option.getD_some]; cases v <;> rfl

/-- A delayed operation comes up. -/
theorem Sim.delayed (hok : drawOk ops.toList tab = true) (hn : ∀ o ∈ ops.toList, ∀ x, o.dst = some x → x < n) (S : Sim P n ops.toList tab listed outs e w l' a) {i : Nat} {o : Oper}
    (hi : ops.toList[i]? = some o) (hun : ¬ lst l' i) (hil : i ∈ listed) (hr : ∀ ed ∈ o.after, Region.binds .any ed = true → lst l' ed.on) :
    ∃ v, (∀ (Q : Exit → Act → World → Prop) (K2 : Act → World → Prop), K2 (a.put o.dst v) w → wpOp P ops Q i K2 a w) ∧ Sim P n ops.toList tab listed outs e w (l'.setIfInBounds i true) (a.put o.dst v) := by
  obtain ⟨hf, v, d, hdst, hev, hdel⟩ := S.del i o hi hil hun
  have hlen : i < l'.size := by rw [S.lsize]; exact (List.getElem?_eq_some_iff.1 hi).1
  have hi' : ops[i]? = some o := by simpa using hi
  have hw := S.wanted hok hi hr
  refine ⟨v, ?_, ?_⟩
  · intro Q K2 hK
    unfold wpOp
    simp only [hi']
    rw [hw]
    rcases hdel with ⟨hw0, rfl⟩ | ⟨hw1, hfl, hd⟩
    · rw [hw0]; simpa using hK
    · rw [hw1]
      simp only [if_true]
      refine .inl ?_
      have hrun : (execOp a.eval o).run P w = .ok (.value v) w := by
        rw [S.exec hok hi hr]
        rcases hd with ⟨x, hx, hv⟩ | ⟨c, x, y, t, hx, hc, hv⟩ | ⟨x, hnm, hnp, hx, hc⟩
        · unfold execOp; rw [hx]; simp [hv]
        · unfold execOp; rw [hx]; cases t <;> simp [hc, asBool] <;> simpa using hv
        · have hk : isLoad o.op = true ∨ isPure o.op = true := by
            unfold isFloat at hfl
            rw [hnm, hnp] at hfl
            simpa using hfl
          rcases hc with ⟨_, hc⟩ | ⟨hc, _⟩
          · exact exec_of_toV hk hx (hc w)
          · exact exec_of_toV hk hx hc
      unfold Oper.wp
      rw [hrun]
      exact hK
  · have hd : d < n := hn o (List.mem_of_getElem? hi) d hdst
    have hda : d < a.tmps.size := by have := S.size; omega
    refine ⟨by simp [S.lsize], by rw [hdst]; simpa [Act.put] using S.size, by rw [hdst]; exact S.defers, ?_, ?_, S.down, ?_, ?_⟩
    · intro j hj
      rcases (lst_set hlen).1 hj with h | rfl
      · exact S.sub j h
      · exact hil
    · intro j oj hj hl ed hed hb
      rw [lst_set hlen]
      rcases (lst_set hlen).1 hl with h | rfl
      · exact .inl (S.down' j oj hj h ed hed hb)
      · have : o = oj := Option.some.inj (hi.symm.trans hj)
        subst this
        exact .inl (hr ed hed hb)
    · intro t ht
      by_cases htd : t = d
      · subst htd
        rw [hdst, hev]
        simp [Act.put, hda]
      · have hne : (a.put o.dst v).tmps.getD t undef = a.tmps.getD t undef := by
          rw [hdst]
          simp [Act.put, Array.getElem?_setIfInBounds_ne (Ne.symm htd)]
        rw [hne]
        refine S.env t fun j oj hj hjl hjn => ?_
        by_cases hji : j = i
        · subst hji
          have : o = oj := Option.some.inj (hi.symm.trans hj)
          subst this
          rw [hdst]
          exact fun h => htd (Option.some.inj h).symm
        · exact ht j oj hj hjl (fun h => by rcases (lst_set hlen).1 h with h | h; exact hjn h; exact hji h)
    · intro j oj hj hjl hjn
      exact S.del j oj hj hjl (fun h => hjn ((lst_set hlen).2 (.inl h)))

/-- A floating operation is taken ahead. -/
theorem Sim.take (hok : drawOk ops.toList tab = true) (S : Sim P n ops.toList tab listed outs e w l' a) {i : Nat} {o : Oper} (hi : ops.toList[i]? = some o) (hf : isFloat o.op = true ∨ o.guard ≠ none)
    (hil : i ∉ listed) (hr : ∀ ed ∈ o.after, Region.binds .any ed = true → ed.on ∈ listed) {v : Value} {outs' : List (Nat × VOp × Value)} (ho : ∀ x ∈ outs, x ∈ outs') (hd : Del P ops.toList outs' i o e w v) :
    Sim P n ops.toList tab (i :: listed) outs' (put e o.dst v) w l' a := by
  obtain ⟨d, hdst, hself, hall⟩ := (drawOk_spec hok hi).flt hf
  have tabl : ∀ j oj, ops.toList[j]? = some oj → j ∈ listed → ∀ m ∈ (nth tab j).getD [], m ∈ listed := fun j oj hj hjl =>
    tab_of_down hok (S := (· ∈ listed)) S.down j j (Nat.le_refl _) oj hj (S.down j oj hj hjl)
  have hdel : ∀ (j : Nat) (oj : Oper) (u : Value) (outs1 : List (Nat × VOp × Value)), (∀ x ∈ outs1, x ∈ outs') → d ∉ Vc.reads ops.toList oj → Del P ops.toList outs1 j oj e w u → Del P ops.toList outs' j oj (put e o.dst v) w u := by
    intro j oj u outs1 hsub hnd hdl
    rw [hdst]
    exact Del.put hnd v hsub (fun _ _ _ h => h) hdl
  refine ⟨S.lsize, S.size, S.defers, fun j hj => List.mem_cons_of_mem _ (S.sub j hj), S.down', ?_, ?_, ?_⟩
  · intro j oj hj hjl ed hed hb
    rcases List.mem_cons.1 hjl with rfl | hjl
    · have : o = oj := Option.some.inj (hi.symm.trans hj)
      subst this
      exact List.mem_cons_of_mem _ (hr ed hed hb)
    · exact List.mem_cons_of_mem _ (S.down j oj hj hjl ed hed hb)
  · intro t ht
    have hil' : ¬ lst l' i := fun h => hil (S.sub i h)
    have htd : t ≠ d := fun h => ht i o hi List.mem_cons_self hil' (by rw [hdst, h])
    have hb : Nat.beq t d = false := by rw [beq_t]; simpa using htd
    rw [hdst]
    simp only [put, hb, cond_false]
    exact S.env t fun j oj hj hjl hjn => ht j oj hj (List.mem_cons_of_mem _ hjl) hjn
  · intro j oj hj hjl hjn
    rcases List.mem_cons.1 hjl with rfl | hjl
    · have : o = oj := Option.some.inj (hi.symm.trans hj)
      subst this
      refine ⟨hf, v, d, hdst, by rw [hdst]; simp [put], hdel _ _ _ outs' (fun _ h => h) hself hd⟩
    · obtain ⟨hfj, u, dj, hdj, heu, hdl⟩ := S.del j oj hj hjl hjn
      have hne : j ≠ i := fun h => hil (h ▸ hjl)
      have hdd : dj ≠ d := fun h => hil (tabl j oj hj hjl i ((hall j oj hj hne).1 (by rw [← h]; unfold names; rw [hdj]; simp)))
      have hb : Nat.beq dj d = false := by rw [beq_t]; simpa using hdd
      refine ⟨hfj, u, dj, hdj, by rw [hdst]; simp only [put, hb, cond_false]; exact heu, hdel _ _ _ outs ho (fun h => ?_) hdl⟩
      exact hil (tabl j oj hj hjl i ((hall j oj hj hne).1 (by unfold names; exact List.mem_append_right _ h)))

theorem keepOuts_mem {anc : List Nat} : ∀ {outs : List (Nat × VOp × Value)} {x}, x ∈ outs → x.1 ∉ anc → x ∈ keepOuts anc outs
  | [], _, h, _ => by cases h
  | y :: l, x, h, hn => by
    unfold keepOuts
    cases h with
    | head => rw [memN_false.2 hn]; simp
    | tail _ hm =>
      have := keepOuts_mem hm hn
      cases memN y.1 anc with
      | true => simpa using this
      | false => simpa using .inr this
theorem sames_mem {Sg : Sig} (hS : Le Sg P) {anc : List Nat} {w : World} {K : Prop} : ∀ {outs : List (Nat × VOp × Value)}, sames Sg anc w outs K → K ∧ ∀ j x v, (j, x, v) ∈ outs → j ∉ anc → x.sem.run P w = .ok v w
  | [], h => ⟨h, fun _ _ _ hm _ => by cases hm⟩
  | (j, x, v) :: l, h => by
    unfold sames at h
    cases hc : memN j anc with
    | true =>
      rw [hc] at h
      obtain ⟨hk, hr⟩ := sames_mem hS (by simpa using h)
      refine ⟨hk, fun j' x' v' hm hn => ?_⟩
      cases hm with
      | head => exact absurd (memN_eq.1 hc) hn
      | tail _ hm => exact hr _ _ _ hm hn
    | false =>
      rw [hc] at h
      simp only [cond_false] at h
      obtain ⟨hk, hr⟩ := sames_mem hS h.2
      refine ⟨hk, fun j' x' v' hm hn => ?_⟩
      cases hm with
      | head => exact hS.same h.1
      | tail _ hm => exact hr _ _ _ hm hn

/-- Another operation comes up, in the actual order and in the canonical one. -/
theorem Sim.anchor (hok : drawOk ops.toList tab = true) (hn : ∀ o ∈ ops.toList, ∀ x, o.dst = some x → x < n) (S : Sim P n ops.toList tab listed outs e w l' a) {i : Nat} {o : Oper}
    (hi : ops.toList[i]? = some o) (hil : i ∉ listed) (hr : ∀ ed ∈ o.after, Region.binds .any ed = true → lst l' ed.on) {v : Value} {w' : World}
    (hs : ∀ j x u, (j, x, u) ∈ outs → j ∉ (nth tab i).getD [] → x.sem.run P w' = .ok u w') :
    Sim P n ops.toList tab (i :: listed) (keepOuts ((nth tab i).getD []) outs) (put e o.dst v) w' (l'.setIfInBounds i true) (a.put o.dst v) := by
  have hlen : i < l'.size := by rw [S.lsize]; exact (List.getElem?_eq_some_iff.1 hi).1
  have anci : ∀ m ∈ (nth tab i).getD [], lst l' m := tab_of_down hok (S := lst l') S.down' i i (Nat.le_refl _) o hi hr
  have tabl : ∀ j oj, ops.toList[j]? = some oj → j ∈ listed → ∀ m ∈ (nth tab j).getD [], m ∈ listed := fun j oj hj hjl =>
    tab_of_down hok (S := (· ∈ listed)) S.down j j (Nat.le_refl _) oj hj (S.down j oj hj hjl)
  refine ⟨by simp [S.lsize], ?_, ?_, ?_, ?_, ?_, ?_, ?_⟩
  · cases o.dst with
    | none => exact S.size
    | some d => simpa [Act.put] using S.size
  · cases o.dst with
    | none => exact S.defers
    | some d => exact S.defers
  · intro j hj
    rcases (lst_set hlen).1 hj with h | rfl
    · exact List.mem_cons_of_mem _ (S.sub j h)
    · exact List.mem_cons_self
  · intro j oj hj hl ed hed hb
    rw [lst_set hlen]
    rcases (lst_set hlen).1 hl with h | rfl
    · exact .inl (S.down' j oj hj h ed hed hb)
    · have : o = oj := Option.some.inj (hi.symm.trans hj)
      subst this
      exact .inl (hr ed hed hb)
  · intro j oj hj hjl ed hed hb
    rcases List.mem_cons.1 hjl with rfl | hjl
    · have : o = oj := Option.some.inj (hi.symm.trans hj)
      subst this
      exact List.mem_cons_of_mem _ (S.sub _ (hr ed hed hb))
    · exact List.mem_cons_of_mem _ (S.down j oj hj hjl ed hed hb)
  · intro t ht
    have henv : ∀ (hx : ∀ d, o.dst = some d → t ≠ d), a.tmps.getD t undef = e t := fun hx =>
      S.env t fun j oj hj hjl hjn => ht j oj hj (List.mem_cons_of_mem _ hjl) fun h => by
        rcases (lst_set hlen).1 h with h | rfl
        · exact hjn h
        · exact hil hjl
    cases hd : o.dst with
    | none => exact henv fun d h => by rw [hd] at h; cases h
    | some d =>
      have hdn : d < n := hn o (List.mem_of_getElem? hi) d hd
      have hda : d < a.tmps.size := Nat.lt_of_lt_of_le hdn S.size
      by_cases htd : t = d
      · subst htd; simp [Act.put, put, hda]
      · have hb : Nat.beq t d = false := by rw [beq_t]; simpa using htd
        simp only [put, hb, cond_false]
        rw [← henv fun d' h => by rw [hd] at h; exact fun hh => htd (hh.trans (Option.some.inj h).symm)]
        simp [Act.put, Array.getElem?_setIfInBounds_ne (Ne.symm htd)]
  · intro j oj hj hjl hjn
    have hjl' : ¬ lst l' j := fun h => hjn ((lst_set hlen).2 (.inl h))
    have hji : j ≠ i := fun h => hjn ((lst_set hlen).2 (.inr h))
    have hjl : j ∈ listed := by
      rcases List.mem_cons.1 hjl with h | h
      · exact absurd h hji
      · exact h
    obtain ⟨hfj, u, dj, hdj, heu, hdl⟩ := S.del j oj hj hjl hjl'
    obtain ⟨dj', hdj', hself, hall⟩ := (drawOk_spec hok hj).flt hfj
    rw [hdj] at hdj'
    obtain rfl := Option.some.inj hdj'
    have hnot : j ∉ (nth tab i).getD [] := fun h => hjl' (anci j h)
    have hne : ∀ d, o.dst = some d → dj ≠ d := fun d hd h => hnot ((hall i o hi (Ne.symm hji)).1 (by unfold names; rw [hd, h]; simp))
    have hnr : ∀ d, o.dst = some d → d ∉ Vc.reads ops.toList oj := fun d hd h => by
      rcases (hall i o hi (Ne.symm hji)).2 d hd h with h | h
      · exact hil (tabl j oj hj hjl i h)
      · exact hnot h
    have hrun : ∀ x u, (j, x, u) ∈ outs → x.sem.run P w = .ok u w → x.sem.run P w' = .ok u w' := fun x u hm _ => hs j x u hm hnot
    refine ⟨hfj, u, dj, hdj, ?_, ?_⟩
    · cases hd : o.dst with
      | none => exact heu
      | some d =>
        have hb : Nat.beq dj d = false := by rw [beq_t]; simpa using hne d hd
        simp only [put, hb, cond_false]
        exact heu
    · have hkeep : ∀ x, (j, x, u) ∈ outs → (j, x, u) ∈ keepOuts ((nth tab i).getD []) outs := fun x hm => keepOuts_mem hm hnot
      cases hd : o.dst with
      | none =>
        rcases hdl with h | ⟨hw, hf, h⟩
        · exact .inl h
        · refine .inr ⟨hw, hf, ?_⟩
          rcases h with h | h | ⟨x, hnm, hnp, hx, hc⟩
          · exact .inl h
          · exact .inr (.inl h)
          · refine .inr (.inr ⟨x, hnm, hnp, hx, ?_⟩)
            rcases hc with hc | ⟨hc, hm⟩
            · exact .inl hc
            · exact .inr ⟨hrun x u hm hc, hkeep x hm⟩
      | some d =>
        have h2 : Del P ops.toList (outs.filter fun x => x.1 = j) j oj e w u := by
          rcases hdl with h | ⟨hw, hf, h⟩
          · exact .inl h
          · refine .inr ⟨hw, hf, ?_⟩
            rcases h with h | h | ⟨x, hnm, hnp, hx, hc⟩
            · exact .inl h
            · exact .inr (.inl h)
            · refine .inr (.inr ⟨x, hnm, hnp, hx, ?_⟩)
              rcases hc with hc | ⟨hc, hm⟩
              · exact .inl hc
              · exact .inr ⟨hc, List.mem_filter.2 ⟨hm, by simp⟩⟩
        refine Del.put (hnr d hd) v (outs := outs.filter fun x => x.1 = j) (fun x hx => ?_) (fun x u hm hc => ?_) h2
        · obtain ⟨hm, he⟩ := List.mem_filter.1 hx
          exact keepOuts_mem hm (by have : x.1 = j := by simpa using he
                                    rw [this]; exact hnot)
        · exact hs j x u (List.mem_filter.1 hm).1 hnot
end
end Go.Vc
