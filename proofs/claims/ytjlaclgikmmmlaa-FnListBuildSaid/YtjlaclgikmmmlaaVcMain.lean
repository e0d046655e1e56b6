/- What meets the condition of a function's body meets the model's triple of its call. -/
import Derived.Test.YtjlaclgikmmmlaaVcDraw4
namespace Go.Vc
variable {P : Program} {S : Sig}

theorem allV_spec : ∀ {n : Nat} {f : List Value → Prop}, allV n f → ∀ xs, xs.length = n → f xs
  | 0, _, h, xs, hl => by cases xs with
    | nil => exact h
    | cons x xs => simp at hl
  | n + 1, _, h, xs, hl => by cases xs with
    | nil => simp at hl
    | cons x xs => exact allV_spec (h x) xs (by simpa using hl)

theorem reenv_eq {W : List Nat} {e e2 : Env} (hf : Fr W e e2) : ∀ L : List Nat, reenv W e2 e L (L.map e2) = e2
  | [] => by
    funext t
    unfold reenv
    cases h : memN t W with
    | true => rfl
    | false => exact (hf t (memN_false.1 h)).symm
  | s :: L => by
    funext t
    have := congrFun (reenv_eq hf L) t
    simp only [List.map_cons, reenv]
    rw [beq_t]
    by_cases h : t = s
    · simp [h]
    · simp [h, this]

theorem Agree.re {n : Nat} {W : List Nat} {L : List Nat} {e e2 : Env} {k k2 : Known} {a : Act} (hk : KnOk' e k) (h : Agree n e2 k2 a) (hf : Fr W e e2) :
    Agree n (reenv W e2 e L (L.map e2)) (reknown (L ++ W) k) a := by
  rw [reenv_eq hf]
  refine ⟨h.size, h.env, fun t b ht => ?_, fun t ht => ?_, h.defers⟩
  all_goals
    unfold reknown at ht
    cases hm : memN t (L ++ W) with
    | true => rw [hm] at ht; simp at ht
    | false =>
      rw [hm] at ht
      simp only [cond_false] at ht
      have hnw : t ∉ W := fun hw => memN_false.1 hm (List.mem_append_right _ hw)
      rw [hf t hnw]
      first | exact hk.1 t b ht | exact hk.2 t ht

/-- The actual exit behind the condition's exit. -/
def Post (n : Nat) (W : List Nat) (e0 : Env) (Q : QE) (Kp : KP) : Exit → Act → World → Prop
  | .panic ch, a, w => a.defers = [] ∧ Kp ch w
  | .outgrown, _, _ => False
  | ex, a, w => ∃ e k, Agree n e k a ∧ Fr W e0 e ∧ Q ex e k w

theorem Post.mono {n : Nat} {W W' : List Nat} {e0 : Env} {Q : QE} {Kp : KP} (hW : ∀ t ∈ W, t ∈ W') {ex : Exit} {a : Act} {w : World} (h : Post n W e0 Q Kp ex a w) : Post n W' e0 Q Kp ex a w := by
  cases ex <;> first | exact h | (obtain ⟨e, k, ha, hf, hq⟩ := h; exact ⟨e, k, ha, hf.mono hW, hq⟩)

/-- Behind a first part the second. -/
theorem Post.seq {n : Nat} {W : List Nat} {e0 : Env} {K : KE} {Q : QE} {Kp : KP} {next : Act → World → Prop} {Q' : Exit → Act → World → Prop}
    (hK : ∀ e k w a, Agree n e k a → Fr W e0 e → K e k w → next a w) (hQ : ∀ ex a w, ex ≠ .normal → Post n W e0 Q Kp ex a w → Q' ex a w) :
    ∀ ex a w, Post n W e0 (thenQ K Q) Kp ex a w → Exit.then next Q' ex a w := by
  intro ex a w h
  cases ex with
  | normal => obtain ⟨e, k, ha, hf, hq⟩ := h; exact hK e k w a ha hf hq
  | exit id => obtain ⟨e, k, ha, hf, hq⟩ := h; exact hQ _ _ _ (by simp) ⟨e, k, ha, hf, hq⟩
  | goto l => obtain ⟨e, k, ha, hf, hq⟩ := h; exact hQ _ _ _ (by simp) ⟨e, k, ha, hf, hq⟩
  | ret => obtain ⟨e, k, ha, hf, hq⟩ := h; exact hQ _ _ _ (by simp) ⟨e, k, ha, hf, hq⟩
  | panic ch => exact hQ _ _ _ (by simp) h
  | outgrown => exact h.elim

theorem Post.base {n : Nat} {W W2 : List Nat} {e0 e1 : Env} {Q : QE} {Kp : KP} (hf : Fr W e0 e1) {ex : Exit} {a : Act} {w : World} (h : Post n W2 e1 Q Kp ex a w) : Post n (W ++ W2) e0 Q Kp ex a w := by
  cases ex <;> first
    | exact h
    | (obtain ⟨e, k, ha, hf2, hq⟩ := h
       exact ⟨e, k, ha, (hf.mono fun t ht => List.mem_append_left _ ht).trans (hf2.mono fun t ht => List.mem_append_right _ ht), hq⟩)

theorem fits_mem {l : List Oper} {n : Nat} (h : (dsts l).all (fun d => Nat.blt d n) = true) : ∀ o ∈ l, ∀ x, o.dst = some x → x < n := fun o ho x hx => by
  have := List.all_eq_true.1 h x (mem_dsts ho hx)
  rwa [Nat.blt_eq] at this

theorem codeVC_sound {n : Nat} (hS : Le S P) (hm : P.follows .mixedOrders = true) (aL aJ : List (Nat × List Nat)) :
    ∀ (c : Code) (e : Env) (k : Known) (w : World) (Q : QE) (Kp : KP) (a : Act), fits n c = true → Agree n e k a → codeVC S aL aJ c e k w Q Kp →
      c.wp P (Post n (writes c) e Q Kp) a w := by
  intro c
  induction c with
  | skip => intro e k w Q Kp a _ ha h; exact wp_skip ⟨e, k, ha, Fr.refl _ _, h⟩
  | region id ops d =>
    intro e k w Q Kp a hfit ha h
    have hn := fits_mem hfit
    unfold codeVC at h
    cases d with
    | false =>
      refine wp_region_list ?_
      exact opsVC_sound hS (n := n) (K := Q .normal) (Kp := Kp) (e0 := e) (fun ch w' a hd hk => ⟨hd, hk⟩) (fun e' k' w a ha' hf hk => ⟨e', k', ha', hf, hk⟩) ops.toList (fun _ h => h) hn a e k w ha (Fr.refl _ _) h
    | true =>
      simp only [cond_true] at h
      cases hok : drawOk ops.toList (mkTab ops.toList []) with
      | false => rw [hok] at h; exact h.elim
      | true =>
        rw [hok] at h
        exact draw_sound (n := n) (K := Q .normal) (Kp := Kp) hS hm hn ha (fun ch w' a hd hk => ⟨hd, hk⟩) (fun e' k' w a ha' hf hk => ⟨e', k', ha', hf, hk⟩) hok h
  | seq x y ihx ihy =>
    intro e k w Q Kp a hfit ha h
    simp only [fits, Bool.and_eq_true] at hfit
    unfold codeVC at h
    refine wp_seq ?_
    split at h
    · refine wp_mono (ihx _ _ _ _ _ _ hfit.1 ha h) (Post.seq (fun e1 k1 w1 a1 ha1 hf1 hk1 => ?_) fun ex a1 w1 _ hq => hq.mono fun t ht => List.mem_append_left _ ht)
      exact wp_mono (ihy _ _ _ _ _ _ hfit.2 ha1 hk1) fun ex a2 w2 hq => hq.base hf1
    · rename_i L hL
      obtain ⟨J, h1, h2⟩ := h
      refine wp_mono (ihx _ _ _ _ _ _ hfit.1 ha h1) (Post.seq (fun e1 k1 w1 a1 ha1 hf1 hk1 => ?_) fun ex a1 w1 _ hq => hq.mono fun t ht => List.mem_append_left _ ht)
      have h3 := allV_spec (h2 w1 e1) (L.map e1) (by simp) hk1
      have ha2 := Agree.re (L := L) ⟨ha.kn1, ha.kn0⟩ ha1 hf1
      refine wp_mono (ihy _ _ _ _ _ _ hfit.2 ha2 h3) fun ex a2 w2 hq => ?_
      rw [reenv_eq hf1] at hq
      exact hq.base hf1
  | cond c x y ihx ihy =>
    intro e k w Q Kp a hfit ha h
    simp only [fits, Bool.and_eq_true] at hfit
    unfold codeVC at h
    have hev := ha.eval
    have hx : ∀ (t : Bool), evalE e c = .bool t → codeVC S aL aJ (if t then x else y) e k w Q Kp → (Code.cond c x y).wp P (Post n (writes (.cond c x y)) e Q Kp) a w := by
      intro t hc hh
      refine wp_cond (t := t) (by rw [hev]; exact hc) ?_
      cases t with
      | true => exact wp_mono (ihx _ _ _ _ _ _ hfit.1 ha hh) fun ex a1 w1 hq => hq.mono fun t ht => List.mem_append_left _ ht
      | false => exact wp_mono (ihy _ _ _ _ _ _ hfit.2 ha hh) fun ex a1 w1 hq => hq.mono fun t ht => List.mem_append_right _ ht
    split at h
    · rename_i hk; exact hx true (kn_ok1 ha hk) h
    · rename_i hk; exact hx false (kn_ok1 ha hk) h
    · obtain ⟨t, hc, ht, hf⟩ := h
      cases t
      · exact hx false hc (hf rfl)
      · exact hx true hc (ht rfl)
  | block id c ih =>
    intro e k w Q Kp a hfit ha h
    unfold codeVC at h
    refine wp_block (wp_mono (ih _ _ _ _ _ _ hfit ha h) fun ex a1 w1 hq => ?_)
    cases ex with
    | exit id' =>
      obtain ⟨e1, k1, ha1, hf1, hq1⟩ := hq
      simp only [blockQ] at hq1
      rw [beq_t] at hq1
      by_cases hid : id' = id
      · simp only [hid, decide_true, cond_true] at hq1
        simp only [Exit.inBlock, hid, if_true]
        exact ⟨e1, k1, ha1, hf1, hq1⟩
      · simp only [hid, decide_false, cond_false] at hq1
        simp only [Exit.inBlock, hid, if_false]
        exact ⟨e1, k1, ha1, hf1, hq1⟩
    | normal => exact hq
    | goto l => exact hq
    | ret => exact hq
    | panic ch => exact hq
    | outgrown => exact hq
  | loop c ih =>
    intro e k w Q Kp a hfit ha h
    unfold codeVC at h
    split at h
    · exact h.elim
    · rename_i L hL
      obtain ⟨I, μ, h1, h2⟩ := h
      refine wp_loop (fun a' w' => ∃ e2 k2, Agree n e2 k2 a' ∧ Fr (writes c) e e2 ∧ I.app L.length (L.map e2) w')
        (fun a' w' => μ.app L.length (L.map fun t => a'.tmps.getD t undef) w') ⟨e, k, ha, Fr.refl _ _, h1⟩ ?_
      rintro a' w' ⟨e2, k2, ha2, hf2, hI⟩
      have h3 := allV_spec (h2 w' e2) (L.map e2) (by simp) hI
      have ha3 := Agree.re (L := L) ⟨ha.kn1, ha.kn0⟩ ha2 hf2
      have hmu : (L.map fun t => a'.tmps.getD t undef) = L.map e2 := List.map_congr_left fun t _ => ha2.env t
      refine wp_mono (ih _ _ _ _ _ _ hfit ha3 h3) ?_
      rw [reenv_eq hf2]
      refine Post.seq (fun e4 k4 w4 a4 ha4 hf4 hk4 => ?_) (fun ex a4 w4 _ hq => ?_)
      · refine ⟨⟨e4, k4, ha4, hf2.trans hf4, hk4.1⟩, ?_⟩
        have hmu4 : (L.map fun t => a4.tmps.getD t undef) = L.map e4 := List.map_congr_left fun t _ => ha4.env t
        rw [hmu, hmu4]
        exact hk4.2
      · have := Post.base hf2 hq
        exact this.mono fun t ht => by rcases List.mem_append.1 ht with h | h <;> exact h
  | exit id => intro e k w Q Kp a _ ha h; exact wp_exit ⟨e, k, ha, Fr.refl _ _, h⟩
  | ret => intro e k w Q Kp a _ ha h; exact wp_ret ⟨e, k, ha, Fr.refl _ _, h⟩
  | _ => intro e k w Q Kp a _ ha h; exact h.elim

theorem load_run {t : TypeId} {v u : Value} {w w' : World} (h : (Instr.loadAt t v).run P w = .ok u w') : w' = w ∧ ∃ p, v = .pointer (some p) ∧ (loadVar t p).run P w = .ok u w := by
  have hcells : ∀ (n : Nat) (p : Addr) (i : Nat) (acc : Array Value) (cs : Array Value) (w w' : World), (loadCellsFrom p i n acc).run P w = .ok cs w' → w' = w := by
    intro n
    induction n with
    | zero => intro p i acc cs w w' h; simp [loadCellsFrom] at h; exact h.2.symm
    | succ n ih =>
      intro p i acc cs w w' h
      simp only [loadCellsFrom, Sem.run_bind, load, Sem.run] at h
      split at h
      · simp only [Result.andThen_ok] at h; exact ih _ _ _ _ _ _ h
      · split at h
        · simp only [Result.andThen_ok] at h; exact ih _ _ _ _ _ _ h
        · simp at h
  cases v with
  | pointer p =>
    cases p with
    | none => simp [Instr.loadAt, Instr.sureAddr, stuck] at h
    | some p =>
      simp only [Instr.loadAt, Instr.sureAddr, Sem.run_bind, Sem.run_pure, Result.andThen_ok] at h
      have hw : w' = w := by
        simp only [loadVar, isAgg, Sem.run_bind] at h
        cases hu : (underlying t).run P w with
        | halt x y => rw [hu] at h; simp at h
        | ok d w1 =>
          have hw1 : w1 = w := by
            simp only [underlying, Sem.run_bind, program, Sem.run, Result.andThen_ok] at hu
            split at hu
            · simp at hu; exact hu.2.symm
            · simp [stuck] at hu
          subst hw1
          rw [hu] at h
          simp only [Result.andThen_ok] at h
          have hld : ∀ w2 : World, (load p).run P w1 = .ok u w2 → w2 = w1 := by
            intro w2 h2
            simp only [load, Sem.run] at h2
            split at h2
            · simp at h2; exact h2.2.symm
            · split at h2
              · simp at h2; exact h2.2.symm
              · simp at h2
          have hag : ∀ w2 : World, (do pure (Value.agg (← loadCells p (← sizeOf t))) : Sem Value).run P w1 = .ok u w2 → w2 = w1 := by
            intro w2 h2
            simp only [Sem.run_bind, sizeOf, typeInfo, program, Sem.run, Result.andThen_ok] at h2
            cases hi : P.info? t with
            | none => rw [hi] at h2; simp [stuck] at h2
            | some inf =>
              rw [hi] at h2
              simp only [Sem.run_pure, Result.andThen_ok] at h2
              cases hc : (loadCells p inf.size).run P w1 with
              | halt x y => rw [hc] at h2; simp at h2
              | ok cs w3 =>
                rw [hc] at h2
                simp at h2
                have := hcells _ _ _ _ _ _ _ hc
                rw [← this]; exact h2.2.symm
          cases d <;> simp only [Sem.run_pure, Result.andThen_ok, if_true, Bool.false_eq_true, if_false] at h <;> first | exact hld _ h | exact hag _ h
      subst hw
      exact ⟨rfl, p, rfl, h⟩
  | _ => simp [Instr.loadAt, Instr.sureAddr, stuck] at h

def rv (tmps : Array Value) : ResultVar → Sem Value
  | .tmp t => pure (tmps.getD t undef)
  | .cell a t => do loadVar t (← asAddr (tmps.getD a undef))

theorem resV_ok (hS : Le S P) (r : ResultVar) {e : Env} {k : Known} {n : Nat} {a : Act} (w : World) (K : Value → Prop) (ha : Agree n e k a) (h : resV S r e w K) :
    ∃ v, (rv a.tmps r).run P w = .ok v w ∧ K v := by
  cases r with
  | tmp t => exact ⟨e t, by simp only [rv, Sem.run_pure]; rw [ha.env], h⟩
  | cell b t =>
    obtain ⟨v, hv, hk⟩ := hS.ld h
    obtain ⟨_, p, hp, hl⟩ := load_run hv
    refine ⟨v, ?_, hk⟩
    have : a.tmps.getD b undef = .pointer (some p) := (ha.env b).trans hp
    simp only [rv, Sem.run_bind, this, asAddr, Sem.run_pure, Result.andThen_ok]
    exact hl

theorem results_rv (fn : Func) (tmps : Array Value) : results fn tmps = (do
    let vs ← fn.results.mapM (rv tmps)
    pure (if h : vs.size = 1 then vs[0] else .tuple vs)) := by
  unfold results
  congr 1

theorem resVC_ok (hS : Le S P) {fn : Func} {rs : List ResultVar} (hrs : fn.results = rs.toArray) {e : Env} {k : Known} {n : Nat} {a : Act} {w : World} {R : Value → World → Prop} (ha : Agree n e k a) (h : resVC S rs e w R) :
    ∃ v, (results fn a.tmps).run P w = .ok v w ∧ R v w := by
  rw [results_rv, hrs]
  match rs, h with
  | [], h => exact ⟨_, by simp, h⟩
  | [r], h =>
    simp only [resVC] at h
    obtain ⟨v, hv, h⟩ := resV_ok hS r w _ ha h
    exact ⟨v, by simp [hv], h⟩
  | [r, s], h =>
    simp only [resVC] at h
    obtain ⟨v, hv, h⟩ := resV_ok hS r w _ ha h
    obtain ⟨u, hu, h⟩ := resV_ok hS s w _ ha h
    exact ⟨.tuple #[v, u], by simp [hv, hu], h⟩
  | [r, s, t], h =>
    simp only [resVC] at h
    obtain ⟨v, hv, h⟩ := resV_ok hS r w _ ha h
    obtain ⟨u, hu, h⟩ := resV_ok hS s w _ ha h
    obtain ⟨x, hx, h⟩ := resV_ok hS t w _ ha h
    exact ⟨.tuple #[v, u, x], by simp [hv, hu, hx], h⟩
  | [r, s, t, q], h =>
    simp only [resVC] at h
    obtain ⟨v, hv, h⟩ := resV_ok hS r w _ ha h
    obtain ⟨u, hu, h⟩ := resV_ok hS s w _ ha h
    obtain ⟨x, hx, h⟩ := resV_ok hS t w _ ha h
    obtain ⟨y, hy, h⟩ := resV_ok hS q w _ ha h
    exact ⟨.tuple #[v, u, x, y], by simp [hv, hu, hx, hy], h⟩
  | [r, s, t, q, p], h =>
    simp only [resVC] at h
    obtain ⟨v, hv, h⟩ := resV_ok hS r w _ ha h
    obtain ⟨u, hu, h⟩ := resV_ok hS s w _ ha h
    obtain ⟨x, hx, h⟩ := resV_ok hS t w _ ha h
    obtain ⟨y, hy, h⟩ := resV_ok hS q w _ ha h
    obtain ⟨z, hz, h⟩ := resV_ok hS p w _ ha h
    exact ⟨.tuple #[v, u, x, y, z], by simp [hv, hu, hx, hy, hz], h⟩

theorem nthD_eq (l : List Value) (i : Nat) : nthD l i = l[i]?.getD undef := by
  induction l generalizing i with
  | nil => simp [nthD]
  | cons x l ih => cases i with
    | zero => simp [nthD]
    | succ i => simpa [nthD] using ih i

theorem fVC_sound {f : FuncId} {fn : Func} {aL aJ : List (Nat × List Nat)} {args : List Value} {w : World} {K : Value → World → Prop} {Kp : KP}
    (hS : Le S P) (hm : P.follows .mixedOrders = true) (hf : P.funcs[f]? = some fn) (hfit : fitsF fn = true) (h : fVC S aL aJ fn args w K Kp) :
    Calls P f args.toArray w (ret K Kp) := by
  unfold fVC at h
  unfold fitsF at hfit
  split at h
  · exact h.elim
  · rename_i c hc
    rw [hc] at hfit
    have ha : Agree fn.ntmps (nthD args) (fun _ => none) { tmps := args.toArray ++ Array.replicate (fn.ntmps - args.toArray.size) undef, defers := [] } := by
      refine ⟨by simp; omega, fun t => ?_, (fun t b h => by cases h), (fun t h => by cases h), rfl⟩
      rw [nthD_eq]
      by_cases ht : t < args.length
      · simp [Array.getElem?_append, ht]
      · by_cases ht2 : t - args.length < fn.ntmps - args.length <;> simp [Array.getElem?_append, ht, ht2]
    refine calls_of_wp hf hc (wp_mono (codeVC_sound hS hm aL aJ c _ _ w _ _ _ hfit ha h) fun ex a w' hq => ?_)
    cases ex with
    | normal =>
      obtain ⟨e, k, ha, _, hq⟩ := hq
      exact ⟨ha.defers, resVC_ok hS (by simp) ha hq⟩
    | ret =>
      obtain ⟨e, k, ha, _, hq⟩ := hq
      exact ⟨ha.defers, resVC_ok hS (by simp) ha hq⟩
    | panic ch => exact hq
    | exit id => obtain ⟨e, k, ha, _, hq⟩ := hq; exact hq.elim
    | goto l => obtain ⟨e, k, ha, _, hq⟩ := hq; exact hq.elim
    | outgrown => exact hq.elim
end Go.Vc
