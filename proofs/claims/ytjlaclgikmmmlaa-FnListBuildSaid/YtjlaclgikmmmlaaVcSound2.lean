/- Regions in the order of the text. -/
import Derived.Test.YtjlaclgikmmmlaaVcSound
namespace Go.Vc
variable {P : Program} {S : Sig}

def Fr (W : List Nat) (e0 e : Env) : Prop := ∀ t, t ∉ W → e t = e0 t
theorem Fr.refl (W : List Nat) (e : Env) : Fr W e e := fun _ _ => rfl
theorem Fr.trans {W : List Nat} {a b c : Env} (h : Fr W a b) (h' : Fr W b c) : Fr W a c := fun t ht => (h' t ht).trans (h t ht)
theorem Fr.mono {W W' : List Nat} {a b : Env} (h : Fr W a b) (hs : ∀ t ∈ W, t ∈ W') : Fr W' a b := fun t ht => h t fun hm => ht (hs t hm)
theorem Fr.put {W : List Nat} {e0 e : Env} (h : Fr W e0 e) {d : Option Nat} (hd : ∀ x, d = some x → x ∈ W) (v : Value) : Fr W e0 (Vc.put e d v) := by
  intro t ht
  cases d with
  | none => exact h t ht
  | some d =>
    have htd : t ≠ d := fun he => ht (he ▸ hd d rfl)
    have hb : Nat.beq t d = false := by rw [beq_t]; simpa using htd
    simp only [Vc.put, hb, cond_false]
    exact h t ht

theorem opVC_sound {n : Nat} {o : Oper} {a : Act} {e : Env} {k : Known} {w : World} {K : KE} {Kp : KP} {next : Act → World → Prop} {Q : Exit → Act → World → Prop}
    (hS : Le S P) (ha : Agree n e k a) (hd : ∀ x, o.dst = some x → x < n) (h : opVC S o e k w K Kp)
    (hK : ∀ v q w' a', a' = a.put o.dst v → Agree n (put e o.dst v) (putK k o.dst q) a' → K (put e o.dst v) (putK k o.dst q) w' → next a' w')
    (hp : ∀ ch w', Kp ch w' → Q (.panic ch) a w') : o.wp P a w next Q := by
  have hev := ha.eval
  have hmv : ∀ x, (o.op = .move x ∨ o.op = .assign x) → K (put e o.dst (evalE e x)) (putK k o.dst (kn k x)) w → o.wp P a w next Q := by
    intro x ho hk
    have hn := hK (evalE e x) (kn k x) w _ rfl (ha.put hd _ _ (fun b hb => kn_ok1 ha hb) (fun hb => kn_ok0 ha hb)) hk
    unfold Oper.wp execOp
    rcases ho with ho | ho <;> rw [ho] <;> simpa [Oper.upon, hev] using hn
  have hpk : ∀ c x y (t : Bool), o.op = .pick c x y → evalE e c = .bool t →
      K (put e o.dst (evalE e (if t then x else y))) (putK k o.dst (kn k (if t then x else y))) w → o.wp P a w next Q := by
    intro c x y t ho hc hk
    have hn := hK _ _ w _ rfl (ha.put hd _ _ (fun b hb => kn_ok1 ha hb) (fun hb => kn_ok0 ha hb)) hk
    unfold Oper.wp execOp
    rw [ho]
    cases t <;> simpa [Oper.upon, hev, hc, asBool] using hn
  have hgen : (match toV (evalE e) o.type o.op with
      | some x => S.op x w (fun v w' => K (put e o.dst v) (putK k o.dst none) w') Kp
      | none => match o.op with
        | .call c => match toC (evalE e) c with
          | some (f, args) => S.call f args w (fun v w' => K (put e o.dst v) (putK k o.dst none) w') Kp
          | none => False
        | _ => False) → o.wp P a w next Q := by
    intro hg
    have hK' : ∀ v w', K (put e o.dst v) (putK k o.dst none) w' → next (a.put o.dst v) w' := fun v w' hk =>
      hK v none w' _ rfl (ha.put hd v none (fun _ hb => by cases hb) (fun hb => by cases hb)) hk
    split at hg
    · rename_i x hx
      exact opV_sound (by rw [hev]) hx (hS.op hg) hK' hp
    · split at hg
      · rename_i c ho
        split at hg
        · rename_i f args hc
          exact callV_sound (by rw [hev]) ho hc (hS.call hg) hK' hp (fun _ => rfl)
        · exact hg.elim
      · exact hg.elim
  unfold opVC at h
  split at h
  · rename_i x ho; exact hmv x (.inl ho) h
  · rename_i x ho; exact hmv x (.inr ho) h
  · rename_i c x y ho
    split at h
    · rename_i hk; exact hpk c x y true ho (kn_ok1 ha hk) h
    · rename_i hk; exact hpk c x y false ho (kn_ok1 ha hk) h
    · obtain ⟨t, hc, ht, hf⟩ := h
      cases t
      · exact hpk c x y false ho hc (hf rfl)
      · exact hpk c x y true ho hc (ht rfl)
  · exact hgen h

theorem nth_eq {α : Type} (l : List α) (i : Nat) : nth l i = l[i]? := by
  induction l generalizing i with
  | nil => simp [nth]
  | cons x l ih => cases i with
    | zero => simp [nth]
    | succ i => simpa [nth] using ih i

theorem yielded_of {n : Nat} {e : Env} {k : Known} {a : Act} {ops : Array Oper} {g s : Nat} (ha : Agree n e k a) (hs : (nth ops.toList g).bind (·.dst) = some s) :
    yielded ops a.tmps g = match e s with | .bool b => some b | _ => none := by
  have h1 : (ops[g]?).bind (·.dst) = some s := by rw [nth_eq] at hs; simpa using hs
  unfold yielded
  rw [h1]
  have := ha.env s
  simp only [Option.bind_some]
  rw [← this]
  cases hv : a.tmps[s]? with
  | none => simp [Array.getD_eq_getD_getElem?, hv, undef]
  | some v => simp only [Array.getD_eq_getD_getElem?, hv, Option.getD_some]; cases v <;> rfl

theorem mem_dsts {o : Oper} {l : List Oper} {d : Nat} (ho : o ∈ l) (hd : o.dst = some d) : d ∈ dsts l := by
  induction l with
  | nil => cases ho
  | cons x l ih =>
    unfold dsts
    cases ho with
    | head => rw [hd]; exact List.mem_cons_self
    | tail _ hm => cases x.dst with
      | none => exact ih hm
      | some y => exact List.mem_cons_of_mem _ (ih hm)

theorem Agree.know {n : Nat} {e : Env} {k : Known} {a : Act} (ha : Agree n e k a) {s : Nat} {b : Bool} (he : e s = .bool b) :
    Agree n (Vc.put e (some s) (.bool b)) (putK k (some s) (some (some b))) a := by
  refine ⟨ha.size, fun t => ?_, fun t c => ?_, fun t => ?_, ha.defers⟩
  · by_cases hts : t = s
    · subst hts; rw [ha.env, he]; simp [Vc.put]
    · have hb : Nat.beq t s = false := by rw [beq_t]; simpa using hts
      simp only [Vc.put, hb, cond_false]; exact ha.env t
  · by_cases hts : t = s
    · subst hts; simp only [Vc.put, putK]; rw [beq_t]; simp
    · have hb : Nat.beq t s = false := by rw [beq_t]; simpa using hts
      simpa [Vc.put, putK, hb] using ha.kn1 t c
  · by_cases hts : t = s
    · subst hts; simp only [Vc.put, putK]; rw [beq_t]; simp
    · have hb : Nat.beq t s = false := by rw [beq_t]; simpa using hts
      simpa [Vc.put, putK, hb] using ha.kn0 t

theorem put_same {e : Env} {s : Nat} {b : Bool} (he : e s = .bool b) : put e (some s) (.bool b) = e := by
  funext t
  by_cases hts : t = s
  · subst hts; simp [put, he]
  · have hb : Nat.beq t s = false := by rw [beq_t]; simpa using hts
    simp [put, hb]

theorem opsVC_sound {n : Nat} {ops : Array Oper} {Q : Exit → Act → World → Prop} {K : KE} {Kp : KP} {e0 : Env} (hS : Le S P)
    (hp : ∀ ch w' a, a.defers = [] → Kp ch w' → Q (.panic ch) a w')
    (hK : ∀ e k w a, Agree n e k a → Fr (dsts ops.toList) e0 e → K e k w → Q .normal a w) :
    ∀ (l : List Oper), (∀ o ∈ l, o ∈ ops.toList) → (∀ o ∈ l, ∀ x, o.dst = some x → x < n) → ∀ (a : Act) (e : Env) (k : Known) (w : World), Agree n e k a → Fr (dsts ops.toList) e0 e →
      opsVC S ops.toList l e k w K Kp → wpList P ops Q l a w := by
  intro l
  induction l with
  | nil => intro _ _ a e k w ha hf h; exact hK _ _ _ _ ha hf h
  | cons o rest ih =>
    intro hl hn a e k w ha hf h
    have ih' := ih (fun x hx => hl x (List.mem_cons_of_mem _ hx)) (fun x hx => hn x (List.mem_cons_of_mem _ hx))
    have hd := hn o List.mem_cons_self
    have hW : ∀ x, o.dst = some x → x ∈ dsts ops.toList := fun x hx => mem_dsts (hl o List.mem_cons_self) hx
    have run : ∀ (e : Env) (k : Known), Agree n e k a → Fr (dsts ops.toList) e0 e → Region.wanted o (yielded ops a.tmps) = true →
        opVC S o e k w (fun e k w => opsVC S ops.toList rest e k w K Kp) Kp → wpList P ops Q (o :: rest) a w := by
      intro e k ha hf hw h
      unfold wpList
      rw [if_pos hw]
      refine .inl (opVC_sound hS ha hd h (fun v q w' a' _ ha' hk => ?_) (fun ch w' h => hp ch w' a ha.defers h))
      exact ih' _ _ _ _ ha' (hf.put hW v) hk
    have skip : ∀ (e : Env) (k : Known), Agree n e k a → Fr (dsts ops.toList) e0 e → Region.wanted o (yielded ops a.tmps) = false →
        opsVC S ops.toList rest (put e o.dst undef) (putK k o.dst (some none)) w K Kp → wpList P ops Q (o :: rest) a w := by
      intro e k ha hf hw h
      unfold wpList
      rw [if_neg (by simp [hw])]
      exact ih' _ _ _ _ (ha.put hd undef (some none) (fun _ hb => by cases hb) (fun _ => rfl)) (hf.put hW undef) h
    unfold opsVC at h
    split at h
    · rename_i hg
      exact run e k ha hf (by simp [Region.wanted, hg]) h
    · rename_i g want hg
      have hwt : ∀ y, yielded ops a.tmps g = y → Region.wanted o (yielded ops a.tmps) = (y == some want) := fun y hy => by simp [Region.wanted, hg, hy]
      split at h
      · exact h.elim
      · rename_i s hs
        have hy := yielded_of ha hs
        split at h
        · rename_i b hk
          have he := ha.kn1 _ _ hk
          rw [he] at hy
          have hw := hwt _ hy
          cases b <;> cases want <;> simp only at h
          · exact run e k ha hf (by rw [hw]; rfl) h
          · exact skip e k ha hf (by rw [hw]; rfl) h
          · exact skip e k ha hf (by rw [hw]; rfl) h
          · exact run e k ha hf (by rw [hw]; rfl) h
        · rename_i hk
          have he := ha.kn0 _ hk
          rw [he] at hy
          exact skip e k ha hf (by rw [hwt _ hy]; rfl) h
        · obtain ⟨b, he, ht, hff⟩ := h
          rw [he] at hy
          have hw := hwt _ hy
          have ha2 := ha.know he
          have hf2 : Fr (dsts ops.toList) e0 (put e (some s) (.bool b)) := by rw [put_same he]; exact hf
          cases b
          · have h := hff rfl
            cases want <;> simp only at h
            · exact run _ _ ha2 hf2 (by rw [hw]; rfl) h
            · exact skip _ _ ha2 hf2 (by rw [hw]; rfl) h
          · have h := ht rfl
            cases want <;> simp only at h
            · exact skip _ _ ha2 hf2 (by rw [hw]; rfl) h
            · exact run _ _ ha2 hf2 (by rw [hw]; rfl) h

end Go.Vc
