import Derived.Test.YtbghmbbhkoniiaaGreatB5
import Derived.Test.YtbghmbbhkoniiaaGreatB3
import Derived.Test.YtbghmbbhkoniiaaGreatB4
import Derived.Test.YtbghmbbhkoniiaaGreatB0
set_option linter.unusedSimpArgs false
set_option linter.unusedVariables false
set_option linter.unusedSectionVars false
set_option maxRecDepth 100000
set_option maxHeartbeats 4000000
section
/- Iterators: where they stand, and what is left; going down to the first pair. -/
namespace Go.Proofs.YtbghmbbhkoniiaaGreat.S
open Go.Vc Go.Proofs Go.Proofs.YtbghmbbhkoniiaaGreat Go.Vc.Nd
variable {w w' : World} {v : Value} {t : Tr} {F : Nat → Prop} {hash : Ky → Nat} {s : Nat}
theorem set_at {cs : Array Value} {i j : Nat} {u : Value} (h : j < cs.size) : (cs.setIfInBounds j u)[i]? = if j = i then some u else cs[i]? := by
  rw [Array.getElem?_setIfInBounds]
  split
  · rename_i e; subst e; simp [h]
  · rfl
def Sub (w : World) (F : Nat → Prop) (hash : Ky → Nat) (s : Tr) (v : Value) (d : Nat) : Prop :=
  d ≤ 7 ∧ ((∃ p, WF hash s d p) ∨ ∃ es, s = .arr es ∧ es ≠ []) ∧ s ≠ .emp ∧ ∃ F0 : Nat → Prop, Rep w s v F0 ∧ ∀ c, F0 c → F c
structure Fr where
  s : Tr
  v : Value
  i : Nat
def Fr.idx (r : Fr) : Nat := match r.s with
  | .br false f => rk f r.i
  | _ => r.i
def Fr.ok (r : Fr) : Prop := match r.s with
  | .br _ f => r.i < 32 ∧ f r.i ≠ .emp
  | t => r.i < (toL t).length
def left (fs : List Fr) : List (Ky × Vl) := fs.flatMap fun r => rest r.s r.i
theorem left_cons (r : Fr) (fs : List Fr) : left (r :: fs) = rest r.s r.i ++ left fs := List.flatMap_cons
def Stk (w : World) (F : Nat → Prop) (hash : Ky → Nat) (cs : Array Value) : List Fr → Prop
  | [] => True
  | r :: fs => cs[1 + fs.length * 2]? = some r.v ∧ cs[1 + fs.length * 2 + 1]? = some (.int .i64 r.idx) ∧ r.ok ∧ Sub w F hash r.s r.v fs.length ∧ Stk w F hash cs fs
theorem Sub.frame {s : Tr} {d : Nat} {M : Nat → Prop} (h : Sub w F hash s v d) (hf : Frm M w w') (hM : ∀ c, F c → ¬ M c) : Sub w' F hash s v d := by
  obtain ⟨h1, h2, h3, F0, h4, h5⟩ := h
  exact ⟨h1, h2, h3, F0, h4.frame hf fun c hc => hM c (h5 c hc), h5⟩
theorem Stk.frame {cs : Array Value} {M : Nat → Prop} (hf : Frm M w w') (hM : ∀ c, F c → ¬ M c) : ∀ {fs : List Fr}, Stk w F hash cs fs → Stk w' F hash cs fs
  | [], _ => trivial
  | r :: fs, h => ⟨h.1, h.2.1, h.2.2.1, h.2.2.2.1.frame hf hM, Stk.frame hf hM h.2.2.2.2⟩
theorem Stk.cells {cs cs' : Array Value} : ∀ {fs : List Fr}, Stk w F hash cs fs → (∀ i, i < 1 + fs.length * 2 → cs'[i]? = cs[i]?) → Stk w F hash cs' fs
  | [], _, _ => trivial
  | r :: fs, h, hc => by
    simp only [List.length_cons] at hc
    exact ⟨by rw [hc _ (by omega)]; exact h.1, by rw [hc _ (by omega)]; exact h.2.1, h.2.2.1, h.2.2.2.1, Stk.cells h.2.2.2.2 fun i hi => hc i (by omega)⟩
theorem Sub.bm {f : Nat → Tr} {d : Nat} (h : Sub w F hash (.br false f) v d) : ∃ b g cap, ∃ vs : Nat → Value, v = .iface 166 (ptr b) ∧ F b ∧ F g ∧ w.heap[b]? = some (.cells #[.int .u32 (bm f), .slice (some ⟨g, 0, none⟩) (cnt f) cap] 169 (0, 0)) ∧ cnt f ≤ cap ∧
    Rw w 119 1 g cap (kids f vs) ∧ d ≤ 6 ∧ (∃ i, i < 32 ∧ f i ≠ .emp) ∧ ∀ i, i < 32 → f i ≠ .emp → Sub w F hash (f i) (vs i) (d + 1) := by
  obtain ⟨h1, h2, h3, F0, h4, h5⟩ := h
  obtain ⟨b, g, cap, vs, Fs, k1, k2, k3, k4, k5, k6, k7, k8, k9⟩ := h4
  rcases h2 with ⟨p, hp⟩ | ⟨es, hes, _⟩
  · exact ⟨b, g, cap, vs, k1, h5 _ k2, h5 _ k3, k5, k6, k7, hp.1, hp.2.2.2.1, fun i hi hf => ⟨by have := hp.1; omega, .inl ⟨_, hp.2.1 i hi⟩, hf, Fs i, k8 i hi, fun c hc => h5 c (k9 i hi c hc).1⟩⟩
  · cases hes
theorem Sub.ha {f : Nat → Tr} {d : Nat} (h : Sub w F hash (.br true f) v d) : ∃ b cs, ∃ vs : Nat → Value, v = .iface 170 (ptr b) ∧ F b ∧ w.heap[b]? = some (.cells cs 173 (0, 0)) ∧ cs.size = 33 ∧ (∀ i, i < 32 → cs[1 + i]? = some (vs i)) ∧
    (∀ i, i < 32 → (f i = .emp ↔ vs i = .nilIface)) ∧ (∀ i, i < 32 → f i ≠ .emp → ∃ u b, vs i = .iface u (ptr b)) ∧ d ≤ 6 ∧ (∃ i, i < 32 ∧ f i ≠ .emp) ∧ ∀ i, i < 32 → f i ≠ .emp → Sub w F hash (f i) (vs i) (d + 1) := by
  obtain ⟨h1, h2, h3, F0, h4, h5⟩ := h
  obtain ⟨b, cs, vs, Fs, k1, k2, k3, k4, k5, k6, k7, k8⟩ := h4
  rcases h2 with ⟨p, hp⟩ | ⟨es, hes, _⟩
  · refine ⟨b, cs, vs, k1, h5 _ k2, k3, k4, fun i hi => (by rw [Nat.add_comm]; exact k6 i hi), fun i hi => ⟨fun he => ?_, fun he => ?_⟩, fun i hi he => (k7 i hi).iface he, hp.1, hp.2.2.2.1, fun i hi hf => ⟨by have := hp.1; omega, .inl ⟨_, hp.2.1 i hi⟩, hf, Fs i, k7 i hi, fun c hc => h5 c (k8 i hi c hc).1⟩⟩
    · have := k7 i hi; rw [he] at this; exact this.nil
    · refine Classical.byContradiction fun hne => ?_
      obtain ⟨u, b, hu⟩ := (k7 i hi).iface hne
      rw [hu] at he; cases he
  · cases hes
def depthOf (w : World) (ib : Nat) : Nat := match w.heap[ib]? with
  | some (.cells cs _ _) => match (cs[65]?).getD undef with
    | .int _ j => (j + 1).toNat
    | _ => 0
  | _ => 0
theorem depthOf_eq {ib : Nat} {d : Int} {cs : Array Value} {e : TypeId} {fz : Nat × Nat} (h : w.heap[ib]? = some (.cells cs e fz)) (hd : cs[65]? = some (.int .i64 d)) : depthOf w ib = (d + 1).toNat := by
  simp only [depthOf, h, hd, Option.getD_some]
def Low (w : World) (ib mb : Nat) (F : Nat → Prop) (hash : Ky → Nat) (cs : Array Value) (fs : List Fr) (s : Tr) (v : Value) : Prop :=
  w.heap[ib]? = some (.cells cs 126 (0, 0)) ∧ cs.size = 66 ∧ cs[0]? = some (ptr mb) ∧ cs[65]? = some (.int .i64 (fs.length : Int)) ∧ cs[1 + fs.length * 2]? = some v ∧ Sub w F hash s v fs.length ∧ Stk w F hash cs fs
def At (w : World) (ib mb : Nat) (F : Nat → Prop) (hash : Ky → Nat) (L : List (Ky × Vl)) : Prop :=
  ∃ cs, ∃ fs : List Fr, w.heap[ib]? = some (.cells cs 126 (0, 0)) ∧ cs.size = 66 ∧ cs[0]? = some (ptr mb) ∧ cs[65]? = some (.int .i64 ((fs.length : Int) - 1)) ∧ Stk w F hash cs fs ∧
    match fs with
    | [] => L = []
    | r :: _ => (∀ hs f, r.s ≠ .br hs f) ∧ ∃ e, (toL r.s)[r.i]? = some e ∧ L = e :: left fs
theorem At.frame {M : Nat → Prop} {ib mb : Nat} {L : List (Ky × Vl)} (h : At w ib mb F hash L) (hf : Frm M w w') (hM : ∀ c, F c → ¬ M c) (hi : ¬ M ib) : At w' ib mb F hash L := by
  obtain ⟨cs, fs, h1, h2, h3, h4, h5, h6⟩ := h
  exact ⟨cs, fs, hf.get h1 hi, h2, h3, h4, h5.frame hf hM, h6⟩
theorem At.lt {ib mb : Nat} {L : List (Ky × Vl)} (h : At w ib mb F hash L) : ib < w.heap.size := by
  obtain ⟨cs, fs, h1, _⟩ := h; exact lt_of_get h1
theorem Low.down {ib mb : Nat} {cs : Array Value} {fs : List Fr} {w3 : World} {hs : Bool} {f : Nat → Tr} {i : Nat} {u : Value} {d6 : fs.length ≤ 6} (h : Low w ib mb F hash cs fs (.br hs f) v) (hF : ¬ F ib) (hf : Frm (· = ib) w w3)
    (hi : i < 32) (hfi : f i ≠ .emp) (hsub : Sub w F hash (f i) u (fs.length + 1))
    (hb : w3.heap[ib]? = some (.cells (((cs.setIfInBounds (1 + fs.length * 2 + 1) (.int .i64 ((Fr.mk (.br hs f) v i).idx : Int))).setIfInBounds (1 + (fs.length + 1) * 2) u).setIfInBounds 65 (.int .i64 ((fs.length + 1 : Nat) : Int))) 126 (0, 0))) :
    Low w3 ib mb F hash (((cs.setIfInBounds (1 + fs.length * 2 + 1) (.int .i64 ((Fr.mk (.br hs f) v i).idx : Int))).setIfInBounds (1 + (fs.length + 1) * 2) u).setIfInBounds 65 (.int .i64 ((fs.length + 1 : Nat) : Int))) (⟨.br hs f, v, i⟩ :: fs) (f i) u := by
  obtain ⟨h1, h2, h3, h4, h5, h6, h7⟩ := h
  have hM : ∀ c, F c → ¬ c = ib := fun c hc e => hF (e ▸ hc)
  have g : ∀ j, (((cs.setIfInBounds (1 + fs.length * 2 + 1) (.int .i64 ((Fr.mk (.br hs f) v i).idx : Int))).setIfInBounds (1 + (fs.length + 1) * 2) u).setIfInBounds 65 (.int .i64 ((fs.length + 1 : Nat) : Int)))[j]? =
      if 65 = j then some (.int .i64 ((fs.length + 1 : Nat) : Int)) else if 1 + (fs.length + 1) * 2 = j then some u else if 1 + fs.length * 2 + 1 = j then some (.int .i64 ((Fr.mk (.br hs f) v i).idx : Int)) else cs[j]? := fun j => by
    rw [set_at (by simp; omega), set_at (by simp; omega), set_at (by omega)]
  refine ⟨hb, by simp [h2], ?_, ?_, ?_, hsub.frame hf hM, ?_, ?_, ⟨hi, hfi⟩, h6.frame hf hM, ?_⟩
  · rw [g, if_neg (by omega), if_neg (by omega), if_neg (by omega)]; exact h3
  · rw [g, if_pos rfl]; rfl
  · rw [g, if_neg (by simp; omega), if_pos (by simp)]
  · rw [g, if_neg (by omega), if_neg (by omega), if_neg (by omega)]; exact h5
  · rw [g, if_neg (by omega), if_neg (by omega), if_pos rfl]
  · exact Stk.cells (h7.frame hf hM) fun j hj => by rw [g, if_neg (by omega), if_neg (by omega), if_neg (by omega)]
theorem Low.leaf {ib mb j : Nat} {cs : Array Value} {fs : List Fr} {s : Tr} {w3 : World} {e : Ky × Vl} (h : Low w ib mb F hash cs fs s v) (hF : ¬ F ib) (hf : Frm (· = ib) w w3) (hbr : ∀ hs f, s ≠ .br hs f) (he : (toL s)[j]? = some e)
    (hb : w3.heap[ib]? = some (.cells (cs.setIfInBounds (1 + fs.length * 2 + 1) (.int .i64 (j : Int))) 126 (0, 0))) : At w3 ib mb F hash ((toL s).drop j ++ left fs) := by
  obtain ⟨h1, h2, h3, h4, h5, h6, h7⟩ := h
  have hM : ∀ c, F c → ¬ c = ib := fun c hc e => hF (e ▸ hc)
  have h67 := h6.1
  have g : ∀ i, (cs.setIfInBounds (1 + fs.length * 2 + 1) (.int .i64 (j : Int)))[i]? = if 1 + fs.length * 2 + 1 = i then some (.int .i64 (j : Int)) else cs[i]? := fun i => set_at (by omega)
  obtain ⟨hlen, hej⟩ := List.getElem?_eq_some_iff.1 he
  have hrest : (toL s).drop j = e :: rest s j := by
    have : rest s j = (toL s).drop (j + 1) := by cases s <;> first | rfl | exact absurd rfl (hbr _ _)
    rw [this, List.drop_eq_getElem_cons hlen, hej]
  refine ⟨_, ⟨s, v, j⟩ :: fs, hb, by simp [h2], ?_, ?_, ⟨?_, ?_, ?_, h6.frame hf hM, ?_⟩, hbr, e, he, ?_⟩
  · rw [g, if_neg (by omega)]; exact h3
  · rw [g, if_neg (by omega), h4]; simp
  · rw [g, if_neg (by omega)]; exact h5
  · rw [g, if_pos rfl]
    cases s <;> first | rfl | exact absurd rfl (hbr _ _)
  · cases s <;> first | exact hlen | exact absurd rfl (hbr _ _)
  · exact Stk.cells (h7.frame hf hM) fun i hi => by rw [g, if_neg (by omega)]
  · rw [left_cons]
    show (toL s).drop j ++ left fs = e :: (rest s j ++ left fs)
    rw [← List.cons_append, ← hrest]
end Go.Proofs.YtbghmbbhkoniiaaGreat.S
end
section
/- Iterators: down to the first pair. -/
namespace Go.Proofs.YtbghmbbhkoniiaaGreat.S
open Go.Vc Go.Proofs Go.Proofs.YtbghmbbhkoniiaaGreat Go.Vc.Nd
variable {w w' : World} {v : Value} {F : Nat → Prop} {K : KV} {Kp : KP} {hash : Ky → Nat} {s : Nat}
theorem first_ok {ib mb : Nat} {cs : Array Value} {fs : List Fr} {s : Tr} (h : Low w ib mb F hash cs fs s v) (hF : ¬ F ib)
    (hK : ∀ w', Frm (· = ib) w w' → w'.heap.size = w.heap.size → At w' ib mb F hash (toL s ++ left fs) → K (.tuple #[]) w') : Calls Tryz.prog 56 #[ptr ib] w (ret K Kp) := by
  refine vc56_calls ?_
  simp only [vc56]
  obtain ⟨I, hI⟩ : ∃ I : World → Prop, ∀ wl, I wl ↔ ∃ cs, ∃ fs' : List Fr, ∃ s' v', Frm (· = ib) w wl ∧ wl.heap.size = w.heap.size ∧ Low wl ib mb F hash cs fs' s' v' ∧ toL s' ++ left fs' = toL s ++ left fs := ⟨_, fun _ => Iff.rfl⟩
  refine Lp.intro I (fun wl => 41 - depthOf wl ib) ⟨(hI _).2 ⟨cs, fs, s, v, Frm.refl, rfl, h, rfl⟩, ?_⟩
  intro wl _ hl
  obtain ⟨cs, fs', s', v', hf, hz, hlow, hL⟩ := (hI _).1 hl
  clear hl h
  have ⟨h1, h2, h3, h4, h5, h6, h7⟩ := hlow
  have d7 := h6.1
  have hdep := depthOf_eq h1 h4
  have hne : s' ≠ .emp := h6.2.2.1
  have hM : ∀ c, F c → ¬ c = ib := fun c hc e => hF (e ▸ hc)
  have hdr : Frm (· = ib) wl wl.drew := Frm.drew _
  have wr1 : IntKind.i64.wrap ((fs'.length : Int) + 1) = ((fs'.length + 1 : Nat) : Int) := by rw [IntKind.wrap_i64]; omega
  have tn1 : ((fs'.length : Int) + 1).toNat = fs'.length + 1 := by omega
  have r7 : (fs'.length : Int) < 32 := by omega
  cases s' with
  | emp => exact absurd rfl hne
  | arr es =>
    obtain ⟨_, hw, _, F0, ⟨b, g, cap, rfl, _⟩, _⟩ := h6
    have hes : es ≠ [] := by
      rcases hw with ⟨p, hp⟩ | ⟨es', he, hne⟩
      · exact hp.elim
      · cases he; exact hne
    simp [-getElem?_pos, -Array.getElem?_eq_getElem, -Int.natCast_add, add_spot, and_assoc, Br_dec, -op_box, -op_st_3, -op_st_119, ptr, h1, h4, h5, r7]
    refine op_store_ok (by kernel_rfl) h1 (by rw [h2]; omega) rfl fun w3 k3 z3 b3 => ?_
    have k3 := Frm.dr k3
    obtain ⟨e, es', rfl⟩ := List.exists_cons_of_ne_nil hes
    have := hlow.leaf (e := e) hF k3 (fun _ _ h => nomatch h) rfl b3
    rw [List.drop_zero, hL] at this
    exact hK w3 (hf.trans k3 fun _ h _ => h) (by rw [z3]; exact hz) this
  | val h' k' x' =>
    obtain ⟨_, hw, _, F0, ⟨b, rfl, _⟩, _⟩ := h6
    simp [-getElem?_pos, -Array.getElem?_eq_getElem, -Int.natCast_add, add_spot, and_assoc, Br_dec, -op_box, -op_st_3, -op_st_119, ptr, h1, h4, h5, r7]
    refine op_store_ok (by kernel_rfl) h1 (by rw [h2]; omega) rfl fun w3 k3 z3 b3 => ?_
    have k3 := Frm.dr k3
    have := hlow.leaf (e := (k', x')) hF k3 (fun _ _ h => nomatch h) rfl b3
    rw [List.drop_zero, hL] at this
    exact hK w3 (hf.trans k3 fun _ h _ => h) (by rw [z3]; exact hz) this
  | col h' es =>
    obtain ⟨_, hw, _, F0, ⟨b, g, cap, rfl, _⟩, _⟩ := h6
    have hes : es ≠ [] := by
      rcases hw with ⟨p, hp⟩ | ⟨es', he, hne⟩
      · have := hp.1
        intro e; rw [e] at this; simp at this
      · cases he
    simp [-getElem?_pos, -Array.getElem?_eq_getElem, -Int.natCast_add, add_spot, and_assoc, Br_dec, -op_box, -op_st_3, -op_st_119, ptr, h1, h4, h5, r7]
    refine op_store_ok (by kernel_rfl) h1 (by rw [h2]; omega) rfl fun w3 k3 z3 b3 => ?_
    have k3 := Frm.dr k3
    obtain ⟨e, es', rfl⟩ := List.exists_cons_of_ne_nil hes
    have := hlow.leaf (e := e) hF k3 (fun _ _ h => nomatch h) rfl b3
    rw [List.drop_zero, hL] at this
    exact hK w3 (hf.trans k3 fun _ h _ => h) (by rw [z3]; exact hz) this
  | br hs f =>
    cases hs with
    | false =>
      obtain ⟨b, g, cap, vs, rfl, fb, fg, hb, hc, hrw, d6, hex, hsub⟩ := h6.bm
      obtain ⟨i, hi, hfi, hi0⟩ := has_first hex
      have hk0 := kids_get (vs := vs) hi hfi
      rw [rk_first hi0] at hk0
      have hc0 : 0 < cnt f := cnt_pos hi hfi
      simp [-getElem?_pos, -Array.getElem?_eq_getElem, -Int.natCast_add, add_spot, and_assoc, Br_dec, -op_box, -op_st_3, -op_st_119, ptr, h1, h4, h5, r7]
      refine op_store_ok (by kernel_rfl) h1 (by rw [h2]; omega) rfl fun w3 k3 z3 b3 => ?_
      have k3 := Frm.dr k3
      obtain ⟨cur, c1, c2, c3⟩ := (hrw.frame k3 (hM _ fg)).cells
      have hcur : cur[0]? = some (vs i) := by rw [c3 0 (by rw [kids_len]; exact hc0)]; exact hk0
      have hb3 := k3.get hb (hM _ fb)
      have h43 : (cs.setIfInBounds (1 + fs'.length * 2 + 1) (Value.int .i64 0))[65]? = some (.int .i64 (fs'.length : Int)) := by rw [set_at (by omega), if_neg (by omega)]; exact h4
      simp [-getElem?_pos, -Array.getElem?_eq_getElem, -Int.natCast_add, add_spot, and_assoc, Br_dec, -op_box, -op_st_3, -op_st_119, b3, h43, hb3, c1, hcur, wr1, tn1]
      refine ⟨by omega, by omega, ?_⟩
      refine op_store_ok (by kernel_rfl) b3 (by simp; omega) ?_ fun w4 k4 z4 b4 => ?_
      · obtain ⟨_, _, _, F1, hr, _⟩ := hsub i hi hfi
        exact hr.one
      have k4 := Frm.dr k4
      have h44 : ((cs.setIfInBounds (1 + fs'.length * 2 + 1) (Value.int .i64 0)).setIfInBounds (1 + (fs'.length + 1) * 2) (vs i))[65]? = some (.int .i64 (fs'.length : Int)) := by rw [set_at (by simp; omega), if_neg (by omega)]; exact h43
      simp [-getElem?_pos, -Array.getElem?_eq_getElem, -Int.natCast_add, add_spot, and_assoc, Br_dec, -op_box, -op_st_3, -op_st_119, b4, h44, wr1]
      refine op_store_ok (by kernel_rfl) b4 (by simp; omega) rfl fun w5 k5 z5 b5 => ?_
      have k345 : Frm (· = ib) wl w5 := (k3.trans k4 fun _ h _ => h).trans k5 fun _ h _ => h
      have hlow' := hlow.down (d6 := d6) hF k345 hi hfi (hsub i hi hfi) (by simpa [Fr.idx, rk_first hi0] using b5)
      have hz5 : w5.heap.size = w.heap.size := by simp only [heap_drew] at z3 z4 z5; omega
      refine ⟨(hI _).2 ⟨_, _, _, _, hf.trans k345 fun _ h _ => h, hz5, hlow', ?_⟩, ?_⟩
      · rw [← hL, toL_at (hs := false) hi hi0, left_cons, List.append_assoc]
      · rw [hdep, depthOf_eq hlow'.1 hlow'.2.2.2.1]
        simp only [List.length_cons]; omega
    | true =>
      obtain ⟨b, cs', vs, rfl, fb, hb, hcs, hvs, hemp, hif, d6, hex, hsub⟩ := h6.ha
      obtain ⟨i, hi, hfi, hi0⟩ := has_first hex
      simp [-getElem?_pos, -Array.getElem?_eq_getElem, -Int.natCast_add, add_spot, and_assoc, Br_dec, -op_box, -op_st_3, -op_st_119, ptr, h1, h4, h5, r7]
      obtain ⟨J, hJ⟩ : ∃ J : KV, ∀ s wz, J s wz ↔ ∃ j : Nat, s = Value.int .i64 j ∧ j ≤ i ∧ Frm (fun _ => False) wl wz ∧ wz.heap.size = wl.heap.size := ⟨_, fun _ _ => Iff.rfl⟩
      refine Lp.intro J (fun s _ => 32 - natOf s) ⟨(hJ _ _).2 ⟨0, rfl, by omega, Frm.drew _, rfl⟩, ?_⟩
      intro wz sz hsz
      obtain ⟨j, rfl, hji, kz, hzz⟩ := (hJ _ _).1 hsz
      have hbz := kz.get hb id
      have h1z := kz.get h1 id
      have hvj := hvs j (by omega)
      have hj32 : (j : Int) < 32 := by omega
      by_cases hij : j = i
      · subst hij
        obtain ⟨uu, bb, huu⟩ := hif j hi hfi
        rw [huu] at hvj
        simp [-getElem?_pos, -Array.getElem?_eq_getElem, -Int.natCast_add, add_spot, and_assoc, Br_dec, -op_box, -op_st_3, -op_st_119, hj32, hbz, hvj]
        refine op_store_ok (by kernel_rfl) h1z (by rw [h2]; omega) rfl fun w3 k3 z3 b3 => ?_
        have h43 : (cs.setIfInBounds (1 + fs'.length * 2 + 1) (Value.int .i64 (j : Int)))[65]? = some (.int .i64 (fs'.length : Int)) := by rw [set_at (by omega), if_neg (by omega)]; exact h4
        have hb3 := k3.get hbz (hM _ fb)
        simp [-getElem?_pos, -Array.getElem?_eq_getElem, -Int.natCast_add, add_spot, and_assoc, Br_dec, -op_box, -op_st_3, -op_st_119, b3, h43, hb3, hvj, wr1, tn1]
        refine ⟨by omega, ?_⟩
        refine op_store_ok (by kernel_rfl) b3 (by simp; omega) rfl fun w4 k4 z4 b4 => ?_
        have k4 := Frm.dr k4
        have h44 : ((cs.setIfInBounds (1 + fs'.length * 2 + 1) (Value.int .i64 (j : Int))).setIfInBounds (1 + (fs'.length + 1) * 2) (.iface uu (ptr bb)))[65]? = some (.int .i64 (fs'.length : Int)) := by rw [set_at (by simp; omega), if_neg (by omega)]; exact h43
        simp [-getElem?_pos, -Array.getElem?_eq_getElem, -Int.natCast_add, add_spot, and_assoc, Br_dec, -op_box, -op_st_3, -op_st_119, b4, h44, wr1]
        refine op_store_ok (by kernel_rfl) b4 (by simp; omega) rfl fun w5 k5 z5 b5 => ?_
        have k345 : Frm (· = ib) wl w5 := ((kz.fst k3).trans k4 fun _ h _ => h).trans k5 fun _ h _ => h
        have hlow' := hlow.down (d6 := d6) hF k345 hi hfi (hsub j hi hfi) (by simpa [Fr.idx, huu] using b5)
        have hz5 : w5.heap.size = w.heap.size := by simp only [heap_drew] at z3 z4 z5; omega
        refine ⟨(hI _).2 ⟨_, _, _, _, hf.trans k345 fun _ h _ => h, hz5, hlow', ?_⟩, ?_⟩
        · rw [← hL, toL_at (hs := true) hi hi0, left_cons, List.append_assoc]
        · rw [hdep, depthOf_eq hlow'.1 hlow'.2.2.2.1]
          simp only [List.length_cons]; omega
      · have he := (hemp j (by omega)).1 (hi0 j (by omega))
        rw [he] at hvj
        simp [-getElem?_pos, -Array.getElem?_eq_getElem, -Int.natCast_add, add_spot, and_assoc, Br_dec, -op_box, -op_st_3, -op_st_119, hj32, hbz, hvj]
        rw [wrap_i64_small (by omega) (by omega)]
        refine ⟨(hJ _ _).2 ⟨j + 1, by simp, by omega, kz, hzz⟩, ?_⟩
        simp only [natOf]; omega
end Go.Proofs.YtbghmbbhkoniiaaGreat.S
end
section
/- Iterators: on to the next pair. -/
namespace Go.Proofs.YtbghmbbhkoniiaaGreat.S
open Go.Vc Go.Proofs Go.Proofs.YtbghmbbhkoniiaaGreat Go.Vc.Nd
variable {w w' : World} {F : Nat → Prop} {K : KV} {Kp : KP} {hash : Ky → Nat} {k : Ky} {s : Nat}
def Up (w : World) (ib mb : Nat) (F : Nat → Prop) (hash : Ky → Nat) (cs : Array Value) (fs : List Fr) : Prop :=
  w.heap[ib]? = some (.cells cs 126 (0, 0)) ∧ cs.size = 66 ∧ cs[0]? = some (ptr mb) ∧ cs[65]? = some (.int .i64 ((fs.length : Int) - 1)) ∧ Stk w F hash cs fs
theorem Up.low {ib mb : Nat} {cs : Array Value} {fs : List Fr} {r : Fr} (h : Up w ib mb F hash cs (r :: fs)) : Low w ib mb F hash cs fs r.s r.v := by
  obtain ⟨h1, h2, h3, h4, h5⟩ := h
  exact ⟨h1, h2, h3, by rw [h4]; simp, h5.1, h5.2.2.2.1, h5.2.2.2.2⟩
theorem next_ok {ib mb : Nat} {cs : Array Value} {fs : List Fr} (h : Up w ib mb F hash cs fs) (hF : ¬ F ib)
    (hK : ∀ w', Frm (· = ib) w w' → w'.heap.size = w.heap.size → At w' ib mb F hash (left fs) → K (.tuple #[]) w') : Calls Tryz.prog 57 #[ptr ib] w (ret K Kp) := by
  refine vc57_calls ?_
  simp only [vc57]
  obtain ⟨I, hI⟩ : ∃ I : World → Prop, ∀ wl, I wl ↔ ∃ cs, ∃ fs' : List Fr, Frm (· = ib) w wl ∧ wl.heap.size = w.heap.size ∧ Up wl ib mb F hash cs fs' ∧ left fs' = left fs := ⟨_, fun _ => Iff.rfl⟩
  refine Lp.intro I (fun wl => depthOf wl ib) ⟨(hI _).2 ⟨cs, fs, Frm.refl, rfl, h, rfl⟩, ?_⟩
  intro wl _ hl
  obtain ⟨cs, fs', hf, hz, hup, hL⟩ := (hI _).1 hl
  clear hl h
  have ⟨h1, h2, h3, h4, h5⟩ := hup
  have hdep := depthOf_eq h1 h4
  have hM : ∀ c, F c → ¬ c = ib := fun c hc e => hF (e ▸ hc)
  cases fs' with
  | nil =>
    simp [-getElem?_pos, -Array.getElem?_eq_getElem, -Int.natCast_add, add_spot, and_assoc, Br_dec, -op_box, -op_st_3, -op_st_119, ptr, h1, h4]
    exact hK wl hf hz ⟨cs, [], h1, h2, h3, h4, trivial, by rw [← hL]; rfl⟩
  | cons r fs' =>
  have hlow := hup.low
  have ⟨_, _, _, h4', h5', h6, h7⟩ := hlow
  have d7 := h6.1
  have hi0 := h5.2.1
  have hrok := h5.2.2.1
  have wr1 : IntKind.i64.wrap ((fs'.length : Int) + 1) = ((fs'.length + 1 : Nat) : Int) := by rw [IntKind.wrap_i64]; omega
  have wr2 : IntKind.i64.wrap ((fs'.length : Int) - 1) = (fs'.length : Int) - 1 := by rw [IntKind.wrap_i64]; omega
  have tn1 : ((fs'.length : Int) + 1).toNat = fs'.length + 1 := by omega
  have r7 : (fs'.length : Int) < 32 := by omega
  have rnn : (0 : Int) ≤ (fs'.length : Int) := by omega
  simp [-getElem?_pos, -Array.getElem?_eq_getElem, -Int.natCast_add, add_spot, and_assoc, Br_dec, -op_box, -op_st_3, -op_st_119, ptr, h1, h4', rnn]
  obtain ⟨J, hJ⟩ : ∃ J : World → Prop, ∀ wz, J wz ↔ Frm (fun _ => False) wl wz ∧ wz.heap.size = wl.heap.size ∧ rest r.s r.i = [] := ⟨_, fun _ => Iff.rfl⟩
  refine Jn.intro J ⟨r7, ?_, ?_⟩
  rotate_left
  · intro wz hj
    obtain ⟨kz, zz, hr⟩ := (hJ _).1 hj
    have h1z := kz.get h1 id
    simp [-getElem?_pos, -Array.getElem?_eq_getElem, -Int.natCast_add, add_spot, and_assoc, Br_dec, -op_box, -op_st_3, -op_st_119, h1z, h4', wr2]
    refine op_store_ok (by kernel_rfl) h1z (by rw [h2]; omega) rfl fun w3 k3 z3 b3 => ?_
    have h43 : (cs.setIfInBounds 65 (Value.int .i64 ((fs'.length : Int) - 1)))[65]? = some (.int .i64 ((fs'.length : Int) - 1)) := by rw [set_at (by omega), if_pos rfl]
    refine ⟨(hI _).2 ⟨_, fs', hf.trans (kz.fst k3) fun _ h _ => h, by rw [z3, zz]; exact hz, ⟨b3, by simp [h2], ?_, h43, ?_⟩, ?_⟩, ?_⟩
    · rw [set_at (by omega), if_neg (by omega)]; exact h3
    · exact Stk.cells (h7.frame (kz.fst k3) hM) fun j hj => by rw [set_at (by omega), if_neg (by omega)]
    · rw [← hL, left_cons, hr, List.nil_append]
    · rw [hdep, depthOf_eq b3 h43]
      simp only [List.length_cons]; omega
  obtain ⟨rs, rv, ri⟩ := r
  simp only at hlow h5' h6 hi0 hrok
  have hent : ∀ {es : List (Ky × Vl)} {n : Nat}, (∀ hs f, rs ≠ .br hs f) → toL rs = es → n = es.length → ri < es.length → n ≤ 9223372036854775807 → 
      (IntKind.i64.wrap ((n : Int) - 1) = (n : Int) - 1) ∧ IntKind.i64.wrap ((ri : Int) + 1) = ((ri + 1 : Nat) : Int) := fun {es n} _ _ hn hr hn2 => by
    constructor <;> rw [IntKind.wrap_i64] <;> omega
  have hstep : ∀ {w3 : World} {es : List (Ky × Vl)}, (∀ hs f, rs ≠ .br hs f) → toL rs = es → ri + 1 < es.length → Frm (· = ib) wl w3 → w3.heap.size = wl.heap.size →
      w3.heap[ib]? = some (.cells (cs.setIfInBounds (1 + fs'.length * 2 + 1) (.int .i64 ((ri + 1 : Nat) : Int))) 126 (0, 0)) → K (.tuple #[]) w3 := fun {w3 es} hbr hes hlt k3 z3 b3 => by
    have := hlow.leaf (e := es[ri + 1]) hF k3 hbr (by rw [hes]; simp [hlt]) b3
    refine hK w3 (hf.trans k3 fun _ h _ => h) (by rw [z3]; exact hz) ?_
    rw [← hL, left_cons]
    have hr : rest rs ri = (toL rs).drop (ri + 1) := by cases rs <;> first | rfl | exact absurd rfl (hbr _ _)
    show At w3 ib mb F hash (rest rs ri ++ left fs')
    rw [hr]; exact this
  cases rs with
  | emp => exact absurd rfl h6.2.2.1
  | arr es =>
    obtain ⟨_, hw, _, F0, ⟨b, g, cap, rfl, g1, g2, g3, g4, g5, g6⟩, gF⟩ := h6
    have hri : ri < es.length := hrok
    have hcap := g6.cap_le g5
    obtain ⟨e1, e2⟩ := hent (es := es) (n := es.length) (fun _ _ h => nomatch h) rfl rfl hri hcap
    have hidx : (Fr.mk (.arr es) (.iface 128 (ptr b)) ri).idx = ri := rfl
    rw [hidx] at hi0
    simp [-getElem?_pos, -Array.getElem?_eq_getElem, -Int.natCast_add, add_spot, and_assoc, Br_dec, -op_box, -op_st_3, -op_st_119, ptr, h1, h4', h5', r7, hi0, g4, e1, e2]
    refine ⟨fun hlt => ?_, fun hge => (hJ _).2 ⟨(Frm.drew _).no (Frm.drew _), rfl, ?_⟩⟩
    · refine op_store_ok (by kernel_rfl) h1 (by rw [h2]; omega) rfl fun w3 k3 z3 b3 => ?_
      exact hstep (es := es) (fun _ _ h => nomatch h) rfl (by omega) (Frm.dr (Frm.dr k3)) z3 b3
    · show es.drop (ri + 1) = []
      rw [List.drop_eq_nil_iff]; omega
  | val h' k' x' =>
    obtain ⟨_, hw, _, F0, ⟨b, rfl, g1, g2⟩, gF⟩ := h6
    simp [-getElem?_pos, -Array.getElem?_eq_getElem, -Int.natCast_add, add_spot, and_assoc, Br_dec, -op_box, -op_st_3, -op_st_119, ptr, h1, h4', h5', r7, hi0]
    refine (hJ _).2 ⟨Frm.drew _, rfl, ?_⟩
    show [(k', x')].drop (ri + 1) = []
    simp
  | col h' es =>
    obtain ⟨_, hw, _, F0, ⟨b, g, cap, rfl, g1, g2, g3, g4, g5, g6⟩, gF⟩ := h6
    have hri : ri < es.length := hrok
    have hcap := g6.cap_le g5
    obtain ⟨e1, e2⟩ := hent (es := es) (n := es.length) (fun _ _ h => nomatch h) rfl rfl hri hcap
    have hidx : (Fr.mk (.col h' es) (.iface 138 (ptr b)) ri).idx = ri := rfl
    rw [hidx] at hi0
    simp [-getElem?_pos, -Array.getElem?_eq_getElem, -Int.natCast_add, add_spot, and_assoc, Br_dec, -op_box, -op_st_3, -op_st_119, ptr, h1, h4', h5', r7, hi0, g4, e1, e2]
    refine ⟨fun hlt => ?_, fun hge => (hJ _).2 ⟨(Frm.drew _).no (Frm.drew _), rfl, ?_⟩⟩
    · refine op_store_ok (by kernel_rfl) h1 (by rw [h2]; omega) rfl fun w3 k3 z3 b3 => ?_
      exact hstep (es := es) (fun _ _ h => nomatch h) rfl (by omega) (Frm.dr (Frm.dr k3)) z3 b3
    · show es.drop (ri + 1) = []
      rw [List.drop_eq_nil_iff]; omega
  | br hs f =>
    obtain ⟨hri, hfi⟩ : ri < 32 ∧ f ri ≠ .emp := hrok
    have hgo : ∀ {w3 : World} {cs3 : Array Value} {j : Nat} {u : Value}, ri < j → j < 32 → f j ≠ .emp → (∀ k, ri < k → k < j → f k = .emp) → Frm (· = ib) wl w3 → w3.heap.size = wl.heap.size → Low w3 ib mb F hash cs3 (⟨.br hs f, rv, j⟩ :: fs') (f j) u → Calls Tryz.prog 56 #[ptr ib] w3 (ret (fun _ w => K (.tuple #[]) w) Kp) := fun {w3 cs3 j u} h1 h2 h3 h4 k3 z3 hl => by
      refine first_ok hl hF fun w4 k4 z4 hat => hK w4 (hf.trans (k3.trans k4 fun _ h _ => h) fun _ h _ => h) (by rw [z4, z3]; exact hz) ?_
      rw [← hL, left_cons]
      show At w4 ib mb F hash (rest (.br hs f) ri ++ left fs')
      rw [rest_at h1 h2 h4, List.append_assoc]
      rw [left_cons] at hat
      exact hat
    cases hs with
    | false =>
      obtain ⟨b, g, cap, vs, rfl, fb, fg, hb, hc, hrw, d6, hex, hsub⟩ := h6.bm
      have hidx : (Fr.mk (.br false f) (.iface 166 (ptr b)) ri).idx = rk f ri := rfl
      rw [hidx] at hi0
      have hc32 : cnt f ≤ 32 := cnt_le
      have hrk : rk f ri < cnt f := by rw [cnt_rk]; exact rk_lt hri hfi
      have e1 : IntKind.i64.wrap ((cnt f : Int) - 1) = (cnt f : Int) - 1 := by rw [IntKind.wrap_i64]; omega
      have e2 : IntKind.i64.wrap ((rk f ri : Int) + 1) = ((rk f ri + 1 : Nat) : Int) := by rw [IntKind.wrap_i64]; omega
      simp [-getElem?_pos, -Array.getElem?_eq_getElem, -Int.natCast_add, add_spot, and_assoc, Br_dec, -op_box, -op_st_3, -op_st_119, ptr, h1, h4', h5', r7, hi0, hb, e1, e2]
      rcases rk_last hri hfi with ⟨j, j1, j2, j3, j4, j5, j6⟩ | ⟨j1, j2⟩
      · refine ⟨fun hlt => ?_, fun hge => by omega⟩
        have hk0 := kids_get (vs := vs) j2 j3
        rw [j5] at hk0
        refine op_store_ok (by kernel_rfl) h1 (by rw [h2]; omega) rfl fun w3 k3 z3 b3 => ?_
        have k3 := Frm.dr (Frm.dr k3)
        obtain ⟨cur, c1, c2, c3⟩ := (hrw.frame k3 (hM _ fg)).cells
        have hcur : cur[rk f ri + 1]? = some (vs j) := by rw [c3 _ (by rw [kids_len]; exact j6)]; exact hk0
        have hb3 := k3.get hb (hM _ fb)
        have h43 : (cs.setIfInBounds (1 + fs'.length * 2 + 1) (Value.int .i64 ((rk f ri + 1 : Nat) : Int)))[65]? = some (.int .i64 (fs'.length : Int)) := by rw [set_at (by omega), if_neg (by omega)]; exact h4'
        have h53 : (cs.setIfInBounds (1 + fs'.length * 2 + 1) (Value.int .i64 ((rk f ri + 1 : Nat) : Int)))[1 + fs'.length * 2 + 1]? = some (.int .i64 ((rk f ri + 1 : Nat) : Int)) := by rw [set_at (by omega), if_pos rfl]
        simp [-getElem?_pos, -Array.getElem?_eq_getElem, -Int.natCast_add, add_spot, and_assoc, Br_dec, -op_box, -op_st_3, -op_st_119, b3, h43, h53, hb3, c1, hcur, wr1, tn1]
        refine ⟨by omega, by omega, ?_⟩
        refine op_store_ok (by kernel_rfl) b3 (by simp; omega) ?_ fun w4 k4 z4 b4 => ?_
        · obtain ⟨_, _, _, F1, hr, _⟩ := hsub j j2 j3
          exact hr.one
        have k4 := Frm.dr k4
        have h44 : ((cs.setIfInBounds (1 + fs'.length * 2 + 1) (Value.int .i64 ((rk f ri + 1 : Nat) : Int))).setIfInBounds (1 + (fs'.length + 1) * 2) (vs j))[65]? = some (.int .i64 (fs'.length : Int)) := by rw [set_at (by simp; omega), if_neg (by omega)]; exact h43
        simp [-getElem?_pos, -Array.getElem?_eq_getElem, -Int.natCast_add, add_spot, and_assoc, Br_dec, -op_box, -op_st_3, -op_st_119, b4, h44, wr1]
        refine op_store_ok (by kernel_rfl) b4 (by simp; omega) rfl fun w5 k5 z5 b5 => ?_
        have k345 : Frm (· = ib) wl w5 := (k3.trans k4 fun _ h _ => h).trans k5 fun _ h _ => h
        have hlow' := hlow.down (d6 := d6) hF k345 j2 j3 (hsub j j2 j3) (by simpa [Fr.idx, j5] using b5)
        exact hgo j1 j2 j3 j4 k345 (by simp only [heap_drew] at z3 z4 z5; omega) hlow'
      · refine ⟨fun hlt => by omega, fun hge => (hJ _).2 ⟨(Frm.drew _).no (Frm.drew _), rfl, rest_end j1⟩⟩
    | true =>
      obtain ⟨b, cs', vs, rfl, fb, hb, hcs, hvs, hemp, hif, d6, hex, hsub⟩ := h6.ha
      have hidx : (Fr.mk (.br true f) (.iface 170 (ptr b)) ri).idx = ri := rfl
      rw [hidx] at hi0
      have e2 : IntKind.i64.wrap ((ri : Int) + 1) = ((ri + 1 : Nat) : Int) := by rw [IntKind.wrap_i64]; omega
      simp [-getElem?_pos, -Array.getElem?_eq_getElem, -Int.natCast_add, add_spot, and_assoc, Br_dec, -op_box, -op_st_3, -op_st_119, ptr, h1, h4', h5', r7, hi0, hb, e2]
      obtain ⟨I2, hI2⟩ : ∃ I2 : KV, ∀ s wz, I2 s wz ↔ ∃ j : Nat, s = Value.int .i64 j ∧ ri < j ∧ j ≤ 32 ∧ (∀ k, ri < k → k < j → f k = .emp) ∧ Frm (fun _ => False) wl wz ∧ wz.heap.size = wl.heap.size := ⟨_, fun _ _ => Iff.rfl⟩
      refine Lp.intro I2 (fun s _ => 32 - natOf s) ⟨(hI2 _ _).2 ⟨ri + 1, rfl, by omega, by omega, fun k hk hk' => by omega, Frm.drew _, rfl⟩, ?_⟩
      intro wz sz hsz
      obtain ⟨j, rfl, hj1, hj2, hj3, kz, hzz⟩ := (hI2 _ _).1 hsz
      have hbz := kz.get hb id
      have h1z := kz.get h1 id
      by_cases hj32 : j < 32
      · have hvj := hvs j hj32
        have hj32' : (j : Int) < 32 := by omega
        by_cases hfj : f j = .emp
        · have he := (hemp j hj32).1 hfj
          rw [he] at hvj
          simp [-getElem?_pos, -Array.getElem?_eq_getElem, -Int.natCast_add, add_spot, and_assoc, Br_dec, -op_box, -op_st_3, -op_st_119, hj32', hbz, hvj]
          rw [wrap_i64_small (by omega) (by omega)]
          refine ⟨(hI2 _ _).2 ⟨j + 1, by simp, by omega, by omega, fun k hk hk' => ?_, kz, hzz⟩, ?_⟩
          · by_cases e : k = j
            · rw [e]; exact hfj
            · exact hj3 k hk (by omega)
          · simp only [natOf]; omega
        · obtain ⟨uu, bb, huu⟩ := hif j hj32 hfj
          rw [huu] at hvj
          simp [-getElem?_pos, -Array.getElem?_eq_getElem, -Int.natCast_add, add_spot, and_assoc, Br_dec, -op_box, -op_st_3, -op_st_119, hj32', hbz, hvj]
          refine op_store_ok (by kernel_rfl) h1z (by rw [h2]; omega) rfl fun w3 k3 z3 b3 => ?_
          have h43 : (cs.setIfInBounds (1 + fs'.length * 2 + 1) (Value.int .i64 (j : Int)))[65]? = some (.int .i64 (fs'.length : Int)) := by rw [set_at (by omega), if_neg (by omega)]; exact h4'
          have h53 : (cs.setIfInBounds (1 + fs'.length * 2 + 1) (Value.int .i64 (j : Int)))[1 + fs'.length * 2 + 1]? = some (.int .i64 (j : Int)) := by rw [set_at (by omega), if_pos rfl]
          have hb3 := k3.get hbz (hM _ fb)
          simp [-getElem?_pos, -Array.getElem?_eq_getElem, -Int.natCast_add, add_spot, and_assoc, Br_dec, -op_box, -op_st_3, -op_st_119, b3, h43, h53, hb3, hvj, wr1, tn1]
          refine ⟨by omega, by omega, ?_⟩
          refine op_store_ok (by kernel_rfl) b3 (by simp; omega) rfl fun w4 k4 z4 b4 => ?_
          have k4 := Frm.dr k4
          have h44 : ((cs.setIfInBounds (1 + fs'.length * 2 + 1) (Value.int .i64 (j : Int))).setIfInBounds (1 + (fs'.length + 1) * 2) (.iface uu (ptr bb)))[65]? = some (.int .i64 (fs'.length : Int)) := by rw [set_at (by simp; omega), if_neg (by omega)]; exact h43
          simp [-getElem?_pos, -Array.getElem?_eq_getElem, -Int.natCast_add, add_spot, and_assoc, Br_dec, -op_box, -op_st_3, -op_st_119, b4, h44, wr1]
          refine op_store_ok (by kernel_rfl) b4 (by simp; omega) rfl fun w5 k5 z5 b5 => ?_
          have k345 : Frm (· = ib) wl w5 := ((kz.fst k3).trans k4 fun _ h _ => h).trans k5 fun _ h _ => h
          have hlow' := hlow.down (d6 := d6) hF k345 hj32 hfj (hsub j hj32 hfj) (by simpa [Fr.idx, huu] using b5)
          exact hgo hj1 hj32 hfj hj3 k345 (by simp only [heap_drew] at z3 z4 z5; omega) hlow'
      · have hj32' : ¬ (j : Int) < 32 := by omega
        simp [-getElem?_pos, -Array.getElem?_eq_getElem, -Int.natCast_add, add_spot, and_assoc, Br_dec, -op_box, -op_st_3, -op_st_119, hj32']
        exact (hJ _).2 ⟨kz, hzz, rest_end fun k hk hk' => hj3 k hk (by omega)⟩
end Go.Proofs.YtbghmbbhkoniiaaGreat.S
end
section
/- Iterators: Done, Next, First, and a map's Iterator. -/
namespace Go.Proofs.YtbghmbbhkoniiaaGreat.S
open Go.Vc Go.Proofs Go.Proofs.YtbghmbbhkoniiaaGreat Go.Vc.Nd
variable {w w' : World} {v : Value} {t : Tr} {F : Nat → Prop} {K : KV} {Kp : KP} {hash : Ky → Nat} {s : Nat}
theorem At.depth {ib mb : Nat} {L : List (Ky × Vl)} (h : At w ib mb F hash L) : ∃ cs, ∃ fs : List Fr, Up w ib mb F hash cs fs ∧ (L = [] ↔ fs = []) ∧ L.tail = left fs ∧ match fs with
    | [] => True
    | r :: _ => (∀ hs f, r.s ≠ .br hs f) ∧ ∃ e, (toL r.s)[r.i]? = some e ∧ L = e :: left fs := by
  obtain ⟨cs, fs, h1, h2, h3, h4, h5, h6⟩ := h
  refine ⟨cs, fs, ⟨h1, h2, h3, h4, h5⟩, ?_⟩
  cases fs with
  | nil => subst h6; exact ⟨by simp, rfl, trivial⟩
  | cons r fs =>
    obtain ⟨a, e, b, c⟩ := h6
    exact ⟨by simp [c], by rw [c]; rfl, a, e, b, c⟩
theorem done_ok {ib mb : Nat} {L : List (Ky × Vl)} (h : At w ib mb F hash L) (hK : K (.bool (decide (L = []))) w) : Calls Tryz.prog 42 #[ptr ib] w (ret K Kp) := by
  obtain ⟨cs, fs, ⟨h1, h2, h3, h4, h5⟩, h6, h7, _⟩ := h.depth
  refine vc42_calls ?_
  have e : decide ((fs.length : Int) - 1 = -1) = decide (L = []) := by
    cases fs with
    | nil => have := h6.2 rfl; subst this; rfl
    | cons r fs =>
      have hL : L ≠ [] := fun h => by have := h6.1 h; cases this
      simp only [List.length_cons]
      rw [decide_eq_false (by omega), decide_eq_false hL]
  simp [-getElem?_pos, -Array.getElem?_eq_getElem, -Int.natCast_add, add_spot, and_assoc, Br_dec, -op_box, -op_st_3, -op_st_119, -op_st_123, vc42, ptr, h1, h4]
  rw [← e] at hK
  simpa using hK
def zk : Ky := 0
def nextV (L : List (Ky × Vl)) : Value := match L with
  | [] => .tuple #[ek zk, zv, .bool false]
  | e :: _ => .tuple #[ek e.1, ev e.2, .bool true]
theorem entry_at {g cap : Nat} {es : List (Ky × Vl)} {i : Nat} {e : Ky × Vl} (h : Rw w 131 1 g cap (ents es)) (he : es[i]? = some e) : ∃ cur, w.heap[g]? = some (.cells cur 131 (0, 0)) ∧ cur[i * 1]? = some (ek e.1)
    := by
  obtain ⟨cur, h1, h2⟩ := key_cell h
  obtain ⟨hi, rfl⟩ := List.getElem?_eq_some_iff.1 he
  exact ⟨cur, h1, (h2 i hi).1⟩
theorem Next_ok {ib mb : Nat} {L : List (Ky × Vl)} (h : At w ib mb F hash L) (hF : ¬ F ib)
    (hK : ∀ w', Frm (· = ib) w w' → w.heap.size ≤ w'.heap.size → At w' ib mb F hash L.tail → K (nextV L) w') : Calls Tryz.prog 43 #[ptr ib] w (ret K Kp) := by
  refine vc43_calls ?_
  simp only [vc43, call_42]
  refine op_alloc_ok (z := .agg #[]) (by kernel_rfl) fun w k0 z0 b0 => ?_
  replace h := h.frame k0 (fun _ _ h => h) id
  replace hK := fun w' (kf : Frm (· = ib) w w') (hz : w'.heap.size = w.heap.size) ha => hK w' (k0.fst kf) (by omega) ha
  obtain ⟨cs, fs, hup, h6, h7, h8⟩ := h.depth
  have ⟨h1, h2, h3, h4, h5⟩ := hup
  refine done_ok h ?_
  simp only [Br_dec]
  refine ⟨fun e => ?_, fun hnn => ?_⟩
  · subst e
    simp [-getElem?_pos, -Array.getElem?_eq_getElem, -Int.natCast_add, add_spot, and_assoc, Br_dec, -op_box, -op_st_3, -op_st_119, -op_st_123]
    exact hK w.drew (Frm.drew _) rfl (h.frame (Frm.drew _) (fun _ _ h => h) id)
  cases fs with
  | nil => exact absurd (h6.2 rfl) hnn
  | cons r fs =>
  have hlow := hup.low
  have ⟨_, _, _, h4', h5', hsub, hst⟩ := hlow
  have d7 := hsub.1
  have r7 : (fs.length : Int) < 32 := by omega
  have hi0 := h5.2.1
  obtain ⟨hbr, e, he, hL⟩ := h8
  subst hL
  have hfin : ∀ {wz : World}, Frm (fun _ => False) w wz → wz.heap.size = w.heap.size → Calls Tryz.prog 57 #[ptr ib] wz (ret (fun _ w => K (.tuple #[ek e.1, ev e.2, .bool true]) w.drew) Kp) := fun {wz} kz zz => by
    have hM : ∀ c, F c → ¬ False := fun _ _ h => h
    refine next_ok (cs := cs) (fs := r :: fs) ⟨kz.get h1 id, h2, h3, h4, h5.frame kz hM⟩ hF fun w' k' z' hat => hK w'.drew ((kz.fst k').old (Frm.drew (M := (· = ib)) w') fun _ h => .inl h) (by show w'.heap.size = _; rw [z', zz]) ?_
    exact At.frame hat (Frm.drew w') (fun _ _ h => h) id
  obtain ⟨rs, rv, ri⟩ := r
  simp only at hsub hi0 hbr he h5'
  cases rs with
  | emp => exact absurd rfl hsub.2.2.1
  | br hs f => exact absurd rfl (hbr _ _)
  | arr es =>
    obtain ⟨_, hw, _, F0, ⟨b, g, cap, rfl, g1, g2, g3, g4, g5, g6⟩, gF⟩ := hsub
    have hri : ri < es.length := (List.getElem?_eq_some_iff.1 he).1
    have hidx : (Fr.mk (.arr es) (.iface 128 (ptr b)) ri).idx = ri := rfl
    rw [hidx] at hi0
    obtain ⟨cur, c1, c2⟩ := entry_at g6 he
    rw [Nat.mul_one] at c2
    simp [-getElem?_pos, -Array.getElem?_eq_getElem, -Int.natCast_add, add_spot, and_assoc, Br_dec, -op_box, -op_st_3, -op_st_119, -op_st_123, ptr, h1, h4', h5', r7, hi0, g4, c1, c2, call_57]
    refine ⟨hri, ld_fa0_ok (ent_val (w := w.drew.drew.drew) c1) ?_⟩
    simp [-getElem?_pos, -Array.getElem?_eq_getElem, -Int.natCast_add, add_spot, and_assoc, Br_dec, -op_box, -op_st_3, -op_st_119, -op_st_123]
    refine ⟨same_fa0_ok (ent_val (w := w.drew.drew.drew) c1), ?_⟩
    exact hfin (((Frm.drew _).no (Frm.drew _)).no (Frm.drew _)) rfl
  | val h' k' x' =>
    obtain ⟨_, hw, _, F0, ⟨b, rfl, g1, g2⟩, gF⟩ := hsub
    have hri : ri = 0 := by have := (List.getElem?_eq_some_iff.1 he).1; simpa [toL] using this
    subst hri
    obtain rfl : (k', x') = e := by simpa [toL] using he
    simp [-getElem?_pos, -Array.getElem?_eq_getElem, -Int.natCast_add, add_spot, and_assoc, Br_dec, -op_box, -op_st_3, -op_st_119, -op_st_123, ptr, h1, h4', h5', r7, hi0, g2, call_57]
    refine ld_fa0_ok (val_val (w := w.drew.drew) g2) ?_
    simp [-getElem?_pos, -Array.getElem?_eq_getElem, -Int.natCast_add, add_spot, and_assoc, Br_dec, -op_box, -op_st_3, -op_st_119, -op_st_123]
    refine ⟨same_fa0_ok (val_val (w := w.drew.drew) g2), ?_⟩
    exact hfin ((Frm.drew _).no (Frm.drew _)) rfl
  | col h' es =>
    obtain ⟨_, hw, _, F0, ⟨b, g, cap, rfl, g1, g2, g3, g4, g5, g6⟩, gF⟩ := hsub
    have hri : ri < es.length := (List.getElem?_eq_some_iff.1 he).1
    have hidx : (Fr.mk (.col h' es) (.iface 138 (ptr b)) ri).idx = ri := rfl
    rw [hidx] at hi0
    obtain ⟨cur, c1, c2⟩ := entry_at g6 he
    rw [Nat.mul_one] at c2
    simp [-getElem?_pos, -Array.getElem?_eq_getElem, -Int.natCast_add, add_spot, and_assoc, Br_dec, -op_box, -op_st_3, -op_st_119, -op_st_123, ptr, h1, h4', h5', r7, hi0, g4, c1, c2, call_57]
    refine ⟨hri, ld_fa0_ok (ent_val (w := w.drew.drew.drew) c1) ?_⟩
    simp [-getElem?_pos, -Array.getElem?_eq_getElem, -Int.natCast_add, add_spot, and_assoc, Br_dec, -op_box, -op_st_3, -op_st_119, -op_st_123]
    refine ⟨same_fa0_ok (ent_val (w := w.drew.drew.drew) c1), ?_⟩
    exact hfin (((Frm.drew _).no (Frm.drew _)).no (Frm.drew _)) rfl
def Itr (w : World) (ib mb : Nat) : Prop := ∃ cs, w.heap[ib]? = some (.cells cs 126 (0, 0)) ∧ cs.size = 66 ∧ cs[0]? = some (ptr mb)
theorem First_ok {ib mb : Nat} {h : Value} (hW : WFr hash t) (hm : IsMap w mb h t F) (hi : Itr w ib mb) (hF : ¬ F ib)
    (hK : ∀ w', Frm (· = ib) w w' → w'.heap.size = w.heap.size → At w' ib mb F hash (toL t) → K (.tuple #[]) w') : Calls Tryz.prog 41 #[ptr ib] w (ret K Kp) := by
  obtain ⟨r, F0, h1, h2, h3, h4⟩ := hm
  obtain ⟨cs, g1, g2, g3⟩ := hi
  have heq := fun {wz : World} {K : KV} {Kp : KP} => eq_nil h3 (wz := wz) (K := K) (Kp := Kp)
  have hM : ∀ c, F c → ¬ c = ib := fun c hc e => hF (e ▸ hc)
  refine vc41_calls ?_
  simp [-getElem?_pos, -Array.getElem?_eq_getElem, -Int.natCast_add, add_spot, and_assoc, Br_dec, -op_box, -op_st_3, -op_st_119, -op_st_123, vc41, ptr, g1, g3, h1, heq]
  refine ⟨fun e => ?_, fun e => ?_⟩
  · have := isEmp_iff.1 e
    subst this
    refine op_store_ok (by kernel_rfl) g1 (by rw [g2]; omega) rfl fun w3 k3 z3 b3 => hK w3 k3 z3 ⟨_, [], b3, by simp [g2], ?_, ?_, trivial, rfl⟩
    · rw [set_at (by omega), if_neg (by omega)]; exact g3
    · rw [set_at (by omega), if_pos rfl]; rfl
  · have hne : t ≠ .emp := fun h => by rw [h] at e; cases e
    have r1 := h3.one
    have hcs : (2 : Nat) ≤ cs.size := by omega
    obtain ⟨u, c, rfl⟩ := h3.iface hne
    simp [-getElem?_pos, -Array.getElem?_eq_getElem, -Int.natCast_add, add_spot, and_assoc, Br_dec, -op_box, -op_st_3, -op_st_119, -op_st_123, h1]
    refine op_storeN_ok (n := 2) (by kernel_rfl) (w := w.drew) g1 rfl (by rw [g2]; omega) (by simp) fun w3 k3 z3 b3 => ?_
    have k3 := Frm.dr k3
    have hg : ∀ j, (ow cs 1 [Value.iface u (ptr c), Value.int .i64 0])[j]? = if 1 ≤ j ∧ j < 3 then [Value.iface u (ptr c), Value.int .i64 0][j - 1]? else cs[j]? := fun j => ow_get (by simp; omega)
    refine op_store_ok (by kernel_rfl) b3 (by rw [ow_size]; omega) rfl fun w4 k4 z4 b4 => ?_
    have k34 : Frm (· = ib) w w4 := k3.trans k4 fun _ h _ => h
    have hz : (ow cs 1 [Value.iface u (ptr c), Value.int .i64 0]).size = 66 := by rw [ow_size]; exact g2
    refine first_ok (fs := []) (s := t) (v := .iface u (ptr c)) (F := F) (hash := hash) (mb := mb) ⟨b4, by simpa using hz, ?_, ?_, ?_, ⟨by simp, ?_, hne, F0, h3.frame k34 fun c hc => hM c (h4 c hc).1, fun c hc => (h4 c hc).1⟩, trivial⟩ hF fun w5 k5 z5 hat => ?_
    · show ((ow cs 1 [Value.iface u (ptr c), Value.int .i64 0]).setIfInBounds 65 (.int .i64 0))[0]? = _
      rw [set_at (by omega), if_neg (by omega), hg, if_neg (by omega)]; exact g3
    · show ((ow cs 1 [Value.iface u (ptr c), Value.int .i64 0]).setIfInBounds 65 (.int .i64 0))[65]? = _
      rw [set_at (by omega), if_pos rfl]; rfl
    · show ((ow cs 1 [Value.iface u (ptr c), Value.int .i64 0]).setIfInBounds 65 (.int .i64 0))[1]? = _
      rw [set_at (by omega), if_neg (by omega), hg, if_pos (by omega)]; rfl
    · cases t with
      | arr es => exact .inr ⟨es, rfl, hW.1⟩
      | emp => exact absurd rfl hne
      | br hs f => exact .inl ⟨0, hW⟩
      | val a b c => exact .inl ⟨0, hW⟩
      | col a b => exact .inl ⟨0, hW⟩
    · refine hK w5 (k34.trans k5 fun _ h _ => h) (by rw [z5, z4, z3]; rfl) ?_
      have e : left [] = ([] : List (Ky × Vl)) := rfl
      rw [e, List.append_nil] at hat
      exact hat
theorem iterator_ok {mb : Nat} {h : Value} (hW : WFr hash t) (hm : IsMap w mb h t F) (hF : ∀ c, F c → c < w.heap.size)
    (hK : ∀ ib w', Frm (fun _ => False) w w' → w.heap.size ≤ ib → At w' ib mb F hash (toL t) → K (ptr ib) w') : Calls Tryz.prog 40 #[ptr mb] w (ret K Kp) := by
  refine vc40_calls ?_
  simp [-getElem?_pos, -Array.getElem?_eq_getElem, -Int.natCast_add, add_spot, and_assoc, Br_dec, -op_box, -op_st_3, -op_st_119, -op_st_123, vc40, ptr]
  refine op_box_ok fun w1 k1 z1 b1 => ?_
  simp only [cells_agg] at b1
  refine First_ok (ib := w.heap.size) hW (hm.keep fun c o hc ho => k1.get ho fun h => h) ⟨_, b1, by simp [zero_126], ?_⟩ (fun h => by have := hF _ h; omega) fun w2 k2 z2 hat => hK _ w2 (k1.old k2 fun c hc => .inr (by omega)) (Nat.le_refl _) hat
  rw [set_at (by decide), if_pos rfl]; rfl
end Go.Proofs.YtbghmbbhkoniiaaGreat.S
end
section
/- A map with its hasher, chosen or to be chosen at the first key: set, delete, get, length, iterator. -/
namespace Go.Proofs.YtbghmbbhkoniiaaGreat.S
open Go.Vc Go.Proofs Go.Proofs.YtbghmbbhkoniiaaGreat Go.Vc.Nd
variable {w w' : World} {hv : Value} {t : Tr} {F F' : Nat → Prop} {K : KV} {Kp : KP} {hash : Ky → Nat} {k : Ky} {x : Vl} {mu nl : Bool}
theorem isH_of (h : I.IsH hv hash) : IsH hv hash := ⟨h.lt, fun {a b w K Kp} hK => h.eqv (a := a) (b := b) hK, fun {k w K Kp} hK => h.hsh (k := k) hK, h.nilE, h.iface⟩
abbrev defV := I.defV
abbrev defHash : Ky → Nat := I.defHash
theorem newHasher_ok (hK : ∀ d w', Frm (fun _ => False) w w' → K (defV d) w') : Calls Tryz.prog 58 #[ek k] w (ret K Kp) := I.newHasher_ok (k := k) hK
theorem set_first_ok {b : Nat} (hm : IsMap w b .nilIface .emp F)
    (hK : ∀ b' w' F' d, Frm (fun c => mu = true ∧ F c) w w' → IsMap w' b' (defV d) (.arr [(k, x)]) F' → (∀ c, F' c → F c ∨ w.heap.size ≤ c) → (mu = true → b' = b) → K (ptr b') w') : Calls Tryz.prog 44 #[ptr b, ek k, ev x, .bool mu] w (ret K Kp) := by
  obtain ⟨r, F0, h1, h2, h3, h4⟩ := hm.lt
  have heq := fun {wz : World} {K : KV} {Kp : KP} => eq_nil h3 (wz := wz) (K := K) (Kp := Kp)
  obtain rfl := h3.nil
  refine vc44_calls ?_
  simp only [vc44]
  refine op_box_ok fun w k0 z0 b0 => ?_
  replace h1 := k0.get h1 id
  replace h4 : ∀ c, F0 c → (F c ∧ c < w.heap.size) ∧ c ≠ b := fun c hc => ⟨⟨(h4 c hc).1.1, by have := (h4 c hc).1.2; omega⟩, (h4 c hc).2⟩
  replace hK := fun b' w' F' d (kf : Frm (fun c => mu = true ∧ F c) w w') hm (hF : ∀ c, F' c → F c ∨ w.heap.size ≤ c) hb => hK b' w' F' d (k0.fst kf) hm (fun c hc => (hF c hc).imp id fun h => by omega) hb
  simp [-getElem?_pos, -Array.getElem?_eq_getElem, -Int.natCast_add, add_spot, and_assoc, Br_dec, -op_box, -op_st_4, -op_st_3, -op_st_119, -op_st_132, -op_st_167, -op_st_131, -op_st_121, -op_st_74, -op_alloc_4, -op_alloc_121, -op_lit_132_1, vc44, ptr, h1]
  refine Jn.intro (fun hv' w1 => ∃ d, hv' = defV d ∧ Frm (fun _ => False) w w1) ⟨newHasher_ok fun d w1 k1 => ⟨d, rfl, k1⟩, ?_⟩
  rintro w0 _ ⟨d, rfl, k0⟩
  have h10 := k0.get h1 id
  have n0 := k0.size
  obtain ⟨J, hJ⟩ : ∃ J : KV, ∀ ov w1, J ov w1 ↔ ∃ nb, ov = ptr nb ∧ Frm (fun _ => False) w0 w1 ∧ w1.heap[nb]? = some (.cells #[.int .i64 0, .nilIface, .nilIface] 121 (0, 0)) ∧ (nb = b ∧ mu = true ∨ nb = w0.heap.size) ∧ (mu = true → nb = b) := ⟨_, fun _ _ => Iff.rfl⟩
  refine Jn.intro J ⟨fun hm => ?_, fun hm => (hJ _ _).2 ⟨b, rfl, Frm.refl, h10, .inl ⟨rfl, hm⟩, fun _ => rfl⟩, ?_⟩
  · exact clone_map_ok h10 rfl rfl rfl fun w1 k1 z1 b1 => (hJ _ _).2 ⟨_, rfl, k1, b1, .inr rfl, fun h => by rw [h] at hm; cases hm⟩
  intro w1 ov hov
  obtain ⟨nb, rfl, k1, b1, hnb, hnbm⟩ := (hJ _ _).1 hov
  clear hov hJ J
  have hb1 := k1.get h10 id
  have n1 := k1.size
  have l1 := lt_of_get h10
  simp [-getElem?_pos, -Array.getElem?_eq_getElem, -Int.natCast_add, add_spot, and_assoc, Br_dec, -op_box, -op_st_4, -op_st_3, -op_st_119, -op_st_132, -op_st_167, -op_st_131, -op_st_121, -op_st_74, -op_alloc_4, -op_alloc_121, -op_lit_132_1, ptr]
  refine op_store_ok (by kernel_rfl) b1 (by simp) rfl fun w2 k2 z2 b2 => ?_
  have b2 : w2.heap[nb]? = some (.cells #[.int .i64 0, .nilIface, defV d] 121 (0, 0)) := by simpa using b2
  obtain ⟨hh, hb2⟩ : ∃ hh, w2.heap[b]? = some (.cells #[.int .i64 0, .nilIface, hh] 121 (0, 0)) := by
    by_cases e : b = nb
    · exact ⟨_, by rw [e]; exact b2⟩
    · exact ⟨_, k2.get hb1 e⟩
  simp [-getElem?_pos, -Array.getElem?_eq_getElem, -Int.natCast_add, add_spot, and_assoc, Br_dec, -op_box, -op_st_4, -op_st_3, -op_st_119, -op_st_132, -op_st_167, -op_st_131, -op_st_121, -op_st_74, -op_alloc_4, -op_alloc_121, -op_lit_132_1, hb2]
  refine op_store_ok (by kernel_rfl) b2 (by simp) rfl fun w3 k3 z3 b3 => ?_
  refine op_lit_ok lit_132_1 fun w4 k4 z4 b4 => ?_
  simp [-getElem?_pos, -Array.getElem?_eq_getElem, -Int.natCast_add, add_spot, and_assoc, Br_dec, -op_box, -op_st_4, -op_st_3, -op_st_119, -op_st_132, -op_st_167, -op_st_131, -op_st_121, -op_st_74, -op_alloc_4, -op_alloc_121, -op_lit_132_1]
  refine op_box_ok fun w5 k5 z5 b5 => ?_
  simp only [cells_agg] at b5
  have bn5 := k5.get (k4.get b3 id) id
  refine op_store_ok (by kernel_rfl) bn5 (by simp) rfl fun w6 k6 z6 b6 => ?_
  have l2 := lt_of_get b2
  have hq : Rw w6 131 1 w3.heap.size 1 (ents [(k, x)]) := ((Rw.lit (w := w4) (n := 1) (by rw [ents_len]; rfl) (by decide) (by simpa [ents, ent] using b4)).frame k5 id).frame k6 (by omega)
  have b56 := k6.get b5 (by omega)
  have kall : Frm (fun c => mu = true ∧ F c) w w6 := (k0.to (M' := fun c => mu = true ∧ F c) fun _ h => h.elim).old (k1.fst (k2.tr (k3.tr (k4.fst (k5.fst k6))))) fun c hc => by
    have hcn : c = nb := by rcases hc with h | h | h <;> exact h
    rcases hnb with h | h
    · exact .inl ⟨h.2, by rw [hcn, h.1]; exact h2.1⟩
    · exact .inr (by omega)
  refine hK nb w6 (fun c => c = nb ∨ c = w4.heap.size ∨ c = w3.heap.size) d kall ⟨_, fun c => c = w4.heap.size ∨ c = w3.heap.size, by rw [show ((toL (Nd.arr [(k, x)])).length : Int) = 1 from rfl]; simpa [ptr] using b6, .inl rfl, ⟨w4.heap.size, w3.heap.size, 1, rfl, .inl rfl, .inr rfl, by omega, b56, by simp, hq⟩, fun c hc => ⟨.inr hc, by omega⟩⟩ (fun c hc => ?_) hnbm
  rcases hc with h | h | h
  · rcases hnb with h' | h'
    · exact .inl (by rw [h, h'.1]; exact h2.1)
    · exact .inr (by omega)
  · exact .inr (by omega)
  · exact .inr (by omega)
def Ver (w : World) (b : Nat) (hash : Ky → Nat) (nl : Bool) (t : Tr) (F : Nat → Prop) : Prop :=
  WFr hash t ∧ ∃ hv, IsMap w b hv t F ∧ (IsH hv hash ∨ nl = true ∧ hash = defHash ∧ hv = .nilIface ∧ t = .emp)
theorem Ver.keep {b : Nat} (h : Ver w b hash nl t F) (hw : ∀ c o, F c → w.heap[c]? = some o → w'.heap[c]? = some o) : Ver w' b hash nl t F := by
  obtain ⟨h1, hv, h2, h3⟩ := h
  exact ⟨h1, hv, h2.keep hw, h3⟩
theorem Ver.frame {b : Nat} {M : Nat → Prop} (h : Ver w b hash nl t F) (hf : Frm M w w') (hM : ∀ c, F c → ¬ M c) : Ver w' b hash nl t F := h.keep fun c o hc ho => hf.get ho (hM c hc)
theorem Ver.still {b : Nat} (h : Ver w b hash nl t F) (hf : Frm (fun _ => False) w w') : Ver w' b hash nl t F := h.frame hf fun _ _ h => h
theorem Ver.mono {b : Nat} (h : Ver w b hash nl t F) (hF : ∀ c, F c → F' c) : Ver w b hash nl t F' := by
  obtain ⟨h1, hv, ⟨r, F0, g1, g2, g3, g4⟩, h3⟩ := h
  exact ⟨h1, hv, ⟨r, F0, g1, hF _ g2, g3, fun c hc => ⟨hF _ (g4 c hc).1, (g4 c hc).2⟩⟩, h3⟩
theorem Ver.lt {b : Nat} (h : Ver w b hash nl t F) : Ver w b hash nl t (fun c => F c ∧ c < w.heap.size) := by
  obtain ⟨h1, hv, h2, h3⟩ := h
  exact ⟨h1, hv, h2.lt, h3⟩
theorem Ver.mem {b : Nat} (h : Ver w b hash nl t F) : F b := by obtain ⟨h1, hv, h2, h3⟩ := h; exact h2.mem
theorem ver_set_ok {b : Nat} (hdef : ∀ d, IsH (defV d) defHash) (h : Ver w b hash nl t F) (hL : (toL t).length ≤ 1000000)
    (hK : ∀ b' w' F', Frm (fun c => mu = true ∧ F c) w w' → Ver w' b' hash nl (Nd.set hash t k x) F' → (∀ c, F' c → F c ∨ w.heap.size ≤ c) → (mu = true → b' = b) → K (ptr b') w') : Calls Tryz.prog 44 #[ptr b, ek k, ev x, .bool mu] w (ret K Kp) := by
  obtain ⟨h1, hv, h2, h3 | ⟨hn, rfl, rfl, rfl⟩⟩ := h
  · exact set_map_ok (x := x) h3 h1 hL h2 fun b' w' F' k' m' hF' hb => hK b' w' F' k' ⟨(set_spec h3.lt h1).1, hv, m', .inl h3⟩ hF' hb
  · refine set_first_ok (x := x) h2 fun b' w' F' d k' m' hF' hb => hK b' w' F' k' ⟨(set_spec (hdef d).lt h1).1, defV d, m', .inl (hdef d)⟩ hF' hb
theorem ver_del_ok {b : Nat} (h : Ver w b hash nl t F) (hL : (toL t).length ≤ 1000000)
    (hK : ∀ b' w' F', Frm (fun c => mu = true ∧ F c) w w' → Ver w' b' hash nl (delT hash t k) F' → (∀ c, F' c → F c ∨ w.heap.size ≤ c) → (mu = true → b' = b) → K (ptr b') w') : Calls Tryz.prog 45 #[ptr b, ek k, .bool mu] w (ret K Kp) := by
  obtain ⟨h1, hv, h2, h3 | ⟨hn, rfl, rfl, rfl⟩⟩ := h
  · refine del_map_ok h3 h1 hL h2 (fun hg w' k' => ?_) fun hg b' w' F' k' m' hF' hb => hK b' w' F' k' ⟨(delT_spec h1).1, hv, by rw [delT, if_pos hg]; exact m', .inl h3⟩ hF' hb
    have e : delT hash t k = t := by rw [delT, if_neg (by rw [hg]; decide)]
    refine hK b w' F (k'.to fun _ h => h.elim) ?_ (fun c hc => .inl hc) fun _ => rfl
    rw [e]
    exact ⟨h1, hv, h2.keep fun c o hc ho => k'.get ho fun h => h, .inl h3⟩
  · obtain ⟨r, F0, g1, g2, g3, g4⟩ := id h2
    obtain rfl := g3.nil
    refine vc45_calls ?_
    simp [-getElem?_pos, -Array.getElem?_eq_getElem, -Int.natCast_add, add_spot, and_assoc, Br_dec, -op_box, -op_st_4, -op_st_3, -op_st_119, -op_st_132, -op_st_167, -op_st_131, -op_st_121, -op_st_74, -op_alloc_4, -op_alloc_121, -op_lit_132_1, vc45, ptr, g1]
    exact hK b w F Frm.refl ⟨h1, _, h2, .inr ⟨hn, rfl, rfl, rfl⟩⟩ (fun c hc => .inl hc) fun _ => rfl
theorem Set_ok {b : Nat} (hdef : ∀ d, IsH (defV d) defHash) (h : Ver w b hash nl t F) (hL : (toL t).length ≤ 1000000)
    (hK : ∀ b' w' F', Frm (fun _ => False) w w' → Ver w' b' hash nl (Nd.set hash t k x) F' → (∀ c, F' c → (F c ∨ w.heap.size ≤ c) ∧ c < w'.heap.size) → K (ptr b') w') : Calls Tryz.prog 54 #[ptr b, ek k, ev x] w (ret K Kp) := by
  refine vc54_calls ?_
  simp only [vc54]
  refine op_box_ok fun w k0 z0 b0 => ?_
  replace h := h.still k0
  replace hK := fun b' w' F' (kf : Frm (fun _ => False) w w') hv (hF : ∀ c, F' c → (F c ∨ w.heap.size ≤ c) ∧ c < w'.heap.size) => hK b' w' F' (k0.no kf) hv (fun c hc => ⟨(hF c hc).1.imp id fun h => by omega, (hF c hc).2⟩)
  simp only [op_ld_88, call_44]
  exact ver_set_ok (x := x) hdef h hL fun b' w' F' k' h' hF' _ => hK b' w' _ (k'.to fun _ h => nomatch h.1) h'.lt fun c hc => ⟨hF' c hc.1, hc.2⟩
theorem Delete_ok {b : Nat} (h : Ver w b hash nl t F) (hL : (toL t).length ≤ 1000000)
    (hK : ∀ b' w' F', Frm (fun _ => False) w w' → Ver w' b' hash nl (delT hash t k) F' → (∀ c, F' c → (F c ∨ w.heap.size ≤ c) ∧ c < w'.heap.size) → K (ptr b') w') : Calls Tryz.prog 55 #[ptr b, ek k] w (ret K Kp) := by
  refine vc55_calls ?_
  simp only [vc55, call_45]
  exact ver_del_ok h hL fun b' w' F' k' h' hF' _ => hK b' w' _ (k'.to fun _ h => nomatch h.1) h'.lt fun c hc => ⟨hF' c hc.1, hc.2⟩
theorem ver_get_ok {b : Nat} (h : Ver w b hash nl t F) (hK : ∀ w', Frm (fun _ => False) w w' → K (gotV (getIn (hash k) k t 0)) w') : Calls Tryz.prog 60 #[ptr b, ek k] w (ret K Kp) := by
  obtain ⟨h1, hv, h2, h3 | ⟨hn, rfl, rfl, rfl⟩⟩ := h
  · exact get_map_ok h3 h1 h2 hK
  · obtain ⟨r, F0, g1, g2, g3, g4⟩ := id h2
    obtain rfl := g3.nil
    refine vc60_calls ?_
    simp only [vc60]
    refine op_alloc_ok (z := .agg #[]) (by kernel_rfl) fun w0 k0 z0 b0 => ?_
    refine op_alloc_ok (z := .agg #[]) (by kernel_rfl) fun w00 k00 z00 b00 => ?_
    replace g1 := (k0.no k00).get g1 id
    replace hK := fun w' (hf : Frm (fun _ => False) w00 w') => hK w' ((k0.no k00).no hf)
    simp [-getElem?_pos, -Array.getElem?_eq_getElem, -Int.natCast_add, add_spot, and_assoc, Br_dec, -op_box, -op_st_4, -op_st_3, -op_st_119, -op_st_132, -op_st_167, -op_st_131, -op_st_121, -op_st_74, -op_alloc_4, -op_alloc_121, -op_lit_132_1, vc60, ptr, g1]
    exact hK _ Frm.refl
theorem ver_len_ok {b : Nat} (h : Ver w b hash nl t F) (hK : K (.int .i64 (toL t).length) w) : Calls Tryz.prog 39 #[ptr b] w (ret K Kp) := by
  obtain ⟨h1, hv, h2, h3⟩ := h
  exact len_ok h2 hK
theorem ver_iter_ok {b : Nat} (h : Ver w b hash nl t F) (hF : ∀ c, F c → c < w.heap.size)
    (hK : ∀ ib w', Frm (fun _ => False) w w' → w.heap.size ≤ ib → At w' ib b F hash (toL t) → K (ptr ib) w') : Calls Tryz.prog 40 #[ptr b] w (ret K Kp) := by
  obtain ⟨h1, hv, h2, h3⟩ := h
  exact iterator_ok h1 h2 hF hK
theorem ver_new_ok {h : Value} (hv : IsH h hash ∨ nl = true ∧ hash = defHash ∧ h = .nilIface) (h1 : h.oneCell' = true) (hK : ∀ w', Frm (fun _ => False) w w' → w'.heap.size = w.heap.size + 1 → Ver w' w.heap.size hash nl .emp (· = w.heap.size) → K (ptr w.heap.size) w') : Calls Tryz.prog 53 #[h] w (ret K Kp) := by
  refine vc53_calls ?_
  simp [-getElem?_pos, -Array.getElem?_eq_getElem, -Int.natCast_add, add_spot, and_assoc, Br_dec, -op_box, -op_st_4, -op_st_3, -op_st_119, -op_st_132, -op_st_167, -op_st_131, -op_st_121, -op_st_74, -op_alloc_4, -op_alloc_121, -op_lit_132_1, vc53, h1]
  refine op_box_ok fun w1 k1 z1 b1 => ?_
  simp only [cells_agg] at b1
  refine hK w1 k1 z1 ⟨trivial, h, ⟨.nilIface, fun _ => False, b1, rfl, rfl, fun _ h => h.elim⟩, ?_⟩
  rcases hv with hv | hv
  · exact .inl hv
  · exact .inr ⟨hv.1, hv.2.1, hv.2.2, rfl⟩
end Go.Proofs.YtbghmbbhkoniiaaGreat.S
end
section
/- Pairs that are put one behind the other: the function they make, whatever their order. -/
namespace Go.Vc
open Nd
def lineOf (steps : List MStep) : List MStep := steps.mapIdx fun i s => { s with fro := i }
theorem lineOf_snoc (steps : List MStep) (s : MStep) : lineOf (steps ++ [s]) = lineOf steps ++ [{ s with fro := steps.length }] := by
  simp [lineOf, List.mapIdx_append]
theorem lineOf_len (steps : List MStep) : (lineOf steps).length = steps.length := by simp [lineOf]
theorem funStep_fro (m : Int → Option Int) (s : MStep) (i : Int) : funStep m { s with fro := i } = funStep m s := rfl
def lineM (steps : List MStep) : Int → Option Int := steps.foldl funStep fun _ => none
theorem lineM_lineOf (steps : List MStep) : lineM (lineOf steps) = lineM steps := by
  refine snoc_ind (P := fun l => lineM (lineOf l) = lineM l) rfl (fun l s ih => ?_) steps
  rw [lineOf_snoc]
  simp only [lineM, List.foldl_append, List.foldl_cons, List.foldl_nil] at ih ⊢
  rw [ih]; rfl
theorem line_vers (steps : List MStep) : (versM (lineOf steps))[steps.length]? = some (lineM steps) := by
  refine snoc_ind (P := fun l => (versM (lineOf l))[l.length]? = some (lineM l)) rfl (fun l s ih => ?_) steps
  have := versM_last (l := lineOf l) (s := { s with fro := l.length })
  rw [lineOf_len] at this
  rw [lineOf_snoc, List.length_append]
  show (versM _)[l.length + 1]? = _
  rw [this]
  simp only [MStep.ref, Int.toNat_natCast, ih, Option.getD_some, funStep_fro, lineM, List.foldl_append, List.foldl_cons, List.foldl_nil]
end Go.Vc
end
section
/- Versions of sets in plain words: a trie of keys without values beside a map of which only the keys count. -/
namespace Go.Vc
open Nd
def un (m : Int → Option Int) : Int → Option Unit := fun k => (m k).map fun _ => ()
theorem un_set {m : Int → Option Int} {k v : Int} : un (mset m k v) = mset (un m) k () := by
  funext j; unfold un mset; split <;> rfl
theorem un_del {m : Int → Option Int} {k : Int} : un (mdel m k) = mdel (un m) k := by
  funext j; unfold un mdel; split <;> rfl
theorem un_some {m : Int → Option Int} {k : Int} : (un m k).isSome = (m k).isSome := by unfold un; cases m k <;> rfl
def addN (hash : Int → Nat) (k v : Int) (t : Nd Int Unit) (n : Nat) : Nd Int Unit := (List.range n).foldl (fun t i => Nd.set hash t (kAt k v i) ()) t
def remN (hash : Int → Nat) (k v : Int) (t : Nd Int Unit) (n : Nat) : Nd Int Unit := (List.range n).foldl (fun t i => delT hash t (kAt k v i)) t
theorem addN_succ {hash : Int → Nat} {k v : Int} {t : Nd Int Unit} {n : Nat} : addN hash k v t (n + 1) = Nd.set hash (addN hash k v t n) (kAt k v n) () := by
  unfold addN; rw [List.range_succ, List.foldl_append]; rfl
theorem remN_succ {hash : Int → Nat} {k v : Int} {t : Nd Int Unit} {n : Nat} : remN hash k v t (n + 1) = delT hash (remN hash k v t n) (kAt k v n) := by
  unfold remN; rw [List.range_succ, List.foldl_append]; rfl
def setStep (hash : Int → Nat) (t : Nd Int Unit) (s : MStep) : Nd Int Unit := match s.kind with
  | 0 => Nd.set hash t s.key ()
  | 1 => delT hash t s.key
  | 2 => addN hash s.key s.value t s.count.toNat
  | _ => remN hash s.key s.value t s.count.toNat
def setFirst (hash : Int → Nat) (values : List Int) : Nd Int Unit := values.foldl (fun t x => Nd.set hash t x ()) .emp
def funFirst (values : List Int) : Int → Option Int := values.foldl (fun m x => mset m x 0) fun _ => none
theorem setFirst_succ {hash : Int → Nat} {values : List Int} {i : Nat} (h : i < values.length) : setFirst hash (values.take (i + 1)) = Nd.set hash (setFirst hash (values.take i)) values[i] () := by
  rw [List.take_succ_eq_append_getElem h, setFirst, List.foldl_append]; rfl
section
variable {hash : Int → Nat} (hh : ∀ k, hash k < 2 ^ 32)
include hh
theorem is_first (values : List Int) : Is hash (setFirst hash values) (un (funFirst values)) := by
  refine snoc_ind (P := fun values => Is hash (setFirst hash values) (un (funFirst values))) is_emp (fun l x ih => ?_) values
  rw [setFirst, funFirst, List.foldl_append, List.foldl_append]
  show Is hash (Nd.set hash (setFirst hash l) x ()) (un (mset (funFirst l) x 0))
  rw [un_set]; exact is_set hh ih
theorem is_addN {t : Nd Int Unit} {m : Int → Option Int} (h : Is hash t (un m)) {k v : Int} : ∀ n, Is hash (addN hash k v t n) (un (msetN k v m n))
  | 0 => h
  | n + 1 => by rw [addN_succ, msetN_succ, un_set]; exact is_set hh (is_addN h n)
omit hh in
theorem is_remN {t : Nd Int Unit} {m : Int → Option Int} (h : Is hash t (un m)) {k v : Int} : ∀ n, Is hash (remN hash k v t n) (un (mdelN k v m n))
  | 0 => h
  | n + 1 => by rw [remN_succ, mdelN_succ, un_del]; exact is_del (is_remN h n)
theorem is_setStep {t : Nd Int Unit} {m : Int → Option Int} (h : Is hash t (un m)) (s : MStep) : Is hash (setStep hash t s) (un (funStep m s)) := by
  obtain ⟨kind, fro, key, value, count⟩ := s
  match kind with
  | 0 => show Is hash (Nd.set hash t key ()) (un (mset m key value)); rw [un_set]; exact is_set hh h
  | 1 => show Is hash (delT hash t key) (un (mdel m key)); rw [un_del]; exact is_del h
  | 2 => exact is_addN hh h _
  | n + 3 => exact is_remN h _
theorem unit_len_le {t : Nd Int Unit} (h : WFr hash t) {k : Int} {v : Unit} : (toL (Nd.set hash t k v)).length ≤ (toL t).length + 1 := by
  rw [set_len hh h]; split <;> omega
theorem addN_len {t : Nd Int Unit} (h : WFr hash t) {k v : Int} : ∀ n, WFr hash (addN hash k v t n) ∧ (toL (addN hash k v t n)).length ≤ (toL t).length + n
  | 0 => ⟨h, Nat.le_refl _⟩
  | n + 1 => by
    obtain ⟨a, b⟩ := addN_len h (k := k) (v := v) n
    rw [addN_succ]
    exact ⟨(set_spec hh a).1, by have := unit_len_le hh a (k := kAt k v n) (v := ()); omega⟩
omit hh in
theorem remN_len {t : Nd Int Unit} (h : WFr hash t) {k v : Int} : ∀ n, WFr hash (remN hash k v t n) ∧ (toL (remN hash k v t n)).length ≤ (toL t).length
  | 0 => ⟨h, Nat.le_refl _⟩
  | n + 1 => by
    obtain ⟨a, b⟩ := remN_len h (k := k) (v := v) n
    rw [remN_succ]
    exact ⟨(delT_spec a).1, Nat.le_trans (delT_len a) b⟩
theorem setStep_len {t : Nd Int Unit} (h : WFr hash t) (s : MStep) : WFr hash (setStep hash t s) ∧ (toL (setStep hash t s)).length ≤ (toL t).length + s.cost := by
  unfold setStep MStep.cost
  split
  · exact ⟨(set_spec hh h).1, by have := unit_len_le hh h (k := s.key) (v := ()); omega⟩
  · exact ⟨(delT_spec h).1, by have := delT_len (k := s.key) h; omega⟩
  · have := addN_len hh h (k := s.key) (v := s.value) s.count.toNat
    exact ⟨this.1, by omega⟩
  · have := remN_len h (k := s.key) (v := s.value) s.count.toNat
    exact ⟨this.1, by omega⟩
theorem first_len (values : List Int) : (toL (setFirst hash values)).length ≤ values.length := by
  refine snoc_ind (P := fun values => (toL (setFirst hash values)).length ≤ values.length) (by simp [setFirst, toL]) (fun l x ih => ?_) values
  rw [setFirst, List.foldl_append]
  show (toL (Nd.set hash (setFirst hash l) x ())).length ≤ _
  have := unit_len_le hh (is_first hh l).1 (k := x) (v := ())
  simp; omega
end
theorem is_un_get {hash : Int → Nat} {t : Nd Int Unit} {m : Int → Option Int} (h : Is hash t (un m)) (k : Int) : (getIn (hash k) k t 0).isSome = (m k).isSome := by
  rw [h.get, un_some]
end Go.Vc
end
section
/- Sets of whole numbers: NewSet, Add, Delete, Has; setsOf. -/
namespace Go.Proofs.YtbghmbbhkoniiaaGreat.S
open Go.Vc Go.Proofs Go.Proofs.YtbghmbbhkoniiaaGreat Go.Vc.Nd
variable {w w' : World} {v hv : Value} {t : Tr} {F F' G : Nat → Prop} {K : KV} {Kp : KP} {hash : Ky → Nat} {k : Ky} {x : Vl} {s md ml sh : Nat} {mu nl : Bool}
def i1 (x : Int) : List Value := [.int .i64 x]
theorem i1_len (x : Int) : (i1 x).length = 1 := rfl
theorem row_int {a : Option Addr} {xs : List Int} (h : Row w a (xs.flatMap i1)) {i : Nat} (hi : i < xs.length) :
    ∃ bp o cs e fz, a = some ⟨bp, o, none⟩ ∧ w.heap[bp]? = some (.cells cs e fz) ∧ cs[o + i]? = some (.int .i64 xs[i]) := by
  obtain ⟨bp, o, cs, e, fz, rfl, hcs, hsz, hext⟩ := h.part i1_len (by decide) hi
  refine ⟨bp, o, cs, e, fz, rfl, hcs, ?_⟩
  have := congrArg (fun a => a[0]?) hext
  simp only [Array.getElem?_extract] at this
  rw [if_pos (by omega)] at this
  simpa [i1] using this
def setV (b : Nat) : Value := .agg #[ptr b]
theorem one_ptr {b : Nat} : (ptr b).oneCell' = true := rfl
theorem ex1' {v : Value} : (#[v] : Array Value).extract 0 1 = #[v] := rfl
theorem ow1 {u v : Value} : ow #[u] 0 [v] = #[v] := ow_all rfl
theorem NewSet_ok {a1 : Option Addr} {c1 : Nat} {xs : List Int} {h : Value} (hdef : ∀ d, IsH (defV d) defHash) (hv : IsH h hash ∨ nl = true ∧ hash = defHash ∧ h = .nilIface) (h1 : h.oneCell' = true) (hlt : ∀ k, hash k < 2 ^ 32)
    (hr : Row w a1 (xs.flatMap i1)) (hn : xs.length ≤ 1000000)
    (hK : ∀ b w' G, Frm (fun _ => False) w w' → Ver w' b hash nl (setFirst hash xs) G → (∀ c, G c → w.heap.size ≤ c ∧ c < w'.heap.size) → K (setV b) w') :
    Calls Tryz.prog 35 #[h, .slice a1 xs.length c1] w (ret K Kp) := by
  refine vc35_calls ?_
  simp only [vc35]
  refine op_alloc_ok (z := .agg #[.pointer none]) (by kernel_rfl) fun w1 k1 z1 b1 => ?_
  simp only [cells_agg] at b1
  try simp [-getElem?_pos, -Array.getElem?_eq_getElem, -Int.natCast_add, add_spot, and_assoc, Br_dec, -op_box, -op_alloc_64, -op_st_64, -op_alloc_52, -op_st_52]
  refine ver_new_ok hv h1 fun w2 k2 z2 v2 => ?_
  try simp [-getElem?_pos, -Array.getElem?_eq_getElem, -Int.natCast_add, add_spot, and_assoc, Br_dec, -op_box, -op_alloc_64, -op_st_64, -op_alloc_52, -op_st_52]
  obtain ⟨I, hI⟩ : ∃ I : Value → KV, ∀ m v wl, I m v wl ↔ ∃ (i : Nat) (G : Nat → Prop), m = ptr w1.heap.size ∧ v = .int .i64 i ∧ i ≤ xs.length ∧ Frm (fun _ => False) w1 wl ∧
      Ver wl w1.heap.size hash nl (setFirst hash (xs.take i)) G ∧ ∀ c, G c → w1.heap.size ≤ c ∧ c < wl.heap.size := ⟨_, fun _ _ _ => Iff.rfl⟩
  refine Lp.intro I (fun _ v _ => xs.length - natOf v) ⟨(hI _ _ _).2 ⟨0, _, rfl, rfl, by omega, k2, v2, fun c hc => by omega⟩, ?_⟩
  intro wl m v hm
  obtain ⟨i, G, rfl, rfl, hi, kl, vl, hG⟩ := (hI _ _ _).1 hm
  simp only [op_lss, Br_dec]
  refine ⟨fun hlt' => ?_, fun hge => ?_⟩
  · have hi' : i < xs.length := by omega
    obtain ⟨bp, o, cs, e, fz, rfl, hcs, hki⟩ := row_int ((hr.frame k1 fun _ _ h => h).frame kl fun _ _ h => h) hi'
    have hsz := first_len hlt (xs.take i)
    rw [List.length_take] at hsz
    try simp [-getElem?_pos, -Array.getElem?_eq_getElem, -Int.natCast_add, add_spot, and_assoc, Br_dec, -op_box, -op_alloc_64, -op_st_64, -op_alloc_52, -op_st_52, hcs, hki]
    refine ⟨hi', ?_⟩
    refine ver_set_ok (k := xs[i]) (x := ()) (mu := true) hdef vl (by omega) fun b' w3 F' k3 v3 hF3 hb' => ?_
    obtain rfl := hb' rfl
    have n3 := k3.size
    have v3' := v3.lt
    rw [← setFirst_succ hi'] at v3'
    rw [wrap_i64_small (by omega) (by omega)]
    refine ⟨(hI _ _ _).2 ⟨i + 1, _, rfl, by simp, by omega, kl.old k3 fun c hc => .inr (hG c hc.2).1, v3', fun c hc => ⟨?_, hc.2⟩⟩, ?_⟩
    · have n2 := kl.size
      rcases hF3 c hc.1 with h | h
      · exact (hG c h).1
      · omega
    · simp only [natOf]; omega
  · have : i = xs.length := by omega
    subst this
    rw [List.take_length] at vl
    rw [op_build_64_0 one_ptr]
    refine op_storeN_ok (vs := #[ptr w1.heap.size]) (o := 0) (n := 1) (by kernel_rfl) (kl.get b1 fun h => h) rfl (by decide) (by simp [ptr]) fun w3 k3 z3 b3 => ?_
    rw [show (#[ptr w1.heap.size] : Array Value).toList = [ptr w1.heap.size] from rfl, ow1] at b3
    try simp [-getElem?_pos, -Array.getElem?_eq_getElem, -Int.natCast_add, add_spot, and_assoc, Br_dec, -op_box, -op_alloc_64, -op_st_64, -op_alloc_52, -op_st_52, b3]
    have n1 := k1.size
    exact hK _ w3 G ((k1.no kl).old k3 fun c hc => .inr (by omega)) (vl.frame k3 fun c hc e => by have := (hG c hc).1; omega) fun c hc => ⟨by have := (hG c hc).1; omega, by have := (hG c hc).2; omega⟩
theorem Has_ok {b : Nat} (h : Ver w b hash nl t F) (hK : ∀ w', Frm (fun _ => False) w w' → K (.bool (getIn (hash k) k t 0).isSome) w') : Calls Tryz.prog 46 #[setV b, ek k] w (ret K Kp) := by
  refine vc46_calls ?_
  simp only [vc46]
  refine op_box_ok fun w1 k1 z1 b1 => ?_
  simp only [setV, cells_agg] at b1
  try simp [-getElem?_pos, -Array.getElem?_eq_getElem, -Int.natCast_add, add_spot, and_assoc, Br_dec, -op_box, -op_alloc_64, -op_st_64, -op_alloc_52, -op_st_52, b1, ptr]
  refine ver_get_ok (k := k) (h.still k1) fun w2 k2 => ?_
  have := fun w' k => hK w' (((k1.no k2).no k))
  cases hx : getIn (hash k) k t 0 with
  | none =>
    rw [hx] at this
    try simp [-getElem?_pos, -Array.getElem?_eq_getElem, -Int.natCast_add, add_spot, and_assoc, Br_dec, -op_box, -op_alloc_64, -op_st_64, -op_alloc_52, -op_st_52, gotV, zv]
    exact this _ (Frm.alloc _ _)
  | some x =>
    rw [hx] at this
    try simp [-getElem?_pos, -Array.getElem?_eq_getElem, -Int.natCast_add, add_spot, and_assoc, Br_dec, -op_box, -op_alloc_64, -op_st_64, -op_alloc_52, -op_st_52, gotV, ev]
    exact this _ (Frm.alloc _ _)
def ElS (hash : Ky → Nat) (nl : Bool) : World → List Value → Tr → (Nat → Prop) → Prop := fun w u t G => ∃ b, u = [ptr b] ∧ Ver w b hash nl t G
theorem elS_ok (hash : Ky → Nat) (nl : Bool) : ElOk (ElS hash nl) :=
  ⟨fun ⟨b, hu, h⟩ hf hM => ⟨b, hu, h.frame hf hM⟩, fun ⟨b, hu, h⟩ hG => ⟨b, hu, h.mono hG⟩⟩
theorem cells5 (s : MStep) : (#[.int .u8 s.kind, .int .i64 s.fro, .int .i64 s.key, .int .i64 s.value, .int .i64 s.count] : Array Value).extract 0 5 = s.cells.toArray := rfl
theorem hasherS_ok (hK : ∀ h w', Frm (fun _ => False) w w' → h.oneCell' = true → (IsH h (I.hashOf md ml sh) ∨ decide (md = 0) = true ∧ I.hashOf md ml sh = defHash ∧ h = .nilIface) → K h w') : Calls Tryz.prog 25 #[I.hval md ml sh] w (ret K Kp) :=
  I.hasher_ok (md := md) (ml := ml) (sh := sh) fun h w' k o hh => hK h w' k o (hh.imp isH_of id)
end Go.Proofs.YtbghmbbhkoniiaaGreat.S
end
section
/- Versions of sets made by steps: setsOf. -/
namespace Go.Proofs.YtbghmbbhkoniiaaGreat.S
open Go.Vc Go.Proofs Go.Proofs.YtbghmbbhkoniiaaGreat Go.Vc.Nd
open Go.Proofs.YtbghmbbhkoniiaaGreat.I (hval hashOf hashOf_lt mapStep_ok)

end Go.Proofs.YtbghmbbhkoniiaaGreat.S
end
section
/- A seat's own rewriting rules of single operations, printed by program out of its types and functions. -/
namespace Go.Proofs.YtbghmbbhkoniiaaGreat
open Go.Vc Go.Proofs
variable {w : World} {K : KV} {Kp : KP} {K1 : Value → Prop}
@[simp] theorem call_39 {args : List Value} : (nice Tryz.prog).call (.fn 39) args w K Kp = Calls Tryz.prog 39 args.toArray w (ret K Kp) := call_fn (by kernel_rfl)
@[simp] theorem call_19 {args : List Value} : (nice Tryz.prog).call (.fn 19) args w K Kp = Calls Tryz.prog 19 args.toArray w (ret K Kp) := call_fn (by kernel_rfl)
@[simp] theorem op_fa_96_0 {p : Addr} : (nice Tryz.prog).op (.fieldAddr 96 (.pointer (some p)) 0) w K Kp = K (.pointer (some (p.add 0))) w := op_fa (k := (.agg 1)) (by kernel_rfl)
@[simp] theorem pur_fa_96_0 {p : Addr} : (nice Tryz.prog).pur (.fieldAddr 96 (.pointer (some p)) 0) K1 = K1 (.pointer (some (p.add 0))) := pur_fa (k := (.agg 1)) (by kernel_rfl)
@[simp] theorem call_46 {args : List Value} : (nice Tryz.prog).call (.fn 46) args w K Kp = Calls Tryz.prog 46 args.toArray w (ret K Kp) := call_fn (by kernel_rfl)
theorem build_96_0 {y0_0 : Value} : buildV Tryz.prog 96 [(0, .agg #[y0_0])] = some (.agg (#[y0_0])) := by
  have e : buildV Tryz.prog 96 [(0, .agg #[y0_0])] = (Instr.fill ((#[(0, 1)] : Array (Nat × Nat))[·]?) (#[Value.pointer none]) [(0, .agg #[y0_0])]).map .agg := by kernel_rfl
  rw [e]; simp [Instr.fill, Value.cells]
@[simp] theorem op_build_96_0 {y0_0 : Value} : (nice Tryz.prog).op (.build 96 [(0, .agg #[y0_0])]) w K Kp = K (.agg (#[y0_0])) w := op_build (build_96_0)
@[simp] theorem pur_build_96_0 {y0_0 : Value} : (nice Tryz.prog).pur (.build 96 [(0, .agg #[y0_0])]) K1 = K1 (.agg (#[y0_0])) := pur_build (build_96_0)
@[simp] theorem call_24 {args : List Value} : (nice Tryz.prog).call (.fn 24) args w K Kp = Calls Tryz.prog 24 args.toArray w (ret K Kp) := call_fn (by kernel_rfl)
@[simp] theorem op_ld_96 {p : Addr} : (nice Tryz.prog).op (.load 96 (.pointer (some p))) w K Kp = ∃ cs e fz, w.heap[p.block]? = some (.cells cs e fz) ∧ p.spot = none ∧ p.off + 1 ≤ cs.size ∧ K (.agg (cs.extract p.off (p.off + 1))) w := op_ldn (by kernel_rfl)
@[simp] theorem ld_ld_96 {p : Addr} : (nice Tryz.prog).ld (.load 96 (.pointer (some p))) w K1 = ∃ cs e fz, w.heap[p.block]? = some (.cells cs e fz) ∧ p.spot = none ∧ p.off + 1 ≤ cs.size ∧ K1 (.agg (cs.extract p.off (p.off + 1))) := ld_ldn (by kernel_rfl)
@[simp] theorem same_ld_96 {p : Addr} {v : Value} : (nice Tryz.prog).same (.load 96 (.pointer (some p))) v w = ∃ cs e fz, w.heap[p.block]? = some (.cells cs e fz) ∧ p.spot = none ∧ p.off + 1 ≤ cs.size ∧ .agg (cs.extract p.off (p.off + 1)) = v := same_ldn (by kernel_rfl)
@[simp] theorem call_26 {args : List Value} : (nice Tryz.prog).call (.fn 26) args w K Kp = Calls Tryz.prog 26 args.toArray w (ret K Kp) := call_fn (by kernel_rfl)
@[simp] theorem call_27 {args : List Value} : (nice Tryz.prog).call (.fn 27) args w K Kp = Calls Tryz.prog 27 args.toArray w (ret K Kp) := call_fn (by kernel_rfl)
@[simp] theorem call_28 {args : List Value} : (nice Tryz.prog).call (.fn 28) args w K Kp = Calls Tryz.prog 28 args.toArray w (ret K Kp) := call_fn (by kernel_rfl)
@[simp] theorem call_29 {args : List Value} : (nice Tryz.prog).call (.fn 29) args w K Kp = Calls Tryz.prog 29 args.toArray w (ret K Kp) := call_fn (by kernel_rfl)
theorem lit_44_1 {x0 : Value} (h0 : x0.oneCell' = true) : sliceLit Tryz.prog 44 1 [(0, x0)] = some (4, #[x0]) := by
  have e : sliceLit Tryz.prog 44 1 [(0, x0)] = (Instr.fill (fun i => some (i * 1, 1)) (#[Value.bool false]) [(0, x0)]).map fun cs => (4, cs) := by kernel_rfl
  rw [e]; simp [Instr.fill, cells_of_one h0]
@[simp] theorem op_lit_44_1 {x0 : Value} (h0 : x0.oneCell' = true) : (nice Tryz.prog).op (.buildSlice 44 1 [(0, x0)]) w K Kp = K (.slice (some ⟨w.heap.size, 0, none⟩) 1 1) (w.alloc (.cells #[x0] 4)) := op_lit (lit_44_1 h0)
@[simp] theorem call_30 {args : List Value} : (nice Tryz.prog).call (.fn 30) args w K Kp = Calls Tryz.prog 30 args.toArray w (ret K Kp) := call_fn (by kernel_rfl)
@[simp] theorem call_11 {args : List Value} : (nice Tryz.prog).call (.fn 11) args w K Kp = Calls Tryz.prog 11 args.toArray w (ret K Kp) := call_fn (by kernel_rfl)
@[simp] theorem call_5 {args : List Value} : (nice Tryz.prog).call (.fn 5) args w K Kp = Calls Tryz.prog 5 args.toArray w (ret K Kp) := call_fn (by kernel_rfl)
@[simp] theorem call_6 {args : List Value} : (nice Tryz.prog).call (.fn 6) args w K Kp = Calls Tryz.prog 6 args.toArray w (ret K Kp) := call_fn (by kernel_rfl)
@[simp] theorem call_12 {args : List Value} : (nice Tryz.prog).call (.fn 12) args w K Kp = Calls Tryz.prog 12 args.toArray w (ret K Kp) := call_fn (by kernel_rfl)
@[simp] theorem op_len_29 {a : Option Addr} {n c ty : Nat} : (nice Tryz.prog).op (.blt .len [29] ty [.slice a n c]) w K Kp = K (.int .i64 n) w := op_len_slice (by kernel_rfl)
@[simp] theorem pur_len_29 {a : Option Addr} {n c ty : Nat} : (nice Tryz.prog).pur (.blt .len [29] ty [.slice a n c]) K1 = K1 (.int .i64 n) := pur_len_slice (by kernel_rfl)
@[simp] theorem ld_len_29 {a : Option Addr} {n c ty : Nat} : (nice Tryz.prog).ld (.blt .len [29] ty [.slice a n c]) w K1 = K1 (.int .i64 n) := ld_len_slice (by kernel_rfl)
@[simp] theorem same_len_29 {a : Option Addr} {n c ty : Nat} {u : Value} : (nice Tryz.prog).same (.blt .len [29] ty [.slice a n c]) u w = (.int .i64 n = u) := same_len_slice (by kernel_rfl)
@[simp] theorem call_9 {args : List Value} : (nice Tryz.prog).call (.fn 9) args w K Kp = Calls Tryz.prog 9 args.toArray w (ret K Kp) := call_fn (by kernel_rfl)
@[simp] theorem call_13 {args : List Value} : (nice Tryz.prog).call (.fn 13) args w K Kp = Calls Tryz.prog 13 args.toArray w (ret K Kp) := call_fn (by kernel_rfl)
@[simp] theorem op_len_44 {a : Option Addr} {n c ty : Nat} : (nice Tryz.prog).op (.blt .len [44] ty [.slice a n c]) w K Kp = K (.int .i64 n) w := op_len_slice (by kernel_rfl)
@[simp] theorem pur_len_44 {a : Option Addr} {n c ty : Nat} : (nice Tryz.prog).pur (.blt .len [44] ty [.slice a n c]) K1 = K1 (.int .i64 n) := pur_len_slice (by kernel_rfl)
@[simp] theorem ld_len_44 {a : Option Addr} {n c ty : Nat} : (nice Tryz.prog).ld (.blt .len [44] ty [.slice a n c]) w K1 = K1 (.int .i64 n) := ld_len_slice (by kernel_rfl)
@[simp] theorem same_len_44 {a : Option Addr} {n c ty : Nat} {u : Value} : (nice Tryz.prog).same (.blt .len [44] ty [.slice a n c]) u w = (.int .i64 n = u) := same_len_slice (by kernel_rfl)
@[simp] theorem op_ix_44 {p : Addr} {len cap : Nat} {k : IntKind} {j : Int} : (nice Tryz.prog).op (.indexAddr 44 (.slice (some p) len cap) (.int k j)) w K Kp = ((0 ≤ j ∧ j < (len : Int)) ∧ K (.pointer (some (p.add (j.toNat * 1)))) w) := op_ix_slice (e := 4) (by kernel_rfl)
@[simp] theorem pur_ix_44 {p : Addr} {len cap : Nat} {k : IntKind} {j : Int} : (nice Tryz.prog).pur (.indexAddr 44 (.slice (some p) len cap) (.int k j)) K1 = ((0 ≤ j ∧ j < (len : Int)) ∧ K1 (.pointer (some (p.add (j.toNat * 1))))) := pur_ix_slice (e := 4) (by kernel_rfl)
@[simp] theorem op_neq_4 {xc yc x y : Bool} : (nice Tryz.prog).op (.bin BinOp.neq 4 xc yc (.bool x) (.bool y)) w K Kp = K (.bool (!(x == y))) w := op_eq_bool (by kernel_rfl) rfl
@[simp] theorem pur_neq_4 {xc yc x y : Bool} : (nice Tryz.prog).pur (.bin BinOp.neq 4 xc yc (.bool x) (.bool y)) K1 = K1 (.bool (!(x == y))) := pur_eq_bool (by kernel_rfl) rfl
@[simp] theorem op_len_31 {a : Option Addr} {n c ty : Nat} : (nice Tryz.prog).op (.blt .len [31] ty [.slice a n c]) w K Kp = K (.int .i64 n) w := op_len_slice (by kernel_rfl)
@[simp] theorem pur_len_31 {a : Option Addr} {n c ty : Nat} : (nice Tryz.prog).pur (.blt .len [31] ty [.slice a n c]) K1 = K1 (.int .i64 n) := pur_len_slice (by kernel_rfl)
@[simp] theorem ld_len_31 {a : Option Addr} {n c ty : Nat} : (nice Tryz.prog).ld (.blt .len [31] ty [.slice a n c]) w K1 = K1 (.int .i64 n) := ld_len_slice (by kernel_rfl)
@[simp] theorem same_len_31 {a : Option Addr} {n c ty : Nat} {u : Value} : (nice Tryz.prog).same (.blt .len [31] ty [.slice a n c]) u w = (.int .i64 n = u) := same_len_slice (by kernel_rfl)
end Go.Proofs.YtbghmbbhkoniiaaGreat
end
section
namespace Go.Proofs.YtbghmbbhkoniiaaGreat
open Go.Vc Go.Proofs
variable {S : Sig} {a0 a1 a2 a3 a4 a5 a6 a7 a8 a9 : Value} {w : World} {K : KV} {Kp : KP}
private theorem follows_MVcZ : Tryz.prog.follows .mixedOrders = true := by kernel_rfl
def vc19 (S : Sig) (a0 : Value) (w : World) (K : KV) (Kp : KP) : Prop :=
 S.op (.box 64 a0) w (fun v1 w =>
 S.op (.fieldAddr 64 v1 0) w (fun v3 w =>
 S.op (.load 62 v3) w (fun v4 w =>
 S.call (.fn 39) [v4] w (fun v5 w =>
 K v5 w) Kp) Kp) Kp) Kp
theorem vc19_eq : vc19 S a0 w K Kp = fVC S [] [] Tryz.f19 [a0] w K Kp := by kernel_rfl
theorem vc19_calls (h : vc19 (nice Tryz.prog) a0 w K Kp) : Calls Tryz.prog 19 #[a0] w (ret K Kp) :=
 fVC_sound (args := [a0]) nice_le follows_MVcZ Tryz.func19 (by kernel_rfl) (Eq.mp vc19_eq h)
def vc27 (S : Sig) (a0 a1 : Value) (w : World) (K : KV) (Kp : KP) : Prop :=
 S.op (.box 96 a0) w (fun v2 w =>
 S.op (.fieldAddr 96 v2 0) w (fun v4 w =>
 S.op (.fieldAddr 64 v4 0) w (fun v5 w =>
 S.op (.load 62 v5) w (fun v6 w =>
 S.call (.fn 45) [v6, a1, (.bool true)] w (fun v8 w =>
 S.op (.fieldAddr 96 v2 0) w (fun v9 w =>
 S.op (.fieldAddr 64 v9 0) w (fun v10 w =>
 S.op (.store 62 v10 v8) w (fun _ w =>
 K (.tuple #[]) w) Kp) Kp) Kp) Kp) Kp) Kp) Kp) Kp
theorem vc27_eq : vc27 S a0 a1 w K Kp = fVC S [] [] Tryz.f27 [a0, a1] w K Kp := by kernel_rfl
theorem vc27_calls (h : vc27 (nice Tryz.prog) a0 a1 w K Kp) : Calls Tryz.prog 27 #[a0, a1] w (ret K Kp) :=
 fVC_sound (args := [a0, a1]) nice_le follows_MVcZ Tryz.func27 (by kernel_rfl) (Eq.mp vc27_eq h)
def vc29 (S : Sig) (a0 a1 : Value) (w : World) (K : KV) (Kp : KP) : Prop :=
 S.op (.box 96 a0) w (fun v2 w =>
 S.op (.fieldAddr 96 v2 0) w (fun v5 w =>
 S.op (.load 64 v5) w (fun v6 w =>
 S.call (.fn 46) [v6, a1] w (fun v8 w =>
 K v8 w) Kp) Kp) Kp) Kp
theorem vc29_eq : vc29 S a0 a1 w K Kp = fVC S [] [] Tryz.f29 [a0, a1] w K Kp := by kernel_rfl
theorem vc29_calls (h : vc29 (nice Tryz.prog) a0 a1 w K Kp) : Calls Tryz.prog 29 #[a0, a1] w (ret K Kp) :=
 fVC_sound (args := [a0, a1]) nice_le follows_MVcZ Tryz.func29 (by kernel_rfl) (Eq.mp vc29_eq h)
def vc30 (S : Sig) (a0 : Value) (w : World) (K : KV) (Kp : KP) : Prop :=
 S.op (.box 96 a0) w (fun v1 w =>
 S.op (.fieldAddr 96 v1 0) w (fun v3 w =>
 S.op (.load 64 v3) w (fun v4 w =>
 S.call (.fn 19) [v4] w (fun v5 w =>
 K v5 w) Kp) Kp) Kp) Kp
theorem vc30_eq : vc30 S a0 w K Kp = fVC S [] [] Tryz.f30 [a0] w K Kp := by kernel_rfl
theorem vc30_calls (h : vc30 (nice Tryz.prog) a0 w K Kp) : Calls Tryz.prog 30 #[a0] w (ret K Kp) :=
 fVC_sound (args := [a0]) nice_le follows_MVcZ Tryz.func30 (by kernel_rfl) (Eq.mp vc30_eq h)
def vc26 (S : Sig) (a0 a1 : Value) (w : World) (K : KV) (Kp : KP) : Prop :=
 S.op (.box 96 a0) w (fun v2 w =>
 S.op (.fieldAddr 96 v2 0) w (fun v4 w =>
 S.op (.fieldAddr 64 v4 0) w (fun v5 w =>
 S.op (.load 62 v5) w (fun v6 w =>
 S.op (.build 88 []) w (fun v8 w =>
 S.call (.fn 44) [v6, a1, v8, (.bool true)] w (fun v9 w =>
 S.op (.fieldAddr 96 v2 0) w (fun v10 w =>
 S.op (.fieldAddr 64 v10 0) w (fun v11 w =>
 S.op (.store 62 v11 v9) w (fun _ w =>
 K (.tuple #[]) w) Kp) Kp) Kp) Kp) Kp) Kp) Kp) Kp) Kp
theorem vc26_eq : vc26 S a0 a1 w K Kp = fVC S [] [] Tryz.f26 [a0, a1] w K Kp := by kernel_rfl
theorem vc26_calls (h : vc26 (nice Tryz.prog) a0 a1 w K Kp) : Calls Tryz.prog 26 #[a0, a1] w (ret K Kp) :=
 fVC_sound (args := [a0, a1]) nice_le follows_MVcZ Tryz.func26 (by kernel_rfl) (Eq.mp vc26_eq h)
def vc24 (S : Sig) (a0 : Value) (w : World) (K : KV) (Kp : KP) : Prop :=
 S.call (.fn 35) [a0, (.slice none 0 0)] w (fun v4 w =>
 S.op (.build 96 [(0, v4)]) w (fun v5 w =>
 S.op (.box 96 v5) w (fun v6 w =>
 K v6 w) Kp) Kp) Kp
theorem vc24_eq : vc24 S a0 w K Kp = fVC S [] [] Tryz.f24 [a0] w K Kp := by kernel_rfl
theorem vc24_calls (h : vc24 (nice Tryz.prog) a0 w K Kp) : Calls Tryz.prog 24 #[a0] w (ret K Kp) :=
 fVC_sound (args := [a0]) nice_le follows_MVcZ Tryz.func24 (by kernel_rfl) (Eq.mp vc24_eq h)
def vc13 (S : Sig) (a0 a1 a2 : Value) (w : World) (K : KV) (Kp : KP) : Prop :=
 S.op (.box 24 a0) w (fun v3 w =>
 S.op (.load 24 v3) w (fun v15 w =>
 S.call (.fn 25) [v15] w (fun v16 w =>
 S.call (.fn 24) [v16] w (fun v17 w =>
 S.op (.blt .len [33] 3 [a1]) w (fun v19 w =>
 Lp fun (I3 : KV) (μ3 : Value → World → Nat) => I3 (.int .i64 0) w ∧
 ∀ (wl3 : World) (junk : Nat → Value) (s20 : Value), I3 s20 wl3 →
 S.op (.bin .lss 3 false false s20 v19) wl3 (fun v21 w =>
 Br v21 (
 S.op (.indexAddr 33 a1 s20) w (fun v22 w =>
 S.op (.load 52 v22) w (fun v23 w =>
 S.op (.alloc 52) w (fun v10 w =>
 S.op (.store 52 v10 v23) w (fun _ w =>
 S.op (.fieldAddr 52 v10 0) w (fun v24 w =>
 S.op (.load 5 v24) w (fun v25 w =>
 S.op (.bin .eql 5 false true v25 (.int .u8 0)) w (fun v27 w =>
 Br v27 (
 S.pur (.nilCheck v17) (fun v29 =>
 S.ld (.load 96 v29) w.drew (fun v30 =>
 S.pur (.fieldAddr 52 v10 2) (fun v31 =>
 S.ld (.load 2 v31) w.drew (fun v32 =>
 S.call (.fn 26) [v30, v32] w.drew (fun v33 w =>
 S.op (.bin .add 3 false true s20 (.int .i64 1)) w (fun v82 w =>
 I3 v82 w ∧ μ3 v82 w < μ3 s20 wl3) Kp) Kp))))) (
 S.op (.bin .eql 5 false true v25 (.int .u8 1)) w (fun v35 w =>
 Br v35 (
 S.pur (.nilCheck v17) (fun v37 =>
 S.ld (.load 96 v37) w.drew (fun v38 =>
 S.pur (.fieldAddr 52 v10 2) (fun v39 =>
 S.ld (.load 2 v39) w.drew (fun v40 =>
 S.call (.fn 27) [v38, v40] w.drew (fun v41 w =>
 S.op (.bin .add 3 false true s20 (.int .i64 1)) w (fun v82 w =>
 I3 v82 w ∧ μ3 v82 w < μ3 s20 wl3) Kp) Kp))))) (
 S.op (.bin .eql 5 false true v25 (.int .u8 2)) w (fun v43 w =>
 Br v43 (
 Lp fun (I12 : KV) (μ12 : Value → World → Nat) => I12 (.int .i64 0) w ∧
 ∀ (wl12 : World) (junk : Nat → Value) (s11 : Value), I12 s11 wl12 →
 S.op (.fieldAddr 52 v10 4) wl12 (fun v45 w =>
 S.op (.load 3 v45) w (fun v46 w =>
 S.call (.fn 28) [v46] w (fun v47 w =>
 S.op (.bin .lss 3 false false s11 v47) w (fun v48 w =>
 Br v48 (
 S.pur (.nilCheck v17) (fun v52 =>
 S.ld (.load 96 v52) w.drew (fun v53 =>
 S.pur (.fieldAddr 52 v10 2) (fun v54 =>
 S.ld (.load 2 v54) w.drew (fun v55 =>
 S.pur (.fieldAddr 52 v10 3) (fun v57 =>
 S.ld (.load 2 v57) w.drew (fun v58 =>
 S.pur (.bin .mul 2 false false s11 v58) (fun v59 =>
 S.pur (.bin .add 2 false false v55 v59) (fun v60 =>
 S.call (.fn 26) [v53, v60] w.drew (fun v61 w =>
 S.op (.bin .add 3 false true s11 (.int .i64 1)) w (fun v50 w =>
 I12 v50 w ∧ μ12 v50 w < μ12 s11 wl12) Kp) Kp))))))))) (
 S.op (.bin .add 3 false true s20 (.int .i64 1)) w (fun v82 w =>
 I3 v82 w ∧ μ3 v82 w < μ3 s20 wl3) Kp)) Kp) Kp) Kp) Kp) (
 S.op (.bin .eql 5 false true v25 (.int .u8 3)) w (fun v63 w =>
 Br v63 (
 Lp fun (I17 : KV) (μ17 : Value → World → Nat) => I17 (.int .i64 0) w ∧
 ∀ (wl17 : World) (junk : Nat → Value) (s12 : Value), I17 s12 wl17 →
 S.op (.fieldAddr 52 v10 4) wl17 (fun v65 w =>
 S.op (.load 3 v65) w (fun v66 w =>
 S.call (.fn 28) [v66] w (fun v67 w =>
 S.op (.bin .lss 3 false false s12 v67) w (fun v68 w =>
 Br v68 (
 S.pur (.nilCheck v17) (fun v72 =>
 S.ld (.load 96 v72) w.drew (fun v73 =>
 S.pur (.fieldAddr 52 v10 2) (fun v74 =>
 S.ld (.load 2 v74) w.drew (fun v75 =>
 S.pur (.fieldAddr 52 v10 3) (fun v77 =>
 S.ld (.load 2 v77) w.drew (fun v78 =>
 S.pur (.bin .mul 2 false false s12 v78) (fun v79 =>
 S.pur (.bin .add 2 false false v75 v79) (fun v80 =>
 S.call (.fn 27) [v73, v80] w.drew (fun v81 w =>
 S.op (.bin .add 3 false true s12 (.int .i64 1)) w (fun v70 w =>
 I17 v70 w ∧ μ17 v70 w < μ17 s12 wl17) Kp) Kp))))))))) (
 S.op (.bin .add 3 false true s20 (.int .i64 1)) w (fun v82 w =>
 I3 v82 w ∧ μ3 v82 w < μ3 s20 wl3) Kp)) Kp) Kp) Kp) Kp) (
 S.op (.bin .add 3 false true s20 (.int .i64 1)) w (fun v82 w =>
 I3 v82 w ∧ μ3 v82 w < μ3 s20 wl3) Kp)) Kp)) Kp)) Kp)) Kp) Kp) Kp) Kp) Kp) Kp) Kp) (
 S.op (.blt .len [25] 3 [a2]) w (fun v84 w =>
 Lp fun (I22 : Value → KV) (μ22 : Value → Value → World → Nat) => I22 (.slice none 0 0) (.int .i64 0) w ∧
 ∀ (wl22 : World) (junk : Nat → Value) (s7 : Value) (s85 : Value), I22 s7 s85 wl22 →
 S.op (.bin .lss 3 false false s85 v84) wl22 (fun v86 w =>
 Br v86 (
 S.op (.indexAddr 25 a2 s85) w (fun v87 w =>
 S.op (.load 2 v87) w (fun v88 w =>
 S.op (.nilCheck v17) w (fun v91 w =>
 S.op (.load 96 v91) w (fun v92 w =>
 S.call (.fn 29) [v92, v88] w (fun v94 w =>
 S.op (.buildSlice 44 1 [(0, v94)]) w (fun v95 w =>
 S.op (.blt .append [44, 44] 44 [s7, v95]) w (fun v96 w =>
 S.op (.bin .add 3 false true s85 (.int .i64 1)) w (fun v97 w =>
 I22 v96 v97 w ∧ μ22 v96 v97 w < μ22 s7 s85 wl22) Kp) Kp) Kp) Kp) Kp) Kp) Kp) Kp) (
 S.op (.nilCheck v17) w (fun v99 w =>
 S.op (.load 96 v99) w (fun v100 w =>
 S.call (.fn 30) [v100] w (fun v101 w =>
 K (.tuple #[v101, s7]) w) Kp) Kp) Kp)) Kp) Kp)) Kp) Kp) Kp) Kp) Kp) Kp
theorem vc13_eq : vc13 S a0 a1 a2 w K Kp = fVC S [(3, [20]), (12, [11]), (17, [12]), (22, [7, 85])] [] Tryz.f13 [a0, a1, a2] w K Kp := by kernel_rfl
theorem vc13_calls (h : vc13 (nice Tryz.prog) a0 a1 a2 w K Kp) : Calls Tryz.prog 13 #[a0, a1, a2] w (ret K Kp) :=
 fVC_sound (args := [a0, a1, a2]) nice_le follows_MVcZ Tryz.func13 (by kernel_rfl) (Eq.mp vc13_eq h)
def vc4 (S : Sig) (a0 a1 a2 : Value) (w : World) (K : KV) (Kp : KP) : Prop :=
 S.op (.box 24 a0) w (fun v3 w =>
 S.op (.blt .len [26] 3 [a1]) w (fun v18 w =>
 S.op (.bin .gtr 3 false true v18 (.int .i64 2147483647)) w (fun v19 w =>
 Br v19 (
 K (.bool true) w) (
 S.op (.blt .len [25] 3 [a2]) w (fun v22 w =>
 S.op (.bin .gtr 3 false true v22 (.int .i64 2147483647)) w (fun v23 w =>
 Br v23 (
 K (.bool true) w) (
 S.call (.fn 11) [a1] w (fun v26 w =>
 S.op (.blt .len [26] 3 [v26]) w (fun v28 w =>
 Lp fun (I5 : KV) (μ5 : Value → World → Nat) => I5 (.int .i64 0) w ∧
 ∀ (wl5 : World) (junk : Nat → Value) (s29 : Value), I5 s29 wl5 →
 S.op (.bin .lss 3 false false s29 v28) wl5 (fun v30 w =>
 Br v30 (
 S.op (.indexAddr 26 v26 s29) w (fun v35 w =>
 S.op (.fieldAddr 42 v35 1) w (fun v36 w =>
 S.op (.store 3 v36 s29) w (fun _ w =>
 S.op (.bin .add 3 false true s29 (.int .i64 1)) w (fun v37 w =>
 I5 v37 w ∧ μ5 v37 w < μ5 s29 wl5) Kp) Kp) Kp) Kp) (
 S.op (.load 24 v3) w (fun v38 w =>
 S.call (.fn 5) [v38, v26] w (fun v40 w =>
 S.op (.un .not v40) w (fun v41 w =>
 Br v41 (
 S.call (.fn 6) [] w (fun v47 w =>
 K v47 w) Kp) (
 S.op (.blt .len [25] 3 [a2]) w (fun v44 w =>
 S.op (.bin .gtr 3 false true v44 (.int .i64 300)) w (fun v45 w =>
 Br v45 (
 S.call (.fn 6) [] w (fun v47 w =>
 K v47 w) Kp) (
 S.call (.fn 12) [v26] w (fun v49 w =>
 S.op (.blt .len [29] 3 [v49]) w (fun v52 w =>
 S.op (.bin .sub 3 false true v52 (.int .i64 1)) w (fun v53 w =>
 S.op (.indexAddr 29 v49 v53) w (fun v54 w =>
 S.op (.load 37 v54) w (fun v55 w =>
 S.ld (.load 24 v3) w.drew (fun v57 =>
 S.call (.fn 9) [v26] w.drew (fun v59 w =>
 S.same (.load 24 v3) v57 w ∧
 S.call (.fn 13) [v57, v59, a2] w (fun v61 w =>
 S.pur (.extract v61 0) (fun v62 =>
 S.pur (.extract v61 1) (fun v63 =>
 S.op (.blt .len [37] 3 [v55]) w (fun v66 w =>
 S.op (.bin .neq 3 false false v62 v66) w (fun v67 w =>
 Br v67 (
 K (.bool false) w) (
 S.op (.blt .len [44] 3 [v63]) w (fun v70 w =>
 S.op (.blt .len [25] 3 [a2]) w (fun v72 w =>
 S.op (.bin .neq 3 false false v70 v72) w (fun v73 w =>
 Br v73 (
 K (.bool false) w) (
 S.op (.blt .len [25] 3 [a2]) w (fun v76 w =>
 Lp fun (I17 : KV) (μ17 : Value → World → Nat) => I17 (.int .i64 0) w ∧
 ∀ (wl17 : World) (junk : Nat → Value) (s77 : Value), I17 s77 wl17 →
 S.op (.bin .lss 3 false false s77 v76) wl17 (fun v78 w =>
 Br v78 (
 S.op (.indexAddr 25 a2 s77) w (fun v80 w =>
 S.op (.load 2 v80) w (fun v81 w =>
 S.op (.lookup 37 v55 v81 true) w (fun v85 w =>
 S.op (.extract v85 0) w (fun v86 w =>
 S.op (.extract v85 1) w (fun v87 w =>
 S.op (.indexAddr 44 v63 s77) w (fun v90 w =>
 S.op (.load 4 v90) w (fun v91 w =>
 S.op (.bin .neq 4 false false v91 v87) w (fun v93 w =>
 Br v93 (
 K (.bool false) w) (
 S.op (.bin .add 3 false true s77 (.int .i64 1)) w (fun v94 w =>
 I17 v94 w ∧ μ17 v94 w < μ17 s77 wl17) Kp)) Kp) Kp) Kp) Kp) Kp) Kp) Kp) Kp) (
 S.call (.fn 6) [] w (fun v95 w =>
 K v95 w) Kp)) Kp) Kp)) Kp) Kp) Kp)) Kp) Kp))) Kp) Kp)) Kp) Kp) Kp) Kp) Kp)) Kp) Kp)) Kp) Kp) Kp)) Kp) Kp) Kp)) Kp) Kp)) Kp) Kp) Kp
theorem vc4_eq : vc4 S a0 a1 a2 w K Kp = fVC S [(5, [29]), (17, [77])] [] Tryz.f4 [a0, a1, a2] w K Kp := by kernel_rfl
theorem vc4_calls (h : vc4 (nice Tryz.prog) a0 a1 a2 w K Kp) : Calls Tryz.prog 4 #[a0, a1, a2] w (ret K Kp) :=
 fVC_sound (args := [a0, a1, a2]) nice_le follows_MVcZ Tryz.func4 (by kernel_rfl) (Eq.mp vc4_eq h)
end Go.Proofs.YtbghmbbhkoniiaaGreat
end
section
/- Sets whose steps go on from each other. -/
namespace Go.Vc
open Nd
def lineS (hash : Int → Nat) (steps : List MStep) : Nd Int Unit := steps.foldl (setStep hash) .emp
theorem lineS_snoc (hash : Int → Nat) (steps : List MStep) (s : MStep) : lineS hash (steps ++ [s]) = setStep hash (lineS hash steps) s := by simp [lineS]
theorem lineS_is {hash : Int → Nat} (hh : ∀ k, hash k < 2 ^ 32) (steps : List MStep) : Is hash (lineS hash steps) (un (lineM steps)) := by
  refine snoc_ind (P := fun l => Is hash (lineS hash l) (un (lineM l))) is_emp (fun l s ih => ?_) steps
  rw [lineS_snoc]
  simp only [lineM, List.foldl_append, List.foldl_cons, List.foldl_nil]
  exact is_setStep hh ih s
theorem lineS_size {hash : Int → Nat} (hh : ∀ k, hash k < 2 ^ 32) (steps : List MStep) : WFr hash (lineS hash steps) ∧ (toL (lineS hash steps)).length ≤ mcost steps := by
  refine snoc_ind (P := fun l => WFr hash (lineS hash l) ∧ (toL (lineS hash l)).length ≤ mcost l) ⟨trivial, by simp [lineS, toL, mcost]⟩ (fun l s ih => ?_) steps
  rw [lineS_snoc]
  have := setStep_len hh ih.1 s
  rw [mcost_snoc]
  exact ⟨this.1, by omega⟩
end Go.Vc
end
section
/- Sets' builders: ItemBuild. -/
namespace Go.Proofs.YtbghmbbhkoniiaaGreat.S
open Go.Vc Go.Proofs Go.Proofs.YtbghmbbhkoniiaaGreat Go.Vc.Nd
open Go.Proofs.YtbghmbbhkoniiaaGreat.I (hval hashOf hashOf_lt)
variable {w w' : World} {v hv : Value} {t : Tr} {F F' : Nat → Prop} {K : KV} {Kp : KP} {hash : Ky → Nat} {k : Ky} {x : Vl} {l s md ml sh : Nat} {mu nl : Bool}
def b1 (b : Bool) : List Value := [.bool b]
theorem b1_len (b : Bool) : (b1 b).length = 1 := rfl
theorem b1_one (b : Bool) : ∀ u ∈ b1 b, u.oneCell' = true := fun u hu => by rw [List.mem_singleton.1 hu]; rfl
theorem apBool : apOf Tryz.prog 44 = some (4, 1, 1) := by kernel_rfl
def hasOf (m : Int → Option Int) (k : Int) : Bool := (m k).isSome
theorem counted_ok {n : Int} (h : n ≤ 100000) (hK : K (.int .i64 n) w) : Calls Tryz.prog 28 #[.int .i64 n] w (ret K Kp) := by
  refine vc28_calls ?_
  simp [-getElem?_pos, -Array.getElem?_eq_getElem, -Int.natCast_add, add_spot, and_assoc, Br_dec, -op_box, -op_alloc_64, -op_st_64, -op_st_62, -op_alloc_52, -op_st_52, -op_lit_44_1, vc28]
  exact ⟨fun h => by omega, fun _ => hK⟩
theorem SBSet_ok {b : Nat} (hdef : ∀ d, IsH (defV d) defHash) (h : Ver w b hash nl t F) (hF : ∀ c, F c → c < w.heap.size) (hL : (toL t).length ≤ 1000000)
    (hK : ∀ w' F', Frm F w w' → Ver w' b hash nl (Nd.set hash t k ()) F' → (∀ c, F' c → (F c ∨ w.heap.size ≤ c) ∧ c < w'.heap.size) → K (.tuple #[]) w') : Calls Tryz.prog 26 #[setV b, ek k] w (ret K Kp) := by
  refine vc26_calls ?_
  simp only [vc26]
  refine op_box_ok fun w1 k1 z1 b1 => ?_
  simp only [setV, cells_agg] at b1
  have n1 := k1.size
  try simp [-getElem?_pos, -Array.getElem?_eq_getElem, -Int.natCast_add, add_spot, and_assoc, Br_dec, -op_box, -op_alloc_64, -op_st_64, -op_st_62, -op_alloc_52, -op_st_52, -op_lit_44_1, b1, ptr]
  refine ver_set_ok (k := k) (x := ()) (mu := true) hdef (h.still k1) hL fun b' w2 F2 k2 v2 hF2 hb => ?_
  obtain rfl := hb rfl
  have n2 := k2.size
  have b2 := k2.get b1 fun h => by have := hF _ h.2; omega
  try simp [-getElem?_pos, -Array.getElem?_eq_getElem, -Int.natCast_add, add_spot, and_assoc, Br_dec, -op_box, -op_alloc_64, -op_st_64, -op_st_62, -op_alloc_52, -op_st_52, -op_lit_44_1]
  refine op_store_ok (by kernel_rfl) b2 (by simp) one_ptr fun w3 k3 z3 b3 => ?_
  have v2' := v2.lt
  refine hK w3 (fun c => F2 c ∧ c < w2.heap.size ∧ c ≠ w.heap.size) ((k1.fst (k2.to (M' := F) fun c hc => hc.2)).old k3 fun c hc => .inr (by omega)) ?_ fun c hc => ⟨(hF2 c hc.1).imp id fun h => by omega, by omega⟩
  have hne : ∀ c, F2 c ∧ c < w2.heap.size → c ≠ w.heap.size := fun c hc e => by
    rcases hF2 c hc.1 with h | h
    · have := hF c h; omega
    · omega
  exact (v2'.frame k3 fun c hc e => hne c hc e).mono fun c hc => ⟨hc.1, hc.2, hne c hc⟩
theorem SBDel_ok {b : Nat} (h : Ver w b hash nl t F) (hF : ∀ c, F c → c < w.heap.size) (hL : (toL t).length ≤ 1000000)
    (hK : ∀ w' F', Frm F w w' → Ver w' b hash nl (delT hash t k) F' → (∀ c, F' c → (F c ∨ w.heap.size ≤ c) ∧ c < w'.heap.size) → K (.tuple #[]) w') : Calls Tryz.prog 27 #[setV b, ek k] w (ret K Kp) := by
  refine vc27_calls ?_
  simp only [vc27]
  refine op_box_ok fun w1 k1 z1 b1 => ?_
  simp only [setV, cells_agg] at b1
  have n1 := k1.size
  try simp [-getElem?_pos, -Array.getElem?_eq_getElem, -Int.natCast_add, add_spot, and_assoc, Br_dec, -op_box, -op_alloc_64, -op_st_64, -op_st_62, -op_alloc_52, -op_st_52, -op_lit_44_1, b1, ptr]
  refine ver_del_ok (k := k) (mu := true) (h.still k1) hL fun b' w2 F2 k2 v2 hF2 hb => ?_
  obtain rfl := hb rfl
  have n2 := k2.size
  have b2 := k2.get b1 fun h => by have := hF _ h.2; omega
  try simp [-getElem?_pos, -Array.getElem?_eq_getElem, -Int.natCast_add, add_spot, and_assoc, Br_dec, -op_box, -op_alloc_64, -op_st_64, -op_st_62, -op_alloc_52, -op_st_52, -op_lit_44_1]
  refine op_store_ok (by kernel_rfl) b2 (by simp) one_ptr fun w3 k3 z3 b3 => ?_
  have v2' := v2.lt
  have hne : ∀ c, F2 c ∧ c < w2.heap.size → c ≠ w.heap.size := fun c hc e => by
    rcases hF2 c hc.1 with h | h
    · have := hF c h; omega
    · omega
  refine hK w3 (fun c => F2 c ∧ c < w2.heap.size) ((k1.fst (k2.to (M' := F) fun c hc => hc.2)).old k3 fun c hc => .inr (by omega)) (v2'.frame k3 fun c hc e => hne c hc e) fun c hc => ⟨(hF2 c hc.1).imp id fun h => by omega, by omega⟩
theorem SBHas_ok {b : Nat} (h : Ver w b hash nl t F) (hK : ∀ w', Frm (fun _ => False) w w' → K (.bool (getIn (hash k) k t 0).isSome) w') : Calls Tryz.prog 29 #[setV b, ek k] w (ret K Kp) := by
  refine vc29_calls ?_
  simp only [vc29]
  refine op_box_ok fun w1 k1 z1 b1 => ?_
  simp only [setV, cells_agg] at b1
  try simp [-getElem?_pos, -Array.getElem?_eq_getElem, -Int.natCast_add, add_spot, and_assoc, Br_dec, -op_box, -op_alloc_64, -op_st_64, -op_st_62, -op_alloc_52, -op_st_52, -op_lit_44_1, b1, ex1', ptr]
  exact Has_ok (h.still k1) fun w2 k2 => hK w2 (k1.no k2)
theorem SBLen_ok {b : Nat} (h : Ver w b hash nl t F) (hK : ∀ w', Frm (fun _ => False) w w' → K (.int .i64 (toL t).length) w') : Calls Tryz.prog 30 #[setV b] w (ret K Kp) := by
  refine vc30_calls ?_
  simp only [vc30]
  refine op_box_ok fun w1 k1 z1 b1 => ?_
  simp only [setV, cells_agg] at b1
  try simp [-getElem?_pos, -Array.getElem?_eq_getElem, -Int.natCast_add, add_spot, and_assoc, Br_dec, -op_box, -op_alloc_64, -op_st_64, -op_st_62, -op_alloc_52, -op_st_52, -op_lit_44_1, b1, ex1', ptr]
  refine vc19_calls ?_
  simp only [vc19]
  refine op_box_ok fun w2 k2 z2 b2 => ?_
  simp only [cells_agg] at b2
  try simp [-getElem?_pos, -Array.getElem?_eq_getElem, -Int.natCast_add, add_spot, and_assoc, Br_dec, -op_box, -op_alloc_64, -op_st_64, -op_st_62, -op_alloc_52, -op_st_52, -op_lit_44_1, b2, ptr]
  exact ver_len_ok ((h.still k1).still k2) (hK w2 (k1.no k2))
def Wb (w0 w : World) (sb b : Nat) (hash : Ky → Nat) (nl : Bool) (t : Tr) (F : Nat → Prop) : Prop :=
  Frm (fun _ => False) w0 w ∧ w.heap[sb]? = some (.cells #[ptr b] 96 (0, 0)) ∧ Ver w b hash nl t F ∧ (∀ c, F c → w0.heap.size ≤ c ∧ c < w.heap.size ∧ c ≠ sb) ∧ w0.heap.size ≤ sb
theorem Wb.still {w0 : World} {sb b : Nat} (h : Wb w0 w sb b hash nl t F) (hf : Frm (fun _ => False) w w') : Wb w0 w' sb b hash nl t F := by
  obtain ⟨h1, h2, h3, h4, h5⟩ := h
  exact ⟨h1.no hf, hf.get h2 fun h => h, h3.still hf, fun c hc => ⟨(h4 c hc).1, by have := hf.size; have := (h4 c hc).2.1; omega, (h4 c hc).2.2⟩, h5⟩
theorem Wb.next {w0 : World} {sb b : Nat} {t' : Tr} (h : Wb w0 w sb b hash nl t F) (hf : Frm F w w') (hv : Ver w' b hash nl t' F') (hF : ∀ c, F' c → (F c ∨ w.heap.size ≤ c) ∧ c < w'.heap.size) : Wb w0 w' sb b hash nl t' F' := by
  obtain ⟨h1, h2, h3, h4, h5⟩ := h
  have hl := lt_of_get h2
  have hn := h1.size
  refine ⟨h1.old hf fun c hc => .inr (h4 c hc).1, hf.get h2 fun h => (h4 _ h).2.2 rfl, hv, fun c hc => ⟨?_, (hF c hc).2, ?_⟩, h5⟩
  · rcases (hF c hc).1 with h | h
    · exact (h4 c h).1
    · omega
  · rcases (hF c hc).1 with h | h
    · exact (h4 c h).2.2
    · omega
theorem Wb.lt {w0 : World} {sb b : Nat} (h : Wb w0 w sb b hash nl t F) : ∀ c, F c → c < w.heap.size := fun c hc => (h.2.2.2.1 c hc).2.1
theorem itemBuild_ok {a1 a3 : Option Addr} {c1 c3 : Nat} {steps : List MStep} {asked : List Int} (h1 : Row w a1 (steps.flatMap MStep.cells)) (hfit : MFit steps) (hc : mcost steps ≤ 900000) (h3 : Row w a3 (asked.flatMap i1)) (hn : asked.length < 2 ^ 31)
    (hK : ∀ l2 w', Frm (fun _ => False) w w' → FRow b1 w' w.heap.size 4 1 l2 (asked.map (hasOf (lineM steps))) → K (.tuple #[.int .i64 (toL (lineS (hashOf md ml sh) steps)).length, l2]) w') :
    Calls Tryz.prog 13 #[hval md ml sh, .slice a1 steps.length c1, .slice a3 asked.length c3] w (ret K Kp) := by
  have hcl : steps.length ≤ mcost steps := by
    clear h1 hfit hc hK
    induction steps with
    | nil => simp
    | cons s l ih => simp only [mcost, List.map_cons, List.sum_cons, List.length_cons, MStep.cost] at ih ⊢; omega
  have hlt := hashOf_lt md ml sh
  have hdef : ∀ d, IsH (defV d) defHash := fun d => isH_of (I.defHasher_ok d)
  have hIs := lineS_is hlt steps
  have hsz := fun i => lineS_size hlt (steps.take i)
  refine vc13_calls ?_
  simp only [vc13]
  refine op_box_ok fun w1 k1 z1 b1' => ?_
  simp only [hval, cells_agg] at b1'
  have hx3 : (#[Value.int .u32 (md : Int), .int .u32 (ml : Int), .int .u8 (sh : Int)] : Array Value).extract 0 3 = #[.int .u32 md, .int .u32 ml, .int .u8 sh] := rfl
  try simp [-getElem?_pos, -Array.getElem?_eq_getElem, -Int.natCast_add, add_spot, and_assoc, Br_dec, -op_box, -op_alloc_64, -op_st_64, -op_st_62, -op_alloc_52, -op_st_52, -op_lit_44_1, b1', hx3]
  refine hasherS_ok (md := md) (ml := ml) (sh := sh) fun h w4 k4 o4 hh4 => ?_
  generalize hashOf md ml sh = hash at *
  generalize decide (md = 0) = nl at *
  try simp [-getElem?_pos, -Array.getElem?_eq_getElem, -Int.natCast_add, add_spot, and_assoc, Br_dec, -op_box, -op_alloc_64, -op_st_64, -op_st_62, -op_alloc_52, -op_st_52, -op_lit_44_1]
  refine vc24_calls ?_
  simp only [vc24]
  try simp [-getElem?_pos, -Array.getElem?_eq_getElem, -Int.natCast_add, add_spot, and_assoc, Br_dec, -op_box, -op_alloc_64, -op_st_64, -op_st_62, -op_alloc_52, -op_st_52, -op_lit_44_1]
  refine NewSet_ok (xs := []) (a1 := none) (c1 := 0) hdef hh4 o4 hlt (.inl rfl) (by simp) fun mb w5 G5 k5 v5 hG5 => ?_
  have n1 := k1.size
  have n4 := k4.size
  have n5 := k5.size
  simp only [setV, op_build_96_0]
  refine op_box_ok fun w6 k6 z6 b6 => ?_
  simp only [cells_agg] at b6
  have hW : Wb w w6 w5.heap.size mb hash nl .emp G5 := ⟨((k1.no k4).no k5).no k6, b6, v5.still k6, fun c hc => by have := hG5 c hc; omega, by omega⟩
  generalize hsb : w5.heap.size = sb at *
  try simp [-getElem?_pos, -Array.getElem?_eq_getElem, -Int.natCast_add, add_spot, and_assoc, Br_dec, -op_box, -op_alloc_64, -op_st_64, -op_st_62, -op_alloc_52, -op_st_52, -op_lit_44_1]
  obtain ⟨I, hI⟩ : ∃ I : KV, ∀ v wl, I v wl ↔ ∃ (i : Nat) (F : Nat → Prop), v = .int .i64 i ∧ i ≤ steps.length ∧ Wb w wl sb mb hash nl (lineS hash (steps.take i)) F := ⟨_, fun _ _ => Iff.rfl⟩
  refine Lp.intro I (fun v _ => steps.length - natOf v) ⟨(hI _ _).2 ⟨0, G5, rfl, by omega, hW⟩, ?_⟩
  intro wl v hl
  obtain ⟨i, F, rfl, hi, hWl⟩ := (hI _ _).1 hl
  have kl := hWl.1
  have bvb := hWl.2.1
  simp only [op_lss, Br_dec]
  refine ⟨fun hlt' => ?_, fun hnl' => ?_⟩
  · have hi' : i < steps.length := by omega
    have htk : steps.take (i + 1) = steps.take i ++ [steps[i]] := List.take_succ_eq_append_getElem hi'
    have hct := mcost_take steps (i + 1)
    rw [htk, mcost_snoc] at hct
    obtain ⟨f1, f2, f3, f4, f5⟩ := hfit i hi'
    obtain ⟨bp, o, cs, e, fz, rfl, hcs, hsz', hext⟩ := (h1.frame kl (fun _ _ h => h)).part mcells_len (by decide) hi'
    have hsi := hsz i
    have hcost : (steps[i]).cost = 1 + (steps[i]).count.toNat := rfl
    have hnext : lineS hash (steps.take (i + 1)) = setStep hash (lineS hash (steps.take i)) steps[i] := by rw [htk, lineS_snoc]
    generalize hst : steps[i] = s at *
    try simp [-getElem?_pos, -Array.getElem?_eq_getElem, -Int.natCast_add, add_spot, and_assoc, Br_dec, -op_box, -op_alloc_64, -op_st_64, -op_st_62, -op_alloc_52, -op_st_52, -op_lit_44_1, hcs, hsz', hext]
    refine ⟨hi', ?_⟩
    refine op_alloc_ok (z := .agg #[.int .u8 0, .int .i64 0, .int .i64 0, .int .i64 0, .int .i64 0]) (by kernel_rfl) fun w8 k8 z8 b8 => ?_
    simp only [cells_agg] at b8
    refine op_storeN_ok (n := 5) (by kernel_rfl) b8 rfl (by decide) (by simp [MStep.cells]) fun w9 k9 z9 b9 => ?_
    have b9 : w9.heap[wl.heap.size]? = some (.cells #[.int .u8 s.kind, .int .i64 s.fro, .int .i64 s.key, .int .i64 s.value, .int .i64 s.count] 52 (0, 0)) := by
      rw [ow_all (by simp [MStep.cells])] at b9; simpa [MStep.cells] using b9
    have k89 : Frm (fun _ => False) wl w9 := k8.old k9 fun c hc => .inr (by omega)
    have n89 := k89.size
    have hW9 := hWl.still k89
    have bv9 := hW9.2.1
    generalize hsb2 : wl.heap.size = stb at *
    generalize ht0 : lineS hash (steps.take i) = t0 at *
    have hdone : ∀ {wy : World} {t' : Tr} {F' : Nat → Prop}, t' = setStep hash t0 s → Wb w wy sb mb hash nl t' F' → I (.int .i64 ((i : Int) + 1)) wy := fun {wy t' F'} he hw => by
      subst he
      refine (hI _ _).2 ⟨i + 1, F', by simp, by omega, ?_⟩
      rw [hnext]; exact hw
    have hmu : steps.length - (i + 1) < steps.length - i := by omega
    have hew : IntKind.i64.wrap ((i : Int) + 1) = (i : Int) + 1 := wrap_i64_small (by omega) (by omega)
    have hnat : natOf (.int .i64 ((i : Int) + 1)) = i + 1 := by simp only [natOf]; omega
    have hnat0 : natOf (.int .i64 (i : Int)) = i := by simp only [natOf]; omega
    have hkind : s.kind = 0 ∨ s.kind = 1 ∨ s.kind = 2 ∨ s.kind = 3 := by omega
    rcases hkind with hk | hk | hk | hk
    · try simp [-getElem?_pos, -Array.getElem?_eq_getElem, -Int.natCast_add, add_spot, and_assoc, Br_dec, -op_box, -op_alloc_64, -op_st_64, -op_st_62, -op_alloc_52, -op_st_52, -op_lit_44_1, b9, hk, bv9, ptr, ex1']
      refine SBSet_ok (k := s.key) hdef (hW9.still (Frm.drew w9)).2.2.1 hW9.lt (by omega) fun wy F' ky vy hy => ?_
      try simp [-getElem?_pos, -Array.getElem?_eq_getElem, -Int.natCast_add, add_spot, and_assoc, Br_dec, -op_box, -op_alloc_64, -op_st_64, -op_st_62, -op_alloc_52, -op_st_52, -op_lit_44_1, hew]
      rw [hnat, hnat0]
      exact ⟨hdone (by simp only [setStep, hk]) (hW9.next (Frm.dr ky) vy hy), hmu⟩
    · try simp [-getElem?_pos, -Array.getElem?_eq_getElem, -Int.natCast_add, add_spot, and_assoc, Br_dec, -op_box, -op_alloc_64, -op_st_64, -op_st_62, -op_alloc_52, -op_st_52, -op_lit_44_1, b9, hk, bv9, ptr, ex1']
      refine SBDel_ok (k := s.key) (hW9.still (Frm.drew w9)).2.2.1 hW9.lt (by omega) fun wy F' ky vy hy => ?_
      try simp [-getElem?_pos, -Array.getElem?_eq_getElem, -Int.natCast_add, add_spot, and_assoc, Br_dec, -op_box, -op_alloc_64, -op_st_64, -op_st_62, -op_alloc_52, -op_st_52, -op_lit_44_1, hew]
      rw [hnat, hnat0]
      exact ⟨hdone (by simp only [setStep, hk]) (hW9.next (Frm.dr ky) vy hy), hmu⟩
    · try simp [-getElem?_pos, -Array.getElem?_eq_getElem, -Int.natCast_add, add_spot, and_assoc, Br_dec, -op_box, -op_alloc_64, -op_st_64, -op_st_62, -op_alloc_52, -op_st_52, -op_lit_44_1, b9, hk]
      obtain ⟨I2, hI2⟩ : ∃ I2 : KV, ∀ v wz, I2 v wz ↔ ∃ (j : Nat) (F2 : Nat → Prop), v = .int .i64 j ∧ (j : Int) ≤ s.count ∧ wz.heap[stb]? = some (.cells #[.int .u8 s.kind, .int .i64 s.fro, .int .i64 s.key, .int .i64 s.value, .int .i64 s.count] 52 (0, 0)) ∧ (∀ c, F2 c → c ≠ stb) ∧ stb < wz.heap.size ∧ Wb w wz sb mb hash nl (addN hash s.key s.value t0 j) F2 := ⟨_, fun _ _ => Iff.rfl⟩
      refine Lp.intro I2 (fun v _ => s.count.toNat - natOf v) ⟨(hI2 _ _).2 ⟨0, F, rfl, by omega, b9, fun c hc => by have := hWl.lt c hc; omega, by omega, hW9⟩, ?_⟩
      intro wz v hm
      obtain ⟨j, F2, rfl, hj, bz, hz, zz, hWz⟩ := (hI2 _ _).1 hm
      have hsz2 := (addN_len hlt hsi.1 (k := s.key) (v := s.value) j).2
      have bvz := hWz.2.1
      try simp [-getElem?_pos, -Array.getElem?_eq_getElem, -Int.natCast_add, add_spot, and_assoc, Br_dec, -op_box, -op_alloc_64, -op_st_64, -op_st_62, -op_alloc_52, -op_st_52, -op_lit_44_1, bz]
      refine counted_ok f5 ?_
      try simp [-getElem?_pos, -Array.getElem?_eq_getElem, -Int.natCast_add, add_spot, and_assoc, Br_dec, -op_box, -op_alloc_64, -op_st_64, -op_st_62, -op_alloc_52, -op_st_52, -op_lit_44_1, bz, bvz, ptr, ex1']
      refine ⟨fun hlt2 => ?_, fun hge => ?_⟩
      · refine SBSet_ok (k := kAt s.key s.value j) hdef (hWz.still (Frm.drew wz)).2.2.1 hWz.lt (by omega) fun wy F' ky vy hy => ?_
        rw [← addN_succ] at vy
        try simp [-getElem?_pos, -Array.getElem?_eq_getElem, -Int.natCast_add, add_spot, and_assoc, Br_dec, -op_box, -op_alloc_64, -op_st_64, -op_st_62, -op_alloc_52, -op_st_52, -op_lit_44_1]
        rw [wrap_i64_small (by omega) (by omega)]
        have := (Frm.dr ky).size
        refine ⟨(hI2 _ _).2 ⟨j + 1, F', by simp, by omega, (Frm.dr ky).get bz fun h => hz _ h rfl, fun c hc => ?_, by omega, hWz.next (Frm.dr ky) vy hy⟩, ?_⟩
        · rcases (hy c hc).1 with h | h
          · exact hz c h
          · have h : wz.heap.size ≤ c := h
            omega
        · simp only [natOf]; omega
      · have : j = s.count.toNat := by omega
        subst this
        try simp [-getElem?_pos, -Array.getElem?_eq_getElem, -Int.natCast_add, add_spot, and_assoc, Br_dec, -op_box, -op_alloc_64, -op_st_64, -op_st_62, -op_alloc_52, -op_st_52, -op_lit_44_1, hew]
        rw [hnat, hnat0]
        exact ⟨hdone (by simp only [setStep, hk]) hWz, hmu⟩
    · try simp [-getElem?_pos, -Array.getElem?_eq_getElem, -Int.natCast_add, add_spot, and_assoc, Br_dec, -op_box, -op_alloc_64, -op_st_64, -op_st_62, -op_alloc_52, -op_st_52, -op_lit_44_1, b9, hk]
      obtain ⟨I2, hI2⟩ : ∃ I2 : KV, ∀ v wz, I2 v wz ↔ ∃ (j : Nat) (F2 : Nat → Prop), v = .int .i64 j ∧ (j : Int) ≤ s.count ∧ wz.heap[stb]? = some (.cells #[.int .u8 s.kind, .int .i64 s.fro, .int .i64 s.key, .int .i64 s.value, .int .i64 s.count] 52 (0, 0)) ∧ (∀ c, F2 c → c ≠ stb) ∧ stb < wz.heap.size ∧ Wb w wz sb mb hash nl (remN hash s.key s.value t0 j) F2 := ⟨_, fun _ _ => Iff.rfl⟩
      refine Lp.intro I2 (fun v _ => s.count.toNat - natOf v) ⟨(hI2 _ _).2 ⟨0, F, rfl, by omega, b9, fun c hc => by have := hWl.lt c hc; omega, by omega, hW9⟩, ?_⟩
      intro wz v hm
      obtain ⟨j, F2, rfl, hj, bz, hz, zz, hWz⟩ := (hI2 _ _).1 hm
      have hsz2 := (remN_len hsi.1 (k := s.key) (v := s.value) j).2
      have bvz := hWz.2.1
      try simp [-getElem?_pos, -Array.getElem?_eq_getElem, -Int.natCast_add, add_spot, and_assoc, Br_dec, -op_box, -op_alloc_64, -op_st_64, -op_st_62, -op_alloc_52, -op_st_52, -op_lit_44_1, bz]
      refine counted_ok f5 ?_
      try simp [-getElem?_pos, -Array.getElem?_eq_getElem, -Int.natCast_add, add_spot, and_assoc, Br_dec, -op_box, -op_alloc_64, -op_st_64, -op_st_62, -op_alloc_52, -op_st_52, -op_lit_44_1, bz, bvz, ptr, ex1']
      refine ⟨fun hlt2 => ?_, fun hge => ?_⟩
      · refine SBDel_ok (k := kAt s.key s.value j) (hWz.still (Frm.drew wz)).2.2.1 hWz.lt (by omega) fun wy F' ky vy hy => ?_
        rw [← remN_succ] at vy
        try simp [-getElem?_pos, -Array.getElem?_eq_getElem, -Int.natCast_add, add_spot, and_assoc, Br_dec, -op_box, -op_alloc_64, -op_st_64, -op_st_62, -op_alloc_52, -op_st_52, -op_lit_44_1]
        rw [wrap_i64_small (by omega) (by omega)]
        have := (Frm.dr ky).size
        refine ⟨(hI2 _ _).2 ⟨j + 1, F', by simp, by omega, (Frm.dr ky).get bz fun h => hz _ h rfl, fun c hc => ?_, by omega, hWz.next (Frm.dr ky) vy hy⟩, ?_⟩
        · rcases (hy c hc).1 with h | h
          · exact hz c h
          · have h : wz.heap.size ≤ c := h
            omega
        · simp only [natOf]; omega
      · have : j = s.count.toNat := by omega
        subst this
        try simp [-getElem?_pos, -Array.getElem?_eq_getElem, -Int.natCast_add, add_spot, and_assoc, Br_dec, -op_box, -op_alloc_64, -op_st_64, -op_st_62, -op_alloc_52, -op_st_52, -op_lit_44_1, hew]
        rw [hnat, hnat0]
        exact ⟨hdone (by simp only [setStep, hk]) hWz, hmu⟩
  have : i = steps.length := by omega
  subst this
  rw [List.take_length] at hWl
  have hszt := (lineS_size hlt steps).2
  generalize htt : lineS hash steps = tt at *
  have n0l := kl.size
  try simp [-getElem?_pos, -Array.getElem?_eq_getElem, -Int.natCast_add, add_spot, and_assoc, Br_dec, -op_box, -op_alloc_64, -op_st_64, -op_st_62, -op_alloc_52, -op_st_52, -op_lit_44_1]
  obtain ⟨I3, hI3⟩ : ∃ I : Value → KV, ∀ l2 s wz, I l2 s wz ↔ ∃ i : Nat, s = .int .i64 i ∧ i ≤ asked.length ∧ Frm (fun _ => False) wl wz ∧ FRow b1 wz wl.heap.size 4 1 l2 ((asked.take i).map (hasOf (lineM steps))) := ⟨_, fun _ _ _ => Iff.rfl⟩
  refine Lp.intro I3 (fun _ s _ => asked.length - natOf s) ⟨(hI3 _ _ _).2 ⟨0, rfl, by omega, Frm.refl, rows_nil⟩, ?_⟩
  intro wz l2 s hl3
  obtain ⟨j, rfl, hj, kz, hRb⟩ := (hI3 _ _ _).1 hl3
  have hWz := hWl.still kz
  have bvz := hWz.2.1
  simp only [op_lss, Br_dec]
  refine ⟨fun hlt' => ?_, fun hge => ?_⟩
  rotate_left
  · have : j = asked.length := by omega
    subst this
    rw [List.take_length] at *
    try simp [-getElem?_pos, -Array.getElem?_eq_getElem, -Int.natCast_add, add_spot, and_assoc, Br_dec, -op_box, -op_alloc_64, -op_st_64, -op_st_62, -op_alloc_52, -op_st_52, -op_lit_44_1, bvz, ptr, ex1']
    refine SBLen_ok hWz.2.2.1 fun w10 k10 => ?_
    try simp [-getElem?_pos, -Array.getElem?_eq_getElem, -Int.natCast_add, add_spot, and_assoc, Br_dec, -op_box, -op_alloc_64, -op_st_64, -op_st_62, -op_alloc_52, -op_st_52, -op_lit_44_1]
    exact hK l2 w10 ((kl.no kz).no k10) ((frow_still hRb k10).base_le n0l)
  have hj' : j < asked.length := by omega
  have htk : asked.take (j + 1) = asked.take j ++ [asked[j]] := List.take_succ_eq_append_getElem hj'
  obtain ⟨bp, o, cs, e, fz, rfl, hcs, hki⟩ := row_int (h3.frame (kl.no kz) fun _ _ h => h) hj'
  have lo2 := hRb.own_lt
  have nz := kz.size
  try simp [-getElem?_pos, -Array.getElem?_eq_getElem, -Int.natCast_add, add_spot, and_assoc, Br_dec, -op_box, -op_alloc_64, -op_st_64, -op_st_62, -op_alloc_52, -op_st_52, -op_lit_44_1, hcs, hki, bvz, ptr, ex1']
  refine ⟨hj', ?_⟩
  refine SBHas_ok (k := asked[j]) hWz.2.2.1 fun w10 k10 => ?_
  rw [is_un_get hIs]
  have n10 := k10.size
  try simp [-getElem?_pos, -Array.getElem?_eq_getElem, -Int.natCast_add, add_spot, and_assoc, Br_dec, -op_box, -op_alloc_64, -op_st_64, -op_st_62, -op_alloc_52, -op_st_52, -op_lit_44_1]
  have htl2 : ((asked.take j).map (hasOf (lineM steps))).length = j := by simp; omega
  refine op_pushF (f := b1) (y := hasOf (lineM steps) asked[j]) apBool (lit_44_1 rfl) b1_len b1_one (frow_still hRb k10) (by rw [htl2]; omega) (by omega) fun l4 w11 k11 hR5 ho5 => ?_
  try simp [-getElem?_pos, -Array.getElem?_eq_getElem, -Int.natCast_add, add_spot, and_assoc, Br_dec, -op_box, -op_alloc_64, -op_st_64, -op_st_62, -op_alloc_52, -op_st_52, -op_lit_44_1]
  rw [wrap_i64_small (by omega) (by omega)]
  refine ⟨(hI3 _ _ _).2 ⟨j + 1, by simp, by omega, ((kz.no k10).old k11 fun c hc => .inr (by have := lo2 c hc.symm; omega)), by rw [htk, List.map_append]; exact hR5⟩, ?_⟩
  simp only [natOf]; omega
end Go.Proofs.YtbghmbbhkoniiaaGreat.S
end
section
/- slices.Reverse of a row of one's own. -/
namespace Go.Vc
variable {P : Program} {w w' : World} {K : Value → World → Prop} {Kp : KP} {t e tin tel : TypeId} {s base g c : Nat} {α : Type} {f : α → List Value} {ys : List α} {l : Value}
end Go.Vc
namespace Go.Vc
variable {P : Program} {w w' : World} {K : Value → World → Prop} {K1 : Value → Prop} {Kp : KP} {t e : TypeId} {s base : Nat} {α : Type} {f : α → List Value} {xs : List α} {v : Value}
theorem IsSl.old {M : Nat → Prop} {n : Nat} {vs : List Value} (h : IsSl w v n vs) (hf : Frm M w w') (hM : ∀ b, M b → w.heap.size ≤ b) : IsSl w' v n vs := by
  obtain ⟨a, c, rfl, hc, hm, hr, hn⟩ := h
  exact ⟨a, c, rfl, hc, hm, hr.old hf hM, hn⟩
theorem op_row0 {bytes : Nat} (ha : apOf P t = some (e, s, bytes)) (hl : sliceLit P t 0 [] = some (e, #[])) (hbase : base ≤ w.heap.size) (hK : ∀ l' w', Frm (fun _ => False) w w' → FRow f w' base e s l' [] → l'.ownBlock = some w.heap.size → K l' w') : (nice P).op (.buildSlice t 0 []) w K Kp := by
  refine op_lit_ok hl fun w1 k1 z1 b1 => ?_
  have hr : Rw w1 e s w.heap.size 0 [] := ⟨_, b1, by simp, by simp, by simp, by simp [maxLen]⟩
  refine hK _ w1 k1 ⟨⟨[], rfl, by simp, ?_, fun j u y hu => by simp at hu⟩, fun _ h => h.elim, fun _ _ h => h⟩ rfl
  obtain ⟨h1, ⟨h2, _⟩ | ⟨g, cap, cur, h2, h3, h4⟩⟩ := hr.own (n := 0) (by simp) (Nat.le_refl _)
  · cases h2
  · cases h2
    exact ⟨h1, .inr ⟨_, _, cur, rfl, hbase, h4⟩⟩
end Go.Vc
end
section
/- One cell of an element of a row of one's own is written. -/
namespace Go.Vc
variable {P : Program} {w w' : World} {K : Value → World → Prop} {Kp : KP} {t e : TypeId} {s base g c r : Nat} {α : Type} {f : α → List Value} {ys : List α} {v : Value}
theorem set_flat (hf : ∀ x, (f x).length = s) (hr : r < s) : ∀ (ys : List α) (j : Nat) (hj : j < ys.length) (y : α), f y = (f ys[j]).set r v → (ys.map f).flatten.set (j * s + r) v = ((ys.set j y).map f).flatten
  | [], j, h, y, _ => by simp at h
  | x :: ys, 0, _, y, hy => by
    simp only [List.map_cons, List.flatten_cons, List.set_cons_zero, Nat.zero_mul, Nat.zero_add]
    rw [List.set_append_left _ _ (by rw [hf]; exact hr), hy]
    rfl
  | x :: ys, j + 1, h, y, hy => by
    have ih := set_flat hf hr ys j (by simpa using h) y (by simpa using hy)
    have e1 : (j + 1) * s + r = (f x).length + (j * s + r) := by rw [hf, Nat.add_mul]; omega
    simp only [List.map_cons, List.flatten_cons, List.set_cons_succ]
    rw [e1, List.set_append_right _ _ (by omega), Nat.add_sub_cancel_left, ih]
theorem op_store_cell {j : Nat} {y : α} (hel : ldk P t = some .one) (hf : ∀ x, (f x).length = s) (hv : v.oneCell' = true) (hR : FRow f w base e s (.slice (some ⟨g, 0, none⟩) ys.length c) ys) (hj : j < ys.length) (hr : r < s) (hy : f y = (f ys[j]).set r v)
    (hK : ∀ w', Frm (· = g) w w' → w'.heap.size = w.heap.size → FRow f w' base e s (.slice (some ⟨g, 0, none⟩) ys.length c) (ys.set j y) → K undef w') : (nice P).op (.store t (.pointer (some ⟨g, j * s + r, none⟩)) v) w K Kp := by
  obtain ⟨⟨us, h1, h3, h4, h5⟩, h6, h7⟩ := hR
  have hus : us = ys.map f := by
    apply List.ext_getElem?
    intro i
    by_cases hi : i < us.length
    · rw [List.getElem?_eq_getElem hi, List.getElem?_map, List.getElem?_eq_getElem (by omega)]
      have := h5 i us[i] (ys[i]'(by omega)) (List.getElem?_eq_getElem _) (List.getElem?_eq_getElem _)
      rw [this]; rfl
    · rw [List.getElem?_eq_none (by omega), List.getElem?_eq_none (by simp; omega)]
  subst hus
  obtain ⟨g', cap', hv', hc, hrw, hb⟩ := Rw.of_own (n := ys.length) (own_base h4 (Nat.zero_le _)) (by omega)
  cases hv'
  have hlow := Go.Vc.own_lt h4 g rfl
  have hle : (j + 1) * s ≤ ys.length * s := Nat.mul_le_mul_right _ hj
  rw [Nat.add_mul, Nat.one_mul] at hle
  have hfl := h4.1
  refine op_storeR1 hel hrw (by omega) hv fun w' k' z' hrw' => ?_
  have e1 := set_flat hf hr ys j hj y hy
  rw [e1] at hrw'
  refine hK w' k' z' ⟨⟨(ys.set j y).map f, by simp, fun u hu => by obtain ⟨x, _, rfl⟩ := List.mem_map.1 hu; exact hf x, ?_, fun i u y' hu hy => ?_⟩, fun _ h => h.elim, fun _ _ h => h⟩
  · rw [List.length_set]
    have hn : ((ys.set j y).map f).flatten.length = ys.length * s := by
      rw [flatten_len (k := s) fun u hu => by obtain ⟨x, _, rfl⟩ := List.mem_map.1 hu; exact hf x]; simp
    obtain ⟨q1, ⟨_, q2⟩ | ⟨g2, cap2, cur2, q2, q3, q4⟩⟩ := hrw'.own hn hc
    · omega
    · cases q2
      exact ⟨q1, .inr ⟨g, c, cur2, rfl, hlow.1, q4⟩⟩
  · rw [List.getElem?_map, hy] at hu
    exact (Option.some.inj hu).symm
end Go.Vc
end
section
/- append of a slice to a row of one's own; where the outcome lies. -/
namespace Go.Vc
variable {P : Program} {w w' : World} {K : Value → World → Prop} {Kp : KP} {t e : TypeId} {s base : Nat} {α : Type} {f : α → List Value} {ys zs : List α} {l v2 : Value}
end Go.Vc
end
section
/- slices.Clone of steps; the steps of a line. -/
namespace Go.Proofs.YtbghmbbhkoniiaaGreat.I
open Go.Vc Go.Proofs Go.Proofs.YtbghmbbhkoniiaaGreat Go.Vc.Nd
variable {w w' : World} {K : KV} {Kp : KP} {l s : Nat}
theorem apSStep : apOf Tryz.prog 26 = some (42, 5, 40) := by kernel_rfl
theorem cloneSteps_ok {a1 : Option Addr} {c1 : Nat} {steps : List MStep} (h1 : IsSl w (.slice a1 steps.length c1) steps.length (steps.flatMap MStep.cells)) (hn : steps.length < 2 ^ 31)
    (hK : ∀ l w', Frm (fun _ => False) w w' → FRow MStep.cells w' w.heap.size 42 5 l steps → K l w') : Calls Tryz.prog 11 #[.slice a1 steps.length c1] w (ret K Kp) := by
  refine vc11_calls ?_
  simp only [vc11]
  cases a1 with
  | none =>
    obtain ⟨a, c, he, _, _, _, hz⟩ := id h1
    cases he
    have : steps = [] := List.eq_nil_of_length_eq_zero (hz rfl)
    subst this
    try simp [-getElem?_pos, -Array.getElem?_eq_getElem, -Int.natCast_add, add_spot, and_assoc, Br_dec, -op_box, -op_lit_26_0, -op_st_3]
    exact hK _ w Frm.refl rows_nil
  | some p =>
    try simp [-getElem?_pos, -Array.getElem?_eq_getElem, -Int.natCast_add, add_spot, and_assoc, Br_dec, -op_box, -op_lit_26_0, -op_st_3]
    refine op_row0 (f := MStep.cells) (base := w.heap.size) apSStep (by kernel_rfl) (Nat.le_refl _) fun l2 w2 k2 hR2 ho2 => ?_
    have lo2 := hR2.own_lt
    refine op_concat (f := MStep.cells) apSStep mcells_len one_cells hR2 (h1.still k2) (by simp; omega) k2.size fun l3 w3 k3 hR3 => ?_
    rw [List.nil_append] at hR3
    try simp [-getElem?_pos, -Array.getElem?_eq_getElem, -Int.natCast_add, add_spot, and_assoc, Br_dec, -op_box, -op_lit_26_0, -op_st_3]
    exact hK l3 w3 (k2.old k3 fun c hc => .inr (by have := lo2 c hc.symm; omega)) hR3
def linedTo (steps : List MStep) (i : Nat) : List MStep := steps.mapIdx fun j s => if j < i then { s with fro := j } else s
theorem linedTo_len (steps : List MStep) (i : Nat) : (linedTo steps i).length = steps.length := by simp [linedTo]
theorem linedTo_zero (steps : List MStep) : linedTo steps 0 = steps := by
  apply List.ext_getElem? ; intro j
  simp [linedTo, List.getElem?_mapIdx]
theorem linedTo_all (steps : List MStep) : linedTo steps steps.length = lineOf steps := by
  apply List.ext_getElem? ; intro j
  simp only [linedTo, lineOf, List.getElem?_mapIdx]
  cases h : steps[j]? with
  | none => rfl
  | some s => simp [(List.getElem?_eq_some_iff.1 h).1]
theorem linedTo_get (steps : List MStep) {i : Nat} (hi : i < steps.length) : (linedTo steps i)[i]'(by rw [linedTo_len]; exact hi) = steps[i] := by simp [linedTo]
theorem linedTo_succ (steps : List MStep) {i : Nat} (hi : i < steps.length) : linedTo steps (i + 1) = (linedTo steps i).set i { steps[i] with fro := i } := by
  apply List.ext_getElem? ; intro j
  rw [List.getElem?_set]
  simp only [linedTo, List.length_mapIdx, List.getElem?_mapIdx]
  by_cases h : i = j
  · subst h
    simp [hi]
  · rw [if_neg h]
    cases hs : steps[j]? with
    | none => rfl
    | some s =>
      simp only [Option.map_some]
      by_cases h2 : j < i
      · rw [if_pos (by omega), if_pos h2]
      · rw [if_neg (by omega), if_neg h2]
end Go.Proofs.YtbghmbbhkoniiaaGreat.I
end
section
/- A map's keys beside the keys of a set. -/
namespace Go.Vc
theorem tells_un {D : List (Int × Int)} {m : Int → Option Int} (h : Tells D m) : Tells (D.map fun e => (e.1, ())) (un m) := fun k v => by
  simp only [List.mem_map, Prod.mk.injEq]
  constructor
  · rintro ⟨⟨k', v'⟩, he, rfl, _⟩
    simp [un, (h k' v').1 he]
  · intro he
    cases hm : m k with
    | none => simp [un, hm] at he
    | some y => exact ⟨(k, y), (h k y).2 hm, rfl, trivial⟩
theorem len_un {D : List (Int × Int)} {L : List (Int × Unit)} {m : Int → Option Int} (hn : (D.map (·.1)).Nodup) (hd : Tells D m) (hnL : (L.map (·.1)).Nodup) (hL : Tells L (un m)) : D.length = L.length := by
  have := tells_len (D := D.map fun e => (e.1, ())) (D' := L) (by rw [List.map_map]; exact hn) hnL (tells_un hd) hL
  simpa using this
end Go.Vc
end
section
/- laws.FnItemBuild. -/
namespace Go.Proofs.YtbghmbbhkoniiaaGreat.S
open Go.Vc Go.Proofs Go.Proofs.YtbghmbbhkoniiaaGreat Go.Vc.Nd
open Go.Proofs.YtbghmbbhkoniiaaGreat.I (hval hashOf hashOf_lt mapAwake_ok fits_ok mapTo_ok mapVersions_ok cloneSteps_ok linedTo linedTo_zero linedTo_len linedTo_get linedTo_succ linedTo_all kE elM_ok)
variable {w w' wz : World} {v : Value} {K : KV} {Kp : KP} {k : Ky} {l s md ml sh : Nat}
theorem law_itemBuild {a1 a2 : Option Addr} {c1 c2 : Nat} {steps : List MStep} {asked : List Int} (h1 : IsSl w (.slice a1 steps.length c1) steps.length (steps.flatMap MStep.cells)) (h2 : Row w a2 (asked.flatMap i1)) (hK : ∀ w', Frm (fun _ => False) w w' → K (.bool true) w') :
    Calls Tryz.prog 4 #[hval md ml sh, .slice a1 steps.length c1, .slice a2 asked.length c2] w (ret K Kp) := by
  refine vc4_calls ?_
  simp only [vc4]
  refine op_box_ok fun w1 k1 z1 b1' => ?_
  simp only [hval, cells_agg] at b1'
  have hx3 : (#[Value.int .u32 (md : Int), .int .u32 (ml : Int), .int .u8 (sh : Int)] : Array Value).extract 0 3 = #[.int .u32 md, .int .u32 ml, .int .u8 sh] := rfl
  have hawake : ∀ {wz}, Frm (fun _ => False) w wz → Calls Tryz.prog 6 #[] wz (ret K Kp) := fun {wz} kz => mapAwake_ok fun w3 k3 => hK w3 (kz.no k3)
  try simp [-getElem?_pos, -Array.getElem?_eq_getElem, -Int.natCast_add, add_spot, and_assoc, Br_dec, -op_box, -op_st_3, b1']
  refine ⟨fun _ => hK w1 k1, fun hle => ⟨fun _ => hK w1 k1, fun hle2 => ?_⟩⟩
  refine cloneSteps_ok (h1.still k1) (by omega) fun l2 w2 k2 hR2 => ?_
  have k02 := k1.no k2
  have n2 := k2.size
  have b2 := k2.get b1' fun h => h
  have hlen : ∃ a c, l2 = .slice a steps.length c := by obtain ⟨a, c, h, _⟩ := hR2.slice; exact ⟨a, c, h⟩
  obtain ⟨aL, cL, rfl⟩ := hlen
  try simp [-getElem?_pos, -Array.getElem?_eq_getElem, -Int.natCast_add, add_spot, and_assoc, Br_dec, -op_box, -op_st_3]
  obtain ⟨I, hI⟩ : ∃ I : KV, ∀ v wl, I v wl ↔ ∃ i : Nat, v = .int .i64 i ∧ i ≤ steps.length ∧ Frm (fun b => some b = (Value.slice aL steps.length cL).ownBlock) w2 wl ∧ FRow MStep.cells wl w1.heap.size 42 5 (.slice aL steps.length cL) (linedTo steps i) := ⟨_, fun _ _ => Iff.rfl⟩
  refine Lp.intro I (fun v _ => steps.length - natOf v) ⟨(hI _ _).2 ⟨0, rfl, by omega, Frm.refl, by rw [linedTo_zero]; exact hR2⟩, ?_⟩
  intro wl v hl
  obtain ⟨i, rfl, hi, kl, hR⟩ := (hI _ _).1 hl
  have lo := hR.own_lt
  simp only [op_lss, Br_dec]
  refine ⟨fun hlt' => ?_, fun hge => ?_⟩
  · have hi' : i < steps.length := by omega
    have hll := linedTo_len steps i
    obtain ⟨gg, cc, cs, he, hcs, _, hsz, _⟩ := frow_get hR (j := i) (by omega)
    obtain ⟨rfl, rfl⟩ : aL = some ⟨gg, 0, none⟩ ∧ cL = cc := by rw [hll] at he; injection he with e1 e2 e3; exact ⟨e1, e3⟩
    try simp [-getElem?_pos, -Array.getElem?_eq_getElem, -Int.natCast_add, add_spot, and_assoc, Br_dec, -op_box, -op_st_3, hcs]
    refine ⟨hi', ?_⟩
    have hR' : FRow MStep.cells wl w1.heap.size 42 5 (.slice (some ⟨gg, 0, none⟩) (linedTo steps i).length cL) (linedTo steps i) := by rw [hll]; exact hR
    refine op_store_cell (y := { steps[i] with fro := i }) (by kernel_rfl) mcells_len (by rfl) hR' (by omega) (by decide) (by rw [linedTo_get steps hi']; rfl) fun w3 k3 z3 hR3 => ?_
    rw [← linedTo_succ steps hi', hll] at hR3
    rw [wrap_i64_small (by omega) (by omega)]
    refine ⟨(hI _ _).2 ⟨i + 1, by simp, by omega, kl.trans k3 fun c hc _ => by subst hc; rfl, hR3⟩, ?_⟩
    simp only [natOf]; omega
  have : i = steps.length := by omega
  subst this
  rw [linedTo_all] at hR
  obtain ⟨L, hL⟩ : ∃ L, L = lineOf steps := ⟨_, rfl⟩
  have hLl : L.length = steps.length := by rw [hL, lineOf_len]
  have hLv : (versM L)[L.length]? = some (lineM steps) := by rw [hLl, hL]; exact line_vers steps
  rw [← hL] at hR
  have hloc : ∀ c, some c = (Value.slice aL steps.length cL).ownBlock → w.heap.size ≤ c ∧ c ≠ w.heap.size := fun c hc => by have := lo c hc.symm; omega
  have k0l : Frm (fun _ => False) w wl := k02.old kl fun c hc => .inr (hloc c hc).1
  have bl := kl.get b2 fun h => (hloc _ h).2 rfl
  have hrL : Row wl aL (L.flatMap MStep.cells) := by obtain ⟨a, c, he, _, _, h, _⟩ := hR.flat; injection he with q1 q2 q3; rw [q1]; exact h
  have h2l := h2.frame k0l fun _ _ h => h
  have nl0 := k0l.size
  have hbl := lt_of_get bl
  clear hI hl I hR hR2 lo hloc kl b2 b1' k1 k2 k02 n2 h1 h2 hge z1
  rw [← hLl]
  try simp [-getElem?_pos, -Array.getElem?_eq_getElem, -Int.natCast_add, add_spot, and_assoc, Br_dec, -op_box, -op_st_3, bl, hx3]
  refine fits_ok (md := md) (ml := ml) (sh := sh) hrL (by omega) (fun w3 k3 => ?_) fun hfit h12 hsh w3 k3 => ?_
  · try simp [-getElem?_pos, -Array.getElem?_eq_getElem, -Int.natCast_add, add_spot, and_assoc, Br_dec, -op_box, -op_st_3]
    exact hawake (k0l.no k3)
  try simp [-getElem?_pos, -Array.getElem?_eq_getElem, -Int.natCast_add, add_spot, and_assoc, Br_dec, -op_box, -op_st_3]
  have k03 := k0l.no k3
  refine ⟨fun _ => hawake k03, fun h300 => ?_⟩
  have hrL3 := hrL.frame k3 fun _ _ h => h
  refine mapVersions_ok hrL3 hfit.m (by omega) fun l4 w4 G4 k4 hR4 => ?_
  have b4 := k4.get (k3.get bl fun h => h) fun h => h
  have k04 := k03.no k4
  have hrL4 := hrL3.frame k4 fun _ _ h => h
  have h24 := (h2l.frame k3 fun _ _ h => h).frame k4 fun _ _ h => h
  have hM := versM_len L
  obtain ⟨u', g', c', cs', rfl, hcs', hu', hg', _, _, bM, D, hbM, hMap, htD, _⟩ := hR4.get (j := L.length) (by omega)
  subst hbM
  have q1 : cs'[L.length]? = some (.map (some bM)) := by have := hg' 0 (by decide); simpa using this
  have hLv' : (versM L)[L.length]'(by omega) = lineM steps := by have := List.getElem?_eq_getElem (l := versM L) (i := L.length) (by omega); rw [hLv] at this; exact (Option.some.inj this).symm
  rw [hLv'] at htD
  have ew : IntKind.i64.wrap (((L.length + 1 : Nat) : Int) - 1) = L.length := by rw [IntKind.wrap_i64]; omega
  rw [hM]
  try simp [-getElem?_pos, -Array.getElem?_eq_getElem, -Int.natCast_add, add_spot, and_assoc, Br_dec, -op_box, -op_st_3, ew, hcs', q1, b4, hx3]
  have hlt := hashOf_lt md ml sh
  have hIs := lineS_is hlt L
  have hLm : lineM L = lineM steps := by rw [hL]; exact lineM_lineOf steps
  have hszt := (lineS_size hlt L).2
  have hcost := hfit.cost
  refine mapTo_ok (hrL4.frame (Frm.drew (M := fun _ => False) w4) fun _ _ h => h) (by omega) fun l5 w5 k5 hR5 => ?_
  have k45 := Frm.dr k5
  have b5 := k45.get b4 fun h => h
  obtain ⟨a5, c5, rfl, hc5, _, hr5, _⟩ := hR5.flat
  have h25 := h24.frame k45 fun _ _ h => h
  try simp [-getElem?_pos, -Array.getElem?_eq_getElem, -Int.natCast_add, add_spot, and_assoc, Br_dec, -op_box, -op_st_3, b5, hx3]
  refine itemBuild_ok (md := md) (ml := ml) (sh := sh) hr5 hfit.m (by omega) h25 (by omega) fun l6 w6 k6 hR6 => ?_
  rw [hLm] at hR6 hIs
  have k46 := k45.no k6
  have hMap6 := hMap.frame k46 fun h => h
  have hlenD : D.length = (toL (lineS (hashOf md ml sh) L)).length := len_un hMap.nodup htD hIs.nodup hIs.2
  obtain ⟨g6, c6, hl6⟩ : ∃ a c, l6 = .slice a asked.length c := by obtain ⟨a, c, h, _⟩ := hR6.slice; exact ⟨a, c, by simpa using h⟩
  try simp [-getElem?_pos, -Array.getElem?_eq_getElem, -Int.natCast_add, add_spot, and_assoc, Br_dec, -op_box, -op_st_3]
  refine op_mapLen (ek := kE.enc) (ev := Go.Proofs.YtbghmbbhkoniiaaGreat.I.ev) Tryz.underlying37 hMap6 ?_
  rw [hlenD, hl6]
  try simp [-getElem?_pos, -Array.getElem?_eq_getElem, -Int.natCast_add, add_spot, and_assoc, Br_dec, -op_box, -op_st_3]
  rw [← hl6]
  have k06 := k04.no k46
  obtain ⟨I, hI⟩ : ∃ I : KV, ∀ v wl, I v wl ↔ ∃ i : Nat, v = .int .i64 i ∧ i ≤ asked.length ∧ Frm (fun _ => False) w6 wl := ⟨_, fun _ _ => Iff.rfl⟩
  refine Lp.intro I (fun v _ => asked.length - natOf v) ⟨(hI _ _).2 ⟨0, rfl, by omega, Frm.refl⟩, ?_⟩
  intro wz s hl
  obtain ⟨i, rfl, hi, kz⟩ := (hI _ _).1 hl
  simp only [op_lss, Br_dec]
  refine ⟨fun hlt' => ?_, fun hnl' => hawake (k06.no kz)⟩
  have hi' : i < asked.length := by omega
  obtain ⟨bp, o, cs, e, fz, rfl, hcs, hki⟩ := row_int ((h24.frame k46 fun _ _ h => h).frame kz fun _ _ h => h) hi'
  obtain ⟨x6, d6, e6, he6, y6, z6, _, _⟩ := frow_get (frow_still hR6 kz) (j := i) (by simpa using hi')
  have q6 : e6[i]? = some (.bool (hasOf (lineM steps) asked[i])) := by have := z6 0 (by decide); simpa [b1] using this
  rw [he6]
  simp only [List.length_map]
  try simp [-getElem?_pos, -Array.getElem?_eq_getElem, -Int.natCast_add, add_spot, and_assoc, Br_dec, -op_box, -op_st_3, hcs, hki]
  refine ⟨hi', ?_⟩
  refine op_lookup (E := kE) (ev := Go.Proofs.YtbghmbbhkoniiaaGreat.I.ev) (k := asked[i]) (z := .int .i64 0) Tryz.underlying37 (by kernel_rfl) (hMap6.frame kz fun h => h) ?_
  rw [tells_look hMap.nodup htD]
  have hha : (lineM steps asked[i]).isSome = hasOf (lineM steps) asked[i] := rfl
  rw [hha]
  try simp [-getElem?_pos, -Array.getElem?_eq_getElem, -Int.natCast_add, add_spot, and_assoc, Br_dec, -op_box, -op_st_3, y6, q6]
  rw [wrap_i64_small (by omega) (by omega)]
  refine ⟨hi', (hI _ _).2 ⟨i + 1, by simp, by omega, kz⟩, ?_⟩
  simp only [natOf]; omega
end Go.Proofs.YtbghmbbhkoniiaaGreat.S
end
