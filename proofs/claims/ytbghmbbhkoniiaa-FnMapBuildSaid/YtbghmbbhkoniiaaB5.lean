import Derived.Test.YtbghmbbhkoniiaaB3
import Derived.Test.YtbghmbbhkoniiaaB4
import Derived.Test.YtbghmbbhkoniiaaB1
import Derived.Laws.StructEq
import Derived.Test.YtbghmbbhkoniiaaB2
import Derived.Test.YtbghmbbhkoniiaaB0
section
/- Where an iterator stands in a trie, and what is left of it. -/
set_option linter.unusedSimpArgs false
set_option linter.unusedVariables false
set_option linter.unusedSectionVars false
namespace Go.Vc.Nd
variable {κ ν : Type} [DecidableEq κ] {f : Nat → Nd κ ν} {i j : Nat} {t : Nd κ ν} {hs : Bool}

/-- The pairs behind a place of a node. -/
def rest : Nd κ ν → Nat → List (κ × ν)
  | br _ f, i => (List.range' (i + 1) (31 - i)).flatMap fun j => toL (f j)
  | t, i => (toL t).drop (i + 1)
theorem flat_nil {l : List Nat} (h : ∀ j ∈ l, f j = emp) : l.flatMap (fun j => toL (f j)) = [] := by
  rw [List.flatMap_eq_nil_iff]
  intro j hj
  rw [h j hj]; rfl
theorem toL_at (hi : i < 32) (h0 : ∀ j, j < i → f j = emp) : toL (br hs f) = toL (f i) ++ rest (br hs f) i := by
  rw [toL, range_split hi, List.flatMap_append, List.flatMap_cons, flat_nil fun j hj => h0 j (List.mem_range.1 hj), List.nil_append, rest, show 32 - i - 1 = 31 - i from by omega]
theorem rest_at (hij : i < j) (hj : j < 32) (h0 : ∀ k, i < k → k < j → f k = emp) : rest (br hs f) i = toL (f j) ++ rest (br hs f) j := by
  rw [rest, rest]
  have : List.range' (i + 1) (31 - i) = List.range' (i + 1) (j - (i + 1)) ++ j :: List.range' (j + 1) (31 - j) := by
    have h1 : 31 - i = (j - (i + 1)) + (1 + (31 - j)) := by omega
    have h2 : List.range' j (1 + (31 - j)) = j :: List.range' (j + 1) (31 - j) := by rw [Nat.add_comm 1, List.range'_succ]
    rw [h1, ← List.range'_append_1, show i + 1 + (j - (i + 1)) = j from by omega, h2]
  rw [this, List.flatMap_append, List.flatMap_cons, flat_nil fun k hk => h0 k (by have := List.mem_range'_1.1 hk; omega) (by have := List.mem_range'_1.1 hk; omega), List.nil_append]
theorem rest_end (h0 : ∀ k, i < k → k < 32 → f k = emp) : rest (br hs f) i = [] := by
  rw [rest]
  exact flat_nil fun k hk => h0 k (by have := List.mem_range'_1.1 hk; omega) (by have := List.mem_range'_1.1 hk; omega)
/-- The first child from a slot on. -/
theorem next_full : ∀ (n a : Nat), a + n = 32 → (∃ j, a ≤ j ∧ j < 32 ∧ f j ≠ emp ∧ ∀ k, a ≤ k → k < j → f k = emp) ∨ ∀ k, a ≤ k → k < 32 → f k = emp
  | 0, a, h => .inr fun k h1 h2 => by omega
  | n + 1, a, h => by
    by_cases ha : f a = emp
    · rcases next_full n (a + 1) (by omega) with ⟨j, h1, h2, h3, h4⟩ | h1
      · refine .inl ⟨j, by omega, h2, h3, fun k hk hk' => ?_⟩
        by_cases e : k = a
        · rw [e]; exact ha
        · exact h4 k (by omega) hk'
      · refine .inr fun k hk hk' => ?_
        by_cases e : k = a
        · rw [e]; exact ha
        · exact h1 k (by omega) hk'
    · exact .inl ⟨a, Nat.le_refl _, by omega, ha, fun k hk hk' => by omega⟩
theorem rk_flat : ∀ (n i : Nat), (∀ k, i ≤ k → k < i + n → f k = emp) → rk f (i + n) = rk f i
  | 0, i, _ => rfl
  | n + 1, i, h => by
    rw [show i + (n + 1) = (i + n) + 1 from rfl, rk_succ, rk_flat n i (fun k hk hk' => h k hk (by omega)), full_not.2 (h (i + n) (by omega) (by omega))]; rfl
theorem rk_first (h0 : ∀ j, j < i → f j = emp) : rk f i = 0 := by
  have := rk_flat (f := f) i 0 (fun k _ hk => h0 k (by omega))
  rw [Nat.zero_add] at this
  rw [this]; rfl
theorem rk_next (hij : i < j) (hf : f i ≠ emp) (h0 : ∀ k, i < k → k < j → f k = emp) : rk f j = rk f i + 1 := by
  have := rk_flat (f := f) (j - (i + 1)) (i + 1) (fun k hk hk' => h0 k (by omega) (by omega))
  rw [show i + 1 + (j - (i + 1)) = j from by omega, rk_succ, full_iff.2 hf] at this
  exact this
/-- Behind the last child there is none. -/
theorem rk_last (hi : i < 32) (hf : f i ≠ emp) : (∃ j, i < j ∧ j < 32 ∧ f j ≠ emp ∧ (∀ k, i < k → k < j → f k = emp) ∧ rk f j = rk f i + 1 ∧ rk f i + 1 < cnt f) ∨ ((∀ k, i < k → k < 32 → f k = emp) ∧ cnt f = rk f i + 1) := by
  rcases next_full (f := f) (31 - i) (i + 1) (by omega) with ⟨j, h1, h2, h3, h4⟩ | h1
  · have hr := rk_next (f := f) (show i < j by omega) hf (fun k hk hk' => h4 k (by omega) hk')
    refine .inl ⟨j, by omega, h2, h3, fun k hk hk' => h4 k (by omega) hk', hr, ?_⟩
    rw [← hr, cnt_rk]; exact rk_lt h2 h3
  · refine .inr ⟨fun k hk hk' => h1 k (by omega) hk', ?_⟩
    have := rk_flat (f := f) (31 - i) (i + 1) (fun k hk hk' => h1 k hk (by omega))
    rw [show i + 1 + (31 - i) = 32 from by omega, rk_succ i, full_iff.2 hf] at this
    rw [cnt_rk, this]; rfl
theorem has_first (h : ∃ i, i < 32 ∧ f i ≠ emp) : ∃ i, i < 32 ∧ f i ≠ emp ∧ ∀ j, j < i → f j = emp := by
  rcases next_full (f := f) 32 0 rfl with ⟨j, _, h2, h3, h4⟩ | h1
  · exact ⟨j, h2, h3, fun k hk => h4 k (by omega) hk⟩
  · obtain ⟨i, hi, hf⟩ := h
    exact absurd (h1 i (by omega) hi) hf
theorem leaf_at {t : Nd κ ν} (hb : ∀ hs f, t ≠ br hs f) (h : i < (toL t).length) : toL t = (toL t).take i ++ (toL t)[i] :: rest t i := by
  have : rest t i = (toL t).drop (i + 1) := by cases t <;> first | rfl | exact absurd rfl (hb _ _)
  rw [this, ← List.drop_eq_getElem_cons h, List.take_append_drop]
/-- Deleting, and nothing where the key is not there. -/
def delT (hash : κ → Nat) (t : Nd κ ν) (k : κ) : Nd κ ν := if (getIn (hash k) k t 0).isSome then Nd.del hash t k else t
theorem delT_spec {hash : κ → Nat} {k : κ} {t : Nd κ ν} (h : WFr hash t) : WFr hash (delT hash t k) ∧ ∀ e, e ∈ toL (delT hash t k) ↔ e.1 ≠ k ∧ e ∈ toL t := by
  unfold delT
  split
  · exact del_spec h
  · rename_i hn
    refine ⟨h, fun e => ⟨fun he => ⟨fun hk => hn ?_, he⟩, fun he => he.2⟩⟩
    rw [(get_spec h).2 (show (k, e.2) ∈ toL t by rw [← hk]; exact he)]; rfl
theorem delT_len {hash : κ → Nat} {k : κ} {t : Nd κ ν} (h : WFr hash t) : (toL (delT hash t k)).length ≤ (toL t).length := by
  unfold delT
  split
  · have := del_len (k := k) h; omega
  · exact Nat.le_refl _
end Go.Vc.Nd
end
section
/- Iterators: where they stand, and what is left; going down to the first pair. -/
set_option maxRecDepth 100000
set_option maxHeartbeats 1000000
set_option linter.unusedSimpArgs false
set_option linter.unusedVariables false
set_option linter.unusedSectionVars false
namespace Go.Proofs.Ytbghmbbhkoniiaa.I
open Go.Vc Go.Proofs Go.Proofs.Ytbghmbbhkoniiaa Go.Vc.Nd
variable {w w' : World} {v hv : Value} {t : Tr} {F F' : Nat → Prop} {K : Value → World → Prop} {Kp : KP} {hash : Ky → Nat} {k : Ky} {x : Vl} {l s rb : Nat} {r0 mu : Bool}

theorem set_at {cs : Array Value} {i j : Nat} {u : Value} (h : j < cs.size) : (cs.setIfInBounds j u)[i]? = if j = i then some u else cs[i]? := by
  rw [Array.getElem?_setIfInBounds]
  split
  · rename_i e; subst e; simp [h]
  · rfl
/-- A node of the map whose blocks lie in F, at a depth. -/
def Sub (w : World) (F : Nat → Prop) (hash : Ky → Nat) (s : Tr) (v : Value) (d : Nat) : Prop :=
  d ≤ 7 ∧ ((∃ p, WF hash s d p) ∨ ∃ es, s = .arr es ∧ es ≠ []) ∧ s ≠ .emp ∧ ∃ F0 : Nat → Prop, Rep w s v F0 ∧ ∀ c, F0 c → F c
/-- A frame: the node, its value, the place in it. -/
structure Fr where
  s : Tr
  v : Value
  i : Nat
def Fr.idx (r : Fr) : Nat := match r.s with
  | .br false f => rk f r.i
  | _ => r.i
def Fr.ok (r : Fr) : Prop := match r.s with
  | .br _ f => r.i < 32 ∧ f r.i ≠ .emp
  | t => r.i < (toL t).length
def left (fs : List Fr) : List (Ky × Vl) := fs.flatMap fun r => rest r.s r.i
theorem left_cons (r : Fr) (fs : List Fr) : left (r :: fs) = rest r.s r.i ++ left fs := List.flatMap_cons
/-- The cells of the stack tell the frames (the deepest first). -/
def Stk (w : World) (F : Nat → Prop) (hash : Ky → Nat) (cs : Array Value) : List Fr → Prop
  | [] => True
  | r :: fs => cs[1 + fs.length * 2]? = some r.v ∧ cs[1 + fs.length * 2 + 1]? = some (.int .i64 r.idx) ∧ r.ok ∧ Sub w F hash r.s r.v fs.length ∧ Stk w F hash cs fs
theorem Sub.frame {s : Tr} {d : Nat} {M : Nat → Prop} (h : Sub w F hash s v d) (hf : Frm M w w') (hM : ∀ c, F c → ¬ M c) : Sub w' F hash s v d := by
  obtain ⟨h1, h2, h3, F0, h4, h5⟩ := h
  exact ⟨h1, h2, h3, F0, h4.frame hf fun c hc => hM c (h5 c hc), h5⟩
theorem Stk.frame {cs : Array Value} {M : Nat → Prop} (hf : Frm M w w') (hM : ∀ c, F c → ¬ M c) : ∀ {fs : List Fr}, Stk w F hash cs fs → Stk w' F hash cs fs
  | [], _ => trivial
  | r :: fs, h => ⟨h.1, h.2.1, h.2.2.1, h.2.2.2.1.frame hf hM, Stk.frame hf hM h.2.2.2.2⟩
theorem Stk.cells {cs cs' : Array Value} : ∀ {fs : List Fr}, Stk w F hash cs fs → (∀ i, i < 1 + fs.length * 2 → cs'[i]? = cs[i]?) → Stk w F hash cs' fs
  | [], _, _ => trivial
  | r :: fs, h, hc => by
    simp only [List.length_cons] at hc
    exact ⟨by rw [hc _ (by omega)]; exact h.1, by rw [hc _ (by omega)]; exact h.2.1, h.2.2.1, h.2.2.2.1, Stk.cells h.2.2.2.2 fun i hi => hc i (by omega)⟩
theorem Sub.bm {f : Nat → Tr} {d : Nat} (h : Sub w F hash (.br false f) v d) : ∃ b g cap, ∃ vs : Nat → Value, v = .iface 200 (ptr b) ∧ F b ∧ F g ∧ w.heap[b]? = some (.cells #[.int .u32 (bm f), .slice (some ⟨g, 0, none⟩) (cnt f) cap] 203 (0, 0)) ∧ cnt f ≤ cap ∧
    Rw w 132 1 g cap (kids f vs) ∧ d ≤ 6 ∧ (∃ i, i < 32 ∧ f i ≠ .emp) ∧ ∀ i, i < 32 → f i ≠ .emp → Sub w F hash (f i) (vs i) (d + 1) := by
  obtain ⟨h1, h2, h3, F0, h4, h5⟩ := h
  obtain ⟨b, g, cap, vs, Fs, k1, k2, k3, k4, k5, k6, k7, k8, k9⟩ := h4
  rcases h2 with ⟨p, hp⟩ | ⟨es, hes, _⟩
  · exact ⟨b, g, cap, vs, k1, h5 _ k2, h5 _ k3, k5, k6, k7, hp.1, hp.2.2.2.1, fun i hi hf => ⟨by have := hp.1; omega, .inl ⟨_, hp.2.1 i hi⟩, hf, Fs i, k8 i hi, fun c hc => h5 c (k9 i hi c hc).1⟩⟩
  · cases hes
theorem Sub.ha {f : Nat → Tr} {d : Nat} (h : Sub w F hash (.br true f) v d) : ∃ b cs, ∃ vs : Nat → Value, v = .iface 204 (ptr b) ∧ F b ∧ w.heap[b]? = some (.cells cs 207 (0, 0)) ∧ cs.size = 33 ∧ (∀ i, i < 32 → cs[1 + i]? = some (vs i)) ∧
    (∀ i, i < 32 → (f i = .emp ↔ vs i = .nilIface)) ∧ (∀ i, i < 32 → f i ≠ .emp → ∃ u b, vs i = .iface u (ptr b)) ∧ d ≤ 6 ∧ (∃ i, i < 32 ∧ f i ≠ .emp) ∧ ∀ i, i < 32 → f i ≠ .emp → Sub w F hash (f i) (vs i) (d + 1) := by
  obtain ⟨h1, h2, h3, F0, h4, h5⟩ := h
  obtain ⟨b, cs, vs, Fs, k1, k2, k3, k4, k5, k6, k7, k8⟩ := h4
  rcases h2 with ⟨p, hp⟩ | ⟨es, hes, _⟩
  · refine ⟨b, cs, vs, k1, h5 _ k2, k3, k4, fun i hi => (by rw [Nat.add_comm]; exact k6 i hi), fun i hi => ⟨fun he => ?_, fun he => ?_⟩, fun i hi he => (k7 i hi).iface he, hp.1, hp.2.2.2.1, fun i hi hf => ⟨by have := hp.1; omega, .inl ⟨_, hp.2.1 i hi⟩, hf, Fs i, k7 i hi, fun c hc => h5 c (k8 i hi c hc).1⟩⟩
    · have := k7 i hi; rw [he] at this; exact this.nil
    · refine Classical.byContradiction fun hne => ?_
      obtain ⟨u, b, hu⟩ := (k7 i hi).iface hne
      rw [hu] at he; cases he
  · cases hes
def depthOf (w : World) (ib : Nat) : Nat := match w.heap[ib]? with
  | some (.cells cs _ _) => match (cs[65]?).getD undef with
    | .int _ j => (j + 1).toNat
    | _ => 0
  | _ => 0
theorem depthOf_eq {ib : Nat} {d : Int} {cs : Array Value} {e : TypeId} {fz : Nat × Nat} (h : w.heap[ib]? = some (.cells cs e fz)) (hd : cs[65]? = some (.int .i64 d)) : depthOf w ib = (d + 1).toNat := by
  simp only [depthOf, h, hd, Option.getD_some]
/-- The iterator in block ib, on its way down: frames, and a node to be gone into. -/
def Low (w : World) (ib mb : Nat) (F : Nat → Prop) (hash : Ky → Nat) (cs : Array Value) (fs : List Fr) (s : Tr) (v : Value) : Prop :=
  w.heap[ib]? = some (.cells cs 139 (0, 0)) ∧ cs.size = 66 ∧ cs[0]? = some (ptr mb) ∧ cs[65]? = some (.int .i64 (fs.length : Int)) ∧ cs[1 + fs.length * 2]? = some v ∧ Sub w F hash s v fs.length ∧ Stk w F hash cs fs
/-- The iterator in block ib has the pairs L to come. -/
def At (w : World) (ib mb : Nat) (F : Nat → Prop) (hash : Ky → Nat) (L : List (Ky × Vl)) : Prop :=
  ∃ cs, ∃ fs : List Fr, w.heap[ib]? = some (.cells cs 139 (0, 0)) ∧ cs.size = 66 ∧ cs[0]? = some (ptr mb) ∧ cs[65]? = some (.int .i64 ((fs.length : Int) - 1)) ∧ Stk w F hash cs fs ∧
    match fs with
    | [] => L = []
    | r :: _ => (∀ hs f, r.s ≠ .br hs f) ∧ ∃ e, (toL r.s)[r.i]? = some e ∧ L = e :: left fs
theorem At.frame {M : Nat → Prop} {ib mb : Nat} {L : List (Ky × Vl)} (h : At w ib mb F hash L) (hf : Frm M w w') (hM : ∀ c, F c → ¬ M c) (hi : ¬ M ib) : At w' ib mb F hash L := by
  obtain ⟨cs, fs, h1, h2, h3, h4, h5, h6⟩ := h
  exact ⟨cs, fs, hf.get h1 hi, h2, h3, h4, h5.frame hf hM, h6⟩
theorem At.lt {ib mb : Nat} {L : List (Ky × Vl)} (h : At w ib mb F hash L) : ib < w.heap.size := by
  obtain ⟨cs, fs, h1, _⟩ := h; exact lt_of_get h1

theorem rk0 {f : Nat → Tr} {i : Nat} (h0 : ∀ j, j < i → f j = .emp) : rk f i = 0 := rk_first h0
/-- Down into a child: three cells are set. -/
theorem Low.down {ib mb : Nat} {cs : Array Value} {fs : List Fr} {w3 : World} {hs : Bool} {f : Nat → Tr} {i : Nat} {u : Value} {d6 : fs.length ≤ 6} (h : Low w ib mb F hash cs fs (.br hs f) v) (hF : ¬ F ib) (hf : Frm (· = ib) w w3)
    (hi : i < 32) (hfi : f i ≠ .emp) (hsub : Sub w F hash (f i) u (fs.length + 1))
    (hb : w3.heap[ib]? = some (.cells (((cs.setIfInBounds (1 + fs.length * 2 + 1) (.int .i64 ((Fr.mk (.br hs f) v i).idx : Int))).setIfInBounds (1 + (fs.length + 1) * 2) u).setIfInBounds 65 (.int .i64 ((fs.length + 1 : Nat) : Int))) 139 (0, 0))) :
    Low w3 ib mb F hash (((cs.setIfInBounds (1 + fs.length * 2 + 1) (.int .i64 ((Fr.mk (.br hs f) v i).idx : Int))).setIfInBounds (1 + (fs.length + 1) * 2) u).setIfInBounds 65 (.int .i64 ((fs.length + 1 : Nat) : Int))) (⟨.br hs f, v, i⟩ :: fs) (f i) u := by
  obtain ⟨h1, h2, h3, h4, h5, h6, h7⟩ := h
  have hM : ∀ c, F c → ¬ c = ib := fun c hc e => hF (e ▸ hc)
  have g : ∀ j, (((cs.setIfInBounds (1 + fs.length * 2 + 1) (.int .i64 ((Fr.mk (.br hs f) v i).idx : Int))).setIfInBounds (1 + (fs.length + 1) * 2) u).setIfInBounds 65 (.int .i64 ((fs.length + 1 : Nat) : Int)))[j]? =
      if 65 = j then some (.int .i64 ((fs.length + 1 : Nat) : Int)) else if 1 + (fs.length + 1) * 2 = j then some u else if 1 + fs.length * 2 + 1 = j then some (.int .i64 ((Fr.mk (.br hs f) v i).idx : Int)) else cs[j]? := fun j => by
    rw [set_at (by simp; omega), set_at (by simp; omega), set_at (by omega)]
  refine ⟨hb, by simp [h2], ?_, ?_, ?_, hsub.frame hf hM, ?_, ?_, ⟨hi, hfi⟩, h6.frame hf hM, ?_⟩
  · rw [g, if_neg (by omega), if_neg (by omega), if_neg (by omega)]; exact h3
  · rw [g, if_pos rfl]; rfl
  · rw [g, if_neg (by simp; omega), if_pos (by simp)]
  · rw [g, if_neg (by omega), if_neg (by omega), if_neg (by omega)]; exact h5
  · rw [g, if_neg (by omega), if_neg (by omega), if_pos rfl]
  · exact Stk.cells (h7.frame hf hM) fun j hj => by rw [g, if_neg (by omega), if_neg (by omega), if_neg (by omega)]
/-- At a leaf: its place is set. -/
theorem Low.leaf {ib mb j : Nat} {cs : Array Value} {fs : List Fr} {s : Tr} {w3 : World} {e : Ky × Vl} (h : Low w ib mb F hash cs fs s v) (hF : ¬ F ib) (hf : Frm (· = ib) w w3) (hbr : ∀ hs f, s ≠ .br hs f) (he : (toL s)[j]? = some e)
    (hb : w3.heap[ib]? = some (.cells (cs.setIfInBounds (1 + fs.length * 2 + 1) (.int .i64 (j : Int))) 139 (0, 0))) : At w3 ib mb F hash ((toL s).drop j ++ left fs) := by
  obtain ⟨h1, h2, h3, h4, h5, h6, h7⟩ := h
  have hM : ∀ c, F c → ¬ c = ib := fun c hc e => hF (e ▸ hc)
  have h67 := h6.1
  have g : ∀ i, (cs.setIfInBounds (1 + fs.length * 2 + 1) (.int .i64 (j : Int)))[i]? = if 1 + fs.length * 2 + 1 = i then some (.int .i64 (j : Int)) else cs[i]? := fun i => set_at (by omega)
  obtain ⟨hlen, hej⟩ := List.getElem?_eq_some_iff.1 he
  have hrest : (toL s).drop j = e :: rest s j := by
    have : rest s j = (toL s).drop (j + 1) := by cases s <;> first | rfl | exact absurd rfl (hbr _ _)
    rw [this, List.drop_eq_getElem_cons hlen, hej]
  refine ⟨_, ⟨s, v, j⟩ :: fs, hb, by simp [h2], ?_, ?_, ⟨?_, ?_, ?_, h6.frame hf hM, ?_⟩, hbr, e, he, ?_⟩
  · rw [g, if_neg (by omega)]; exact h3
  · rw [g, if_neg (by omega), h4]; simp
  · rw [g, if_neg (by omega)]; exact h5
  · rw [g, if_pos rfl]
    cases s <;> first | rfl | exact absurd rfl (hbr _ _)
  · cases s <;> first | exact hlen | exact absurd rfl (hbr _ _)
  · exact Stk.cells (h7.frame hf hM) fun i hi => by rw [g, if_neg (by omega)]
  · rw [left_cons]
    show (toL s).drop j ++ left fs = e :: (rest s j ++ left fs)
    rw [← List.cons_append, ← hrest]
end Go.Proofs.Ytbghmbbhkoniiaa.I
end
section
/- Iterators: down to the first pair. -/
set_option maxRecDepth 100000
set_option maxHeartbeats 1000000
set_option linter.unusedSimpArgs false
set_option linter.unusedVariables false
set_option linter.unusedSectionVars false
namespace Go.Proofs.Ytbghmbbhkoniiaa.I
open Go.Vc Go.Proofs Go.Proofs.Ytbghmbbhkoniiaa Go.Vc.Nd
variable {w w' : World} {v hv : Value} {t : Tr} {F F' : Nat → Prop} {K : Value → World → Prop} {Kp : KP} {hash : Ky → Nat} {k : Ky} {x : Vl} {l s rb : Nat} {r0 mu : Bool}

theorem first_ok {ib mb : Nat} {cs : Array Value} {fs : List Fr} {s : Tr} (h : Low w ib mb F hash cs fs s v) (hF : ¬ F ib)
    (hK : ∀ w', Frm (· = ib) w w' → w'.heap.size = w.heap.size → At w' ib mb F hash (toL s ++ left fs) → K (.tuple #[]) w') : Calls Try.prog 71 #[ptr ib] w (ret K Kp) := by
  refine vc71_calls ?_
  simp only [vc71]
  obtain ⟨I, hI⟩ : ∃ I : World → Prop, ∀ wl, I wl ↔ ∃ cs, ∃ fs' : List Fr, ∃ s' v', Frm (· = ib) w wl ∧ wl.heap.size = w.heap.size ∧ Low wl ib mb F hash cs fs' s' v' ∧ toL s' ++ left fs' = toL s ++ left fs := ⟨_, fun _ => Iff.rfl⟩
  refine Lp.intro I (fun wl => 41 - depthOf wl ib) ⟨(hI _).2 ⟨cs, fs, s, v, Frm.refl, rfl, h, rfl⟩, ?_⟩
  intro wl _ hl
  obtain ⟨cs, fs', s', v', hf, hz, hlow, hL⟩ := (hI _).1 hl
  clear hl h
  have ⟨h1, h2, h3, h4, h5, h6, h7⟩ := hlow
  have d7 := h6.1
  have hdep := depthOf_eq h1 h4
  have hne : s' ≠ .emp := h6.2.2.1
  have hM : ∀ c, F c → ¬ c = ib := fun c hc e => hF (e ▸ hc)
  have hdr : Frm (· = ib) wl wl.drew := Frm.drew _
  have wr1 : IntKind.i64.wrap ((fs'.length : Int) + 1) = ((fs'.length + 1 : Nat) : Int) := by rw [IntKind.wrap_i64]; omega
  have tn1 : ((fs'.length : Int) + 1).toNat = fs'.length + 1 := by omega
  have r7 : (fs'.length : Int) < 32 := by omega
  cases s' with
  | emp => exact absurd rfl hne
  | arr es =>
    obtain ⟨_, hw, _, F0, ⟨b, g, cap, rfl, _⟩, _⟩ := h6
    have hes : es ≠ [] := by
      rcases hw with ⟨p, hp⟩ | ⟨es', he, hne⟩
      · exact hp.elim
      · cases he; exact hne
    simp [-getElem?_pos, -Array.getElem?_eq_getElem, List.getElem?_cons_zero, List.getElem?_cons_succ, -Int.natCast_add, add_spot, and_assoc, Br_dec, -op_box, -op_st_3, -op_st_132, ptr, h1, h4, h5, r7]
    refine op_store_ok (by kernel_rfl) h1 (by rw [h2]; omega) rfl fun w3 k3 z3 b3 => ?_
    have k3 := Frm.dr k3
    obtain ⟨e, es', rfl⟩ := List.exists_cons_of_ne_nil hes
    have := hlow.leaf (e := e) hF k3 (fun _ _ h => nomatch h) rfl b3
    rw [List.drop_zero, hL] at this
    exact hK w3 (hf.trans k3 fun _ h _ => h) (by rw [z3]; exact hz) this
  | val h' k' x' =>
    obtain ⟨_, hw, _, F0, ⟨b, rfl, _⟩, _⟩ := h6
    simp [-getElem?_pos, -Array.getElem?_eq_getElem, List.getElem?_cons_zero, List.getElem?_cons_succ, -Int.natCast_add, add_spot, and_assoc, Br_dec, -op_box, -op_st_3, -op_st_132, ptr, h1, h4, h5, r7]
    refine op_store_ok (by kernel_rfl) h1 (by rw [h2]; omega) rfl fun w3 k3 z3 b3 => ?_
    have k3 := Frm.dr k3
    have := hlow.leaf (e := (k', x')) hF k3 (fun _ _ h => nomatch h) rfl b3
    rw [List.drop_zero, hL] at this
    exact hK w3 (hf.trans k3 fun _ h _ => h) (by rw [z3]; exact hz) this
  | col h' es =>
    obtain ⟨_, hw, _, F0, ⟨b, g, cap, rfl, _⟩, _⟩ := h6
    have hes : es ≠ [] := by
      rcases hw with ⟨p, hp⟩ | ⟨es', he, hne⟩
      · have := hp.1
        intro e; rw [e] at this; simp at this
      · cases he
    simp [-getElem?_pos, -Array.getElem?_eq_getElem, List.getElem?_cons_zero, List.getElem?_cons_succ, -Int.natCast_add, add_spot, and_assoc, Br_dec, -op_box, -op_st_3, -op_st_132, ptr, h1, h4, h5, r7]
    refine op_store_ok (by kernel_rfl) h1 (by rw [h2]; omega) rfl fun w3 k3 z3 b3 => ?_
    have k3 := Frm.dr k3
    obtain ⟨e, es', rfl⟩ := List.exists_cons_of_ne_nil hes
    have := hlow.leaf (e := e) hF k3 (fun _ _ h => nomatch h) rfl b3
    rw [List.drop_zero, hL] at this
    exact hK w3 (hf.trans k3 fun _ h _ => h) (by rw [z3]; exact hz) this
  | br hs f =>
    cases hs with
    | false =>
      obtain ⟨b, g, cap, vs, rfl, fb, fg, hb, hc, hrw, d6, hex, hsub⟩ := h6.bm
      obtain ⟨i, hi, hfi, hi0⟩ := has_first hex
      have hk0 := kids_get (vs := vs) hi hfi
      rw [rk_first hi0] at hk0
      have hc0 : 0 < cnt f := cnt_pos hi hfi
      simp [-getElem?_pos, -Array.getElem?_eq_getElem, List.getElem?_cons_zero, List.getElem?_cons_succ, -Int.natCast_add, add_spot, and_assoc, Br_dec, -op_box, -op_st_3, -op_st_132, ptr, h1, h4, h5, r7]
      refine op_store_ok (by kernel_rfl) h1 (by rw [h2]; omega) rfl fun w3 k3 z3 b3 => ?_
      have k3 := Frm.dr k3
      obtain ⟨cur, c1, c2, c3⟩ := (hrw.frame k3 (hM _ fg)).cells
      have hcur : cur[0]? = some (vs i) := by rw [c3 0 (by rw [kids_len]; exact hc0)]; exact hk0
      have hb3 := k3.get hb (hM _ fb)
      have h43 : (cs.setIfInBounds (1 + fs'.length * 2 + 1) (Value.int .i64 0))[65]? = some (.int .i64 (fs'.length : Int)) := by rw [set_at (by omega), if_neg (by omega)]; exact h4
      simp [-getElem?_pos, -Array.getElem?_eq_getElem, List.getElem?_cons_zero, List.getElem?_cons_succ, -Int.natCast_add, add_spot, and_assoc, Br_dec, -op_box, -op_st_3, -op_st_132, b3, h43, hb3, c1, hcur, wr1, tn1]
      refine ⟨by omega, by omega, ?_⟩
      refine op_store_ok (by kernel_rfl) b3 (by simp; omega) ?_ fun w4 k4 z4 b4 => ?_
      · obtain ⟨_, _, _, F1, hr, _⟩ := hsub i hi hfi
        exact hr.one
      have k4 := Frm.dr k4
      have h44 : ((cs.setIfInBounds (1 + fs'.length * 2 + 1) (Value.int .i64 0)).setIfInBounds (1 + (fs'.length + 1) * 2) (vs i))[65]? = some (.int .i64 (fs'.length : Int)) := by rw [set_at (by simp; omega), if_neg (by omega)]; exact h43
      simp [-getElem?_pos, -Array.getElem?_eq_getElem, List.getElem?_cons_zero, List.getElem?_cons_succ, -Int.natCast_add, add_spot, and_assoc, Br_dec, -op_box, -op_st_3, -op_st_132, b4, h44, wr1]
      refine op_store_ok (by kernel_rfl) b4 (by simp; omega) rfl fun w5 k5 z5 b5 => ?_
      have k345 : Frm (· = ib) wl w5 := (k3.trans k4 fun _ h _ => h).trans k5 fun _ h _ => h
      have hlow' := hlow.down (d6 := d6) hF k345 hi hfi (hsub i hi hfi) (by simpa [Fr.idx, rk_first hi0] using b5)
      have hz5 : w5.heap.size = w.heap.size := by simp only [heap_drew] at z3 z4 z5; omega
      refine ⟨(hI _).2 ⟨_, _, _, _, hf.trans k345 fun _ h _ => h, hz5, hlow', ?_⟩, ?_⟩
      · rw [← hL, toL_at (hs := false) hi hi0, left_cons, List.append_assoc]
      · rw [hdep, depthOf_eq hlow'.1 hlow'.2.2.2.1]
        simp only [List.length_cons]; omega
    | true =>
      obtain ⟨b, cs', vs, rfl, fb, hb, hcs, hvs, hemp, hif, d6, hex, hsub⟩ := h6.ha
      obtain ⟨i, hi, hfi, hi0⟩ := has_first hex
      simp [-getElem?_pos, -Array.getElem?_eq_getElem, List.getElem?_cons_zero, List.getElem?_cons_succ, -Int.natCast_add, add_spot, and_assoc, Br_dec, -op_box, -op_st_3, -op_st_132, ptr, h1, h4, h5, r7]
      obtain ⟨J, hJ⟩ : ∃ J : Value → World → Prop, ∀ s wz, J s wz ↔ ∃ j : Nat, s = Value.int .i64 j ∧ j ≤ i ∧ Frm (fun _ => False) wl wz ∧ wz.heap.size = wl.heap.size := ⟨_, fun _ _ => Iff.rfl⟩
      refine Lp.intro J (fun s _ => 32 - natOf s) ⟨(hJ _ _).2 ⟨0, rfl, by omega, Frm.drew _, rfl⟩, ?_⟩
      intro wz sz hsz
      obtain ⟨j, rfl, hji, kz, hzz⟩ := (hJ _ _).1 hsz
      have hbz := kz.get hb (fun h => h)
      have h1z := kz.get h1 (fun h => h)
      have hvj := hvs j (by omega)
      have hj32 : (j : Int) < 32 := by omega
      by_cases hij : j = i
      · subst hij
        obtain ⟨uu, bb, huu⟩ := hif j hi hfi
        rw [huu] at hvj
        simp [-getElem?_pos, -Array.getElem?_eq_getElem, List.getElem?_cons_zero, List.getElem?_cons_succ, -Int.natCast_add, add_spot, and_assoc, Br_dec, -op_box, -op_st_3, -op_st_132, hj32, hbz, hvj]
        refine op_store_ok (by kernel_rfl) h1z (by rw [h2]; omega) rfl fun w3 k3 z3 b3 => ?_
        have h43 : (cs.setIfInBounds (1 + fs'.length * 2 + 1) (Value.int .i64 (j : Int)))[65]? = some (.int .i64 (fs'.length : Int)) := by rw [set_at (by omega), if_neg (by omega)]; exact h4
        have hb3 := k3.get hbz (hM _ fb)
        simp [-getElem?_pos, -Array.getElem?_eq_getElem, List.getElem?_cons_zero, List.getElem?_cons_succ, -Int.natCast_add, add_spot, and_assoc, Br_dec, -op_box, -op_st_3, -op_st_132, b3, h43, hb3, hvj, wr1, tn1]
        refine ⟨by omega, ?_⟩
        refine op_store_ok (by kernel_rfl) b3 (by simp; omega) rfl fun w4 k4 z4 b4 => ?_
        have k4 := Frm.dr k4
        have h44 : ((cs.setIfInBounds (1 + fs'.length * 2 + 1) (Value.int .i64 (j : Int))).setIfInBounds (1 + (fs'.length + 1) * 2) (.iface uu (ptr bb)))[65]? = some (.int .i64 (fs'.length : Int)) := by rw [set_at (by simp; omega), if_neg (by omega)]; exact h43
        simp [-getElem?_pos, -Array.getElem?_eq_getElem, List.getElem?_cons_zero, List.getElem?_cons_succ, -Int.natCast_add, add_spot, and_assoc, Br_dec, -op_box, -op_st_3, -op_st_132, b4, h44, wr1]
        refine op_store_ok (by kernel_rfl) b4 (by simp; omega) rfl fun w5 k5 z5 b5 => ?_
        have k345 : Frm (· = ib) wl w5 := ((kz.fst k3).trans k4 fun _ h _ => h).trans k5 fun _ h _ => h
        have hlow' := hlow.down (d6 := d6) hF k345 hi hfi (hsub j hi hfi) (by simpa [Fr.idx, huu] using b5)
        have hz5 : w5.heap.size = w.heap.size := by simp only [heap_drew] at z3 z4 z5; omega
        refine ⟨(hI _).2 ⟨_, _, _, _, hf.trans k345 fun _ h _ => h, hz5, hlow', ?_⟩, ?_⟩
        · rw [← hL, toL_at (hs := true) hi hi0, left_cons, List.append_assoc]
        · rw [hdep, depthOf_eq hlow'.1 hlow'.2.2.2.1]
          simp only [List.length_cons]; omega
      · have he := (hemp j (by omega)).1 (hi0 j (by omega))
        rw [he] at hvj
        simp [-getElem?_pos, -Array.getElem?_eq_getElem, List.getElem?_cons_zero, List.getElem?_cons_succ, -Int.natCast_add, add_spot, and_assoc, Br_dec, -op_box, -op_st_3, -op_st_132, hj32, hbz, hvj]
        rw [wrap_i64_small (by omega) (by omega)]
        refine ⟨(hJ _ _).2 ⟨j + 1, by simp, by omega, kz, hzz⟩, ?_⟩
        simp only [natOf]; omega
end Go.Proofs.Ytbghmbbhkoniiaa.I
end
section
/- Iterators: on to the next pair. -/
set_option maxRecDepth 100000
set_option maxHeartbeats 2000000
set_option linter.unusedSimpArgs false
set_option linter.unusedVariables false
set_option linter.unusedSectionVars false
namespace Go.Proofs.Ytbghmbbhkoniiaa.I
open Go.Vc Go.Proofs Go.Proofs.Ytbghmbbhkoniiaa Go.Vc.Nd
variable {w w' : World} {v hv : Value} {t : Tr} {F F' : Nat → Prop} {K : Value → World → Prop} {Kp : KP} {hash : Ky → Nat} {k : Ky} {x : Vl} {l s rb : Nat} {r0 mu : Bool}

/-- The iterator in block ib stands in the frames. -/
def Up (w : World) (ib mb : Nat) (F : Nat → Prop) (hash : Ky → Nat) (cs : Array Value) (fs : List Fr) : Prop :=
  w.heap[ib]? = some (.cells cs 139 (0, 0)) ∧ cs.size = 66 ∧ cs[0]? = some (ptr mb) ∧ cs[65]? = some (.int .i64 ((fs.length : Int) - 1)) ∧ Stk w F hash cs fs
theorem Up.low {ib mb : Nat} {cs : Array Value} {fs : List Fr} {r : Fr} (h : Up w ib mb F hash cs (r :: fs)) : Low w ib mb F hash cs fs r.s r.v := by
  obtain ⟨h1, h2, h3, h4, h5⟩ := h
  exact ⟨h1, h2, h3, by rw [h4]; simp, h5.1, h5.2.2.2.1, h5.2.2.2.2⟩
theorem next_ok {ib mb : Nat} {cs : Array Value} {fs : List Fr} (h : Up w ib mb F hash cs fs) (hF : ¬ F ib)
    (hK : ∀ w', Frm (· = ib) w w' → w'.heap.size = w.heap.size → At w' ib mb F hash (left fs) → K (.tuple #[]) w') : Calls Try.prog 72 #[ptr ib] w (ret K Kp) := by
  refine vc72_calls ?_
  simp only [vc72]
  obtain ⟨I, hI⟩ : ∃ I : World → Prop, ∀ wl, I wl ↔ ∃ cs, ∃ fs' : List Fr, Frm (· = ib) w wl ∧ wl.heap.size = w.heap.size ∧ Up wl ib mb F hash cs fs' ∧ left fs' = left fs := ⟨_, fun _ => Iff.rfl⟩
  refine Lp.intro I (fun wl => depthOf wl ib) ⟨(hI _).2 ⟨cs, fs, Frm.refl, rfl, h, rfl⟩, ?_⟩
  intro wl _ hl
  obtain ⟨cs, fs', hf, hz, hup, hL⟩ := (hI _).1 hl
  clear hl h
  have ⟨h1, h2, h3, h4, h5⟩ := hup
  have hdep := depthOf_eq h1 h4
  have hM : ∀ c, F c → ¬ c = ib := fun c hc e => hF (e ▸ hc)
  cases fs' with
  | nil =>
    simp [-getElem?_pos, -Array.getElem?_eq_getElem, List.getElem?_cons_zero, List.getElem?_cons_succ, -Int.natCast_add, add_spot, and_assoc, Br_dec, -op_box, -op_st_3, -op_st_132, ptr, h1, h4]
    exact hK wl hf hz ⟨cs, [], h1, h2, h3, h4, trivial, by rw [← hL]; rfl⟩
  | cons r fs' =>
  have hlow := hup.low
  have ⟨_, _, _, h4', h5', h6, h7⟩ := hlow
  have d7 := h6.1
  have hi0 := h5.2.1
  have hrok := h5.2.2.1
  have wr1 : IntKind.i64.wrap ((fs'.length : Int) + 1) = ((fs'.length + 1 : Nat) : Int) := by rw [IntKind.wrap_i64]; omega
  have wr2 : IntKind.i64.wrap ((fs'.length : Int) - 1) = (fs'.length : Int) - 1 := by rw [IntKind.wrap_i64]; omega
  have tn1 : ((fs'.length : Int) + 1).toNat = fs'.length + 1 := by omega
  have r7 : (fs'.length : Int) < 32 := by omega
  have rnn : (0 : Int) ≤ (fs'.length : Int) := by omega
  simp [-getElem?_pos, -Array.getElem?_eq_getElem, List.getElem?_cons_zero, List.getElem?_cons_succ, -Int.natCast_add, add_spot, and_assoc, Br_dec, -op_box, -op_st_3, -op_st_132, ptr, h1, h4', rnn]
  obtain ⟨J, hJ⟩ : ∃ J : World → Prop, ∀ wz, J wz ↔ Frm (fun _ => False) wl wz ∧ wz.heap.size = wl.heap.size ∧ rest r.s r.i = [] := ⟨_, fun _ => Iff.rfl⟩
  refine Jn.intro J ⟨r7, ?_, ?_⟩
  rotate_left
  · intro wz hj
    obtain ⟨kz, zz, hr⟩ := (hJ _).1 hj
    have h1z := kz.get h1 (fun h => h)
    simp [-getElem?_pos, -Array.getElem?_eq_getElem, List.getElem?_cons_zero, List.getElem?_cons_succ, -Int.natCast_add, add_spot, and_assoc, Br_dec, -op_box, -op_st_3, -op_st_132, h1z, h4', wr2]
    refine op_store_ok (by kernel_rfl) h1z (by rw [h2]; omega) rfl fun w3 k3 z3 b3 => ?_
    have h43 : (cs.setIfInBounds 65 (Value.int .i64 ((fs'.length : Int) - 1)))[65]? = some (.int .i64 ((fs'.length : Int) - 1)) := by rw [set_at (by omega), if_pos rfl]
    refine ⟨(hI _).2 ⟨_, fs', hf.trans (kz.fst k3) fun _ h _ => h, by rw [z3, zz]; exact hz, ⟨b3, by simp [h2], ?_, h43, ?_⟩, ?_⟩, ?_⟩
    · rw [set_at (by omega), if_neg (by omega)]; exact h3
    · exact Stk.cells (h7.frame (kz.fst k3) hM) fun j hj => by rw [set_at (by omega), if_neg (by omega)]
    · rw [← hL, left_cons, hr, List.nil_append]
    · rw [hdep, depthOf_eq b3 h43]
      simp only [List.length_cons]; omega
  obtain ⟨rs, rv, ri⟩ := r
  simp only at hlow h5' h6 hi0 hrok
  have hent : ∀ {es : List (Ky × Vl)} {n : Nat}, (∀ hs f, rs ≠ .br hs f) → toL rs = es → n = es.length → ri < es.length → n ≤ 9223372036854775807 → 
      (IntKind.i64.wrap ((n : Int) - 1) = (n : Int) - 1) ∧ IntKind.i64.wrap ((ri : Int) + 1) = ((ri + 1 : Nat) : Int) := fun {es n} _ _ hn hr hn2 => by
    constructor <;> rw [IntKind.wrap_i64] <;> omega
  have hstep : ∀ {w3 : World} {es : List (Ky × Vl)}, (∀ hs f, rs ≠ .br hs f) → toL rs = es → ri + 1 < es.length → Frm (· = ib) wl w3 → w3.heap.size = wl.heap.size →
      w3.heap[ib]? = some (.cells (cs.setIfInBounds (1 + fs'.length * 2 + 1) (.int .i64 ((ri + 1 : Nat) : Int))) 139 (0, 0)) → K (.tuple #[]) w3 := fun {w3 es} hbr hes hlt k3 z3 b3 => by
    have := hlow.leaf (e := es[ri + 1]) hF k3 hbr (by rw [hes]; simp [hlt]) b3
    refine hK w3 (hf.trans k3 fun _ h _ => h) (by rw [z3]; exact hz) ?_
    rw [← hL, left_cons]
    have hr : rest rs ri = (toL rs).drop (ri + 1) := by cases rs <;> first | rfl | exact absurd rfl (hbr _ _)
    show At w3 ib mb F hash (rest rs ri ++ left fs')
    rw [hr]; exact this
  cases rs with
  | emp => exact absurd rfl h6.2.2.1
  | arr es =>
    obtain ⟨_, hw, _, F0, ⟨b, g, cap, rfl, g1, g2, g3, g4, g5, g6⟩, gF⟩ := h6
    have hri : ri < es.length := hrok
    have hcap := g6.cap_le g5
    obtain ⟨e1, e2⟩ := hent (es := es) (n := es.length) (fun _ _ h => nomatch h) rfl rfl hri hcap
    have hidx : (Fr.mk (.arr es) (.iface 145 (ptr b)) ri).idx = ri := rfl
    rw [hidx] at hi0
    simp [-getElem?_pos, -Array.getElem?_eq_getElem, List.getElem?_cons_zero, List.getElem?_cons_succ, -Int.natCast_add, add_spot, and_assoc, Br_dec, -op_box, -op_st_3, -op_st_132, ptr, h1, h4', h5', r7, hi0, g4, e1, e2]
    refine ⟨fun hlt => ?_, fun hge => (hJ _).2 ⟨(Frm.drew _).no (Frm.drew _), rfl, ?_⟩⟩
    · refine op_store_ok (by kernel_rfl) h1 (by rw [h2]; omega) rfl fun w3 k3 z3 b3 => ?_
      exact hstep (es := es) (fun _ _ h => nomatch h) rfl (by omega) (Frm.dr (Frm.dr k3)) z3 b3
    · show es.drop (ri + 1) = []
      rw [List.drop_eq_nil_iff]; omega
  | val h' k' x' =>
    obtain ⟨_, hw, _, F0, ⟨b, rfl, g1, g2⟩, gF⟩ := h6
    simp [-getElem?_pos, -Array.getElem?_eq_getElem, List.getElem?_cons_zero, List.getElem?_cons_succ, -Int.natCast_add, add_spot, and_assoc, Br_dec, -op_box, -op_st_3, -op_st_132, ptr, h1, h4', h5', r7, hi0]
    refine (hJ _).2 ⟨Frm.drew _, rfl, ?_⟩
    show [(k', x')].drop (ri + 1) = []
    simp
  | col h' es =>
    obtain ⟨_, hw, _, F0, ⟨b, g, cap, rfl, g1, g2, g3, g4, g5, g6⟩, gF⟩ := h6
    have hri : ri < es.length := hrok
    have hcap := g6.cap_le g5
    obtain ⟨e1, e2⟩ := hent (es := es) (n := es.length) (fun _ _ h => nomatch h) rfl rfl hri hcap
    have hidx : (Fr.mk (.col h' es) (.iface 155 (ptr b)) ri).idx = ri := rfl
    rw [hidx] at hi0
    simp [-getElem?_pos, -Array.getElem?_eq_getElem, List.getElem?_cons_zero, List.getElem?_cons_succ, -Int.natCast_add, add_spot, and_assoc, Br_dec, -op_box, -op_st_3, -op_st_132, ptr, h1, h4', h5', r7, hi0, g4, e1, e2]
    refine ⟨fun hlt => ?_, fun hge => (hJ _).2 ⟨(Frm.drew _).no (Frm.drew _), rfl, ?_⟩⟩
    · refine op_store_ok (by kernel_rfl) h1 (by rw [h2]; omega) rfl fun w3 k3 z3 b3 => ?_
      exact hstep (es := es) (fun _ _ h => nomatch h) rfl (by omega) (Frm.dr (Frm.dr k3)) z3 b3
    · show es.drop (ri + 1) = []
      rw [List.drop_eq_nil_iff]; omega
  | br hs f =>
    obtain ⟨hri, hfi⟩ : ri < 32 ∧ f ri ≠ .emp := hrok
    have hgo : ∀ {w3 : World} {cs3 : Array Value} {j : Nat} {u : Value}, ri < j → j < 32 → f j ≠ .emp → (∀ k, ri < k → k < j → f k = .emp) → Frm (· = ib) wl w3 → w3.heap.size = wl.heap.size → Low w3 ib mb F hash cs3 (⟨.br hs f, rv, j⟩ :: fs') (f j) u → Calls Try.prog 71 #[ptr ib] w3 (ret (fun _ w => K (.tuple #[]) w) Kp) := fun {w3 cs3 j u} h1 h2 h3 h4 k3 z3 hl => by
      refine first_ok hl hF fun w4 k4 z4 hat => hK w4 (hf.trans (k3.trans k4 fun _ h _ => h) fun _ h _ => h) (by rw [z4, z3]; exact hz) ?_
      rw [← hL, left_cons]
      show At w4 ib mb F hash (rest (.br hs f) ri ++ left fs')
      rw [rest_at h1 h2 h4, List.append_assoc]
      rw [left_cons] at hat
      exact hat
    cases hs with
    | false =>
      obtain ⟨b, g, cap, vs, rfl, fb, fg, hb, hc, hrw, d6, hex, hsub⟩ := h6.bm
      have hidx : (Fr.mk (.br false f) (.iface 200 (ptr b)) ri).idx = rk f ri := rfl
      rw [hidx] at hi0
      have hc32 : cnt f ≤ 32 := cnt_le
      have hrk : rk f ri < cnt f := by rw [cnt_rk]; exact rk_lt hri hfi
      have e1 : IntKind.i64.wrap ((cnt f : Int) - 1) = (cnt f : Int) - 1 := by rw [IntKind.wrap_i64]; omega
      have e2 : IntKind.i64.wrap ((rk f ri : Int) + 1) = ((rk f ri + 1 : Nat) : Int) := by rw [IntKind.wrap_i64]; omega
      simp [-getElem?_pos, -Array.getElem?_eq_getElem, List.getElem?_cons_zero, List.getElem?_cons_succ, -Int.natCast_add, add_spot, and_assoc, Br_dec, -op_box, -op_st_3, -op_st_132, ptr, h1, h4', h5', r7, hi0, hb, e1, e2]
      rcases rk_last hri hfi with ⟨j, j1, j2, j3, j4, j5, j6⟩ | ⟨j1, j2⟩
      · refine ⟨fun hlt => ?_, fun hge => by omega⟩
        have hk0 := kids_get (vs := vs) j2 j3
        rw [j5] at hk0
        refine op_store_ok (by kernel_rfl) h1 (by rw [h2]; omega) rfl fun w3 k3 z3 b3 => ?_
        have k3 := Frm.dr (Frm.dr k3)
        obtain ⟨cur, c1, c2, c3⟩ := (hrw.frame k3 (hM _ fg)).cells
        have hcur : cur[rk f ri + 1]? = some (vs j) := by rw [c3 _ (by rw [kids_len]; exact j6)]; exact hk0
        have hb3 := k3.get hb (hM _ fb)
        have h43 : (cs.setIfInBounds (1 + fs'.length * 2 + 1) (Value.int .i64 ((rk f ri + 1 : Nat) : Int)))[65]? = some (.int .i64 (fs'.length : Int)) := by rw [set_at (by omega), if_neg (by omega)]; exact h4'
        have h53 : (cs.setIfInBounds (1 + fs'.length * 2 + 1) (Value.int .i64 ((rk f ri + 1 : Nat) : Int)))[1 + fs'.length * 2 + 1]? = some (.int .i64 ((rk f ri + 1 : Nat) : Int)) := by rw [set_at (by omega), if_pos rfl]
        simp [-getElem?_pos, -Array.getElem?_eq_getElem, List.getElem?_cons_zero, List.getElem?_cons_succ, -Int.natCast_add, add_spot, and_assoc, Br_dec, -op_box, -op_st_3, -op_st_132, b3, h43, h53, hb3, c1, hcur, wr1, tn1]
        refine ⟨by omega, by omega, ?_⟩
        refine op_store_ok (by kernel_rfl) b3 (by simp; omega) ?_ fun w4 k4 z4 b4 => ?_
        · obtain ⟨_, _, _, F1, hr, _⟩ := hsub j j2 j3
          exact hr.one
        have k4 := Frm.dr k4
        have h44 : ((cs.setIfInBounds (1 + fs'.length * 2 + 1) (Value.int .i64 ((rk f ri + 1 : Nat) : Int))).setIfInBounds (1 + (fs'.length + 1) * 2) (vs j))[65]? = some (.int .i64 (fs'.length : Int)) := by rw [set_at (by simp; omega), if_neg (by omega)]; exact h43
        simp [-getElem?_pos, -Array.getElem?_eq_getElem, List.getElem?_cons_zero, List.getElem?_cons_succ, -Int.natCast_add, add_spot, and_assoc, Br_dec, -op_box, -op_st_3, -op_st_132, b4, h44, wr1]
        refine op_store_ok (by kernel_rfl) b4 (by simp; omega) rfl fun w5 k5 z5 b5 => ?_
        have k345 : Frm (· = ib) wl w5 := (k3.trans k4 fun _ h _ => h).trans k5 fun _ h _ => h
        have hlow' := hlow.down (d6 := d6) hF k345 j2 j3 (hsub j j2 j3) (by simpa [Fr.idx, j5] using b5)
        exact hgo j1 j2 j3 j4 k345 (by simp only [heap_drew] at z3 z4 z5; omega) hlow'
      · refine ⟨fun hlt => by omega, fun hge => (hJ _).2 ⟨(Frm.drew _).no (Frm.drew _), rfl, rest_end j1⟩⟩
    | true =>
      obtain ⟨b, cs', vs, rfl, fb, hb, hcs, hvs, hemp, hif, d6, hex, hsub⟩ := h6.ha
      have hidx : (Fr.mk (.br true f) (.iface 204 (ptr b)) ri).idx = ri := rfl
      rw [hidx] at hi0
      have e2 : IntKind.i64.wrap ((ri : Int) + 1) = ((ri + 1 : Nat) : Int) := by rw [IntKind.wrap_i64]; omega
      simp [-getElem?_pos, -Array.getElem?_eq_getElem, List.getElem?_cons_zero, List.getElem?_cons_succ, -Int.natCast_add, add_spot, and_assoc, Br_dec, -op_box, -op_st_3, -op_st_132, ptr, h1, h4', h5', r7, hi0, hb, e2]
      obtain ⟨I2, hI2⟩ : ∃ I2 : Value → World → Prop, ∀ s wz, I2 s wz ↔ ∃ j : Nat, s = Value.int .i64 j ∧ ri < j ∧ j ≤ 32 ∧ (∀ k, ri < k → k < j → f k = .emp) ∧ Frm (fun _ => False) wl wz ∧ wz.heap.size = wl.heap.size := ⟨_, fun _ _ => Iff.rfl⟩
      refine Lp.intro I2 (fun s _ => 32 - natOf s) ⟨(hI2 _ _).2 ⟨ri + 1, rfl, by omega, by omega, fun k hk hk' => by omega, Frm.drew _, rfl⟩, ?_⟩
      intro wz sz hsz
      obtain ⟨j, rfl, hj1, hj2, hj3, kz, hzz⟩ := (hI2 _ _).1 hsz
      have hbz := kz.get hb (fun h => h)
      have h1z := kz.get h1 (fun h => h)
      by_cases hj32 : j < 32
      · have hvj := hvs j hj32
        have hj32' : (j : Int) < 32 := by omega
        by_cases hfj : f j = .emp
        · have he := (hemp j hj32).1 hfj
          rw [he] at hvj
          simp [-getElem?_pos, -Array.getElem?_eq_getElem, List.getElem?_cons_zero, List.getElem?_cons_succ, -Int.natCast_add, add_spot, and_assoc, Br_dec, -op_box, -op_st_3, -op_st_132, hj32', hbz, hvj]
          rw [wrap_i64_small (by omega) (by omega)]
          refine ⟨(hI2 _ _).2 ⟨j + 1, by simp, by omega, by omega, fun k hk hk' => ?_, kz, hzz⟩, ?_⟩
          · by_cases e : k = j
            · rw [e]; exact hfj
            · exact hj3 k hk (by omega)
          · simp only [natOf]; omega
        · obtain ⟨uu, bb, huu⟩ := hif j hj32 hfj
          rw [huu] at hvj
          simp [-getElem?_pos, -Array.getElem?_eq_getElem, List.getElem?_cons_zero, List.getElem?_cons_succ, -Int.natCast_add, add_spot, and_assoc, Br_dec, -op_box, -op_st_3, -op_st_132, hj32', hbz, hvj]
          refine op_store_ok (by kernel_rfl) h1z (by rw [h2]; omega) rfl fun w3 k3 z3 b3 => ?_
          have h43 : (cs.setIfInBounds (1 + fs'.length * 2 + 1) (Value.int .i64 (j : Int)))[65]? = some (.int .i64 (fs'.length : Int)) := by rw [set_at (by omega), if_neg (by omega)]; exact h4'
          have h53 : (cs.setIfInBounds (1 + fs'.length * 2 + 1) (Value.int .i64 (j : Int)))[1 + fs'.length * 2 + 1]? = some (.int .i64 (j : Int)) := by rw [set_at (by omega), if_pos rfl]
          have hb3 := k3.get hbz (hM _ fb)
          simp [-getElem?_pos, -Array.getElem?_eq_getElem, List.getElem?_cons_zero, List.getElem?_cons_succ, -Int.natCast_add, add_spot, and_assoc, Br_dec, -op_box, -op_st_3, -op_st_132, b3, h43, h53, hb3, hvj, wr1, tn1]
          refine ⟨by omega, by omega, ?_⟩
          refine op_store_ok (by kernel_rfl) b3 (by simp; omega) rfl fun w4 k4 z4 b4 => ?_
          have k4 := Frm.dr k4
          have h44 : ((cs.setIfInBounds (1 + fs'.length * 2 + 1) (Value.int .i64 (j : Int))).setIfInBounds (1 + (fs'.length + 1) * 2) (.iface uu (ptr bb)))[65]? = some (.int .i64 (fs'.length : Int)) := by rw [set_at (by simp; omega), if_neg (by omega)]; exact h43
          simp [-getElem?_pos, -Array.getElem?_eq_getElem, List.getElem?_cons_zero, List.getElem?_cons_succ, -Int.natCast_add, add_spot, and_assoc, Br_dec, -op_box, -op_st_3, -op_st_132, b4, h44, wr1]
          refine op_store_ok (by kernel_rfl) b4 (by simp; omega) rfl fun w5 k5 z5 b5 => ?_
          have k345 : Frm (· = ib) wl w5 := ((kz.fst k3).trans k4 fun _ h _ => h).trans k5 fun _ h _ => h
          have hlow' := hlow.down (d6 := d6) hF k345 hj32 hfj (hsub j hj32 hfj) (by simpa [Fr.idx, huu] using b5)
          exact hgo hj1 hj32 hfj hj3 k345 (by simp only [heap_drew] at z3 z4 z5; omega) hlow'
      · have hj32' : ¬ (j : Int) < 32 := by omega
        simp [-getElem?_pos, -Array.getElem?_eq_getElem, List.getElem?_cons_zero, List.getElem?_cons_succ, -Int.natCast_add, add_spot, and_assoc, Br_dec, -op_box, -op_st_3, -op_st_132, hj32']
        exact (hJ _).2 ⟨kz, hzz, rest_end fun k hk hk' => hj3 k hk (by omega)⟩
end Go.Proofs.Ytbghmbbhkoniiaa.I
end
section
/- Further single steps with the world behind them under a name. -/
set_option linter.unusedSimpArgs false
set_option linter.unusedVariables false
namespace Go.Vc
variable {P : Program} {w w' : World} {K : Value → World → Prop} {Kp : KP} {t e : TypeId} {b o : Nat} {cs : Array Value} {v : Value} {s g cap : Nat} {xs : List Value}

/-- Several cells of a block are written. -/
theorem op_storeN_ok {vs : Array Value} {n : Nat} (h : ldk P t = some (.agg n)) (hb : w.heap[b]? = some (.cells cs e (0, 0))) (hn : vs.size = n) (ho : o + n ≤ cs.size) (h1 : ∀ u ∈ vs, u.oneCell' = true)
    (hK : ∀ w', Frm (· = b) w w' → w'.heap.size = w.heap.size → w'.heap[b]? = some (.cells (ow cs o vs.toList) e (0, 0)) → K undef w') : (nice P).op (.store t (.pointer (some ⟨b, o, none⟩)) (.agg vs)) w K Kp := by
  rw [op_stn h]
  exact ⟨hn, fun u hu => h1 u (by simpa using hu), cs, e, hb, rfl, ho, hK _ (Frm.upd _ _ fun _ => rfl) (by simp) (heap_upd_same hb)⟩
theorem ow_get {l : List Value} {cs : Array Value} {o j : Nat} (h : o + l.length ≤ cs.size) : (ow cs o l)[j]? = if o ≤ j ∧ j < o + l.length then l[j - o]? else cs[j]? := getElem?_ow l cs o h j
theorem ow_size (l : List Value) : ∀ (cs : Array Value) (o : Nat), (ow cs o l).size = cs.size := by
  induction l with
  | nil => intro cs o; rfl
  | cons v l ih => intro cs o; rw [ow, ih]; simp
end Go.Vc
end
section
/- Iterators: Done, Next, First, and a map's Iterator. -/
set_option maxRecDepth 100000
set_option maxHeartbeats 2000000
set_option linter.unusedSimpArgs false
set_option linter.unusedVariables false
set_option linter.unusedSectionVars false
namespace Go.Proofs.Ytbghmbbhkoniiaa.I
open Go.Vc Go.Proofs Go.Proofs.Ytbghmbbhkoniiaa Go.Vc.Nd
variable {w w' : World} {v hv : Value} {t : Tr} {F F' : Nat → Prop} {K : Value → World → Prop} {Kp : KP} {hash : Ky → Nat} {k : Ky} {x : Vl} {l s rb : Nat} {r0 mu : Bool}

theorem At.depth {ib mb : Nat} {L : List (Ky × Vl)} (h : At w ib mb F hash L) : ∃ cs, ∃ fs : List Fr, Up w ib mb F hash cs fs ∧ (L = [] ↔ fs = []) ∧ L.tail = left fs ∧ match fs with
    | [] => True
    | r :: _ => (∀ hs f, r.s ≠ .br hs f) ∧ ∃ e, (toL r.s)[r.i]? = some e ∧ L = e :: left fs := by
  obtain ⟨cs, fs, h1, h2, h3, h4, h5, h6⟩ := h
  refine ⟨cs, fs, ⟨h1, h2, h3, h4, h5⟩, ?_⟩
  cases fs with
  | nil => subst h6; exact ⟨by simp, rfl, trivial⟩
  | cons r fs =>
    obtain ⟨a, e, b, c⟩ := h6
    exact ⟨by simp [c], by rw [c]; rfl, a, e, b, c⟩
theorem done_ok {ib mb : Nat} {L : List (Ky × Vl)} (h : At w ib mb F hash L) (hK : K (.bool (decide (L = []))) w) : Calls Try.prog 42 #[ptr ib] w (ret K Kp) := by
  obtain ⟨cs, fs, ⟨h1, h2, h3, h4, h5⟩, h6, h7, _⟩ := h.depth
  refine vc42_calls ?_
  have e : decide ((fs.length : Int) - 1 = -1) = decide (L = []) := by
    cases fs with
    | nil => have := h6.2 rfl; subst this; rfl
    | cons r fs =>
      have hL : L ≠ [] := fun h => by have := h6.1 h; cases this
      simp only [List.length_cons]
      rw [decide_eq_false (by omega), decide_eq_false hL]
  simp [-getElem?_pos, -Array.getElem?_eq_getElem, List.getElem?_cons_zero, List.getElem?_cons_succ, -Int.natCast_add, add_spot, and_assoc, Br_dec, -op_box, -op_st_3, -op_st_132, -op_st_136, vc42, ptr, h1, h4]
  rw [← e] at hK
  simpa using hK
def zk : Ky := 0
/-- What Next tells. -/
def nextV (L : List (Ky × Vl)) : Value := match L with
  | [] => .tuple #[ek zk, zv, .bool false]
  | e :: _ => .tuple #[ek e.1, ev e.2, .bool true]
theorem entry_at {g cap : Nat} {es : List (Ky × Vl)} {i : Nat} {e : Ky × Vl} (h : Rw w 148 2 g cap (ents es)) (he : es[i]? = some e) : ∃ cur, w.heap[g]? = some (.cells cur 148 (0, 0)) ∧ cur[i * 2]? = some (ek e.1)
    ∧ cur[i * 2 + 1]? = some (ev e.2)
    := by
  obtain ⟨cur, h1, h2⟩ := key_cell h
  obtain ⟨hi, rfl⟩ := List.getElem?_eq_some_iff.1 he
  exact ⟨cur, h1, (h2 i hi).1, by have := (h2 i hi).2; rwa [if_pos (by decide)] at this⟩
theorem Next_ok {ib mb : Nat} {L : List (Ky × Vl)} (h : At w ib mb F hash L) (hF : ¬ F ib)
    (hK : ∀ w', Frm (· = ib) w w' → w'.heap.size = w.heap.size → At w' ib mb F hash L.tail → K (nextV L) w') : Calls Try.prog 44 #[ptr ib] w (ret K Kp) := by
  obtain ⟨cs, fs, hup, h6, h7, h8⟩ := h.depth
  have ⟨h1, h2, h3, h4, h5⟩ := hup
  refine vc44_calls ?_
  simp only [vc44, call_42]
  refine done_ok h ?_
  simp only [Br_dec]
  refine ⟨fun e => ?_, fun hnn => ?_⟩
  · subst e
    exact hK w Frm.refl rfl h
  cases fs with
  | nil => exact absurd (h6.2 rfl) hnn
  | cons r fs =>
  have hlow := hup.low
  have ⟨_, _, _, h4', h5', hsub, hst⟩ := hlow
  have d7 := hsub.1
  have r7 : (fs.length : Int) < 32 := by omega
  have hi0 := h5.2.1
  obtain ⟨hbr, e, he, hL⟩ := h8
  subst hL
  have hfin : ∀ {wz : World}, Frm (fun _ => False) w wz → wz.heap.size = w.heap.size → Calls Try.prog 72 #[ptr ib] wz (ret (fun _ w => K (.tuple #[ek e.1, ev e.2, .bool true]) w) Kp) := fun {wz} kz zz => by
    have hM : ∀ c, F c → ¬ False := fun _ _ h => h
    refine next_ok (cs := cs) (fs := r :: fs) ⟨kz.get h1 (fun h => h), h2, h3, h4, h5.frame kz hM⟩ hF fun w' k' z' hat => hK w' (kz.fst k') (by rw [z', zz]) ?_
    exact hat
  obtain ⟨rs, rv, ri⟩ := r
  simp only at hsub hi0 hbr he h5'
  cases rs with
  | emp => exact absurd rfl hsub.2.2.1
  | br hs f => exact absurd rfl (hbr _ _)
  | arr es =>
    obtain ⟨_, hw, _, F0, ⟨b, g, cap, rfl, g1, g2, g3, g4, g5, g6⟩, gF⟩ := hsub
    have hri : ri < es.length := (List.getElem?_eq_some_iff.1 he).1
    have hidx : (Fr.mk (.arr es) (.iface 145 (ptr b)) ri).idx = ri := rfl
    rw [hidx] at hi0
    obtain ⟨cur, c1, c2⟩ := entry_at g6 he
    obtain ⟨c2, c3⟩ := c2
    simp [-getElem?_pos, -Array.getElem?_eq_getElem, List.getElem?_cons_zero, List.getElem?_cons_succ, -Int.natCast_add, add_spot, and_assoc, Br_dec, -op_box, -op_st_3, -op_st_132, -op_st_136, ptr, h1, h4', h5', r7, hi0, g4, c1, c2, c3, call_72]
    exact ⟨hri, hfin (((Frm.drew _).no (Frm.drew _)).no (Frm.drew _)) rfl⟩
  | val h' k' x' =>
    obtain ⟨_, hw, _, F0, ⟨b, rfl, g1, g2⟩, gF⟩ := hsub
    have hri : ri = 0 := by have := (List.getElem?_eq_some_iff.1 he).1; simpa [toL] using this
    subst hri
    obtain rfl : (k', x') = e := by simpa [toL] using he
    simp [-getElem?_pos, -Array.getElem?_eq_getElem, List.getElem?_cons_zero, List.getElem?_cons_succ, -Int.natCast_add, add_spot, and_assoc, Br_dec, -op_box, -op_st_3, -op_st_132, -op_st_136, ptr, h1, h4', h5', r7, hi0, g2, call_72]
    exact hfin ((Frm.drew _).no (Frm.drew _)) rfl
  | col h' es =>
    obtain ⟨_, hw, _, F0, ⟨b, g, cap, rfl, g1, g2, g3, g4, g5, g6⟩, gF⟩ := hsub
    have hri : ri < es.length := (List.getElem?_eq_some_iff.1 he).1
    have hidx : (Fr.mk (.col h' es) (.iface 155 (ptr b)) ri).idx = ri := rfl
    rw [hidx] at hi0
    obtain ⟨cur, c1, c2⟩ := entry_at g6 he
    obtain ⟨c2, c3⟩ := c2
    simp [-getElem?_pos, -Array.getElem?_eq_getElem, List.getElem?_cons_zero, List.getElem?_cons_succ, -Int.natCast_add, add_spot, and_assoc, Br_dec, -op_box, -op_st_3, -op_st_132, -op_st_136, ptr, h1, h4', h5', r7, hi0, g4, c1, c2, c3, call_72]
    exact ⟨hri, hfin (((Frm.drew _).no (Frm.drew _)).no (Frm.drew _)) rfl⟩

/-- An iterator over the map in block mb. -/
def Itr (w : World) (ib mb : Nat) : Prop := ∃ cs, w.heap[ib]? = some (.cells cs 139 (0, 0)) ∧ cs.size = 66 ∧ cs[0]? = some (ptr mb)
theorem At.itr {ib mb : Nat} {L : List (Ky × Vl)} (h : At w ib mb F hash L) : Itr w ib mb := by
  obtain ⟨cs, fs, h1, h2, h3, _⟩ := h; exact ⟨cs, h1, h2, h3⟩
theorem First_ok {ib mb : Nat} {h : Value} (hW : WFr hash t) (hm : IsMap w mb h t F) (hi : Itr w ib mb) (hF : ¬ F ib)
    (hK : ∀ w', Frm (· = ib) w w' → w'.heap.size = w.heap.size → At w' ib mb F hash (toL t) → K (.tuple #[]) w') : Calls Try.prog 43 #[ptr ib] w (ret K Kp) := by
  obtain ⟨r, F0, h1, h2, h3, h4⟩ := hm
  obtain ⟨cs, g1, g2, g3⟩ := hi
  have heq := fun {wz : World} {K : Value → World → Prop} {Kp : KP} => eq_nil h3 (wz := wz) (K := K) (Kp := Kp)
  have hM : ∀ c, F c → ¬ c = ib := fun c hc e => hF (e ▸ hc)
  refine vc43_calls ?_
  simp [-getElem?_pos, -Array.getElem?_eq_getElem, List.getElem?_cons_zero, List.getElem?_cons_succ, -Int.natCast_add, add_spot, and_assoc, Br_dec, -op_box, -op_st_3, -op_st_132, -op_st_136, vc43, ptr, g1, g3, h1, heq]
  refine ⟨fun e => ?_, fun e => ?_⟩
  · have := isEmp_iff.1 e
    subst this
    refine op_store_ok (by kernel_rfl) g1 (by rw [g2]; omega) rfl fun w3 k3 z3 b3 => hK w3 k3 z3 ⟨_, [], b3, by simp [g2], ?_, ?_, trivial, rfl⟩
    · rw [set_at (by omega), if_neg (by omega)]; exact g3
    · rw [set_at (by omega), if_pos rfl]; rfl
  · have hne : t ≠ .emp := fun h => by rw [h] at e; cases e
    have r1 := h3.one
    have hcs : (2 : Nat) ≤ cs.size := by omega
    obtain ⟨u, c, rfl⟩ := h3.iface hne
    simp [-getElem?_pos, -Array.getElem?_eq_getElem, List.getElem?_cons_zero, List.getElem?_cons_succ, -Int.natCast_add, add_spot, and_assoc, Br_dec, -op_box, -op_st_3, -op_st_132, -op_st_136, h1]
    refine op_storeN_ok (n := 2) (by kernel_rfl) (w := w.drew) g1 rfl (by rw [g2]; omega) (by simp) fun w3 k3 z3 b3 => ?_
    have k3 := Frm.dr k3
    have hg : ∀ j, (ow cs 1 [Value.iface u (ptr c), Value.int .i64 0])[j]? = if 1 ≤ j ∧ j < 3 then [Value.iface u (ptr c), Value.int .i64 0][j - 1]? else cs[j]? := fun j => ow_get (by simp; omega)
    refine op_store_ok (by kernel_rfl) b3 (by rw [ow_size]; omega) rfl fun w4 k4 z4 b4 => ?_
    have k34 : Frm (· = ib) w w4 := k3.trans k4 fun _ h _ => h
    have hz : (ow cs 1 [Value.iface u (ptr c), Value.int .i64 0]).size = 66 := by rw [ow_size]; exact g2
    refine first_ok (fs := []) (s := t) (v := .iface u (ptr c)) (F := F) (hash := hash) (mb := mb) ⟨b4, by simpa using hz, ?_, ?_, ?_, ⟨by simp, ?_, hne, F0, h3.frame k34 fun c hc => hM c (h4 c hc).1, fun c hc => (h4 c hc).1⟩, trivial⟩ hF fun w5 k5 z5 hat => ?_
    · show ((ow cs 1 [Value.iface u (ptr c), Value.int .i64 0]).setIfInBounds 65 (.int .i64 0))[0]? = _
      rw [set_at (by omega), if_neg (by omega), hg, if_neg (by omega)]; exact g3
    · show ((ow cs 1 [Value.iface u (ptr c), Value.int .i64 0]).setIfInBounds 65 (.int .i64 0))[65]? = _
      rw [set_at (by omega), if_pos rfl]; rfl
    · show ((ow cs 1 [Value.iface u (ptr c), Value.int .i64 0]).setIfInBounds 65 (.int .i64 0))[1]? = _
      rw [set_at (by omega), if_neg (by omega), hg, if_pos (by omega)]; rfl
    · cases t with
      | arr es => exact .inr ⟨es, rfl, hW.1⟩
      | emp => exact absurd rfl hne
      | br hs f => exact .inl ⟨0, hW⟩
      | val a b c => exact .inl ⟨0, hW⟩
      | col a b => exact .inl ⟨0, hW⟩
    · refine hK w5 (k34.trans k5 fun _ h _ => h) (by rw [z5, z4, z3]; rfl) ?_
      have e : left [] = ([] : List (Ky × Vl)) := rfl
      rw [e, List.append_nil] at hat
      exact hat
theorem iterator_ok {mb : Nat} {h : Value} (hW : WFr hash t) (hm : IsMap w mb h t F) (hF : ∀ c, F c → c < w.heap.size)
    (hK : ∀ ib w', Frm (fun _ => False) w w' → w.heap.size ≤ ib → At w' ib mb F hash (toL t) → K (ptr ib) w') : Calls Try.prog 37 #[ptr mb] w (ret K Kp) := by
  refine vc37_calls ?_
  simp [-getElem?_pos, -Array.getElem?_eq_getElem, List.getElem?_cons_zero, List.getElem?_cons_succ, -Int.natCast_add, add_spot, and_assoc, Br_dec, -op_box, -op_st_3, -op_st_132, -op_st_136, vc37, ptr]
  refine op_box_ok fun w1 k1 z1 b1 => ?_
  simp only [cells_agg] at b1
  refine First_ok (ib := w.heap.size) hW (hm.keep fun c o hc ho => k1.get ho fun h => h) ⟨_, b1, by simp [zero_139], ?_⟩ (fun h => by have := hF _ h; omega) fun w2 k2 z2 hat => hK _ w2 (k1.old k2 fun c hc => .inr (by omega)) (Nat.le_refl _) hat
  rw [set_at (by decide), if_pos rfl]; rfl
end Go.Proofs.Ytbghmbbhkoniiaa.I
end
section
/- A region's operations one at a time, for functions whose conditions are too large to print whole. -/
set_option linter.unusedSimpArgs false
set_option linter.unusedVariables false
namespace Go.Vc
variable {S : Sig} {all rest : List Oper} {o : Oper} {e : Env} {k : Known} {w : World} {K : KE} {Kp : KP}
def plain : Op → Bool
  | .move _ | .assign _ | .pick .. => false
  | _ => true
theorem ops_op {x : VOp} (hg : o.guard = none) (hp : plain o.op = true) (hx : toV (evalE e) o.type o.op = some x)
    (h : S.op x w (fun v w' => opsVC S all rest (put e o.dst v) (putK k o.dst none) w' K Kp) Kp) : opsVC S all (o :: rest) e k w K Kp := by
  simp only [opsVC, hg]
  unfold opVC
  split
  · rename_i h1; rw [h1] at hp; cases hp
  · rename_i h1; rw [h1] at hp; cases hp
  · rename_i h1; rw [h1] at hp; cases hp
  · rw [hx]; exact h
theorem ops_pick {c x y : Operand} {b : Bool} (hg : o.guard = none) (hp : o.op = .pick c x y) (hk : kn k c = none) (hb : evalE e c = .bool b)
    (h : opsVC S all rest (put e o.dst (evalE e (bif b then x else y))) (putK k o.dst (kn k (bif b then x else y))) w K Kp) : opsVC S all (o :: rest) e k w K Kp := by
  simp only [opsVC, hg]
  unfold opVC
  rw [hp]
  simp only [hk]
  refine ⟨b, hb, fun ht => ?_, fun hf => ?_⟩
  · subst ht; exact h
  · subst hf; exact h
theorem ops_pickK {c x y : Operand} {b : Bool} (hg : o.guard = none) (hp : o.op = .pick c x y) (hk : kn k c = some (some b))
    (h : opsVC S all rest (put e o.dst (evalE e (bif b then x else y))) (putK k o.dst (kn k (bif b then x else y))) w K Kp) : opsVC S all (o :: rest) e k w K Kp := by
  simp only [opsVC, hg]
  unfold opVC
  rw [hp]
  cases b <;> simp only [hk] <;> exact h
theorem ops_move {x : Operand} (hg : o.guard = none) (hp : o.op = .move x ∨ o.op = .assign x) (h : opsVC S all rest (put e o.dst (evalE e x)) (putK k o.dst (kn k x)) w K Kp) : opsVC S all (o :: rest) e k w K Kp := by
  simp only [opsVC, hg]
  unfold opVC
  rcases hp with h1 | h1 <;> rw [h1] <;> exact h
theorem ite_no {c : Prop} [Decidable c] {A B : Prop} (hc : ¬ c) (h : B) : if c then A else B := by rw [if_neg hc]; exact h
theorem ite_yes {c : Prop} [Decidable c] {A B : Prop} (hc : c) (h : A) : if c then A else B := by rw [if_pos hc]; exact h
theorem ops_nil (h : K e k w) : opsVC S all [] e k w K Kp := h
theorem ops_end {Q : QE} (h : K e k w) : opsVC S all [] e k w (thenQ K Q .normal) Kp := h
end Go.Vc
namespace Go.Vc
variable {S : Sig} {e : Env} {k : Known} {w : World} {Q : QE} {Kp : KP} {a b : Code}
theorem fVC_of {fn : Func} {c : Code} {args : List Value} {K : Value → World → Prop} (h : fn.body = some c)
    (hc : codeVC S [] [] c (nthD args) (fun _ => none) w (fun ex e _ w => match ex with
      | .normal => resVC S fn.results.toList e w K
      | .ret => resVC S fn.results.toList e w K
      | _ => False) Kp) : fVC S [] [] fn args w K Kp := by
  unfold fVC
  rw [h]; exact hc
theorem code_seq (h : codeVC S [] [] a e k w (thenQ (fun e k w => codeVC S [] [] b e k w Q Kp) Q) Kp) : codeVC S [] [] (.seq a b) e k w Q Kp := by
  unfold codeVC
  have : (firstRegion b).bind (lk · []) = none := by cases firstRegion b <;> rfl
  rw [this]; exact h
theorem code_region {id : Nat} {ops : Array Oper} (h : opsVC S ops.toList ops.toList e k w (Q .normal) Kp) : codeVC S [] [] (.region id ops false) e k w Q Kp := by
  unfold codeVC; exact h
theorem code_block {id : Nat} (h : codeVC S [] [] a e k w (blockQ id Q) Kp) : codeVC S [] [] (.block id a) e k w Q Kp := by
  unfold codeVC; exact h
theorem code_cond {c : Operand} {t : Bool} (hb : evalE e c = .bool t) (hk : kn k c = none ∨ kn k c = some (some t)) (h : codeVC S [] [] (bif t then a else b) e k w Q Kp) : codeVC S [] [] (.cond c a b) e k w Q Kp := by
  unfold codeVC
  rcases hk with hk | hk
  · rw [hk]
    refine ⟨t, hb, fun ht => ?_, fun hf => ?_⟩
    · subst ht; exact h
    · subst hf; exact h
  · rw [hk]
    cases t <;> exact h
theorem code_ret (h : Q .ret e k w) : codeVC S [] [] .ret e k w Q Kp := h
end Go.Vc
end
section
/- Two values of an interface that are compared. -/
set_option linter.unusedSimpArgs false
set_option linter.unusedVariables false
namespace Go.Vc
variable {P : Program} {w : World} {K : Value → World → Prop} {Kp : KP} {t u : TypeId}
theorem op_eql_ifaces {xc yc : Bool} {x y : Value} {b : Bool} {ms : Array (String × TypeId)} {i : TypeInfo} (ht : P.underlying t = some (.interface ms)) (hi : P.info? u = some i) (hc : i.comparable = true)
    (he : ∀ w, (Op.equalIn 9999 u x y).run P w = .ok b w) (hK : K (.bool b) w) : (nice P).op (.bin .eql t xc yc (.iface u x) (.iface u y)) w K Kp := by
  show outOf P (VOp.bin .eql t xc yc (.iface u x) (.iface u y)).sem w K Kp
  refine out_ok (v := .bool b) (w' := w) ?_ hK
  have h1 : ∀ w, (Op.equal t (.iface u x) (.iface u y)).run P w = .ok b w := fun w => by
    unfold Op.equal Op.maxDepth
    rw [Op.equalIn]
    simp only [Sem.run_bind, run_und ht, Result.andThen_ok, ne_eq, not_true_eq_false, if_false, typeInfo, program, Sem.run, hi]
    simp [hc, he]
  have h2 : ∀ w, (eqGuard .eql t (opd xc) (opd yc) (.iface u x) (.iface u y)).run P w = .ok () w := fun w => by
    simp [eqGuard]
  simp [VOp.sem, h2, binOp, h1]
theorem eql_int {k : IntKind} {a b : Int} (hu : P.underlying u = some (.int k)) (w : World) : (Op.equalIn 9999 u (.int k a) (.int k b)).run P w = .ok (decide (a = b)) w := by
  rw [run_equalIn_int (k' := k) (h := hu)]
  by_cases h : a = b <;> simp [h]
theorem toList_inj {a b : ByteArray} : a.toList = b.toList ↔ a = b := by
  rw [ByteArray.toList_eq, ByteArray.toList_eq]
  constructor
  · intro h
    have : a.data = b.data := Array.toList_inj.1 h
    cases a; cases b; simp_all
  · rintro rfl; rfl
theorem eql_str {a b : ByteArray} (hu : P.underlying u = some .string) (w : World) : (Op.equalIn 9999 u (.string a) (.string b)).run P w = .ok (decide (a = b)) w := by
  rw [run_equalIn_string (h := hu)]
  congr 1
  by_cases h : a = b
  · subst h; simp
  · rw [decide_eq_false h]
    exact beq_eq_false_iff_ne.2 fun e => h (toList_inj.1 e)
end Go.Vc
end
section
set_option linter.unusedVariables false
set_option maxRecDepth 100000
namespace Go.Proofs.Ytbghmbbhkoniiaa
open Go.Vc Go.Proofs
private theorem follows_MVcL : Try.prog.follows .mixedOrders = true := by kernel_rfl

/-- pub-bracken/laws.FnMapNone -/
def vc3 (S : Sig) (a0 a1 a2 a3 : Value) (w : World) (K : Value → World → Prop) (Kp : KP) : Prop :=
  S.op (.box 24 a0) w (fun v4_h w =>
  S.op (.blt Builtin.len [25] 3 [a1]) w (fun v17 w =>
  S.op (.bin BinOp.gtr 3 false true v17 (Value.int IntKind.i64 2147483647)) w (fun v18 w =>
  Br v18 (
    K (Value.bool true) w) (
    S.op (.load 24 v4_h) w (fun v19 w =>
    S.call (.fn 12) [v19, a1] w (fun v21 w =>
    S.op (.un UnOp.not v21) w (fun v22 w =>
    Br v22 (
      S.call (.fn 13) [] w (fun v28 w =>
      K v28 w) Kp) (
      S.op (.blt Builtin.len [25] 3 [a1]) w (fun v25 w =>
      S.op (.bin BinOp.gtr 3 false true v25 (Value.int IntKind.i64 10)) w (fun v26 w =>
      Br v26 (
        S.call (.fn 13) [] w (fun v28 w =>
        K v28 w) Kp) (
        S.call (.fn 14) [a1] w (fun v30 w =>
        S.op (.blt Builtin.len [28] 3 [v30]) w (fun v33 w =>
        S.op (.bin BinOp.sub 3 false true v33 (Value.int IntKind.i64 1)) w (fun v34 w =>
        S.op (.indexAddr 28 v30 v34) w (fun v35 w =>
        S.op (.load 30 v35) w (fun v36 w =>
        S.op (.lookup 30 v36 a2 true) w (fun v40 w =>
        S.op (.extract v40 0) w (fun v41 w =>
        S.op (.extract v40 1) w (fun v42 w =>
        Br v42 (
          S.call (.fn 13) [] w (fun v44 w =>
          K v44 w) Kp) (
          S.op (.blt Builtin.len [25] 3 [a1]) w (fun v46 w =>
          S.call (.fn 15) [a1] w (fun v48 w =>
          S.op (.build 35 [(0, (Value.int IntKind.u8 0)), (1, v46), (2, a2), (3, a3)]) w (fun v52 w =>
          S.op (.bin BinOp.add 3 false true v46 (Value.int IntKind.i64 1)) w (fun v54 w =>
          S.op (.build 35 [(0, (Value.int IntKind.u8 1)), (1, v54), (2, a2)]) w (fun v56 w =>
          S.op (.build 35 [(0, (Value.int IntKind.u8 1)), (1, v46), (2, a2)]) w (fun v59 w =>
          S.op (.buildSlice 32 3 [(0, v52), (1, v56), (2, v59)]) w (fun v60 w =>
          S.op (.blt Builtin.append [32, 32] 32 [v48, v60]) w (fun v61 w =>
          S.op (.load 24 v4_h) w (fun v62 w =>
          S.call (.fn 16) [v62, v61] w (fun v64 w =>
          S.ld (.blt Builtin.len [36] 3 [v64]) w.drew (fun v66 =>
          S.pur (.bin BinOp.add 3 false true v46 (Value.int IntKind.i64 4)) (fun v68 =>
          S.pur (.bin BinOp.eql 3 false false v66 v68) (fun v69 =>
          Br v69 (
            S.pur (.bin BinOp.add 3 false true v46 (Value.int IntKind.i64 2)) (fun v73 =>
            S.pur (.indexAddr 36 v64 v73) (fun v74 =>
            S.ld (.load 41 v74) w.drew (fun v75 =>
            S.call (.fn 17) [v75, v36] w.drew (fun v77 w =>
            Br v77 (
              S.pur (.bin BinOp.add 3 false true v46 (Value.int IntKind.i64 3)) (fun v82 =>
              S.pur (.indexAddr 36 v64 v82) (fun v83 =>
              S.ld (.load 41 v83) w (fun v84 =>
              S.call (.fn 17) [v84, v36] w (fun v86 w =>
              Br v86 (
                S.pur (.bin BinOp.add 3 false true v46 (Value.int IntKind.i64 1)) (fun v91 =>
                S.pur (.indexAddr 36 v64 v91) (fun v92 =>
                S.pur (.fieldAddr 41 v92 0) (fun v93 =>
                S.ld (.load 3 v93) w (fun v94 =>
                S.ld (.blt Builtin.len [30] 3 [v36]) w (fun v96 =>
                S.pur (.bin BinOp.add 3 false true v96 (Value.int IntKind.i64 1)) (fun v97 =>
                S.pur (.bin BinOp.eql 3 false false v94 v97) (fun v98 =>
                Br v98 (
                  S.call (.fn 13) [] w (fun v101 w =>
                  K v101 w) Kp) (
                  K (Value.bool false) w))))))))) (
                K (Value.bool false) w)) Kp)))) (
              K (Value.bool false) w)) Kp)))) (
            K (Value.bool false) w.drew))))) Kp) Kp) Kp) Kp) Kp) Kp) Kp) Kp) Kp) Kp)) Kp) Kp) Kp) Kp) Kp) Kp) Kp) Kp)) Kp) Kp)) Kp) Kp) Kp)) Kp) Kp) Kp
theorem vc3_eq (S : Sig) (a0 a1 a2 a3 : Value) (w : World) (K : Value → World → Prop) (Kp : KP) : vc3 S a0 a1 a2 a3 w K Kp = fVC S [] [] Try.f3 [a0, a1, a2, a3] w K Kp := by kernel_rfl
theorem vc3_calls {a0 a1 a2 a3 : Value} {w : World} {K : Value → World → Prop} {Kp : KP} (h : vc3 (nice Try.prog) a0 a1 a2 a3 w K Kp) : Calls Try.prog 3 #[a0, a1, a2, a3] w (ret K Kp) :=
  fVC_sound (args := [a0, a1, a2, a3]) nice_le follows_MVcL Try.func3 (by kernel_rfl) (Eq.mp (vc3_eq _ _ _ _ _ _ _ _) h)

/-- pub-bracken/laws.FnMapRun -/
def vc4 (S : Sig) (a0 a1 : Value) (w : World) (K : Value → World → Prop) (Kp : KP) : Prop :=
  S.op (.box 24 a0) w (fun v2_h w =>
  S.op (.blt Builtin.len [25] 3 [a1]) w (fun v10 w =>
  S.op (.bin BinOp.gtr 3 false true v10 (Value.int IntKind.i64 2147483647)) w (fun v11 w =>
  Br v11 (
    K (Value.bool true) w) (
    S.op (.load 24 v2_h) w (fun v12 w =>
    S.call (.fn 12) [v12, a1] w (fun v14 w =>
    S.op (.un UnOp.not v14) w (fun v15 w =>
    Br v15 (
      S.call (.fn 13) [] w (fun v16 w =>
      K v16 w) Kp) (
      S.call (.fn 14) [a1] w (fun v18 w =>
      S.ld (.load 24 v2_h) w.drew (fun v19 =>
      S.call (.fn 15) [a1] w.drew (fun v21 w =>
      S.same (.load 24 v2_h) v19 w ∧
      S.call (.fn 16) [v19, v21] w (fun v22 w =>
      S.op (.blt Builtin.len [36] 3 [v22]) w (fun v24 w =>
      S.op (.blt Builtin.len [28] 3 [v18]) w (fun v26 w =>
      S.op (.bin BinOp.neq 3 false false v24 v26) w (fun v27 w =>
      Br v27 (
        K (Value.bool false) w) (
        S.op (.blt Builtin.len [36] 3 [v22]) w (fun v29 w =>
        Lp fun (I10 : Value → World → Prop) (μ10 : Value → World → Nat) => I10 (Value.int IntKind.i64 0) w ∧
        ∀ (wl10 : World) (junk : Nat → Value) (s30_ : Value), I10 s30_ wl10 →
          S.op (.bin BinOp.lss 3 false false s30_ v29) wl10 (fun v31 w =>
          Br v31 (
            S.op (.indexAddr 36 v22 s30_) w (fun v33 w =>
            S.op (.load 41 v33) w (fun v34 w =>
            S.op (.alloc 41) w (fun v8_x w =>
            S.op (.store 41 v8_x v34) w (fun _ w =>
            S.ld (.load 41 v8_x) w.drew (fun v35 =>
            S.pur (.indexAddr 28 v18 s30_) (fun v38 =>
            S.ld (.load 30 v38) w.drew (fun v39 =>
            S.call (.fn 17) [v35, v39] w.drew (fun v40 w =>
            S.pur (.un UnOp.not v40) (fun v41 =>
            Br v41 (
              K (Value.bool false) w) (
              S.op (.bin BinOp.add 3 false true s30_ (Value.int IntKind.i64 1)) w (fun v42 w =>
              I10 v42 w ∧ μ10 v42 w < μ10 s30_ wl10) Kp))) Kp)))) Kp) Kp) Kp) Kp) (
            S.call (.fn 13) [] w (fun v43 w =>
            K v43 w) Kp)) Kp) Kp)) Kp) Kp) Kp) Kp) Kp)) Kp)) Kp) Kp) Kp)) Kp) Kp) Kp
theorem vc4_eq (S : Sig) (a0 a1 : Value) (w : World) (K : Value → World → Prop) (Kp : KP) : vc4 S a0 a1 w K Kp = fVC S [(10, [30])] [] Try.f4 [a0, a1] w K Kp := by kernel_rfl
theorem vc4_calls {a0 a1 : Value} {w : World} {K : Value → World → Prop} {Kp : KP} (h : vc4 (nice Try.prog) a0 a1 w K Kp) : Calls Try.prog 4 #[a0, a1] w (ret K Kp) :=
  fVC_sound (args := [a0, a1]) nice_le follows_MVcL Try.func4 (by kernel_rfl) (Eq.mp (vc4_eq _ _ _ _ _ _) h)

/-- pub-bracken/laws.FnMapOf -/
def vc5 (S : Sig) (a0 a1 : Value) (w : World) (K : Value → World → Prop) (Kp : KP) : Prop :=
  S.op (.box 24 a0) w (fun v2_h w =>
  S.op (.blt Builtin.len [43] 3 [a1]) w (fun v10 w =>
  S.op (.bin BinOp.gtr 3 false true v10 (Value.int IntKind.i64 2147483647)) w (fun v11 w =>
  Br v11 (
    K (Value.bool true) w) (
    S.op (.mkMap 30 none) w (fun v12 w =>
    S.op (.blt Builtin.len [43] 3 [a1]) w (fun v14 w =>
    Lp fun (I6 : Value → Value → World → Prop) (μ6 : Value → Value → World → Nat) => I6 (Value.slice none 0 0) (Value.int IntKind.i64 0) w ∧
    ∀ (wl6 : World) (junk : Nat → Value) (s6_l : Value) (s15_ : Value), I6 s6_l s15_ wl6 →
      S.op (.bin BinOp.lss 3 false false s15_ v14) wl6 (fun v16 w =>
      Br v16 (
        S.op (.indexAddr 43 a1 s15_) w (fun v17 w =>
        S.op (.load 45 v17) w (fun v18 w =>
        S.op (.alloc 45) w (fun v8_p w =>
        S.op (.store 45 v8_p v18) w (fun _ w =>
        S.op (.fieldAddr 45 v8_p 0) w (fun v20 w =>
        S.op (.load 2 v20) w (fun v21 w =>
        S.op (.fieldAddr 45 v8_p 1) w (fun v22 w =>
        S.op (.load 2 v22) w (fun v23 w =>
        S.op (.mapUpdate 30 v12 v21 v23) w (fun _ w =>
        S.op (.load 45 v8_p) w (fun v25 w =>
        S.op (.buildSlice 39 1 [(0, v25)]) w (fun v26 w =>
        S.op (.blt Builtin.append [39, 39] 39 [s6_l, v26]) w (fun v27 w =>
        S.op (.bin BinOp.add 3 false true s15_ (Value.int IntKind.i64 1)) w (fun v28 w =>
        I6 v27 v28 w ∧ μ6 v27 v28 w < μ6 s6_l s15_ wl6) Kp) Kp) Kp) Kp) Kp) Kp) Kp) Kp) Kp) Kp) Kp) Kp) Kp) (
        S.op (.blt Builtin.len [30] 3 [v12]) w (fun v30 w =>
        S.op (.blt Builtin.len [43] 3 [a1]) w (fun v32 w =>
        S.op (.bin BinOp.neq 3 false false v30 v32) w (fun v33 w =>
        Br v33 (
          S.call (.fn 13) [] w (fun v44 w =>
          K v44 w) Kp) (
          S.op (.blt Builtin.len [43] 3 [a1]) w (fun v36 w =>
          S.op (.bin BinOp.gtr 3 false true v36 (Value.int IntKind.i64 2000)) w (fun v37 w =>
          Br v37 (
            S.call (.fn 13) [] w (fun v44 w =>
            K v44 w) Kp) (
            S.op (.fieldAddr 24 v2_h 2) w (fun v40 w =>
            S.op (.load 5 v40) w (fun v41 w =>
            S.op (.bin BinOp.geq 5 false true v41 (Value.int IntKind.u8 32)) w (fun v42 w =>
            Br v42 (
              S.call (.fn 13) [] w (fun v44 w =>
              K v44 w) Kp) (
              S.op (.load 24 v2_h) w (fun v45 w =>
              S.call (.fn 18) [v45, s6_l] w (fun v47 w =>
              S.call (.fn 17) [v47, v12] w (fun v49 w =>
              Br v49 (
                S.call (.fn 13) [] w (fun v51 w =>
                K v51 w) Kp) (
                K (Value.bool false) w)) Kp) Kp) Kp)) Kp) Kp) Kp)) Kp) Kp)) Kp) Kp) Kp)) Kp) Kp) Kp)) Kp) Kp) Kp
theorem vc5_eq (S : Sig) (a0 a1 : Value) (w : World) (K : Value → World → Prop) (Kp : KP) : vc5 S a0 a1 w K Kp = fVC S [(6, [6, 15])] [] Try.f5 [a0, a1] w K Kp := by kernel_rfl
theorem vc5_calls {a0 a1 : Value} {w : World} {K : Value → World → Prop} {Kp : KP} (h : vc5 (nice Try.prog) a0 a1 w K Kp) : Calls Try.prog 5 #[a0, a1] w (ret K Kp) :=
  fVC_sound (args := [a0, a1]) nice_le follows_MVcL Try.func5 (by kernel_rfl) (Eq.mp (vc5_eq _ _ _ _ _ _) h)

/-- pub-bracken/laws.FnMapWalk -/
def vc6 (S : Sig) (a0 a1 a2 a3 : Value) (w : World) (K : Value → World → Prop) (Kp : KP) : Prop :=
  S.op (.box 24 a0) w (fun v4_h w =>
  S.op (.blt Builtin.len [25] 3 [a1]) w (fun v20 w =>
  S.op (.bin BinOp.gtr 3 false true v20 (Value.int IntKind.i64 2147483647)) w (fun v21 w =>
  Br v21 (
    K (Value.bool true) w) (
    S.op (.blt Builtin.len [49] 3 [a3]) w (fun v24 w =>
    S.op (.bin BinOp.gtr 3 false true v24 (Value.int IntKind.i64 2147483647)) w (fun v25 w =>
    Br v25 (
      K (Value.bool true) w) (
      S.op (.load 24 v4_h) w (fun v27 w =>
      S.call (.fn 12) [v27, a1] w (fun v29 w =>
      S.op (.un UnOp.not v29) w (fun v30 w =>
      Br v30 (
        S.call (.fn 13) [] w (fun v36 w =>
        K v36 w) Kp) (
        S.op (.blt Builtin.len [49] 3 [a3]) w (fun v33 w =>
        S.op (.bin BinOp.gtr 3 false true v33 (Value.int IntKind.i64 500)) w (fun v34 w =>
        Br v34 (
          S.call (.fn 13) [] w (fun v36 w =>
          K v36 w) Kp) (
          S.ld (.load 24 v4_h) w.drew (fun v37 =>
          S.call (.fn 15) [a1] w.drew (fun v39 w =>
          S.same (.load 24 v4_h) v37 w ∧
          S.call (.fn 16) [v37, v39] w (fun v40 w =>
          S.op (.blt Builtin.len [36] 3 [v40]) w (fun v42 w =>
          S.op (.blt Builtin.len [25] 3 [a1]) w (fun v44 w =>
          S.op (.bin BinOp.add 3 false true v44 (Value.int IntKind.i64 1)) w (fun v45 w =>
          S.op (.bin BinOp.neq 3 false false v42 v45) w (fun v46 w =>
          Br v46 (
            K (Value.bool false) w) (
            S.op (.conv 5 3 a2) w (fun v48 w =>
            S.op (.blt Builtin.len [36] 3 [v40]) w (fun v50 w =>
            S.op (.bin BinOp.rem 3 false false v48 v50) w (fun v51 w =>
            S.op (.indexAddr 36 v40 v51) w (fun v54 w =>
            S.op (.fieldAddr 41 v54 1) w (fun v55 w =>
            S.op (.load 39 v55) w (fun v56 w =>
            S.ld (.load 24 v4_h) w.drew (fun v58 =>
            S.call (.fn 15) [a1] w.drew (fun v60 w =>
            S.same (.load 24 v4_h) v58 w ∧
            S.call (.fn 19) [v58, v60, v51, a3] w (fun v63 w =>
            S.pur (.extract v63 0) (fun v64 =>
            S.pur (.extract v63 1) (fun v65 =>
            S.pur (.extract v63 2) (fun v66 =>
            S.pur (.extract v63 3) (fun v67 =>
            S.op (.blt Builtin.len [39] 3 [v56]) w (fun v70 w =>
            S.op (.bin BinOp.eql 3 false true v70 (Value.int IntKind.i64 0)) w (fun v71 w =>
            S.op (.bin BinOp.neq 4 false false v64 v71) w (fun v72 w =>
            Br v72 (
              K (Value.bool false) w) (
              S.op (.blt Builtin.len [39] 3 [v65]) w (fun v75 w =>
              S.op (.blt Builtin.len [49] 3 [a3]) w (fun v77 w =>
              S.op (.bin BinOp.neq 3 false false v75 v77) w (fun v78 w =>
              Br v78 (
                K (Value.bool false) w) (
                S.op (.blt Builtin.len [49] 3 [v66]) w (fun v82 w =>
                S.op (.blt Builtin.len [49] 3 [a3]) w (fun v84 w =>
                S.op (.bin BinOp.neq 3 false false v82 v84) w (fun v85 w =>
                Br v85 (
                  K (Value.bool false) w) (
                  S.op (.blt Builtin.len [49] 3 [v67]) w (fun v89 w =>
                  S.op (.blt Builtin.len [49] 3 [a3]) w (fun v91 w =>
                  S.op (.bin BinOp.neq 3 false false v89 v91) w (fun v92 w =>
                  Br v92 (
                    K (Value.bool false) w) (
                    S.op (.blt Builtin.len [49] 3 [a3]) w (fun v95 w =>
                    Lp fun (I15 : Value → Value → World → Prop) (μ15 : Value → Value → World → Nat) => I15 (Value.int IntKind.i64 0) (Value.int IntKind.i64 0) w ∧
                    ∀ (wl15 : World) (junk : Nat → Value) (s16_at : Value) (s96_ : Value), I15 s16_at s96_ wl15 →
                      S.op (.bin BinOp.lss 3 false false s96_ v95) wl15 (fun v97 w =>
                      Br v97 (
                        S.op (.indexAddr 49 a3 s96_) w (fun v99 w =>
                        S.op (.load 4 v99) w (fun v100 w =>
                        Jn fun (J25 : Value → World → Prop) =>
                        (Br v100 (
                            J25 (Value.int IntKind.i64 0) w) (
                            S.op (.blt Builtin.len [39] 3 [v56]) w (fun v110 w =>
                            S.op (.bin BinOp.lss 3 false false s16_at v110) w (fun v111 w =>
                            Br v111 (
                              S.pur (.indexAddr 49 v66 s96_) (fun v114 =>
                              S.ld (.load 4 v114) w.drew (fun v115 =>
                              S.pur (.un UnOp.not v115) (fun v116 =>
                              Br v116 (
                                K (Value.bool false) w.drew) (
                                S.pur (.indexAddr 39 v65 s96_) (fun v120 =>
                                S.ld (.load 46 v120) w.drew (fun v121 =>
                                S.pur (.indexAddr 39 v56 s16_at) (fun v124 =>
                                S.ld (.load 46 v124) w.drew (fun v125 =>
                                S.pur (.bin BinOp.neq 46 false false v121 v125) (fun v126 =>
                                Br v126 (
                                  K (Value.bool false) w.drew) (
                                  S.op (.bin BinOp.add 3 false true s16_at (Value.int IntKind.i64 1)) w.drew (fun v129 w =>
                                  J25 v129 w) Kp))))))))))) (
                              S.op (.indexAddr 49 v66 s96_) w (fun v103 w =>
                              S.op (.load 4 v103) w (fun v104 w =>
                              Br v104 (
                                K (Value.bool false) w) (
                                J25 s16_at w)) Kp) Kp)) Kp) Kp)) ∧
                        (∀ (w : World) (junk : Nat → Value) (j16_at : Value), J25 j16_at w →
                          S.op (.indexAddr 49 v67 s96_) w (fun v132 w =>
                          S.op (.load 4 v132) w (fun v133 w =>
                          S.op (.blt Builtin.len [39] 3 [v56]) w (fun v136 w =>
                          S.op (.bin BinOp.eql 3 false false j16_at v136) w (fun v137 w =>
                          S.op (.bin BinOp.neq 4 false false v133 v137) w (fun v138 w =>
                          Br v138 (
                            K (Value.bool false) w) (
                            S.op (.bin BinOp.add 3 false true s96_ (Value.int IntKind.i64 1)) w (fun v139 w =>
                            I15 j16_at v139 w ∧ μ15 j16_at v139 w < μ15 s16_at s96_ wl15) Kp)) Kp) Kp) Kp) Kp) Kp)) Kp) Kp) (
                        S.call (.fn 13) [] w (fun v140 w =>
                        K v140 w) Kp)) Kp) Kp)) Kp) Kp) Kp)) Kp) Kp) Kp)) Kp) Kp) Kp)) Kp) Kp) Kp))))) Kp) Kp)) Kp) Kp) Kp) Kp) Kp) Kp)) Kp) Kp) Kp) Kp) Kp) Kp))) Kp) Kp)) Kp) Kp) Kp)) Kp) Kp)) Kp) Kp) Kp
theorem vc6_eq (S : Sig) (a0 a1 a2 a3 : Value) (w : World) (K : Value → World → Prop) (Kp : KP) : vc6 S a0 a1 a2 a3 w K Kp = fVC S [(15, [16, 96])] [(25, [16])] Try.f6 [a0, a1, a2, a3] w K Kp := by kernel_rfl
theorem vc6_calls {a0 a1 a2 a3 : Value} {w : World} {K : Value → World → Prop} {Kp : KP} (h : vc6 (nice Try.prog) a0 a1 a2 a3 w K Kp) : Calls Try.prog 6 #[a0, a1, a2, a3] w (ret K Kp) :=
  fVC_sound (args := [a0, a1, a2, a3]) nice_le follows_MVcL Try.func6 (by kernel_rfl) (Eq.mp (vc6_eq _ _ _ _ _ _ _ _) h)

/-- pub-bracken/laws.FnMapGet -/
def vc8 (S : Sig) (a0 a1 a2 a3 : Value) (w : World) (K : Value → World → Prop) (Kp : KP) : Prop :=
  S.op (.box 24 a0) w (fun v4_h w =>
  S.op (.blt Builtin.len [25] 3 [a1]) w (fun v18 w =>
  S.op (.bin BinOp.gtr 3 false true v18 (Value.int IntKind.i64 2147483647)) w (fun v19 w =>
  Br v19 (
    K (Value.bool true) w) (
    S.op (.blt Builtin.len [65] 3 [a3]) w (fun v22 w =>
    S.op (.bin BinOp.gtr 3 false true v22 (Value.int IntKind.i64 2147483647)) w (fun v23 w =>
    Br v23 (
      K (Value.bool true) w) (
      S.op (.load 24 v4_h) w (fun v25 w =>
      S.call (.fn 12) [v25, a1] w (fun v27 w =>
      S.op (.un UnOp.not v27) w (fun v28 w =>
      Br v28 (
        S.call (.fn 13) [] w (fun v34 w =>
        K v34 w) Kp) (
        S.op (.blt Builtin.len [65] 3 [a3]) w (fun v31 w =>
        S.op (.bin BinOp.gtr 3 false true v31 (Value.int IntKind.i64 300)) w (fun v32 w =>
        Br v32 (
          S.call (.fn 13) [] w (fun v34 w =>
          K v34 w) Kp) (
          S.call (.fn 14) [a1] w (fun v36 w =>
          S.op (.conv 5 3 a2) w (fun v38 w =>
          S.op (.blt Builtin.len [28] 3 [v36]) w (fun v40 w =>
          S.op (.bin BinOp.rem 3 false false v38 v40) w (fun v41 w =>
          S.ld (.load 24 v4_h) w.drew (fun v43 =>
          S.call (.fn 15) [a1] w.drew (fun v45 w =>
          S.same (.load 24 v4_h) v43 w ∧
          S.call (.fn 23) [v43, v45, v41, a3] w (fun v48 w =>
          S.pur (.extract v48 0) (fun v49 =>
          S.pur (.extract v48 1) (fun v50 =>
          S.op (.blt Builtin.len [65] 3 [v49]) w (fun v52 w =>
          S.op (.blt Builtin.len [65] 3 [a3]) w (fun v54 w =>
          S.op (.bin BinOp.neq 3 false false v52 v54) w (fun v55 w =>
          Br v55 (
            K (Value.bool false) w) (
            S.op (.blt Builtin.len [49] 3 [v50]) w (fun v58 w =>
            S.op (.blt Builtin.len [65] 3 [a3]) w (fun v60 w =>
            S.op (.bin BinOp.neq 3 false false v58 v60) w (fun v61 w =>
            Br v61 (
              K (Value.bool false) w) (
              S.op (.blt Builtin.len [65] 3 [a3]) w (fun v64 w =>
              Lp fun (I11 : Value → World → Prop) (μ11 : Value → World → Nat) => I11 (Value.int IntKind.i64 0) w ∧
              ∀ (wl11 : World) (junk : Nat → Value) (s65_ : Value), I11 s65_ wl11 →
                S.op (.bin BinOp.lss 3 false false s65_ v64) wl11 (fun v66 w =>
                Br v66 (
                  S.op (.indexAddr 65 a3 s65_) w (fun v68 w =>
                  S.op (.load 2 v68) w (fun v69 w =>
                  S.op (.indexAddr 28 v36 v41) w (fun v73 w =>
                  S.op (.load 30 v73) w (fun v74 w =>
                  S.op (.lookup 30 v74 v69 true) w (fun v76 w =>
                  S.op (.extract v76 0) w (fun v77 w =>
                  S.op (.extract v76 1) w (fun v78 w =>
                  S.op (.indexAddr 49 v50 s65_) w (fun v81 w =>
                  S.op (.load 4 v81) w (fun v82 w =>
                  S.op (.bin BinOp.neq 4 false false v82 v78) w (fun v84 w =>
                  Br v84 (
                    K (Value.bool false) w) (
                    S.op (.indexAddr 65 v49 s65_) w (fun v88 w =>
                    S.op (.load 2 v88) w (fun v89 w =>
                    S.op (.bin BinOp.neq 2 false false v89 v77) w (fun v91 w =>
                    Br v91 (
                      K (Value.bool false) w) (
                      S.op (.bin BinOp.add 3 false true s65_ (Value.int IntKind.i64 1)) w (fun v93 w =>
                      I11 v93 w ∧ μ11 v93 w < μ11 s65_ wl11) Kp)) Kp) Kp) Kp)) Kp) Kp) Kp) Kp) Kp) Kp) Kp) Kp) Kp) Kp) (
                  S.call (.fn 13) [] w (fun v94 w =>
                  K v94 w) Kp)) Kp) Kp)) Kp) Kp) Kp)) Kp) Kp) Kp))) Kp) Kp)) Kp) Kp) Kp) Kp)) Kp) Kp)) Kp) Kp) Kp)) Kp) Kp)) Kp) Kp) Kp
theorem vc8_eq (S : Sig) (a0 a1 a2 a3 : Value) (w : World) (K : Value → World → Prop) (Kp : KP) : vc8 S a0 a1 a2 a3 w K Kp = fVC S [(11, [65])] [] Try.f8 [a0, a1, a2, a3] w K Kp := by kernel_rfl
theorem vc8_calls {a0 a1 a2 a3 : Value} {w : World} {K : Value → World → Prop} {Kp : KP} (h : vc8 (nice Try.prog) a0 a1 a2 a3 w K Kp) : Calls Try.prog 8 #[a0, a1, a2, a3] w (ret K Kp) :=
  fVC_sound (args := [a0, a1, a2, a3]) nice_le follows_MVcL Try.func8 (by kernel_rfl) (Eq.mp (vc8_eq _ _ _ _ _ _ _ _) h)

/-- pub-bracken/laws.FnMapOrder -/
def vc9 (S : Sig) (a0 a1 a2 : Value) (w : World) (K : Value → World → Prop) (Kp : KP) : Prop :=
  S.op (.box 24 a0) w (fun v3_h w =>
  S.op (.blt Builtin.len [43] 3 [a1]) w (fun v24 w =>
  S.op (.bin BinOp.gtr 3 false true v24 (Value.int IntKind.i64 2147483647)) w (fun v25 w =>
  Br v25 (
    K (Value.bool true) w) (
    S.op (.blt Builtin.len [43] 3 [a1]) w (fun v27 w =>
    S.op (.bin BinOp.gtr 3 false true v27 (Value.int IntKind.i64 200)) w (fun v28 w =>
    Br v28 (
      S.call (.fn 13) [] w (fun v34 w =>
      K v34 w) Kp) (
      S.op (.fieldAddr 24 v3_h 2) w (fun v30 w =>
      S.op (.load 5 v30) w (fun v31 w =>
      S.op (.bin BinOp.geq 5 false true v31 (Value.int IntKind.u8 32)) w (fun v32 w =>
      Br v32 (
        S.call (.fn 13) [] w (fun v34 w =>
        K v34 w) Kp) (
        S.op (.mkMap 30 none) w (fun v35 w =>
        S.op (.blt Builtin.len [43] 3 [a1]) w (fun v37 w =>
        Lp fun (I9 : Value → Value → Value → World → Prop) (μ9 : Value → Value → Value → World → Nat) => I9 (Value.slice none 0 0) (Value.slice none 0 0) (Value.int IntKind.i64 0) w ∧
        ∀ (wl9 : World) (junk : Nat → Value) (s8_one : Value) (s10_keys : Value) (s38_ : Value), I9 s8_one s10_keys s38_ wl9 →
          S.op (.bin BinOp.lss 3 false false s38_ v37) wl9 (fun v39 w =>
          Br v39 (
            S.op (.indexAddr 43 a1 s38_) w (fun v41 w =>
            S.op (.load 45 v41) w (fun v42 w =>
            S.op (.alloc 45) w (fun v12_p w =>
            S.op (.store 45 v12_p v42) w (fun _ w =>
            S.op (.fieldAddr 45 v12_p 0) w (fun v44 w =>
            S.op (.load 2 v44) w (fun v45 w =>
            S.op (.fieldAddr 45 v12_p 1) w (fun v46 w =>
            S.op (.load 2 v46) w (fun v47 w =>
            S.op (.mapUpdate 30 v35 v45 v47) w (fun _ w =>
            S.op (.fieldAddr 45 v12_p 0) w (fun v50 w =>
            S.op (.load 2 v50) w (fun v51 w =>
            S.op (.fieldAddr 45 v12_p 1) w (fun v52 w =>
            S.op (.load 2 v52) w (fun v53 w =>
            S.op (.build 35 [(0, (Value.int IntKind.u8 0)), (1, s38_), (2, v51), (3, v53)]) w (fun v54 w =>
            S.op (.buildSlice 32 1 [(0, v54)]) w (fun v55 w =>
            S.op (.blt Builtin.append [32, 32] 32 [s8_one, v55]) w (fun v56 w =>
            S.op (.fieldAddr 45 v12_p 0) w (fun v58 w =>
            S.op (.load 2 v58) w (fun v59 w =>
            S.op (.buildSlice 65 1 [(0, v59)]) w (fun v60 w =>
            S.op (.blt Builtin.append [65, 65] 65 [s10_keys, v60]) w (fun v61 w =>
            S.op (.bin BinOp.add 3 false true s38_ (Value.int IntKind.i64 1)) w (fun v62 w =>
            I9 v56 v61 v62 w ∧ μ9 v56 v61 v62 w < μ9 s8_one s10_keys s38_ wl9) Kp) Kp) Kp) Kp) Kp) Kp) Kp) Kp) Kp) Kp) Kp) Kp) Kp) Kp) Kp) Kp) Kp) Kp) Kp) Kp) Kp) (
            S.op (.blt Builtin.len [30] 3 [v35]) w (fun v64 w =>
            S.op (.blt Builtin.len [43] 3 [a1]) w (fun v66 w =>
            S.op (.bin BinOp.neq 3 false false v64 v66) w (fun v67 w =>
            Br v67 (
              S.call (.fn 13) [] w (fun v68 w =>
              K v68 w) Kp) (
              Jn fun (J20 : Value → World → Prop) =>
              (S.op (.blt Builtin.len [43] 3 [a1]) w (fun v70 w =>
                S.op (.bin BinOp.gtr 3 false true v70 (Value.int IntKind.i64 0)) w (fun v71 w =>
                Br v71 (
                  S.op (.conv 5 3 a2) w (fun v73 w =>
                  S.op (.blt Builtin.len [43] 3 [a1]) w (fun v75 w =>
                  S.op (.bin BinOp.rem 3 false false v73 v75) w (fun v76 w =>
                  J20 v76 w) Kp) Kp) Kp) (
                  J20 (Value.int IntKind.i64 0) w)) Kp) Kp) ∧
              (∀ (w : World) (junk : Nat → Value) (j13_k : Value), J20 j13_k w →
                S.pur (.slice 43 a1 (some j13_k) none none) (fun v80 =>
                S.pur (.slice 43 a1 none (some j13_k) none) (fun v84 =>
                S.op (.buildSlice 43 0 []) w.drew (fun v77 w =>
                S.op (.blt Builtin.append [43, 43] 43 [v77, v80]) w (fun v81 w =>
                S.op (.blt Builtin.append [43, 43] 43 [v81, v84]) w (fun v85 w =>
                S.call (.fn 24) [v85] w (fun v87 w =>
                S.op (.blt Builtin.len [43] 3 [v85]) w (fun v89 w =>
                Lp fun (I23 : Value → Value → World → Prop) (μ23 : Value → Value → World → Nat) => I23 (Value.slice none 0 0) (Value.int IntKind.i64 0) w ∧
                ∀ (wl23 : World) (junk : Nat → Value) (s9_two : Value) (s90_ : Value), I23 s9_two s90_ wl23 →
                  S.op (.bin BinOp.lss 3 false false s90_ v89) wl23 (fun v91 w =>
                  Br v91 (
                    S.op (.indexAddr 43 v85 s90_) w (fun v93 w =>
                    S.op (.load 45 v93) w (fun v94 w =>
                    S.op (.alloc 45) w (fun v16_p w =>
                    S.op (.store 45 v16_p v94) w (fun _ w =>
                    S.op (.fieldAddr 45 v16_p 0) w (fun v97 w =>
                    S.op (.load 2 v97) w (fun v98 w =>
                    S.op (.fieldAddr 45 v16_p 1) w (fun v99 w =>
                    S.op (.load 2 v99) w (fun v100 w =>
                    S.op (.build 35 [(0, (Value.int IntKind.u8 0)), (1, s90_), (2, v98), (3, v100)]) w (fun v101 w =>
                    S.op (.buildSlice 32 1 [(0, v101)]) w (fun v102 w =>
                    S.op (.blt Builtin.append [32, 32] 32 [s9_two, v102]) w (fun v103 w =>
                    S.op (.bin BinOp.add 3 false true s90_ (Value.int IntKind.i64 1)) w (fun v104 w =>
                    I23 v103 v104 w ∧ μ23 v103 v104 w < μ23 s9_two s90_ wl23) Kp) Kp) Kp) Kp) Kp) Kp) Kp) Kp) Kp) Kp) Kp) Kp) (
                    S.op (.load 24 v3_h) w (fun v106 w =>
                    S.op (.blt Builtin.len [32] 3 [s8_one]) w (fun v109 w =>
                    S.call (.fn 23) [v106, s8_one, v109, s10_keys] w (fun v111 w =>
                    S.op (.extract v111 0) w (fun v112 w =>
                    S.op (.extract v111 1) w (fun v113 w =>
                    S.op (.load 24 v3_h) w (fun v115 w =>
                    S.op (.blt Builtin.len [32] 3 [s9_two]) w (fun v118 w =>
                    S.call (.fn 23) [v115, s9_two, v118, s10_keys] w (fun v120 w =>
                    S.op (.extract v120 0) w (fun v121 w =>
                    S.op (.extract v120 1) w (fun v122 w =>
                    S.ld (.load 24 v3_h) w.drew (fun v123 =>
                    S.ld (.load 24 v3_h) w.drew (fun v126 =>
                    S.call (.fn 16) [v123, s8_one] w.drew (fun v125 w =>
                    S.same (.load 24 v3_h) v126 w ∧
                    S.call (.fn 16) [v126, s8_one] w (fun v128 w =>
                    S.call (.fn 25) [v112, v121] w (fun v131 w =>
                    S.op (.un UnOp.not v131) w (fun v132 w =>
                    Br v132 (
                      K (Value.bool false) w) (
                      S.call (.fn 26) [v113, v122] w (fun v136 w =>
                      S.op (.un UnOp.not v136) w (fun v137 w =>
                      Br v137 (
                        K (Value.bool false) w) (
                        S.op (.blt Builtin.len [65] 3 [v112]) w (fun v141 w =>
                        S.op (.blt Builtin.len [65] 3 [s10_keys]) w (fun v143 w =>
                        S.op (.bin BinOp.neq 3 false false v141 v143) w (fun v144 w =>
                        Br v144 (
                          K (Value.bool false) w) (
                          S.op (.blt Builtin.len [36] 3 [v125]) w (fun v148 w =>
                          S.op (.blt Builtin.len [32] 3 [s8_one]) w (fun v150 w =>
                          S.op (.bin BinOp.add 3 false true v150 (Value.int IntKind.i64 1)) w (fun v151 w =>
                          S.op (.bin BinOp.neq 3 false false v148 v151) w (fun v152 w =>
                          Br v152 (
                            K (Value.bool false) w) (
                            S.op (.blt Builtin.len [36] 3 [v128]) w (fun v156 w =>
                            S.op (.blt Builtin.len [36] 3 [v125]) w (fun v158 w =>
                            S.op (.bin BinOp.neq 3 false false v156 v158) w (fun v159 w =>
                            Br v159 (
                              K (Value.bool false) w) (
                              S.ld (.blt Builtin.len [32] 3 [s8_one]) w.drew (fun v163 =>
                              S.pur (.indexAddr 36 v125 v163) (fun v164 =>
                              S.pur (.fieldAddr 41 v164 1) (fun v165 =>
                              S.ld (.load 39 v165) w.drew (fun v166 =>
                              S.ld (.blt Builtin.len [32] 3 [s8_one]) w.drew (fun v169 =>
                              S.pur (.indexAddr 36 v128 v169) (fun v170 =>
                              S.pur (.fieldAddr 41 v170 1) (fun v171 =>
                              S.ld (.load 39 v171) w.drew (fun v172 =>
                              S.call (.fn 27) [v166, v172] w.drew (fun v173 w =>
                              Br v173 (
                                S.call (.fn 13) [] w (fun v175 w =>
                                K v175 w) Kp) (
                                K (Value.bool false) w)) Kp)))))))))) Kp) Kp) Kp)) Kp) Kp) Kp) Kp)) Kp) Kp) Kp)) Kp) Kp)) Kp) Kp) Kp) Kp))) Kp) Kp) Kp) Kp) Kp) Kp) Kp) Kp) Kp) Kp)) Kp) Kp) Kp) Kp) Kp) Kp))))) Kp) Kp) Kp)) Kp) Kp) Kp)) Kp) Kp) Kp)) Kp) Kp)) Kp) Kp) Kp
theorem vc9_eq (S : Sig) (a0 a1 a2 : Value) (w : World) (K : Value → World → Prop) (Kp : KP) : vc9 S a0 a1 a2 w K Kp = fVC S [(9, [8, 10, 38]), (23, [9, 90])] [(20, [13])] Try.f9 [a0, a1, a2] w K Kp := by kernel_rfl
theorem vc9_calls {a0 a1 a2 : Value} {w : World} {K : Value → World → Prop} {Kp : KP} (h : vc9 (nice Try.prog) a0 a1 a2 w K Kp) : Calls Try.prog 9 #[a0, a1, a2] w (ret K Kp) :=
  fVC_sound (args := [a0, a1, a2]) nice_le follows_MVcL Try.func9 (by kernel_rfl) (Eq.mp (vc9_eq _ _ _ _ _ _ _) h)

/-- pub-bracken/laws.FnMapBuild -/
def vc11 (S : Sig) (a0 a1 a2 : Value) (w : World) (K : Value → World → Prop) (Kp : KP) : Prop :=
  S.op (.box 24 a0) w (fun v3_h w =>
  S.op (.blt Builtin.len [25] 3 [a1]) w (fun v21 w =>
  S.op (.bin BinOp.gtr 3 false true v21 (Value.int IntKind.i64 2147483647)) w (fun v22 w =>
  Br v22 (
    K (Value.bool true) w) (
    S.op (.blt Builtin.len [65] 3 [a2]) w (fun v25 w =>
    S.op (.bin BinOp.gtr 3 false true v25 (Value.int IntKind.i64 2147483647)) w (fun v26 w =>
    Br v26 (
      K (Value.bool true) w) (
      S.call (.fn 30) [a1] w (fun v29 w =>
      S.op (.blt Builtin.len [25] 3 [v29]) w (fun v31 w =>
      Lp fun (I5 : Value → World → Prop) (μ5 : Value → World → Nat) => I5 (Value.int IntKind.i64 0) w ∧
      ∀ (wl5 : World) (junk : Nat → Value) (s32_ : Value), I5 s32_ wl5 →
        S.op (.bin BinOp.lss 3 false false s32_ v31) wl5 (fun v33 w =>
        Br v33 (
          S.op (.indexAddr 25 v29 s32_) w (fun v38 w =>
          S.op (.fieldAddr 82 v38 1) w (fun v39 w =>
          S.op (.store 3 v39 s32_) w (fun _ w =>
          S.op (.bin BinOp.add 3 false true s32_ (Value.int IntKind.i64 1)) w (fun v40 w =>
          I5 v40 w ∧ μ5 v40 w < μ5 s32_ wl5) Kp) Kp) Kp) Kp) (
          S.op (.load 24 v3_h) w (fun v41 w =>
          S.call (.fn 12) [v41, v29] w (fun v43 w =>
          S.op (.un UnOp.not v43) w (fun v44 w =>
          Br v44 (
            S.call (.fn 13) [] w (fun v50 w =>
            K v50 w) Kp) (
            S.op (.blt Builtin.len [65] 3 [a2]) w (fun v47 w =>
            S.op (.bin BinOp.gtr 3 false true v47 (Value.int IntKind.i64 300)) w (fun v48 w =>
            Br v48 (
              S.call (.fn 13) [] w (fun v50 w =>
              K v50 w) Kp) (
              S.call (.fn 14) [v29] w (fun v52 w =>
              S.op (.blt Builtin.len [28] 3 [v52]) w (fun v55 w =>
              S.op (.bin BinOp.sub 3 false true v55 (Value.int IntKind.i64 1)) w (fun v56 w =>
              S.op (.indexAddr 28 v52 v56) w (fun v57 w =>
              S.op (.load 30 v57) w (fun v58 w =>
              Jn fun (J14 : Value → Value → Value → Value → Value → World → Prop) =>
              (S.ld (.load 24 v3_h) w.drew (fun v60 =>
                (S.call (.fn 15) [v29] w.drew (fun v62 w =>
                  S.same (.load 24 v3_h) v60 w ∧
                  (S.call (.fn 31) [v60, v62, a2] w (fun v64 w =>
                    S.pur (.extract v64 0) (fun v65 =>
                    S.pur (.extract v64 1) (fun v66 =>
                    S.pur (.extract v64 2) (fun v67 =>
                    S.pur (.extract v64 3) (fun v68 =>
                    S.pur (.extract v64 4) (fun v69 =>
                    (S.op (.alloc 41) w (fun v11_builder w =>
                      S.op (.alloc 41) w (fun v12_made w =>
                      S.op (.store 41 v11_builder v65) w (fun _ w =>
                      S.op (.store 41 v12_made v66) w (fun _ w =>
                      J14 v11_builder v12_made v67 v68 v69 w) Kp) Kp) Kp) Kp) ∧ (S.op (.alloc 41) w (fun v12_made w =>
                      S.op (.alloc 41) w (fun v11_builder w =>
                      S.op (.store 41 v11_builder v65) w (fun _ w =>
                      S.op (.store 41 v12_made v66) w (fun _ w =>
                      J14 v11_builder v12_made v67 v68 v69 w) Kp) Kp) Kp) Kp))))))) Kp) ∧ (S.op (.alloc 41) w (fun v11_builder w =>
                    S.same (.load 24 v3_h) v60 w ∧
                    (S.call (.fn 31) [v60, v62, a2] w (fun v64 w =>
                      S.pur (.extract v64 0) (fun v65 =>
                      S.pur (.extract v64 1) (fun v66 =>
                      S.pur (.extract v64 2) (fun v67 =>
                      S.pur (.extract v64 3) (fun v68 =>
                      S.pur (.extract v64 4) (fun v69 =>
                      S.op (.alloc 41) w (fun v12_made w =>
                      S.op (.store 41 v11_builder v65) w (fun _ w =>
                      S.op (.store 41 v12_made v66) w (fun _ w =>
                      J14 v11_builder v12_made v67 v68 v69 w) Kp) Kp) Kp)))))) Kp) ∧ (S.op (.alloc 41) w (fun v12_made w =>
                      S.same (.load 24 v3_h) v60 w ∧
                      S.call (.fn 31) [v60, v62, a2] w (fun v64 w =>
                      S.pur (.extract v64 0) (fun v65 =>
                      S.pur (.extract v64 1) (fun v66 =>
                      S.pur (.extract v64 2) (fun v67 =>
                      S.pur (.extract v64 3) (fun v68 =>
                      S.pur (.extract v64 4) (fun v69 =>
                      S.op (.store 41 v11_builder v65) w (fun _ w =>
                      S.op (.store 41 v12_made v66) w (fun _ w =>
                      J14 v11_builder v12_made v67 v68 v69 w) Kp) Kp)))))) Kp) Kp)) Kp) ∧ (S.op (.alloc 41) w (fun v12_made w =>
                    S.same (.load 24 v3_h) v60 w ∧
                    (S.call (.fn 31) [v60, v62, a2] w (fun v64 w =>
                      S.pur (.extract v64 0) (fun v65 =>
                      S.pur (.extract v64 1) (fun v66 =>
                      S.pur (.extract v64 2) (fun v67 =>
                      S.pur (.extract v64 3) (fun v68 =>
                      S.pur (.extract v64 4) (fun v69 =>
                      S.op (.alloc 41) w (fun v11_builder w =>
                      S.op (.store 41 v11_builder v65) w (fun _ w =>
                      S.op (.store 41 v12_made v66) w (fun _ w =>
                      J14 v11_builder v12_made v67 v68 v69 w) Kp) Kp) Kp)))))) Kp) ∧ (S.op (.alloc 41) w (fun v11_builder w =>
                      S.same (.load 24 v3_h) v60 w ∧
                      S.call (.fn 31) [v60, v62, a2] w (fun v64 w =>
                      S.pur (.extract v64 0) (fun v65 =>
                      S.pur (.extract v64 1) (fun v66 =>
                      S.pur (.extract v64 2) (fun v67 =>
                      S.pur (.extract v64 3) (fun v68 =>
                      S.pur (.extract v64 4) (fun v69 =>
                      S.op (.store 41 v11_builder v65) w (fun _ w =>
                      S.op (.store 41 v12_made v66) w (fun _ w =>
                      J14 v11_builder v12_made v67 v68 v69 w) Kp) Kp)))))) Kp) Kp)) Kp)) Kp) ∧ (S.op (.alloc 41) w.drew (fun v11_builder w =>
                  S.same (.load 24 v3_h) v60 w ∧
                  (S.call (.fn 15) [v29] w (fun v62 w =>
                    S.same (.load 24 v3_h) v60 w ∧
                    (S.call (.fn 31) [v60, v62, a2] w (fun v64 w =>
                      S.pur (.extract v64 0) (fun v65 =>
                      S.pur (.extract v64 1) (fun v66 =>
                      S.pur (.extract v64 2) (fun v67 =>
                      S.pur (.extract v64 3) (fun v68 =>
                      S.pur (.extract v64 4) (fun v69 =>
                      S.op (.alloc 41) w (fun v12_made w =>
                      S.op (.store 41 v11_builder v65) w (fun _ w =>
                      S.op (.store 41 v12_made v66) w (fun _ w =>
                      J14 v11_builder v12_made v67 v68 v69 w) Kp) Kp) Kp)))))) Kp) ∧ (S.op (.alloc 41) w (fun v12_made w =>
                      S.same (.load 24 v3_h) v60 w ∧
                      S.call (.fn 31) [v60, v62, a2] w (fun v64 w =>
                      S.pur (.extract v64 0) (fun v65 =>
                      S.pur (.extract v64 1) (fun v66 =>
                      S.pur (.extract v64 2) (fun v67 =>
                      S.pur (.extract v64 3) (fun v68 =>
                      S.pur (.extract v64 4) (fun v69 =>
                      S.op (.store 41 v11_builder v65) w (fun _ w =>
                      S.op (.store 41 v12_made v66) w (fun _ w =>
                      J14 v11_builder v12_made v67 v68 v69 w) Kp) Kp)))))) Kp) Kp)) Kp) ∧ (S.op (.alloc 41) w (fun v12_made w =>
                    S.same (.load 24 v3_h) v60 w ∧
                    S.call (.fn 15) [v29] w (fun v62 w =>
                    S.same (.load 24 v3_h) v60 w ∧
                    S.call (.fn 31) [v60, v62, a2] w (fun v64 w =>
                    S.pur (.extract v64 0) (fun v65 =>
                    S.pur (.extract v64 1) (fun v66 =>
                    S.pur (.extract v64 2) (fun v67 =>
                    S.pur (.extract v64 3) (fun v68 =>
                    S.pur (.extract v64 4) (fun v69 =>
                    S.op (.store 41 v11_builder v65) w (fun _ w =>
                    S.op (.store 41 v12_made v66) w (fun _ w =>
                    J14 v11_builder v12_made v67 v68 v69 w) Kp) Kp)))))) Kp) Kp) Kp)) Kp) ∧ (S.op (.alloc 41) w.drew (fun v12_made w =>
                  S.same (.load 24 v3_h) v60 w ∧
                  (S.call (.fn 15) [v29] w (fun v62 w =>
                    S.same (.load 24 v3_h) v60 w ∧
                    (S.call (.fn 31) [v60, v62, a2] w (fun v64 w =>
                      S.pur (.extract v64 0) (fun v65 =>
                      S.pur (.extract v64 1) (fun v66 =>
                      S.pur (.extract v64 2) (fun v67 =>
                      S.pur (.extract v64 3) (fun v68 =>
                      S.pur (.extract v64 4) (fun v69 =>
                      S.op (.alloc 41) w (fun v11_builder w =>
                      S.op (.store 41 v11_builder v65) w (fun _ w =>
                      S.op (.store 41 v12_made v66) w (fun _ w =>
                      J14 v11_builder v12_made v67 v68 v69 w) Kp) Kp) Kp)))))) Kp) ∧ (S.op (.alloc 41) w (fun v11_builder w =>
                      S.same (.load 24 v3_h) v60 w ∧
                      S.call (.fn 31) [v60, v62, a2] w (fun v64 w =>
                      S.pur (.extract v64 0) (fun v65 =>
                      S.pur (.extract v64 1) (fun v66 =>
                      S.pur (.extract v64 2) (fun v67 =>
                      S.pur (.extract v64 3) (fun v68 =>
                      S.pur (.extract v64 4) (fun v69 =>
                      S.op (.store 41 v11_builder v65) w (fun _ w =>
                      S.op (.store 41 v12_made v66) w (fun _ w =>
                      J14 v11_builder v12_made v67 v68 v69 w) Kp) Kp)))))) Kp) Kp)) Kp) ∧ (S.op (.alloc 41) w (fun v11_builder w =>
                    S.same (.load 24 v3_h) v60 w ∧
                    S.call (.fn 15) [v29] w (fun v62 w =>
                    S.same (.load 24 v3_h) v60 w ∧
                    S.call (.fn 31) [v60, v62, a2] w (fun v64 w =>
                    S.pur (.extract v64 0) (fun v65 =>
                    S.pur (.extract v64 1) (fun v66 =>
                    S.pur (.extract v64 2) (fun v67 =>
                    S.pur (.extract v64 3) (fun v68 =>
                    S.pur (.extract v64 4) (fun v69 =>
                    S.op (.store 41 v11_builder v65) w (fun _ w =>
                    S.op (.store 41 v12_made v66) w (fun _ w =>
                    J14 v11_builder v12_made v67 v68 v69 w) Kp) Kp)))))) Kp) Kp) Kp)) Kp))) ∧
              (∀ (w : World) (junk : Nat → Value) (j11_builder : Value) (j12_made : Value) (j13_values : Value) (j14_has : Value) (j15_panics : Value), J14 j11_builder j12_made j13_values j14_has j15_panics w →
                S.op (.load 41 j11_builder) w (fun v70 w =>
                S.call (.fn 17) [v70, v58] w (fun v72 w =>
                S.op (.un UnOp.not v72) w (fun v73 w =>
                Br v73 (
                  K (Value.bool false) w) (
                  S.op (.load 41 j12_made) w (fun v75 w =>
                  S.call (.fn 17) [v75, v58] w (fun v77 w =>
                  S.op (.un UnOp.not v77) w (fun v78 w =>
                  Br v78 (
                    K (Value.bool false) w) (
                    S.op (.un UnOp.not j15_panics) w (fun v82 w =>
                    Br v82 (
                      K (Value.bool false) w) (
                      S.op (.blt Builtin.len [65] 3 [j13_values]) w (fun v86 w =>
                      S.op (.blt Builtin.len [65] 3 [a2]) w (fun v88 w =>
                      S.op (.bin BinOp.neq 3 false false v86 v88) w (fun v89 w =>
                      Br v89 (
                        K (Value.bool false) w) (
                        S.op (.blt Builtin.len [49] 3 [j14_has]) w (fun v93 w =>
                        S.op (.blt Builtin.len [65] 3 [a2]) w (fun v95 w =>
                        S.op (.bin BinOp.neq 3 false false v93 v95) w (fun v96 w =>
                        Br v96 (
                          K (Value.bool false) w) (
                          S.op (.blt Builtin.len [65] 3 [a2]) w (fun v99 w =>
                          Lp fun (I17 : Value → World → Prop) (μ17 : Value → World → Nat) => I17 (Value.int IntKind.i64 0) w ∧
                          ∀ (wl17 : World) (junk : Nat → Value) (s100_ : Value), I17 s100_ wl17 →
                            S.op (.bin BinOp.lss 3 false false s100_ v99) wl17 (fun v101 w =>
                            Br v101 (
                              S.op (.indexAddr 65 a2 s100_) w (fun v103 w =>
                              S.op (.load 2 v103) w (fun v104 w =>
                              S.op (.lookup 30 v58 v104 true) w (fun v108 w =>
                              S.op (.extract v108 0) w (fun v109 w =>
                              S.op (.extract v108 1) w (fun v110 w =>
                              S.op (.indexAddr 49 j14_has s100_) w (fun v113 w =>
                              S.op (.load 4 v113) w (fun v114 w =>
                              S.op (.bin BinOp.neq 4 false false v114 v110) w (fun v116 w =>
                              Br v116 (
                                K (Value.bool false) w) (
                                S.op (.indexAddr 65 j13_values s100_) w (fun v120 w =>
                                S.op (.load 2 v120) w (fun v121 w =>
                                S.op (.bin BinOp.neq 2 false false v121 v109) w (fun v123 w =>
                                Br v123 (
                                  K (Value.bool false) w) (
                                  S.op (.bin BinOp.add 3 false true s100_ (Value.int IntKind.i64 1)) w (fun v125 w =>
                                  I17 v125 w ∧ μ17 v125 w < μ17 s100_ wl17) Kp)) Kp) Kp) Kp)) Kp) Kp) Kp) Kp) Kp) Kp) Kp) Kp) (
                              S.call (.fn 13) [] w (fun v126 w =>
                              K v126 w) Kp)) Kp) Kp)) Kp) Kp) Kp)) Kp) Kp) Kp)) Kp)) Kp) Kp) Kp)) Kp) Kp) Kp)) Kp) Kp) Kp) Kp) Kp)) Kp) Kp)) Kp) Kp) Kp)) Kp) Kp) Kp)) Kp) Kp)) Kp) Kp) Kp
theorem vc11_eq (S : Sig) (a0 a1 a2 : Value) (w : World) (K : Value → World → Prop) (Kp : KP) : vc11 S a0 a1 a2 w K Kp = fVC S [(5, [32]), (17, [100])] [(14, [11, 12, 13, 14, 15])] Try.f11 [a0, a1, a2] w K Kp := by kernel_rfl
theorem vc11_calls {a0 a1 a2 : Value} {w : World} {K : Value → World → Prop} {Kp : KP} (h : vc11 (nice Try.prog) a0 a1 a2 w K Kp) : Calls Try.prog 11 #[a0, a1, a2] w (ret K Kp) :=
  fVC_sound (args := [a0, a1, a2]) nice_le follows_MVcL Try.func11 (by kernel_rfl) (Eq.mp (vc11_eq _ _ _ _ _ _ _) h)

/-- pub-bracken/laws.mapFits -/
def vc12 (S : Sig) (a0 a1 : Value) (w : World) (K : Value → World → Prop) (Kp : KP) : Prop :=
  S.op (.box 24 a0) w (fun v2_h w =>
  S.op (.blt Builtin.len [25] 3 [a1]) w (fun v6 w =>
  S.op (.bin BinOp.leq 3 false true v6 (Value.int IntKind.i64 12)) w (fun v7 w =>
  Br v7 (
    S.call (.fn 32) [a1] w (fun v10 w =>
    Br v10 (
      S.op (.fieldAddr 24 v2_h 2) w (fun v13 w =>
      S.op (.load 5 v13) w (fun v14 w =>
      S.op (.bin BinOp.lss 5 false true v14 (Value.int IntKind.u8 32)) w (fun v15 w =>
      K v15 w) Kp) Kp) Kp) (
      K (Value.bool false) w)) Kp) (
    K (Value.bool false) w)) Kp) Kp) Kp
theorem vc12_eq (S : Sig) (a0 a1 : Value) (w : World) (K : Value → World → Prop) (Kp : KP) : vc12 S a0 a1 w K Kp = fVC S [] [] Try.f12 [a0, a1] w K Kp := by kernel_rfl
theorem vc12_calls {a0 a1 : Value} {w : World} {K : Value → World → Prop} {Kp : KP} (h : vc12 (nice Try.prog) a0 a1 w K Kp) : Calls Try.prog 12 #[a0, a1] w (ret K Kp) :=
  fVC_sound (args := [a0, a1]) nice_le follows_MVcL Try.func12 (by kernel_rfl) (Eq.mp (vc12_eq _ _ _ _ _ _) h)

/-- pub-bracken/laws.mapAwake -/
def vc13 (S : Sig) (w : World) (K : Value → World → Prop) (Kp : KP) : Prop :=
  S.op (.build 24 []) w (fun v2 w =>
  S.op (.build 35 [(0, (Value.int IntKind.u8 0)), (2, (Value.int IntKind.i64 1)), (3, (Value.int IntKind.i64 5))]) w (fun v3 w =>
  S.op (.build 35 [(0, (Value.int IntKind.u8 0)), (1, (Value.int IntKind.i64 1)), (2, (Value.int IntKind.i64 2)), (3, (Value.int IntKind.i64 6))]) w (fun v4 w =>
  S.op (.build 35 [(0, (Value.int IntKind.u8 1)), (1, (Value.int IntKind.i64 2)), (2, (Value.int IntKind.i64 1))]) w (fun v5 w =>
  S.op (.buildSlice 32 3 [(0, v3), (1, v4), (2, v5)]) w (fun v6 w =>
  S.call (.fn 16) [v2, v6] w (fun v7 w =>
  S.op (.blt Builtin.len [36] 3 [v7]) w (fun v9 w =>
  S.op (.bin BinOp.eql 3 false true v9 (Value.int IntKind.i64 4)) w (fun v10 w =>
  Br v10 (
    S.op (.indexAddr 36 v7 (Value.int IntKind.i64 2)) w (fun v13 w =>
    S.op (.fieldAddr 41 v13 0) w (fun v14 w =>
    S.op (.load 3 v14) w (fun v15 w =>
    S.op (.bin BinOp.eql 3 false true v15 (Value.int IntKind.i64 2)) w (fun v16 w =>
    Br v16 (
      S.op (.indexAddr 36 v7 (Value.int IntKind.i64 3)) w (fun v20 w =>
      S.op (.fieldAddr 41 v20 0) w (fun v21 w =>
      S.op (.load 3 v21) w (fun v22 w =>
      S.op (.bin BinOp.eql 3 false true v22 (Value.int IntKind.i64 1)) w (fun v23 w =>
      Br v23 (
        S.op (.indexAddr 36 v7 (Value.int IntKind.i64 3)) w (fun v27 w =>
        S.op (.fieldAddr 41 v27 1) w (fun v28 w =>
        S.op (.load 39 v28) w (fun v29 w =>
        S.op (.build 46 [(0, (Value.int IntKind.i64 2)), (1, (Value.int IntKind.i64 6))]) w (fun v30 w =>
        S.op (.buildSlice 39 1 [(0, v30)]) w (fun v31 w =>
        S.call (.fn 27) [v29, v31] w (fun v32 w =>
        K v32 w) Kp) Kp) Kp) Kp) Kp) Kp) (
        K (Value.bool false) w)) Kp) Kp) Kp) Kp) (
      K (Value.bool false) w)) Kp) Kp) Kp) Kp) (
    K (Value.bool false) w)) Kp) Kp) Kp) Kp) Kp) Kp) Kp) Kp
theorem vc13_eq (S : Sig) (w : World) (K : Value → World → Prop) (Kp : KP) : vc13 S  w K Kp = fVC S [] [] Try.f13 [] w K Kp := by kernel_rfl
theorem vc13_calls {w : World} {K : Value → World → Prop} {Kp : KP} (h : vc13 (nice Try.prog)  w K Kp) : Calls Try.prog 13 #[] w (ret K Kp) :=
  fVC_sound (args := []) nice_le follows_MVcL Try.func13 (by kernel_rfl) (Eq.mp (vc13_eq _  _ _ _) h)

/-- pub-bracken/spec.MapVersions -/
def vc14 (S : Sig) (a0 : Value) (w : World) (K : Value → World → Prop) (Kp : KP) : Prop :=
  S.op (.mkMap 30 none) w (fun v6 w =>
  S.op (.buildSlice 28 1 [(0, v6)]) w (fun v7 w =>
  S.op (.blt Builtin.len [25] 3 [a0]) w (fun v9 w =>
  Lp fun (I3 : Value → Value → World → Prop) (μ3 : Value → Value → World → Nat) => I3 v7 (Value.int IntKind.i64 0) w ∧
  ∀ (wl3 : World) (junk : Nat → Value) (s3_out : Value) (s10_ : Value), I3 s3_out s10_ wl3 →
    S.op (.bin BinOp.lss 3 false false s10_ v9) wl3 (fun v11 w =>
    Br v11 (
      S.op (.indexAddr 25 a0 s10_) w (fun v12 w =>
      S.op (.load 82 v12) w (fun v13 w =>
      S.op (.alloc 82) w (fun v5_s w =>
      S.op (.store 82 v5_s v13) w (fun _ w =>
      S.pur (.fieldAddr 82 v5_s 1) (fun v16 =>
      S.ld (.load 3 v16) w.drew (fun v17 =>
      S.pur (.indexAddr 28 s3_out v17) (fun v18 =>
      S.ld (.load 30 v18) w.drew (fun v19 =>
      S.ld (.load 82 v5_s) w.drew (fun v20 =>
      S.call (.fn 33) [v19, v20] w.drew (fun v21 w =>
      S.op (.buildSlice 28 1 [(0, v21)]) w (fun v22 w =>
      S.op (.blt Builtin.append [28, 28] 28 [s3_out, v22]) w (fun v23 w =>
      S.op (.bin BinOp.add 3 false true s10_ (Value.int IntKind.i64 1)) w (fun v24 w =>
      I3 v23 v24 w ∧ μ3 v23 v24 w < μ3 s3_out s10_ wl3) Kp) Kp) Kp) Kp)))))) Kp) Kp) Kp) Kp) (
      K s3_out w)) Kp) Kp) Kp) Kp
theorem vc14_eq (S : Sig) (a0 : Value) (w : World) (K : Value → World → Prop) (Kp : KP) : vc14 S a0 w K Kp = fVC S [(3, [3, 10])] [] Try.f14 [a0] w K Kp := by kernel_rfl
theorem vc14_calls {a0 : Value} {w : World} {K : Value → World → Prop} {Kp : KP} (h : vc14 (nice Try.prog) a0 w K Kp) : Calls Try.prog 14 #[a0] w (ret K Kp) :=
  fVC_sound (args := [a0]) nice_le follows_MVcL Try.func14 (by kernel_rfl) (Eq.mp (vc14_eq _ _ _ _ _) h)

/-- pub-bracken/laws.mapTo -/
def vc15 (S : Sig) (a0 : Value) (w : World) (K : Value → World → Prop) (Kp : KP) : Prop :=
  S.op (.blt Builtin.len [25] 3 [a0]) w (fun v7 w =>
  Lp fun (I3 : Value → Value → World → Prop) (μ3 : Value → Value → World → Nat) => I3 (Value.slice none 0 0) (Value.int IntKind.i64 0) w ∧
  ∀ (wl3 : World) (junk : Nat → Value) (s3_out : Value) (s8_ : Value), I3 s3_out s8_ wl3 →
    S.op (.bin BinOp.lss 3 false false s8_ v7) wl3 (fun v9 w =>
    Br v9 (
      S.op (.indexAddr 25 a0 s8_) w (fun v10 w =>
      S.op (.load 82 v10) w (fun v11 w =>
      S.op (.alloc 82) w (fun v5_s w =>
      S.op (.store 82 v5_s v11) w (fun _ w =>
      S.op (.load 82 v5_s) w (fun v13 w =>
      S.op (.buildSlice 32 1 [(0, v13)]) w (fun v14 w =>
      S.op (.blt Builtin.append [32, 32] 32 [s3_out, v14]) w (fun v15 w =>
      S.op (.bin BinOp.add 3 false true s8_ (Value.int IntKind.i64 1)) w (fun v16 w =>
      I3 v15 v16 w ∧ μ3 v15 v16 w < μ3 s3_out s8_ wl3) Kp) Kp) Kp) Kp) Kp) Kp) Kp) Kp) (
      K s3_out w)) Kp) Kp
theorem vc15_eq (S : Sig) (a0 : Value) (w : World) (K : Value → World → Prop) (Kp : KP) : vc15 S a0 w K Kp = fVC S [(3, [3, 8])] [] Try.f15 [a0] w K Kp := by kernel_rfl
theorem vc15_calls {a0 : Value} {w : World} {K : Value → World → Prop} {Kp : KP} (h : vc15 (nice Try.prog) a0 w K Kp) : Calls Try.prog 15 #[a0] w (ret K Kp) :=
  fVC_sound (args := [a0]) nice_le follows_MVcL Try.func15 (by kernel_rfl) (Eq.mp (vc15_eq _ _ _ _ _) h)

/-- pub-bracken/impl.MapRun -/
def vc16 (S : Sig) (a0 a1 : Value) (w : World) (K : Value → World → Prop) (Kp : KP) : Prop :=
  S.op (.box 24 a0) w (fun v2_h w =>
  S.op (.load 24 v2_h) w (fun v8 w =>
  S.call (.fn 34) [v8, a1] w (fun v10 w =>
  S.op (.blt Builtin.len [88] 3 [v10]) w (fun v11 w =>
  Lp fun (I3 : Value → Value → World → Prop) (μ3 : Value → Value → World → Nat) => I3 (Value.slice none 0 0) (Value.int IntKind.i64 0) w ∧
  ∀ (wl3 : World) (junk : Nat → Value) (s5_out : Value) (s12_ : Value), I3 s5_out s12_ wl3 →
    S.op (.bin BinOp.lss 3 false false s12_ v11) wl3 (fun v13 w =>
    Br v13 (
      S.op (.indexAddr 88 v10 s12_) w (fun v14 w =>
      S.op (.load 90 v14) w (fun v15 w =>
      S.call (.fn 36) [v15] w (fun v18 w =>
      S.call (.fn 37) [v15] w (fun v20 w =>
      S.call (.fn 35) [v18, v20] w (fun v21 w =>
      S.op (.buildSlice 36 1 [(0, v21)]) w (fun v22 w =>
      S.op (.blt Builtin.append [36, 36] 36 [s5_out, v22]) w (fun v23 w =>
      S.op (.bin BinOp.add 3 false true s12_ (Value.int IntKind.i64 1)) w (fun v24 w =>
      I3 v23 v24 w ∧ μ3 v23 v24 w < μ3 s5_out s12_ wl3) Kp) Kp) Kp) Kp) Kp) Kp) Kp) Kp) (
      K s5_out w)) Kp) Kp) Kp) Kp) Kp
theorem vc16_eq (S : Sig) (a0 a1 : Value) (w : World) (K : Value → World → Prop) (Kp : KP) : vc16 S a0 a1 w K Kp = fVC S [(3, [5, 12])] [] Try.f16 [a0, a1] w K Kp := by kernel_rfl
theorem vc16_calls {a0 a1 : Value} {w : World} {K : Value → World → Prop} {Kp : KP} (h : vc16 (nice Try.prog) a0 a1 w K Kp) : Calls Try.prog 16 #[a0, a1] w (ret K Kp) :=
  fVC_sound (args := [a0, a1]) nice_le follows_MVcL Try.func16 (by kernel_rfl) (Eq.mp (vc16_eq _ _ _ _ _ _) h)

/-- pub-bracken/laws.mapSaid -/
def vc17 (S : Sig) (a0 a1 : Value) (w : World) (K : Value → World → Prop) (Kp : KP) : Prop :=
  S.op (.box 41 a0) w (fun v2_x w =>
  S.op (.fieldAddr 41 v2_x 0) w (fun v5 w =>
  S.op (.load 3 v5) w (fun v6 w =>
  S.op (.blt Builtin.len [30] 3 [a1]) w (fun v8 w =>
  S.op (.bin BinOp.eql 3 false false v6 v8) w (fun v9 w =>
  Br v9 (
    S.op (.fieldAddr 41 v2_x 1) w (fun v12 w =>
    S.op (.load 39 v12) w (fun v13 w =>
    S.call (.fn 39) [v13] w (fun v14 w =>
    S.call (.fn 38) [a1, v14] w (fun v15 w =>
    K v15 w) Kp) Kp) Kp) Kp) (
    K (Value.bool false) w)) Kp) Kp) Kp) Kp) Kp
theorem vc17_eq (S : Sig) (a0 a1 : Value) (w : World) (K : Value → World → Prop) (Kp : KP) : vc17 S a0 a1 w K Kp = fVC S [] [] Try.f17 [a0, a1] w K Kp := by kernel_rfl
theorem vc17_calls {a0 a1 : Value} {w : World} {K : Value → World → Prop} {Kp : KP} (h : vc17 (nice Try.prog) a0 a1 w K Kp) : Calls Try.prog 17 #[a0, a1] w (ret K Kp) :=
  fVC_sound (args := [a0, a1]) nice_le follows_MVcL Try.func17 (by kernel_rfl) (Eq.mp (vc17_eq _ _ _ _ _ _) h)

/-- pub-bracken/impl.MapOf -/
def vc18 (S : Sig) (a0 a1 : Value) (w : World) (K : Value → World → Prop) (Kp : KP) : Prop :=
  S.op (.box 24 a0) w (fun v2_h w =>
  S.op (.alloc 41) w (fun v4 w =>
  S.op (.mkMap 30 none) w (fun v9 w =>
  S.op (.blt Builtin.len [39] 3 [a1]) w (fun v11 w =>
  Lp fun (I3 : Value → World → Prop) (μ3 : Value → World → Nat) => I3 (Value.int IntKind.i64 0) w ∧
  ∀ (wl3 : World) (junk : Nat → Value) (s12_ : Value), I3 s12_ wl3 →
    S.op (.bin BinOp.lss 3 false false s12_ v11) wl3 (fun v13 w =>
    Br v13 (
      S.op (.indexAddr 39 a1 s12_) w (fun v14 w =>
      S.op (.load 46 v14) w (fun v15 w =>
      S.op (.alloc 46) w (fun v7_p w =>
      S.op (.store 46 v7_p v15) w (fun _ w =>
      S.op (.fieldAddr 46 v7_p 0) w (fun v17 w =>
      S.op (.load 2 v17) w (fun v18 w =>
      S.op (.fieldAddr 46 v7_p 1) w (fun v19 w =>
      S.op (.load 2 v19) w (fun v20 w =>
      S.op (.mapUpdate 30 v9 v18 v20) w (fun _ w =>
      S.op (.bin BinOp.add 3 false true s12_ (Value.int IntKind.i64 1)) w (fun v21 w =>
      I3 v21 w ∧ μ3 v21 w < μ3 s12_ wl3) Kp) Kp) Kp) Kp) Kp) Kp) Kp) Kp) Kp) Kp) (
      S.op (.load 24 v2_h) w (fun v22 w =>
      S.call (.fn 41) [v22] w (fun v23 w =>
      S.call (.fn 40) [v23, v9] w (fun v25 w =>
      S.call (.fn 36) [v25] w (fun v27 w =>
      S.call (.fn 37) [v25] w (fun v29 w =>
      S.call (.fn 35) [v27, v29] w (fun v30 w =>
      S.op (.store 41 v4 v30) w (fun _ w =>
      S.ld (.load 41 v4) w (fun r0 =>
      K r0 w)) Kp) Kp) Kp) Kp) Kp) Kp) Kp)) Kp) Kp) Kp) Kp) Kp
theorem vc18_eq (S : Sig) (a0 a1 : Value) (w : World) (K : Value → World → Prop) (Kp : KP) : vc18 S a0 a1 w K Kp = fVC S [(3, [12])] [] Try.f18 [a0, a1] w K Kp := by kernel_rfl
theorem vc18_calls {a0 a1 : Value} {w : World} {K : Value → World → Prop} {Kp : KP} (h : vc18 (nice Try.prog) a0 a1 w K Kp) : Calls Try.prog 18 #[a0, a1] w (ret K Kp) :=
  fVC_sound (args := [a0, a1]) nice_le follows_MVcL Try.func18 (by kernel_rfl) (Eq.mp (vc18_eq _ _ _ _ _ _) h)

/-- pub-bracken/impl.MapWalk -/
def vc19 (S : Sig) (a0 a1 a2 a3 : Value) (w : World) (K : Value → World → Prop) (Kp : KP) : Prop :=
  S.op (.box 24 a0) w (fun v4_h w =>
  S.op (.load 24 v4_h) w (fun v18 w =>
  S.call (.fn 34) [v18, a1] w (fun v20 w =>
  S.op (.bin BinOp.lss 3 false true a2 (Value.int IntKind.i64 0)) w (fun v22 w =>
  Br v22 (
    K (Value.tuple #[(Value.bool false), (Value.slice none 0 0), (Value.slice none 0 0), (Value.slice none 0 0)]) w) (
    S.op (.blt Builtin.len [88] 3 [v20]) w (fun v26 w =>
    S.op (.bin BinOp.geq 3 false false a2 v26) w (fun v27 w =>
    Br v27 (
      K (Value.tuple #[(Value.bool false), (Value.slice none 0 0), (Value.slice none 0 0), (Value.slice none 0 0)]) w) (
      S.op (.indexAddr 88 v20 a2) w (fun v31 w =>
      S.op (.load 90 v31) w (fun v32 w =>
      S.call (.fn 37) [v32] w (fun v33 w =>
      S.call (.fn 42) [v33] w (fun v35 w =>
      S.op (.blt Builtin.len [49] 3 [a3]) w (fun v37 w =>
      Lp fun (I7 : Value → Value → Value → Value → World → Prop) (μ7 : Value → Value → Value → Value → World → Nat) => I7 (Value.slice none 0 0) (Value.slice none 0 0) (Value.slice none 0 0) (Value.int IntKind.i64 0) w ∧
      ∀ (wl7 : World) (junk : Nat → Value) (s9_pairs : Value) (s10_ok : Value) (s11_done : Value) (s38_ : Value), I7 s9_pairs s10_ok s11_done s38_ wl7 →
        S.op (.bin BinOp.lss 3 false false s38_ v37) wl7 (fun v39 w =>
        Br v39 (
          S.op (.indexAddr 49 a3 s38_) w (fun v40 w =>
          S.op (.load 4 v40) w (fun v41 w =>
          S.op (.alloc 46) w (fun v16_p w =>
          Br v41 (
            S.call (.fn 43) [v33] w (fun v44 w =>
            S.op (.load 46 v16_p) w (fun v54 w =>
            S.op (.buildSlice 39 1 [(0, v54)]) w (fun v55 w =>
            S.op (.blt Builtin.append [39, 39] 39 [s9_pairs, v55]) w (fun v56 w =>
            S.op (.buildSlice 49 1 [(0, (Value.bool false))]) w (fun v59 w =>
            S.op (.blt Builtin.append [49, 49] 49 [s10_ok, v59]) w (fun v60 w =>
            S.call (.fn 42) [v33] w (fun v63 w =>
            S.op (.buildSlice 49 1 [(0, v63)]) w (fun v64 w =>
            S.op (.blt Builtin.append [49, 49] 49 [s11_done, v64]) w (fun v65 w =>
            S.op (.bin BinOp.add 3 false true s38_ (Value.int IntKind.i64 1)) w (fun v66 w =>
            I7 v56 v60 v65 v66 w ∧ μ7 v56 v60 v65 v66 w < μ7 s9_pairs s10_ok s11_done s38_ wl7) Kp) Kp) Kp) Kp) Kp) Kp) Kp) Kp) Kp) Kp) (
            S.call (.fn 44) [v33] w (fun v47 w =>
            S.op (.extract v47 0) w (fun v48 w =>
            S.op (.extract v47 1) w (fun v49 w =>
            S.op (.extract v47 2) w (fun v50 w =>
            S.op (.fieldAddr 46 v16_p 0) w (fun v51 w =>
            S.op (.store 2 v51 v48) w (fun _ w =>
            S.op (.fieldAddr 46 v16_p 1) w (fun v52 w =>
            S.op (.store 2 v52 v49) w (fun _ w =>
            S.op (.load 46 v16_p) w (fun v54 w =>
            S.op (.buildSlice 39 1 [(0, v54)]) w (fun v55 w =>
            S.op (.blt Builtin.append [39, 39] 39 [s9_pairs, v55]) w (fun v56 w =>
            S.op (.buildSlice 49 1 [(0, v50)]) w (fun v59 w =>
            S.op (.blt Builtin.append [49, 49] 49 [s10_ok, v59]) w (fun v60 w =>
            S.call (.fn 42) [v33] w (fun v63 w =>
            S.op (.buildSlice 49 1 [(0, v63)]) w (fun v64 w =>
            S.op (.blt Builtin.append [49, 49] 49 [s11_done, v64]) w (fun v65 w =>
            S.op (.bin BinOp.add 3 false true s38_ (Value.int IntKind.i64 1)) w (fun v66 w =>
            I7 v56 v60 v65 v66 w ∧ μ7 v56 v60 v65 v66 w < μ7 s9_pairs s10_ok s11_done s38_ wl7) Kp) Kp) Kp) Kp) Kp) Kp) Kp) Kp) Kp) Kp) Kp) Kp) Kp) Kp) Kp) Kp) Kp)) Kp) Kp) Kp) (
          K (Value.tuple #[v35, s9_pairs, s10_ok, s11_done]) w)) Kp) Kp) Kp) Kp) Kp) Kp)) Kp) Kp)) Kp) Kp) Kp) Kp
theorem vc19_eq (S : Sig) (a0 a1 a2 a3 : Value) (w : World) (K : Value → World → Prop) (Kp : KP) : vc19 S a0 a1 a2 a3 w K Kp = fVC S [(7, [9, 10, 11, 38])] [] Try.f19 [a0, a1, a2, a3] w K Kp := by kernel_rfl
theorem vc19_calls {a0 a1 a2 a3 : Value} {w : World} {K : Value → World → Prop} {Kp : KP} (h : vc19 (nice Try.prog) a0 a1 a2 a3 w K Kp) : Calls Try.prog 19 #[a0, a1, a2, a3] w (ret K Kp) :=
  fVC_sound (args := [a0, a1, a2, a3]) nice_le follows_MVcL Try.func19 (by kernel_rfl) (Eq.mp (vc19_eq _ _ _ _ _ _ _ _) h)

/-- pub-bracken/impl.MapGet -/
def vc23 (S : Sig) (a0 a1 a2 a3 : Value) (w : World) (K : Value → World → Prop) (Kp : KP) : Prop :=
  S.op (.box 24 a0) w (fun v4_h w =>
  S.op (.load 24 v4_h) w (fun v15 w =>
  S.call (.fn 34) [v15, a1] w (fun v17 w =>
  S.op (.bin BinOp.lss 3 false true a2 (Value.int IntKind.i64 0)) w (fun v19 w =>
  Br v19 (
    K (Value.tuple #[(Value.slice none 0 0), (Value.slice none 0 0)]) w) (
    S.op (.blt Builtin.len [88] 3 [v17]) w (fun v23 w =>
    S.op (.bin BinOp.geq 3 false false a2 v23) w (fun v24 w =>
    Br v24 (
      K (Value.tuple #[(Value.slice none 0 0), (Value.slice none 0 0)]) w) (
      S.op (.blt Builtin.len [65] 3 [a3]) w (fun v27 w =>
      Lp fun (I5 : Value → Value → Value → World → Prop) (μ5 : Value → Value → Value → World → Nat) => I5 (Value.slice none 0 0) (Value.slice none 0 0) (Value.int IntKind.i64 0) w ∧
      ∀ (wl5 : World) (junk : Nat → Value) (s8_values : Value) (s9_has : Value) (s28_ : Value), I5 s8_values s9_has s28_ wl5 →
        S.op (.bin BinOp.lss 3 false false s28_ v27) wl5 (fun v29 w =>
        Br v29 (
          S.op (.indexAddr 65 a3 s28_) w (fun v30 w =>
          S.op (.load 2 v30) w (fun v31 w =>
          S.op (.indexAddr 88 v17 a2) w (fun v35 w =>
          S.op (.load 90 v35) w (fun v36 w =>
          S.call (.fn 53) [v36, v31] w (fun v38 w =>
          S.op (.extract v38 0) w (fun v39 w =>
          S.op (.extract v38 1) w (fun v40 w =>
          S.op (.buildSlice 65 1 [(0, v39)]) w (fun v43 w =>
          S.op (.blt Builtin.append [65, 65] 65 [s8_values, v43]) w (fun v44 w =>
          S.op (.buildSlice 49 1 [(0, v40)]) w (fun v47 w =>
          S.op (.blt Builtin.append [49, 49] 49 [s9_has, v47]) w (fun v48 w =>
          S.op (.bin BinOp.add 3 false true s28_ (Value.int IntKind.i64 1)) w (fun v49 w =>
          I5 v44 v48 v49 w ∧ μ5 v44 v48 v49 w < μ5 s8_values s9_has s28_ wl5) Kp) Kp) Kp) Kp) Kp) Kp) Kp) Kp) Kp) Kp) Kp) Kp) (
          K (Value.tuple #[s8_values, s9_has]) w)) Kp) Kp)) Kp) Kp)) Kp) Kp) Kp) Kp
theorem vc23_eq (S : Sig) (a0 a1 a2 a3 : Value) (w : World) (K : Value → World → Prop) (Kp : KP) : vc23 S a0 a1 a2 a3 w K Kp = fVC S [(5, [8, 9, 28])] [] Try.f23 [a0, a1, a2, a3] w K Kp := by kernel_rfl
theorem vc23_calls {a0 a1 a2 a3 : Value} {w : World} {K : Value → World → Prop} {Kp : KP} (h : vc23 (nice Try.prog) a0 a1 a2 a3 w K Kp) : Calls Try.prog 23 #[a0, a1, a2, a3] w (ret K Kp) :=
  fVC_sound (args := [a0, a1, a2, a3]) nice_le follows_MVcL Try.func23 (by kernel_rfl) (Eq.mp (vc23_eq _ _ _ _ _ _ _ _) h)

/-- slices.Reverse[[]pub-bracken/spec.Pair,pub-bracken/spec.Pair] -/
def vc24 (S : Sig) (a0 : Value) (w : World) (K : Value → World → Prop) (Kp : KP) : Prop :=
  S.op (.blt Builtin.len [43] 3 [a0]) w (fun v5 w =>
  S.op (.bin BinOp.sub 3 false true v5 (Value.int IntKind.i64 1)) w (fun v6 w =>
  Lp fun (I1 : Value → Value → World → Prop) (μ1 : Value → Value → World → Nat) => I1 (Value.int IntKind.i64 0) v6 w ∧
  ∀ (wl1 : World) (junk : Nat → Value) (s2_i : Value) (s3_j : Value), I1 s2_i s3_j wl1 →
    S.op (.bin BinOp.lss 3 false false s2_i s3_j) wl1 (fun v9 w =>
    Br v9 (
      S.pur (.indexAddr 43 a0 s3_j) (fun v20 =>
      S.ld (.load 45 v20) w.drew (fun v21 =>
      S.pur (.indexAddr 43 a0 s2_i) (fun v24 =>
      S.ld (.load 45 v24) w.drew (fun v25 =>
      S.pur (.indexAddr 43 a0 s2_i) (fun v26 =>
      S.op (.store 45 v26 v21) w.drew (fun _ w =>
      S.pur (.indexAddr 43 a0 s3_j) (fun v27 =>
      S.op (.store 45 v27 v25) w (fun _ w =>
      S.op (.bin BinOp.add 3 false true s2_i (Value.int IntKind.i64 1)) w (fun v11 w =>
      S.op (.bin BinOp.sub 3 false true s3_j (Value.int IntKind.i64 1)) w (fun v13 w =>
      I1 v11 v13 w ∧ μ1 v11 v13 w < μ1 s2_i s3_j wl1) Kp) Kp) Kp)) Kp)))))) (
      K (Value.tuple #[]) w)) Kp) Kp) Kp
theorem vc24_eq (S : Sig) (a0 : Value) (w : World) (K : Value → World → Prop) (Kp : KP) : vc24 S a0 w K Kp = fVC S [(1, [2, 3])] [] Try.f24 [a0] w K Kp := by kernel_rfl
theorem vc24_calls {a0 : Value} {w : World} {K : Value → World → Prop} {Kp : KP} (h : vc24 (nice Try.prog) a0 w K Kp) : Calls Try.prog 24 #[a0] w (ret K Kp) :=
  fVC_sound (args := [a0]) nice_le follows_MVcL Try.func24 (by kernel_rfl) (Eq.mp (vc24_eq _ _ _ _ _) h)

/-- slices.Equal[[]int64,int64] -/
def vc25 (S : Sig) (a0 a1 : Value) (w : World) (K : Value → World → Prop) (Kp : KP) : Prop :=
  S.op (.blt Builtin.len [65] 3 [a0]) w (fun v7 w =>
  S.op (.blt Builtin.len [65] 3 [a1]) w (fun v9 w =>
  S.op (.bin BinOp.neq 3 false false v7 v9) w (fun v10 w =>
  Br v10 (
    K (Value.bool false) w) (
    S.op (.blt Builtin.len [65] 3 [a0]) w (fun v12 w =>
    Lp fun (I4 : Value → World → Prop) (μ4 : Value → World → Nat) => I4 (Value.int IntKind.i64 0) w ∧
    ∀ (wl4 : World) (junk : Nat → Value) (s13_ : Value), I4 s13_ wl4 →
      S.op (.bin BinOp.lss 3 false false s13_ v12) wl4 (fun v14 w =>
      Br v14 (
        S.pur (.indexAddr 65 a0 s13_) (fun v18 =>
        S.ld (.load 2 v18) w.drew (fun v19 =>
        S.pur (.indexAddr 65 a1 s13_) (fun v22 =>
        S.ld (.load 2 v22) w.drew (fun v23 =>
        S.pur (.bin BinOp.neq 2 false false v19 v23) (fun v24 =>
        Br v24 (
          K (Value.bool false) w.drew) (
          S.op (.bin BinOp.add 3 false true s13_ (Value.int IntKind.i64 1)) w.drew (fun v25 w =>
          I4 v25 w ∧ μ4 v25 w < μ4 s13_ wl4) Kp))))))) (
        K (Value.bool true) w)) Kp) Kp)) Kp) Kp) Kp
theorem vc25_eq (S : Sig) (a0 a1 : Value) (w : World) (K : Value → World → Prop) (Kp : KP) : vc25 S a0 a1 w K Kp = fVC S [(4, [13])] [] Try.f25 [a0, a1] w K Kp := by kernel_rfl
theorem vc25_calls {a0 a1 : Value} {w : World} {K : Value → World → Prop} {Kp : KP} (h : vc25 (nice Try.prog) a0 a1 w K Kp) : Calls Try.prog 25 #[a0, a1] w (ret K Kp) :=
  fVC_sound (args := [a0, a1]) nice_le follows_MVcL Try.func25 (by kernel_rfl) (Eq.mp (vc25_eq _ _ _ _ _ _) h)

/-- slices.Equal[[]bool,bool] -/
def vc26 (S : Sig) (a0 a1 : Value) (w : World) (K : Value → World → Prop) (Kp : KP) : Prop :=
  S.op (.blt Builtin.len [49] 3 [a0]) w (fun v7 w =>
  S.op (.blt Builtin.len [49] 3 [a1]) w (fun v9 w =>
  S.op (.bin BinOp.neq 3 false false v7 v9) w (fun v10 w =>
  Br v10 (
    K (Value.bool false) w) (
    S.op (.blt Builtin.len [49] 3 [a0]) w (fun v12 w =>
    Lp fun (I4 : Value → World → Prop) (μ4 : Value → World → Nat) => I4 (Value.int IntKind.i64 0) w ∧
    ∀ (wl4 : World) (junk : Nat → Value) (s13_ : Value), I4 s13_ wl4 →
      S.op (.bin BinOp.lss 3 false false s13_ v12) wl4 (fun v14 w =>
      Br v14 (
        S.pur (.indexAddr 49 a0 s13_) (fun v18 =>
        S.ld (.load 4 v18) w.drew (fun v19 =>
        S.pur (.indexAddr 49 a1 s13_) (fun v22 =>
        S.ld (.load 4 v22) w.drew (fun v23 =>
        S.pur (.bin BinOp.neq 4 false false v19 v23) (fun v24 =>
        Br v24 (
          K (Value.bool false) w.drew) (
          S.op (.bin BinOp.add 3 false true s13_ (Value.int IntKind.i64 1)) w.drew (fun v25 w =>
          I4 v25 w ∧ μ4 v25 w < μ4 s13_ wl4) Kp))))))) (
        K (Value.bool true) w)) Kp) Kp)) Kp) Kp) Kp
theorem vc26_eq (S : Sig) (a0 a1 : Value) (w : World) (K : Value → World → Prop) (Kp : KP) : vc26 S a0 a1 w K Kp = fVC S [(4, [13])] [] Try.f26 [a0, a1] w K Kp := by kernel_rfl
theorem vc26_calls {a0 a1 : Value} {w : World} {K : Value → World → Prop} {Kp : KP} (h : vc26 (nice Try.prog) a0 a1 w K Kp) : Calls Try.prog 26 #[a0, a1] w (ret K Kp) :=
  fVC_sound (args := [a0, a1]) nice_le follows_MVcL Try.func26 (by kernel_rfl) (Eq.mp (vc26_eq _ _ _ _ _ _) h)

/-- slices.Equal[[]pub-bracken/impl.Pair,pub-bracken/impl.Pair] -/
def vc27 (S : Sig) (a0 a1 : Value) (w : World) (K : Value → World → Prop) (Kp : KP) : Prop :=
  S.op (.blt Builtin.len [39] 3 [a0]) w (fun v7 w =>
  S.op (.blt Builtin.len [39] 3 [a1]) w (fun v9 w =>
  S.op (.bin BinOp.neq 3 false false v7 v9) w (fun v10 w =>
  Br v10 (
    K (Value.bool false) w) (
    S.op (.blt Builtin.len [39] 3 [a0]) w (fun v12 w =>
    Lp fun (I4 : Value → World → Prop) (μ4 : Value → World → Nat) => I4 (Value.int IntKind.i64 0) w ∧
    ∀ (wl4 : World) (junk : Nat → Value) (s13_ : Value), I4 s13_ wl4 →
      S.op (.bin BinOp.lss 3 false false s13_ v12) wl4 (fun v14 w =>
      Br v14 (
        S.pur (.indexAddr 39 a0 s13_) (fun v18 =>
        S.ld (.load 46 v18) w.drew (fun v19 =>
        S.pur (.indexAddr 39 a1 s13_) (fun v22 =>
        S.ld (.load 46 v22) w.drew (fun v23 =>
        S.pur (.bin BinOp.neq 46 false false v19 v23) (fun v24 =>
        Br v24 (
          K (Value.bool false) w.drew) (
          S.op (.bin BinOp.add 3 false true s13_ (Value.int IntKind.i64 1)) w.drew (fun v25 w =>
          I4 v25 w ∧ μ4 v25 w < μ4 s13_ wl4) Kp))))))) (
        K (Value.bool true) w)) Kp) Kp)) Kp) Kp) Kp
theorem vc27_eq (S : Sig) (a0 a1 : Value) (w : World) (K : Value → World → Prop) (Kp : KP) : vc27 S a0 a1 w K Kp = fVC S [(4, [13])] [] Try.f27 [a0, a1] w K Kp := by kernel_rfl
theorem vc27_calls {a0 a1 : Value} {w : World} {K : Value → World → Prop} {Kp : KP} (h : vc27 (nice Try.prog) a0 a1 w K Kp) : Calls Try.prog 27 #[a0, a1] w (ret K Kp) :=
  fVC_sound (args := [a0, a1]) nice_le follows_MVcL Try.func27 (by kernel_rfl) (Eq.mp (vc27_eq _ _ _ _ _ _) h)

/-- slices.Clone[[]pub-bracken/spec.MapStep,pub-bracken/spec.MapStep] -/
def vc30 (S : Sig) (a0 : Value) (w : World) (K : Value → World → Prop) (Kp : KP) : Prop :=
  S.op (.bin BinOp.eql 25 false true a0 (Value.slice none 0 0)) w (fun v4 w =>
  Br v4 (
    K (Value.slice none 0 0) w) (
    S.op (.buildSlice 25 0 []) w (fun v5 w =>
    S.op (.blt Builtin.append [25, 25] 25 [v5, a0]) w (fun v7 w =>
    K v7 w) Kp) Kp)) Kp
theorem vc30_eq (S : Sig) (a0 : Value) (w : World) (K : Value → World → Prop) (Kp : KP) : vc30 S a0 w K Kp = fVC S [] [] Try.f30 [a0] w K Kp := by kernel_rfl
theorem vc30_calls {a0 : Value} {w : World} {K : Value → World → Prop} {Kp : KP} (h : vc30 (nice Try.prog) a0 w K Kp) : Calls Try.prog 30 #[a0] w (ret K Kp) :=
  fVC_sound (args := [a0]) nice_le follows_MVcL Try.func30 (by kernel_rfl) (Eq.mp (vc30_eq _ _ _ _ _) h)

/-- pub-bracken/impl.MapBuild -/
def vc31 (S : Sig) (a0 a1 a2 : Value) (w : World) (K : Value → World → Prop) (Kp : KP) : Prop :=
  S.op (.box 24 a0) w (fun v3_h w =>
  S.op (.alloc 41) w (fun v6_builder w =>
  S.op (.alloc 41) w (fun v7_made w =>
  S.op (.load 24 v3_h) w (fun v22 w =>
  S.call (.fn 41) [v22] w (fun v23 w =>
  S.call (.fn 56) [v23] w (fun v24 w =>
  S.op (.alloc 120) w (fun v11_b w =>
  S.op (.store 120 v11_b v24) w (fun _ w =>
  S.op (.blt Builtin.len [32] 3 [a1]) w (fun v26 w =>
  Lp fun (I3 : Value → World → Prop) (μ3 : Value → World → Nat) => I3 (Value.int IntKind.i64 0) w ∧
  ∀ (wl3 : World) (junk : Nat → Value) (s27_ : Value), I3 s27_ wl3 →
    S.op (.bin BinOp.lss 3 false false s27_ v26) wl3 (fun v28 w =>
    Br v28 (
      S.op (.indexAddr 32 a1 s27_) w (fun v29 w =>
      S.op (.load 35 v29) w (fun v30 w =>
      S.op (.alloc 35) w (fun v13_s w =>
      S.op (.store 35 v13_s v30) w (fun _ w =>
      S.op (.fieldAddr 35 v13_s 0) w (fun v31 w =>
      S.op (.load 5 v31) w (fun v32 w =>
      S.op (.bin BinOp.eql 5 false true v32 (Value.int IntKind.u8 0)) w (fun v34 w =>
      Br v34 (
        S.op (.load 120 v11_b) w (fun v35 w =>
        S.op (.fieldAddr 35 v13_s 2) w (fun v36 w =>
        S.op (.load 2 v36) w (fun v37 w =>
        S.op (.fieldAddr 35 v13_s 3) w (fun v38 w =>
        S.op (.load 2 v38) w (fun v39 w =>
        S.call (.fn 57) [v35, v37, v39] w (fun v40 w =>
        S.op (.bin BinOp.add 3 false true s27_ (Value.int IntKind.i64 1)) w (fun v84 w =>
        I3 v84 w ∧ μ3 v84 w < μ3 s27_ wl3) Kp) Kp) Kp) Kp) Kp) Kp) Kp) (
        S.op (.bin BinOp.eql 5 false true v32 (Value.int IntKind.u8 1)) w (fun v42 w =>
        Br v42 (
          S.op (.load 120 v11_b) w (fun v43 w =>
          S.op (.fieldAddr 35 v13_s 2) w (fun v44 w =>
          S.op (.load 2 v44) w (fun v45 w =>
          S.call (.fn 58) [v43, v45] w (fun v46 w =>
          S.op (.bin BinOp.add 3 false true s27_ (Value.int IntKind.i64 1)) w (fun v84 w =>
          I3 v84 w ∧ μ3 v84 w < μ3 s27_ wl3) Kp) Kp) Kp) Kp) Kp) (
          S.op (.bin BinOp.eql 5 false true v32 (Value.int IntKind.u8 2)) w (fun v48 w =>
          Br v48 (
            Lp fun (I12 : Value → World → Prop) (μ12 : Value → World → Nat) => I12 (Value.int IntKind.i64 0) w ∧
            ∀ (wl12 : World) (junk : Nat → Value) (s14_i : Value), I12 s14_i wl12 →
              S.op (.fieldAddr 35 v13_s 4) wl12 (fun v50 w =>
              S.op (.load 3 v50) w (fun v51 w =>
              S.call (.fn 59) [v51] w (fun v52 w =>
              S.op (.bin BinOp.lss 3 false false s14_i v52) w (fun v53 w =>
              Br v53 (
                S.op (.load 120 v11_b) w (fun v56 w =>
                S.op (.fieldAddr 35 v13_s 2) w (fun v57 w =>
                S.op (.load 2 v57) w (fun v58 w =>
                S.op (.fieldAddr 35 v13_s 3) w (fun v60 w =>
                S.op (.load 2 v60) w (fun v61 w =>
                S.op (.bin BinOp.mul 2 false false s14_i v61) w (fun v62 w =>
                S.op (.bin BinOp.add 2 false false v58 v62) w (fun v63 w =>
                S.call (.fn 57) [v56, v63, s14_i] w (fun v65 w =>
                S.op (.bin BinOp.add 3 false true s14_i (Value.int IntKind.i64 1)) w (fun v55 w =>
                I12 v55 w ∧ μ12 v55 w < μ12 s14_i wl12) Kp) Kp) Kp) Kp) Kp) Kp) Kp) Kp) Kp) (
                S.op (.bin BinOp.add 3 false true s27_ (Value.int IntKind.i64 1)) w (fun v84 w =>
                I3 v84 w ∧ μ3 v84 w < μ3 s27_ wl3) Kp)) Kp) Kp) Kp) Kp) (
            S.op (.bin BinOp.eql 5 false true v32 (Value.int IntKind.u8 3)) w (fun v67 w =>
            Br v67 (
              Lp fun (I17 : Value → World → Prop) (μ17 : Value → World → Nat) => I17 (Value.int IntKind.i64 0) w ∧
              ∀ (wl17 : World) (junk : Nat → Value) (s15_i : Value), I17 s15_i wl17 →
                S.op (.fieldAddr 35 v13_s 4) wl17 (fun v69 w =>
                S.op (.load 3 v69) w (fun v70 w =>
                S.call (.fn 59) [v70] w (fun v71 w =>
                S.op (.bin BinOp.lss 3 false false s15_i v71) w (fun v72 w =>
                Br v72 (
                  S.op (.load 120 v11_b) w (fun v75 w =>
                  S.op (.fieldAddr 35 v13_s 2) w (fun v76 w =>
                  S.op (.load 2 v76) w (fun v77 w =>
                  S.op (.fieldAddr 35 v13_s 3) w (fun v79 w =>
                  S.op (.load 2 v79) w (fun v80 w =>
                  S.op (.bin BinOp.mul 2 false false s15_i v80) w (fun v81 w =>
                  S.op (.bin BinOp.add 2 false false v77 v81) w (fun v82 w =>
                  S.call (.fn 58) [v75, v82] w (fun v83 w =>
                  S.op (.bin BinOp.add 3 false true s15_i (Value.int IntKind.i64 1)) w (fun v74 w =>
                  I17 v74 w ∧ μ17 v74 w < μ17 s15_i wl17) Kp) Kp) Kp) Kp) Kp) Kp) Kp) Kp) Kp) (
                  S.op (.bin BinOp.add 3 false true s27_ (Value.int IntKind.i64 1)) w (fun v84 w =>
                  I3 v84 w ∧ μ3 v84 w < μ3 s27_ wl3) Kp)) Kp) Kp) Kp) Kp) (
              S.op (.bin BinOp.add 3 false true s27_ (Value.int IntKind.i64 1)) w (fun v84 w =>
              I3 v84 w ∧ μ3 v84 w < μ3 s27_ wl3) Kp)) Kp)) Kp)) Kp)) Kp) Kp) Kp) Kp) Kp) Kp) Kp) (
      S.ld (.load 120 v11_b) w.drew (fun v85 =>
      S.ld (.load 120 v11_b) w.drew (fun v87 =>
      S.call (.fn 60) [v85] w.drew (fun v86 w =>
      S.same (.load 120 v11_b) v87 w ∧
      S.call (.fn 61) [v87] w (fun v88 w =>
      S.call (.fn 35) [v86, v88] w (fun v89 w =>
      S.op (.store 41 v6_builder v89) w (fun _ w =>
      S.op (.blt Builtin.len [65] 3 [a2]) w (fun v91 w =>
      Lp fun (I23 : Value → Value → Value → World → Prop) (μ23 : Value → Value → Value → World → Nat) => I23 (Value.slice none 0 0) (Value.slice none 0 0) (Value.int IntKind.i64 0) w ∧
      ∀ (wl23 : World) (junk : Nat → Value) (s8_values : Value) (s9_has : Value) (s92_ : Value), I23 s8_values s9_has s92_ wl23 →
        S.op (.bin BinOp.lss 3 false false s92_ v91) wl23 (fun v93 w =>
        Br v93 (
          S.op (.indexAddr 65 a2 s92_) w (fun v94 w =>
          S.op (.load 2 v94) w (fun v95 w =>
          S.op (.load 120 v11_b) w (fun v97 w =>
          S.call (.fn 62) [v97, v95] w (fun v99 w =>
          S.op (.extract v99 0) w (fun v100 w =>
          S.op (.extract v99 1) w (fun v101 w =>
          S.op (.buildSlice 65 1 [(0, v100)]) w (fun v104 w =>
          S.op (.blt Builtin.append [65, 65] 65 [s8_values, v104]) w (fun v105 w =>
          S.op (.buildSlice 49 1 [(0, v101)]) w (fun v108 w =>
          S.op (.blt Builtin.append [49, 49] 49 [s9_has, v108]) w (fun v109 w =>
          S.op (.bin BinOp.add 3 false true s92_ (Value.int IntKind.i64 1)) w (fun v110 w =>
          I23 v105 v109 v110 w ∧ μ23 v105 v109 v110 w < μ23 s8_values s9_has s92_ wl23) Kp) Kp) Kp) Kp) Kp) Kp) Kp) Kp) Kp) Kp) Kp) (
          S.op (.load 120 v11_b) w (fun v111 w =>
          S.call (.fn 63) [v111] w (fun v112 w =>
          S.call (.fn 36) [v112] w (fun v114 w =>
          S.call (.fn 37) [v112] w (fun v116 w =>
          S.call (.fn 35) [v114, v116] w (fun v117 w =>
          S.op (.store 41 v7_made v117) w (fun _ w =>
          S.op (.mkFunc (Fn.func 65) [] [v11_b]) w (fun v118 w =>
          S.call (.fn 64) [v118] w (fun v119 w =>
          S.ld (.load 41 v6_builder) w.drew (fun v120 =>
          S.ld (.load 41 v7_made) w.drew (fun v121 =>
          S.op (.store 41 v6_builder v120) w.drew (fun _ w =>
          S.same (.load 41 v7_made) v121 w ∧
          S.op (.store 41 v7_made v121) w (fun _ w =>
          S.ld (.load 41 v6_builder) w (fun r0 =>
          S.ld (.load 41 v7_made) w (fun r1 =>
          K (Value.tuple #[r0, r1, s8_values, s9_has, v119]) w))) Kp) Kp))) Kp) Kp) Kp) Kp) Kp) Kp) Kp) Kp)) Kp) Kp) Kp) Kp) Kp) Kp)))) Kp) Kp) Kp) Kp) Kp) Kp) Kp) Kp) Kp) Kp
theorem vc31_eq (S : Sig) (a0 a1 a2 : Value) (w : World) (K : Value → World → Prop) (Kp : KP) : vc31 S a0 a1 a2 w K Kp = fVC S [(3, [27]), (12, [14]), (17, [15]), (23, [8, 9, 92])] [] Try.f31 [a0, a1, a2] w K Kp := by kernel_rfl
theorem vc31_calls {a0 a1 a2 : Value} {w : World} {K : Value → World → Prop} {Kp : KP} (h : vc31 (nice Try.prog) a0 a1 a2 w K Kp) : Calls Try.prog 31 #[a0, a1, a2] w (ret K Kp) :=
  fVC_sound (args := [a0, a1, a2]) nice_le follows_MVcL Try.func31 (by kernel_rfl) (Eq.mp (vc31_eq _ _ _ _ _ _ _) h)

/-- pub-bracken/spec.MapFits -/
def vc32 (S : Sig) (a0 : Value) (w : World) (K : Value → World → Prop) (Kp : KP) : Prop :=
  S.op (.blt Builtin.len [25] 3 [a0]) w (fun v7 w =>
  Lp fun (I3 : Value → Value → World → Prop) (μ3 : Value → Value → World → Nat) => I3 (Value.int IntKind.i64 0) (Value.int IntKind.i64 0) w ∧
  ∀ (wl3 : World) (junk : Nat → Value) (s3_n : Value) (s8_ : Value), I3 s3_n s8_ wl3 →
    S.op (.bin BinOp.lss 3 false false s8_ v7) wl3 (fun v9 w =>
    Br v9 (
      S.op (.indexAddr 25 a0 s8_) w (fun v11 w =>
      S.op (.load 82 v11) w (fun v12 w =>
      S.op (.alloc 82) w (fun v5_s w =>
      S.op (.store 82 v5_s v12) w (fun _ w =>
      S.op (.fieldAddr 82 v5_s 0) w (fun v13 w =>
      S.op (.load 5 v13) w (fun v14 w =>
      S.op (.bin BinOp.gtr 5 false true v14 (Value.int IntKind.u8 3)) w (fun v15 w =>
      Br v15 (
        K (Value.bool false) w) (
        S.op (.fieldAddr 82 v5_s 1) w (fun v17 w =>
        S.op (.load 3 v17) w (fun v18 w =>
        S.op (.bin BinOp.lss 3 false true v18 (Value.int IntKind.i64 0)) w (fun v19 w =>
        Br v19 (
          K (Value.bool false) w) (
          S.op (.fieldAddr 82 v5_s 1) w (fun v22 w =>
          S.op (.load 3 v22) w (fun v23 w =>
          S.op (.bin BinOp.gtr 3 false false v23 s8_) w (fun v25 w =>
          Br v25 (
            K (Value.bool false) w) (
            S.op (.fieldAddr 82 v5_s 4) w (fun v28 w =>
            S.op (.load 3 v28) w (fun v29 w =>
            S.op (.bin BinOp.lss 3 false true v29 (Value.int IntKind.i64 0)) w (fun v30 w =>
            Br v30 (
              K (Value.bool false) w) (
              S.op (.fieldAddr 82 v5_s 4) w (fun v33 w =>
              S.op (.load 3 v33) w (fun v34 w =>
              S.op (.bin BinOp.gtr 3 false true v34 (Value.int IntKind.i64 2000)) w (fun v35 w =>
              Br v35 (
                K (Value.bool false) w) (
                S.op (.fieldAddr 82 v5_s 4) w (fun v38 w =>
                S.op (.load 3 v38) w (fun v39 w =>
                S.op (.bin BinOp.add 3 true false (Value.int IntKind.i64 1) v39) w (fun v40 w =>
                S.op (.bin BinOp.add 3 false false s3_n v40) w (fun v41 w =>
                S.op (.bin BinOp.add 3 false true s8_ (Value.int IntKind.i64 1)) w (fun v42 w =>
                I3 v41 v42 w ∧ μ3 v41 v42 w < μ3 s3_n s8_ wl3) Kp) Kp) Kp) Kp) Kp)) Kp) Kp) Kp)) Kp) Kp) Kp)) Kp) Kp) Kp)) Kp) Kp) Kp)) Kp) Kp) Kp) Kp) Kp) Kp) Kp) (
      S.op (.bin BinOp.leq 3 false true s3_n (Value.int IntKind.i64 12000)) w (fun v44 w =>
      K v44 w) Kp)) Kp) Kp
theorem vc32_eq (S : Sig) (a0 : Value) (w : World) (K : Value → World → Prop) (Kp : KP) : vc32 S a0 w K Kp = fVC S [(3, [3, 8])] [] Try.f32 [a0] w K Kp := by kernel_rfl
theorem vc32_calls {a0 : Value} {w : World} {K : Value → World → Prop} {Kp : KP} (h : vc32 (nice Try.prog) a0 w K Kp) : Calls Try.prog 32 #[a0] w (ret K Kp) :=
  fVC_sound (args := [a0]) nice_le follows_MVcL Try.func32 (by kernel_rfl) (Eq.mp (vc32_eq _ _ _ _ _) h)

/-- pub-bracken/spec.MapAfter -/
def vc33 (S : Sig) (a0 a1 : Value) (w : World) (K : Value → World → Prop) (Kp : KP) : Prop :=
  S.op (.box 82 a1) w (fun v3_s w =>
  S.op (.mkMap 30 none) w (fun v10 w =>
  S.op (.range 30 a0) w (fun v12 w =>
  Lp fun (I3 : World → Prop) (μ3 : World → Nat) => I3 w ∧
  ∀ (wl3 : World) (junk : Nat → Value), I3 wl3 →
    S.op (.next v12 false 0) wl3 (fun v13 w =>
    S.op (.extract v13 0) w (fun v14 w =>
    Br v14 (
      S.op (.entry v12) w (fun v15 w =>
      S.op (.extract v15 0) w (fun v16 w =>
      S.op (.extract v15 1) w (fun v17 w =>
      S.op (.mapUpdate 30 v10 v16 v17) w (fun _ w =>
      I3 w ∧ μ3 w < μ3 wl3) Kp) Kp) Kp) Kp) (
      S.op (.fieldAddr 82 v3_s 0) w (fun v21 w =>
      S.op (.load 5 v21) w (fun v22 w =>
      S.op (.bin BinOp.eql 5 false true v22 (Value.int IntKind.u8 0)) w (fun v24 w =>
      Br v24 (
        S.op (.fieldAddr 82 v3_s 2) w (fun v26 w =>
        S.op (.load 2 v26) w (fun v27 w =>
        S.op (.fieldAddr 82 v3_s 3) w (fun v28 w =>
        S.op (.load 2 v28) w (fun v29 w =>
        S.op (.mapUpdate 30 v10 v27 v29) w (fun _ w =>
        K v10 w) Kp) Kp) Kp) Kp) Kp) (
        S.op (.bin BinOp.eql 5 false true v22 (Value.int IntKind.u8 1)) w (fun v31 w =>
        Br v31 (
          S.op (.fieldAddr 82 v3_s 2) w (fun v33 w =>
          S.op (.load 2 v33) w (fun v34 w =>
          S.op (.blt Builtin.delete [30, 2] 0 [v10, v34]) w (fun _ w =>
          K v10 w) Kp) Kp) Kp) (
          S.op (.bin BinOp.eql 5 false true v22 (Value.int IntKind.u8 2)) w (fun v36 w =>
          Br v36 (
            S.op (.fieldAddr 82 v3_s 4) w (fun v37 w =>
            S.op (.load 3 v37) w (fun v38 w =>
            Lp fun (I13 : Value → World → Prop) (μ13 : Value → World → Nat) => I13 (Value.int IntKind.i64 0) w ∧
            ∀ (wl13 : World) (junk : Nat → Value) (s39_ : Value), I13 s39_ wl13 →
              S.op (.bin BinOp.lss 3 false false s39_ v38) wl13 (fun v40 w =>
              Br v40 (
                S.op (.fieldAddr 82 v3_s 2) w (fun v43 w =>
                S.op (.load 2 v43) w (fun v44 w =>
                S.op (.fieldAddr 82 v3_s 3) w (fun v46 w =>
                S.op (.load 2 v46) w (fun v47 w =>
                S.op (.bin BinOp.mul 2 false false s39_ v47) w (fun v48 w =>
                S.op (.bin BinOp.add 2 false false v44 v48) w (fun v49 w =>
                S.op (.mapUpdate 30 v10 v49 s39_) w (fun _ w =>
                S.op (.bin BinOp.add 3 false true s39_ (Value.int IntKind.i64 1)) w (fun v51 w =>
                I13 v51 w ∧ μ13 v51 w < μ13 s39_ wl13) Kp) Kp) Kp) Kp) Kp) Kp) Kp) Kp) (
                K v10 w)) Kp) Kp) Kp) (
            S.op (.bin BinOp.eql 5 false true v22 (Value.int IntKind.u8 3)) w (fun v53 w =>
            Br v53 (
              S.op (.fieldAddr 82 v3_s 4) w (fun v54 w =>
              S.op (.load 3 v54) w (fun v55 w =>
              Lp fun (I19 : Value → World → Prop) (μ19 : Value → World → Nat) => I19 (Value.int IntKind.i64 0) w ∧
              ∀ (wl19 : World) (junk : Nat → Value) (s56_ : Value), I19 s56_ wl19 →
                S.op (.bin BinOp.lss 3 false false s56_ v55) wl19 (fun v57 w =>
                Br v57 (
                  S.op (.fieldAddr 82 v3_s 2) w (fun v60 w =>
                  S.op (.load 2 v60) w (fun v61 w =>
                  S.op (.fieldAddr 82 v3_s 3) w (fun v63 w =>
                  S.op (.load 2 v63) w (fun v64 w =>
                  S.op (.bin BinOp.mul 2 false false s56_ v64) w (fun v65 w =>
                  S.op (.bin BinOp.add 2 false false v61 v65) w (fun v66 w =>
                  S.op (.blt Builtin.delete [30, 2] 0 [v10, v66]) w (fun _ w =>
                  S.op (.bin BinOp.add 3 false true s56_ (Value.int IntKind.i64 1)) w (fun v67 w =>
                  I19 v67 w ∧ μ19 v67 w < μ19 s56_ wl19) Kp) Kp) Kp) Kp) Kp) Kp) Kp) Kp) (
                  K v10 w)) Kp) Kp) Kp) (
              K v10 w)) Kp)) Kp)) Kp)) Kp) Kp) Kp)) Kp) Kp) Kp) Kp) Kp
theorem vc33_eq (S : Sig) (a0 a1 : Value) (w : World) (K : Value → World → Prop) (Kp : KP) : vc33 S a0 a1 w K Kp = fVC S [(3, []), (13, [39]), (19, [56])] [] Try.f33 [a0, a1] w K Kp := by kernel_rfl
theorem vc33_calls {a0 a1 : Value} {w : World} {K : Value → World → Prop} {Kp : KP} (h : vc33 (nice Try.prog) a0 a1 w K Kp) : Calls Try.prog 33 #[a0, a1] w (ret K Kp) :=
  fVC_sound (args := [a0, a1]) nice_le follows_MVcL Try.func33 (by kernel_rfl) (Eq.mp (vc33_eq _ _ _ _ _ _) h)

/-- pub-bracken/impl.mapsOf -/
def vc34 (S : Sig) (a0 a1 : Value) (w : World) (K : Value → World → Prop) (Kp : KP) : Prop :=
  S.op (.box 24 a0) w (fun v2_h w =>
  S.op (.load 24 v2_h) w (fun v12 w =>
  S.call (.fn 41) [v12] w (fun v13 w =>
  S.call (.fn 66) [v13] w (fun v14 w =>
  S.op (.buildSlice 88 1 [(0, v14)]) w (fun v15 w =>
  S.op (.blt Builtin.len [32] 3 [a1]) w (fun v17 w =>
  Lp fun (I3 : Value → Value → World → Prop) (μ3 : Value → Value → World → Nat) => I3 v15 (Value.int IntKind.i64 0) w ∧
  ∀ (wl3 : World) (junk : Nat → Value) (s5_l : Value) (s18_ : Value), I3 s5_l s18_ wl3 →
    S.op (.bin BinOp.lss 3 false false s18_ v17) wl3 (fun v19 w =>
    Br v19 (
      S.op (.indexAddr 32 a1 s18_) w (fun v20 w =>
      S.op (.load 35 v20) w (fun v21 w =>
      S.op (.alloc 35) w (fun v7_s w =>
      S.op (.store 35 v7_s v21) w (fun _ w =>
      S.op (.load 24 v2_h) w (fun v22 w =>
      S.call (.fn 41) [v22] w (fun v23 w =>
      S.call (.fn 66) [v23] w (fun v24 w =>
      Jn fun (J25 : Value → World → Prop) =>
      (S.op (.load 35 v7_s) w (fun v25 w =>
        S.op (.blt Builtin.len [88] 3 [s5_l]) w (fun v27 w =>
        S.call (.fn 67) [v25, v27] w (fun v28 w =>
        Br v28 (
          S.op (.fieldAddr 35 v7_s 1) w (fun v30 w =>
          S.op (.load 3 v30) w (fun v31 w =>
          S.op (.indexAddr 88 s5_l v31) w (fun v32 w =>
          S.op (.load 90 v32) w (fun v33 w =>
          S.op (.fieldAddr 35 v7_s 0) w (fun v34 w =>
          S.op (.load 5 v34) w (fun v35 w =>
          S.op (.bin BinOp.eql 5 false true v35 (Value.int IntKind.u8 0)) w (fun v37 w =>
          Br v37 (
            S.op (.fieldAddr 35 v7_s 2) w (fun v39 w =>
            S.op (.load 2 v39) w (fun v40 w =>
            S.op (.fieldAddr 35 v7_s 3) w (fun v41 w =>
            S.op (.load 2 v41) w (fun v42 w =>
            S.call (.fn 68) [v33, v40, v42] w (fun v43 w =>
            J25 v43 w) Kp) Kp) Kp) Kp) Kp) (
            S.op (.bin BinOp.eql 5 false true v35 (Value.int IntKind.u8 1)) w (fun v45 w =>
            Br v45 (
              S.op (.fieldAddr 35 v7_s 2) w (fun v47 w =>
              S.op (.load 2 v47) w (fun v48 w =>
              S.call (.fn 69) [v33, v48] w (fun v49 w =>
              J25 v49 w) Kp) Kp) Kp) (
              S.op (.bin BinOp.eql 5 false true v35 (Value.int IntKind.u8 2)) w (fun v51 w =>
              Br v51 (
                Lp fun (I16 : Value → Value → World → Prop) (μ16 : Value → Value → World → Nat) => I16 v33 (Value.int IntKind.i64 0) w ∧
                ∀ (wl16 : World) (junk : Nat → Value) (s8_m : Value) (s10_i : Value), I16 s8_m s10_i wl16 →
                  S.op (.fieldAddr 35 v7_s 4) wl16 (fun v54 w =>
                  S.op (.load 3 v54) w (fun v55 w =>
                  S.op (.bin BinOp.lss 3 false false s10_i v55) w (fun v56 w =>
                  Br v56 (
                    S.op (.fieldAddr 35 v7_s 2) w (fun v60 w =>
                    S.op (.load 2 v60) w (fun v61 w =>
                    S.op (.fieldAddr 35 v7_s 3) w (fun v63 w =>
                    S.op (.load 2 v63) w (fun v64 w =>
                    S.op (.bin BinOp.mul 2 false false s10_i v64) w (fun v65 w =>
                    S.op (.bin BinOp.add 2 false false v61 v65) w (fun v66 w =>
                    S.call (.fn 68) [s8_m, v66, s10_i] w (fun v68 w =>
                    S.op (.bin BinOp.add 3 false true s10_i (Value.int IntKind.i64 1)) w (fun v58 w =>
                    I16 v68 v58 w ∧ μ16 v68 v58 w < μ16 s8_m s10_i wl16) Kp) Kp) Kp) Kp) Kp) Kp) Kp) Kp) (
                    J25 s8_m w)) Kp) Kp) Kp) (
                S.op (.bin BinOp.eql 5 false true v35 (Value.int IntKind.u8 3)) w (fun v70 w =>
                Br v70 (
                  Lp fun (I22 : Value → Value → World → Prop) (μ22 : Value → Value → World → Nat) => I22 v33 (Value.int IntKind.i64 0) w ∧
                  ∀ (wl22 : World) (junk : Nat → Value) (s8_m : Value) (s11_i : Value), I22 s8_m s11_i wl22 →
                    S.op (.fieldAddr 35 v7_s 4) wl22 (fun v73 w =>
                    S.op (.load 3 v73) w (fun v74 w =>
                    S.op (.bin BinOp.lss 3 false false s11_i v74) w (fun v75 w =>
                    Br v75 (
                      S.op (.fieldAddr 35 v7_s 2) w (fun v79 w =>
                      S.op (.load 2 v79) w (fun v80 w =>
                      S.op (.fieldAddr 35 v7_s 3) w (fun v82 w =>
                      S.op (.load 2 v82) w (fun v83 w =>
                      S.op (.bin BinOp.mul 2 false false s11_i v83) w (fun v84 w =>
                      S.op (.bin BinOp.add 2 false false v80 v84) w (fun v85 w =>
                      S.call (.fn 69) [s8_m, v85] w (fun v86 w =>
                      S.op (.bin BinOp.add 3 false true s11_i (Value.int IntKind.i64 1)) w (fun v77 w =>
                      I22 v86 v77 w ∧ μ22 v86 v77 w < μ22 s8_m s11_i wl22) Kp) Kp) Kp) Kp) Kp) Kp) Kp) Kp) (
                      J25 s8_m w)) Kp) Kp) Kp) (
                  J25 v24 w)) Kp)) Kp)) Kp)) Kp) Kp) Kp) Kp) Kp) Kp) Kp) (
          J25 v24 w)) Kp) Kp) Kp) ∧
      (∀ (w : World) (junk : Nat → Value) (j8_m : Value), J25 j8_m w →
        S.op (.buildSlice 88 1 [(0, j8_m)]) w (fun v89 w =>
        S.op (.blt Builtin.append [88, 88] 88 [s5_l, v89]) w (fun v90 w =>
        S.op (.bin BinOp.add 3 false true s18_ (Value.int IntKind.i64 1)) w (fun v91 w =>
        I3 v90 v91 w ∧ μ3 v90 v91 w < μ3 s5_l s18_ wl3) Kp) Kp) Kp)) Kp) Kp) Kp) Kp) Kp) Kp) Kp) (
      K s5_l w)) Kp) Kp) Kp) Kp) Kp) Kp) Kp
theorem vc34_eq (S : Sig) (a0 a1 : Value) (w : World) (K : Value → World → Prop) (Kp : KP) : vc34 S a0 a1 w K Kp = fVC S [(3, [5, 18]), (16, [8, 10]), (22, [8, 11])] [(25, [8])] Try.f34 [a0, a1] w K Kp := by kernel_rfl
theorem vc34_calls {a0 a1 : Value} {w : World} {K : Value → World → Prop} {Kp : KP} (h : vc34 (nice Try.prog) a0 a1 w K Kp) : Calls Try.prog 34 #[a0, a1] w (ret K Kp) :=
  fVC_sound (args := [a0, a1]) nice_le follows_MVcL Try.func34 (by kernel_rfl) (Eq.mp (vc34_eq _ _ _ _ _ _) h)

/-- pub-bracken/impl.mapSeen -/
def vc35 (S : Sig) (a0 a1 : Value) (w : World) (K : Value → World → Prop) (Kp : KP) : Prop :=
  S.op (.alloc 41) w (fun v4 w =>
  S.op (.build 41 [(0, a0)]) w (fun v10 w =>
  S.op (.alloc 41) w (fun v5_out w =>
  S.op (.store 41 v5_out v10) w (fun _ w =>
  Lp fun (I2 : World → Prop) (μ2 : World → Nat) => I2 w ∧
  ∀ (wl2 : World) (junk : Nat → Value), I2 wl2 →
    S.call (.fn 42) [a1] wl2 (fun v12 w =>
    S.op (.un UnOp.not v12) w (fun v13 w =>
    Br v13 (
      S.call (.fn 44) [a1] w (fun v16 w =>
      S.op (.extract v16 0) w (fun v17 w =>
      S.op (.extract v16 1) w (fun v18 w =>
      S.op (.extract v16 2) w (fun v19 w =>
      S.op (.fieldAddr 41 v5_out 1) w (fun v20 w =>
      S.op (.load 39 v20) w (fun v21 w =>
      S.op (.build 46 [(0, v17), (1, v18)]) w (fun v24 w =>
      S.op (.buildSlice 39 1 [(0, v24)]) w (fun v25 w =>
      S.op (.blt Builtin.append [39, 39] 39 [v21, v25]) w (fun v26 w =>
      S.op (.fieldAddr 41 v5_out 1) w (fun v27 w =>
      S.op (.store 39 v27 v26) w (fun _ w =>
      I2 w ∧ μ2 w < μ2 wl2) Kp) Kp) Kp) Kp) Kp) Kp) Kp) Kp) Kp) Kp) Kp) (
      S.op (.load 41 v5_out) w (fun v28 w =>
      S.op (.store 41 v4 v28) w (fun _ w =>
      S.ld (.load 41 v4) w (fun r0 =>
      K r0 w)) Kp) Kp)) Kp) Kp) Kp) Kp) Kp) Kp
theorem vc35_eq (S : Sig) (a0 a1 : Value) (w : World) (K : Value → World → Prop) (Kp : KP) : vc35 S a0 a1 w K Kp = fVC S [(2, [])] [] Try.f35 [a0, a1] w K Kp := by kernel_rfl
theorem vc35_calls {a0 a1 : Value} {w : World} {K : Value → World → Prop} {Kp : KP} (h : vc35 (nice Try.prog) a0 a1 w K Kp) : Calls Try.prog 35 #[a0, a1] w (ret K Kp) :=
  fVC_sound (args := [a0, a1]) nice_le follows_MVcL Try.func35 (by kernel_rfl) (Eq.mp (vc35_eq _ _ _ _ _ _) h)

/-- pub-bracken/spec.MapHas -/
def vc38 (S : Sig) (a0 a1 : Value) (w : World) (K : Value → World → Prop) (Kp : KP) : Prop :=
  S.op (.blt Builtin.len [43] 3 [a1]) w (fun v11 w =>
  S.op (.blt Builtin.len [30] 3 [a0]) w (fun v13 w =>
  S.op (.bin BinOp.neq 3 false false v11 v13) w (fun v14 w =>
  Br v14 (
    K (Value.bool false) w) (
    S.op (.mkMap 140 none) w (fun v15 w =>
    S.op (.blt Builtin.len [43] 3 [a1]) w (fun v17 w =>
    Lp fun (I5 : Value → World → Prop) (μ5 : Value → World → Nat) => I5 (Value.int IntKind.i64 0) w ∧
    ∀ (wl5 : World) (junk : Nat → Value) (s18_ : Value), I5 s18_ wl5 →
      S.op (.bin BinOp.lss 3 false false s18_ v17) wl5 (fun v19 w =>
      Br v19 (
        S.op (.indexAddr 43 a1 s18_) w (fun v20 w =>
        S.op (.load 45 v20) w (fun v21 w =>
        S.op (.alloc 45) w (fun v7_p w =>
        S.op (.store 45 v7_p v21) w (fun _ w =>
        S.op (.fieldAddr 45 v7_p 0) w (fun v24 w =>
        S.op (.load 2 v24) w (fun v25 w =>
        S.op (.lookup 30 a0 v25 true) w (fun v26 w =>
        S.op (.extract v26 0) w (fun v27 w =>
        S.op (.extract v26 1) w (fun v28 w =>
        S.op (.un UnOp.not v28) w (fun v30 w =>
        Br v30 (
          K (Value.bool false) w) (
          S.op (.fieldAddr 45 v7_p 1) w (fun v33 w =>
          S.op (.load 2 v33) w (fun v34 w =>
          S.op (.bin BinOp.neq 2 false false v27 v34) w (fun v35 w =>
          Br v35 (
            K (Value.bool false) w) (
            S.op (.fieldAddr 45 v7_p 0) w (fun v39 w =>
            S.op (.load 2 v39) w (fun v40 w =>
            S.op (.lookup 140 v15 v40 false) w (fun v41 w =>
            Br v41 (
              K (Value.bool false) w) (
              S.op (.fieldAddr 45 v7_p 0) w (fun v44 w =>
              S.op (.load 2 v44) w (fun v45 w =>
              S.op (.mapUpdate 140 v15 v45 (Value.bool true)) w (fun _ w =>
              S.op (.bin BinOp.add 3 false true s18_ (Value.int IntKind.i64 1)) w (fun v46 w =>
              I5 v46 w ∧ μ5 v46 w < μ5 s18_ wl5) Kp) Kp) Kp) Kp)) Kp) Kp) Kp)) Kp) Kp) Kp)) Kp) Kp) Kp) Kp) Kp) Kp) Kp) Kp) Kp) Kp) (
        K (Value.bool true) w)) Kp) Kp) Kp)) Kp) Kp) Kp
theorem vc38_eq (S : Sig) (a0 a1 : Value) (w : World) (K : Value → World → Prop) (Kp : KP) : vc38 S a0 a1 w K Kp = fVC S [(5, [18])] [] Try.f38 [a0, a1] w K Kp := by kernel_rfl
theorem vc38_calls {a0 a1 : Value} {w : World} {K : Value → World → Prop} {Kp : KP} (h : vc38 (nice Try.prog) a0 a1 w K Kp) : Calls Try.prog 38 #[a0, a1] w (ret K Kp) :=
  fVC_sound (args := [a0, a1]) nice_le follows_MVcL Try.func38 (by kernel_rfl) (Eq.mp (vc38_eq _ _ _ _ _ _) h)

/-- pub-bracken/laws.mapPairs -/
def vc39 (S : Sig) (a0 : Value) (w : World) (K : Value → World → Prop) (Kp : KP) : Prop :=
  S.op (.blt Builtin.len [39] 3 [a0]) w (fun v7 w =>
  Lp fun (I3 : Value → Value → World → Prop) (μ3 : Value → Value → World → Nat) => I3 (Value.slice none 0 0) (Value.int IntKind.i64 0) w ∧
  ∀ (wl3 : World) (junk : Nat → Value) (s3_out : Value) (s8_ : Value), I3 s3_out s8_ wl3 →
    S.op (.bin BinOp.lss 3 false false s8_ v7) wl3 (fun v9 w =>
    Br v9 (
      S.op (.indexAddr 39 a0 s8_) w (fun v10 w =>
      S.op (.load 46 v10) w (fun v11 w =>
      S.op (.alloc 46) w (fun v5_p w =>
      S.op (.store 46 v5_p v11) w (fun _ w =>
      S.op (.load 46 v5_p) w (fun v13 w =>
      S.op (.buildSlice 43 1 [(0, v13)]) w (fun v14 w =>
      S.op (.blt Builtin.append [43, 43] 43 [s3_out, v14]) w (fun v15 w =>
      S.op (.bin BinOp.add 3 false true s8_ (Value.int IntKind.i64 1)) w (fun v16 w =>
      I3 v15 v16 w ∧ μ3 v15 v16 w < μ3 s3_out s8_ wl3) Kp) Kp) Kp) Kp) Kp) Kp) Kp) Kp) (
      K s3_out w)) Kp) Kp
theorem vc39_eq (S : Sig) (a0 : Value) (w : World) (K : Value → World → Prop) (Kp : KP) : vc39 S a0 w K Kp = fVC S [(3, [3, 8])] [] Try.f39 [a0] w K Kp := by kernel_rfl
theorem vc39_calls {a0 : Value} {w : World} {K : Value → World → Prop} {Kp : KP} (h : vc39 (nice Try.prog) a0 w K Kp) : Calls Try.prog 39 #[a0] w (ret K Kp) :=
  fVC_sound (args := [a0]) nice_le follows_MVcL Try.func39 (by kernel_rfl) (Eq.mp (vc39_eq _ _ _ _ _) h)

/-- pub-bracken/impl.hasher -/
def vc41 (S : Sig) (a0 : Value) (w : World) (K : Value → World → Prop) (Kp : KP) : Prop :=
  S.op (.box 24 a0) w (fun v1_h w =>
  S.op (.fieldAddr 24 v1_h 0) w (fun v3 w =>
  S.op (.load 22 v3) w (fun v4 w =>
  S.op (.bin BinOp.eql 22 false true v4 (Value.int IntKind.u32 0)) w (fun v5 w =>
  Br v5 (
    K Value.nilIface w) (
    S.op (.load 24 v1_h) w (fun v6 w =>
    S.op (.build 143 [(0, v6)]) w (fun v7 w =>
    S.op (.mkIface 143 v7) w (fun v8 w =>
    K v8 w) Kp) Kp) Kp)) Kp) Kp) Kp) Kp
theorem vc41_eq (S : Sig) (a0 : Value) (w : World) (K : Value → World → Prop) (Kp : KP) : vc41 S a0 w K Kp = fVC S [] [] Try.f41 [a0] w K Kp := by kernel_rfl
theorem vc41_calls {a0 : Value} {w : World} {K : Value → World → Prop} {Kp : KP} (h : vc41 (nice Try.prog) a0 w K Kp) : Calls Try.prog 41 #[a0] w (ret K Kp) :=
  fVC_sound (args := [a0]) nice_le follows_MVcL Try.func41 (by kernel_rfl) (Eq.mp (vc41_eq _ _ _ _ _) h)

/-- pub-bracken/impl.counted -/
def vc59 (S : Sig) (a0 : Value) (w : World) (K : Value → World → Prop) (Kp : KP) : Prop :=
  S.op (.bin BinOp.gtr 3 false true a0 (Value.int IntKind.i64 100000)) w (fun v4 w =>
  Br v4 (
    K (Value.int IntKind.i64 0) w) (
    K a0 w)) Kp
theorem vc59_eq (S : Sig) (a0 : Value) (w : World) (K : Value → World → Prop) (Kp : KP) : vc59 S a0 w K Kp = fVC S [] [] Try.f59 [a0] w K Kp := by kernel_rfl
theorem vc59_calls {a0 : Value} {w : World} {K : Value → World → Prop} {Kp : KP} (h : vc59 (nice Try.prog) a0 w K Kp) : Calls Try.prog 59 #[a0] w (ret K Kp) :=
  fVC_sound (args := [a0]) nice_le follows_MVcL Try.func59 (by kernel_rfl) (Eq.mp (vc59_eq _ _ _ _ _) h)

/-- pub-bracken/impl.thrown -/
def vc64 (S : Sig) (a0 : Value) (w : World) (K : Value → World → Prop) (Kp : KP) : Prop :=
  S.op (.alloc 4) w (fun v2_is w =>
  S.op (.mkFunc (Fn.func 83) [] [v2_is]) w (fun v3 w =>
  False) Kp) Kp
theorem vc64_eq (S : Sig) (a0 : Value) (w : World) (K : Value → World → Prop) (Kp : KP) : vc64 S a0 w K Kp = fVC S [] [] Try.f64 [a0] w K Kp := by kernel_rfl
theorem vc64_calls {a0 : Value} {w : World} {K : Value → World → Prop} {Kp : KP} (h : vc64 (nice Try.prog) a0 w K Kp) : Calls Try.prog 64 #[a0] w (ret K Kp) :=
  fVC_sound (args := [a0]) nice_le follows_MVcL Try.func64 (by kernel_rfl) (Eq.mp (vc64_eq _ _ _ _ _) h)

/-- pub-bracken/impl.MapBuild$1 -/
def vc65 (S : Sig) (a0 : Value) (w : World) (K : Value → World → Prop) (Kp : KP) : Prop :=
  S.op (.load 120 a0) w (fun v1 w =>
  S.call (.fn 63) [v1] w (fun v2 w =>
  K (Value.tuple #[]) w) Kp) Kp
theorem vc65_eq (S : Sig) (a0 : Value) (w : World) (K : Value → World → Prop) (Kp : KP) : vc65 S a0 w K Kp = fVC S [] [] Try.f65 [a0] w K Kp := by kernel_rfl
theorem vc65_calls {a0 : Value} {w : World} {K : Value → World → Prop} {Kp : KP} (h : vc65 (nice Try.prog) a0 w K Kp) : Calls Try.prog 65 #[a0] w (ret K Kp) :=
  fVC_sound (args := [a0]) nice_le follows_MVcL Try.func65 (by kernel_rfl) (Eq.mp (vc65_eq _ _ _ _ _) h)

/-- pub-bracken/impl.mapStep -/
def vc67 (S : Sig) (a0 a1 : Value) (w : World) (K : Value → World → Prop) (Kp : KP) : Prop :=
  S.op (.box 35 a0) w (fun v2_s w =>
  S.op (.fieldAddr 35 v2_s 1) w (fun v5 w =>
  S.op (.load 3 v5) w (fun v6 w =>
  S.op (.bin BinOp.geq 3 false true v6 (Value.int IntKind.i64 0)) w (fun v7 w =>
  Br v7 (
    S.op (.fieldAddr 35 v2_s 1) w (fun v9 w =>
    S.op (.load 3 v9) w (fun v10 w =>
    S.op (.bin BinOp.lss 3 false false v10 a1) w (fun v12 w =>
    Br v12 (
      S.op (.fieldAddr 35 v2_s 0) w (fun v15 w =>
      S.op (.load 5 v15) w (fun v16 w =>
      S.op (.bin BinOp.leq 5 false true v16 (Value.int IntKind.u8 3)) w (fun v17 w =>
      Br v17 (
        S.op (.fieldAddr 35 v2_s 0) w (fun v20 w =>
        S.op (.load 5 v20) w (fun v21 w =>
        S.op (.bin BinOp.lss 5 false true v21 (Value.int IntKind.u8 2)) w (fun v22 w =>
        Br v22 (
          K (Value.bool true) w) (
          S.op (.fieldAddr 35 v2_s 4) w (fun v24 w =>
          S.op (.load 3 v24) w (fun v25 w =>
          S.op (.bin BinOp.geq 3 false true v25 (Value.int IntKind.i64 0)) w (fun v26 w =>
          Br v26 (
            S.op (.fieldAddr 35 v2_s 4) w (fun v28 w =>
            S.op (.load 3 v28) w (fun v29 w =>
            S.op (.bin BinOp.leq 3 false true v29 (Value.int IntKind.i64 100000)) w (fun v30 w =>
            K v30 w) Kp) Kp) Kp) (
            K (Value.bool false) w)) Kp) Kp) Kp)) Kp) Kp) Kp) (
        K (Value.bool false) w)) Kp) Kp) Kp) (
      K (Value.bool false) w)) Kp) Kp) Kp) (
    K (Value.bool false) w)) Kp) Kp) Kp) Kp
theorem vc67_eq (S : Sig) (a0 a1 : Value) (w : World) (K : Value → World → Prop) (Kp : KP) : vc67 S a0 a1 w K Kp = fVC S [] [] Try.f67 [a0, a1] w K Kp := by kernel_rfl
theorem vc67_calls {a0 a1 : Value} {w : World} {K : Value → World → Prop} {Kp : KP} (h : vc67 (nice Try.prog) a0 a1 w K Kp) : Calls Try.prog 67 #[a0, a1] w (ret K Kp) :=
  fVC_sound (args := [a0, a1]) nice_le follows_MVcL Try.func67 (by kernel_rfl) (Eq.mp (vc67_eq _ _ _ _ _ _) h)

/-- pub-bracken/pub/immutable.assert -/
def vc81 (S : Sig) (a0 a1 : Value) (w : World) (K : Value → World → Prop) (Kp : KP) : Prop :=
  S.op (.un UnOp.not a0) w (fun v5 w =>
  Br v5 (
    S.op (.mkIface 9 a1) w (fun v7 w =>
    S.op (.panic v7) w (fun _ w =>
    K (Value.tuple #[]) w) Kp) Kp) (
    K (Value.tuple #[]) w)) Kp
theorem vc81_eq (S : Sig) (a0 a1 : Value) (w : World) (K : Value → World → Prop) (Kp : KP) : vc81 S a0 a1 w K Kp = fVC S [] [] Try.f81 [a0, a1] w K Kp := by kernel_rfl
theorem vc81_calls {a0 a1 : Value} {w : World} {K : Value → World → Prop} {Kp : KP} (h : vc81 (nice Try.prog) a0 a1 w K Kp) : Calls Try.prog 81 #[a0, a1] w (ret K Kp) :=
  fVC_sound (args := [a0, a1]) nice_le follows_MVcL Try.func81 (by kernel_rfl) (Eq.mp (vc81_eq _ _ _ _ _ _) h)

/-- pub-bracken/impl.thrown$1 -/
def vc83 (S : Sig) (a0 : Value) (w : World) (K : Value → World → Prop) (Kp : KP) : Prop :=
  S.op (.blt Builtin.recover [] 20 []) w (fun v1 w =>
  S.op (.bin BinOp.neq 20 false true v1 Value.nilIface) w (fun v2 w =>
  S.op (.store 4 a0 v2) w (fun _ w =>
  K (Value.tuple #[]) w) Kp) Kp) Kp
theorem vc83_eq (S : Sig) (a0 : Value) (w : World) (K : Value → World → Prop) (Kp : KP) : vc83 S a0 w K Kp = fVC S [] [] Try.f83 [a0] w K Kp := by kernel_rfl
theorem vc83_calls {a0 : Value} {w : World} {K : Value → World → Prop} {Kp : KP} (h : vc83 (nice Try.prog) a0 w K Kp) : Calls Try.prog 83 #[a0] w (ret K Kp) :=
  fVC_sound (args := [a0]) nice_le follows_MVcL Try.func83 (by kernel_rfl) (Eq.mp (vc83_eq _ _ _ _ _) h)

/-- (pub-bracken/impl.dataHasher).Equal -/
def vc114 (S : Sig) (a0 a1 a2 : Value) (w : World) (K : Value → World → Prop) (Kp : KP) : Prop :=
  S.op (.box 143 a0) w (fun v3_d w =>
  S.op (.bin BinOp.eql 2 false false a1 a2) w (fun v9 w =>
  K v9 w) Kp) Kp
theorem vc114_eq (S : Sig) (a0 a1 a2 : Value) (w : World) (K : Value → World → Prop) (Kp : KP) : vc114 S a0 a1 a2 w K Kp = fVC S [] [] Try.f114 [a0, a1, a2] w K Kp := by kernel_rfl
theorem vc114_calls {a0 a1 a2 : Value} {w : World} {K : Value → World → Prop} {Kp : KP} (h : vc114 (nice Try.prog) a0 a1 a2 w K Kp) : Calls Try.prog 114 #[a0, a1, a2] w (ret K Kp) :=
  fVC_sound (args := [a0, a1, a2]) nice_le follows_MVcL Try.func114 (by kernel_rfl) (Eq.mp (vc114_eq _ _ _ _ _ _ _) h)

/-- (pub-bracken/impl.dataHasher).Hash -/
def vc115 (S : Sig) (a0 a1 : Value) (w : World) (K : Value → World → Prop) (Kp : KP) : Prop :=
  S.op (.box 143 a0) w (fun v2_d w =>
  S.pur (.conv 2 22 a1) (fun v6 =>
  S.pur (.fieldAddr 143 v2_d 0) (fun v7 =>
  S.pur (.fieldAddr 24 v7 1) (fun v8 =>
  S.ld (.load 22 v8) w.drew (fun v9 =>
  S.pur (.bin BinOp.mul 22 false false v6 v9) (fun v10 =>
  S.pur (.fieldAddr 143 v2_d 0) (fun v11 =>
  S.pur (.fieldAddr 24 v11 0) (fun v12 =>
  S.ld (.load 22 v12) w.drew (fun v13 =>
  S.pur (.bin BinOp.rem 22 false false v10 v13) (fun v14 =>
  S.pur (.fieldAddr 143 v2_d 0) (fun v15 =>
  S.pur (.fieldAddr 24 v15 2) (fun v16 =>
  S.ld (.load 5 v16) w.drew (fun v17 =>
  S.pur (.bin BinOp.shl 22 false false v14 v17) (fun v18 =>
  K v18 w.drew)))))))))))))) Kp
theorem vc115_eq (S : Sig) (a0 a1 : Value) (w : World) (K : Value → World → Prop) (Kp : KP) : vc115 S a0 a1 w K Kp = fVC S [] [] Try.f115 [a0, a1] w K Kp := by kernel_rfl
theorem vc115_calls {a0 a1 : Value} {w : World} {K : Value → World → Prop} {Kp : KP} (h : vc115 (nice Try.prog) a0 a1 w K Kp) : Calls Try.prog 115 #[a0, a1] w (ret K Kp) :=
  fVC_sound (args := [a0, a1]) nice_le follows_MVcL Try.func115 (by kernel_rfl) (Eq.mp (vc115_eq _ _ _ _ _ _) h)

/-- (*pub-bracken/pub/immutable.defaultHasher[int64]).Hash -/
def vc162 (S : Sig) (a0 a1 : Value) (w : World) (K : Value → World → Prop) (Kp : KP) : Prop :=
  S.op (.mkIface 2 a1) w (fun v18 w =>
  S.op (.tassert v18 20 3 true) w (fun v19 w =>
  S.op (.extract v19 1) w (fun v20 w =>
  S.op (.extract v19 0) w (fun v21 w =>
  Br v20 (
    S.op (.conv 3 234 v21) w (fun v23 w =>
    S.call (.fn 163) [v23] w (fun v24 w =>
    K v24 w) Kp) Kp) (
    S.op (.tassert v18 20 231 true) w (fun v25 w =>
    S.op (.extract v25 1) w (fun v26 w =>
    S.op (.extract v25 0) w (fun v27 w =>
    Br v26 (
      S.op (.conv 231 234 v27) w (fun v29 w =>
      S.call (.fn 163) [v29] w (fun v30 w =>
      K v30 w) Kp) Kp) (
      S.op (.tassert v18 20 232 true) w (fun v31 w =>
      S.op (.extract v31 1) w (fun v32 w =>
      S.op (.extract v31 0) w (fun v33 w =>
      Br v32 (
        S.op (.conv 232 234 v33) w (fun v35 w =>
        S.call (.fn 163) [v35] w (fun v36 w =>
        K v36 w) Kp) Kp) (
        S.op (.tassert v18 20 21 true) w (fun v37 w =>
        S.op (.extract v37 1) w (fun v38 w =>
        S.op (.extract v37 0) w (fun v39 w =>
        Br v38 (
          S.op (.conv 21 234 v39) w (fun v41 w =>
          S.call (.fn 163) [v41] w (fun v42 w =>
          K v42 w) Kp) Kp) (
          S.op (.tassert v18 20 2 true) w (fun v43 w =>
          S.op (.extract v43 1) w (fun v44 w =>
          S.op (.extract v43 0) w (fun v45 w =>
          Br v44 (
            S.op (.conv 2 234 v45) w (fun v47 w =>
            S.call (.fn 163) [v47] w (fun v48 w =>
            K v48 w) Kp) Kp) (
            S.op (.tassert v18 20 187 true) w (fun v49 w =>
            S.op (.extract v49 1) w (fun v50 w =>
            S.op (.extract v49 0) w (fun v51 w =>
            Br v50 (
              S.call (.fn 163) [v51] w (fun v53 w =>
              K v53 w) Kp) (
              S.op (.tassert v18 20 5 true) w (fun v54 w =>
              S.op (.extract v54 1) w (fun v55 w =>
              S.op (.extract v54 0) w (fun v56 w =>
              Br v55 (
                S.op (.conv 5 234 v56) w (fun v58 w =>
                S.call (.fn 163) [v58] w (fun v59 w =>
                K v59 w) Kp) Kp) (
                S.op (.tassert v18 20 233 true) w (fun v60 w =>
                S.op (.extract v60 1) w (fun v61 w =>
                S.op (.extract v60 0) w (fun v62 w =>
                Br v61 (
                  S.op (.conv 233 234 v62) w (fun v64 w =>
                  S.call (.fn 163) [v64] w (fun v65 w =>
                  K v65 w) Kp) Kp) (
                  S.op (.tassert v18 20 22 true) w (fun v66 w =>
                  S.op (.extract v66 1) w (fun v67 w =>
                  S.op (.extract v66 0) w (fun v68 w =>
                  Br v67 (
                    S.op (.conv 22 234 v68) w (fun v70 w =>
                    S.call (.fn 163) [v70] w (fun v71 w =>
                    K v71 w) Kp) Kp) (
                    S.op (.tassert v18 20 234 true) w (fun v72 w =>
                    S.op (.extract v72 1) w (fun v73 w =>
                    S.op (.extract v72 0) w (fun v74 w =>
                    Br v73 (
                      S.call (.fn 163) [v74] w (fun v76 w =>
                      K v76 w) Kp) (
                      S.op (.tassert v18 20 12 true) w (fun v77 w =>
                      S.op (.extract v77 1) w (fun v78 w =>
                      S.op (.extract v77 0) w (fun v79 w =>
                      Br v78 (
                        S.call (.fn 163) [v79] w (fun v81 w =>
                        K v81 w) Kp) (
                        S.op (.tassert v18 20 9 true) w (fun v82 w =>
                        S.op (.extract v82 1) w (fun v83 w =>
                        S.op (.extract v82 0) w (fun v84 w =>
                        Br v83 (
                          S.call (.fn 164) [v84] w (fun v86 w =>
                          K v86 w) Kp) (
                          S.op (.mkIface 9 (Value.string { data := #[105, 109, 109, 117, 116, 97, 98, 108, 101, 46, 100, 101, 102, 97, 117, 108, 116, 72, 97, 115, 104, 101, 114, 46, 72, 97, 115, 104, 58, 32, 109, 117, 115, 116, 32, 115, 101, 116, 32, 99, 111, 109, 112, 97, 114, 101, 114, 32, 102, 111, 114, 32, 37, 84, 32, 116, 121, 112, 101] })) w (fun v87 w =>
                          S.op (.panic v87) w (fun _ w =>
                          K (Value.int IntKind.u32 0) w) Kp) Kp)) Kp) Kp) Kp)) Kp) Kp) Kp)) Kp) Kp) Kp)) Kp) Kp) Kp)) Kp) Kp) Kp)) Kp) Kp) Kp)) Kp) Kp) Kp)) Kp) Kp) Kp)) Kp) Kp) Kp)) Kp) Kp) Kp)) Kp) Kp) Kp)) Kp) Kp) Kp) Kp
theorem vc162_eq (S : Sig) (a0 a1 : Value) (w : World) (K : Value → World → Prop) (Kp : KP) : vc162 S a0 a1 w K Kp = fVC S [] [] Try.f162 [a0, a1] w K Kp := by kernel_rfl
theorem vc162_calls {a0 a1 : Value} {w : World} {K : Value → World → Prop} {Kp : KP} (h : vc162 (nice Try.prog) a0 a1 w K Kp) : Calls Try.prog 162 #[a0, a1] w (ret K Kp) :=
  fVC_sound (args := [a0, a1]) nice_le follows_MVcL Try.func162 (by kernel_rfl) (Eq.mp (vc162_eq _ _ _ _ _ _) h)

end Go.Proofs.Ytbghmbbhkoniiaa
end
section
/- The hasher that is chosen for a map without one. -/
set_option maxRecDepth 100000
set_option maxHeartbeats 1000000
set_option linter.unusedSimpArgs false
set_option linter.unusedVariables false
set_option linter.unusedSectionVars false
namespace Go.Proofs.Ytbghmbbhkoniiaa.I
open Go.Vc Go.Proofs Go.Proofs.Ytbghmbbhkoniiaa Go.Vc.Nd
variable {w w' : World} {K : Value → World → Prop} {Kp : KP} {k : Ky}

theorem xor_u64 {a b : Nat} (ha : a < 2 ^ 64) (hb : b < 2 ^ 64) : bitsV .xor .u64 (a : Int) (b : Int) = ((a ^^^ b : Nat) : Int) := by
  have h : (BitVec.ofInt 64 (a : Int) ^^^ BitVec.ofInt 64 (b : Int)).toNat = a ^^^ b := by
    rw [BitVec.toNat_xor, BitVec.toNat_ofInt, BitVec.toNat_ofInt]
    congr 1 <;> omega
  show IntKind.u64.wrap ((BitVec.ofInt 64 (a : Int) ^^^ BitVec.ofInt 64 (b : Int)).toNat : Int) = _
  rw [h, IntKind.wrap_u64]
  have := Nat.xor_lt_two_pow ha hb
  omega
def h64 : Nat → Nat → Nat → Nat
  | 0, _, h => h
  | n + 1, v, h => if 4294967295 < v then h64 n (v / 4294967295) (h ^^^ (v / 4294967295)) else h
/-- The hash that the default hasher makes of a key. -/
def defHash (k : Ky) : Nat := (IntKind.u32.wrap ((h64 3 (IntKind.u64.wrap k).toNat (IntKind.u64.wrap k).toNat : Nat) : Int)).toNat
theorem hash64_ok {v : Nat} (hv : v < 2 ^ 64) (hK : K (.int .u32 (IntKind.u32.wrap ((h64 3 v v : Nat) : Int))) w) : Calls Try.prog 163 #[.int .u64 (v : Int)] w (ret K Kp) := by
  refine vc163_calls ?_
  simp only [vc163]
  obtain ⟨I, hI⟩ : ∃ I : Value → Value → World → Prop, ∀ s t wl, I s t wl ↔ ∃ n x h : Nat, s = .int .u64 (x : Int) ∧ t = .int .u64 (h : Int) ∧ h < 2 ^ 64 ∧ h64 n x h = h64 3 v v ∧ (n = 3 ∧ x < 2 ^ 64 ∨ n = 2 ∧ x ≤ 4294967297 ∨ n = 1 ∧ x ≤ 1) ∧ wl = w := ⟨_, fun _ _ _ => Iff.rfl⟩
  refine Lp.intro I (fun s _ _ => natOf s) ⟨(hI _ _ _).2 ⟨3, v, v, rfl, rfl, hv, rfl, .inl ⟨rfl, hv⟩, rfl⟩, ?_⟩
  intro wl _ s t hs
  obtain ⟨n, x, h, rfl, rfl, hh, he, hn, rfl⟩ := (hI _ _ _).1 hs
  simp only [op_gtr, Br_dec]
  refine ⟨fun hgt => ?_, fun hle => ?_⟩
  · have hgt' : 4294967295 < x := by omega
    have hx64 : x < 2 ^ 64 := by omega
    have hd : (x : Int).tdiv 4294967295 = ((x / 4294967295 : Nat) : Int) := rfl
    have hdl : x / 4294967295 < 2 ^ 64 := by omega
    have hw : IntKind.u64.wrap ((x / 4294967295 : Nat) : Int) = ((x / 4294967295 : Nat) : Int) := by rw [IntKind.wrap_u64]; omega
    simp only [op_quo, hd, hw, op_xor, xor_u64 hh hdl]
    refine ⟨by decide, ?_⟩
    have hx2 := Nat.xor_lt_two_pow hh hdl
    obtain ⟨m, rfl⟩ : ∃ m, n = m + 1 := ⟨n - 1, by omega⟩
    rw [h64, if_pos hgt'] at he
    refine ⟨(hI _ _ _).2 ⟨m, _, _, rfl, rfl, hx2, he, by omega, rfl⟩, ?_⟩
    simp only [natOf, Int.toNat_natCast]; omega
  · have hle' : ¬ 4294967295 < x := by omega
    have : h64 3 v v = h := by
      rw [← he]
      cases n with
      | zero => rfl
      | succ n => rw [h64, if_neg hle']
    rw [this] at hK
    simp [-getElem?_pos, -Array.getElem?_eq_getElem, List.getElem?_cons_zero, List.getElem?_cons_succ, -Int.natCast_add, add_spot, and_assoc, Br_dec, -op_box, ]
    exact hK
def defV (d : Nat) : Value := .iface 235 (ptr d)
theorem hash_eql {w : World} {K : Value → World → Prop} {Kp : KP} {a b : Ky} (hK : K (.bool (decide (a = b))) w) : (nice Try.prog).op (.bin .eql 20 false false (.iface 2 (ek a)) (.iface 2 (ek b))) w K Kp :=
  op_eql_ifaces (i := (Try.prog.info? 2).getD default) Try.underlying20 (by kernel_rfl) (by kernel_rfl) (fun w => eql_int Try.underlying2 w) hK
/-- What the default hasher does. -/
structure IsD (hv : Value) : Prop where
  eqv : ∀ {a b : Ky} {w : World} {K : Value → World → Prop} {Kp : KP}, (∀ w', Frm (fun _ => False) w w' → K (.bool (decide (a = b))) w') → (nice Try.prog).call (.inv hv "Equal") [ek a, ek b] w K Kp
theorem defEq_ok {d : Nat} {a b : Ky} (hK : K (.bool (decide (a = b))) w) : (nice Try.prog).call (.inv (defV d) "Equal") [ek a, ek b] w K Kp := by
  simp only [defV, inv_235_161]
  refine vc161_calls ?_
  simp only [vc161]
  simp [-getElem?_pos, -Array.getElem?_eq_getElem, List.getElem?_cons_zero, List.getElem?_cons_succ, -Int.natCast_add, add_spot, and_assoc, Br_dec, -op_box, ]
  exact hash_eql hK
theorem defHash_ok {d : Nat} (hK : K (.int .u32 (defHash k)) w) : (nice Try.prog).call (.inv (defV d) "Hash") [ek k] w K Kp := by
  simp only [defV, inv_235_162]
  refine vc162_calls ?_
  simp only [vc162, ek]
  have h0 : 0 ≤ IntKind.u64.wrap k ∧ IntKind.u64.wrap k < 18446744073709551616 := by rw [IntKind.wrap_u64]; omega
  obtain ⟨v, hv⟩ : ∃ v : Nat, IntKind.u64.wrap k = v := ⟨(IntKind.u64.wrap k).toNat, by omega⟩
  simp [-getElem?_pos, -Array.getElem?_eq_getElem, List.getElem?_cons_zero, List.getElem?_cons_succ, -Int.natCast_add, add_spot, and_assoc, Br_dec, -op_box, hv]
  refine hash64_ok (by omega) ?_
  have e : (defHash k : Int) = IntKind.u32.wrap ((h64 3 v v : Nat) : Int) := by
    have h1 : 0 ≤ IntKind.u32.wrap ((h64 3 v v : Nat) : Int) := by rw [IntKind.wrap_u32]; omega
    rw [defHash, hv, Int.toNat_natCast]; omega
  rw [e] at hK
  exact hK
theorem defHasher_ok (d : Nat) : IsH (defV d) defHash where
  lt k := by
    have : 0 ≤ IntKind.u32.wrap ((h64 3 (IntKind.u64.wrap k).toNat (IntKind.u64.wrap k).toNat : Nat) : Int) ∧ IntKind.u32.wrap ((h64 3 (IntKind.u64.wrap k).toNat (IntKind.u64.wrap k).toNat : Nat) : Int) < 4294967296 := by rw [IntKind.wrap_u32]; omega
    rw [defHash]; omega
  eqv := fun hK => defEq_ok (hK _ Frm.refl)
  hsh := fun hK => defHash_ok (hK _ Frm.refl)
  nilE := by intro K1; simp [defV, ptr]
  iface := ⟨_, _, rfl⟩
private theorem mixed : Try.prog.follows .mixedOrders = true := by kernel_rfl
set_option maxHeartbeats 4000000 in
theorem newHasher_ok (hK : ∀ d w', Frm (fun _ => False) w w' → K (defV d) w') : Calls Try.prog 84 #[ek k] w (ret K Kp) := by
  refine fVC_sound (args := [ek k]) (aL := []) (aJ := []) nice_le mixed Try.func84 (by kernel_rfl) ?_
  refine fVC_of (c := _) rfl ?_
  refine code_seq ?_
  refine code_region ?_
  refine ops_move rfl (.inr rfl) ?_
  refine ops_end ?_
  refine code_seq ?_
  refine code_seq ?_
  refine code_region ?_
  refine ops_move rfl (.inl rfl) ?_
  refine ops_op rfl rfl rfl ?_
  refine Eq.mpr (op_mki_2 (v := ek k)) ?_
  refine ops_end ?_
  refine code_block ?_
  refine code_seq ?_
  refine code_region ?_
  refine ops_op rfl rfl rfl ?_
  refine Eq.mpr (op_ta_20_3 (u := 2) (v := ek k)) ?_
  refine ite_no (by decide) ?_
  refine ops_op rfl rfl rfl ?_
  refine Eq.mpr op_ext2_1 ?_
  refine ops_op rfl rfl rfl ?_
  refine Eq.mpr op_ext2_0 ?_
  refine ops_op rfl rfl rfl ?_
  refine Eq.mpr (op_ta_20_231 (u := 2) (v := ek k)) ?_
  refine ite_no (by decide) ?_
  refine ops_op rfl rfl rfl ?_
  refine Eq.mpr op_ext2_1 ?_
  refine ops_op rfl rfl rfl ?_
  refine Eq.mpr op_ext2_0 ?_
  refine ops_op rfl rfl rfl ?_
  refine Eq.mpr (op_ta_20_232 (u := 2) (v := ek k)) ?_
  refine ite_no (by decide) ?_
  refine ops_op rfl rfl rfl ?_
  refine Eq.mpr op_ext2_1 ?_
  refine ops_op rfl rfl rfl ?_
  refine Eq.mpr op_ext2_0 ?_
  refine ops_op rfl rfl rfl ?_
  refine Eq.mpr (op_ta_20_21 (u := 2) (v := ek k)) ?_
  refine ite_no (by decide) ?_
  refine ops_op rfl rfl rfl ?_
  refine Eq.mpr op_ext2_1 ?_
  refine ops_op rfl rfl rfl ?_
  refine Eq.mpr op_ext2_0 ?_
  refine ops_op rfl rfl rfl ?_
  refine Eq.mpr (op_ta_20_2 (u := 2) (v := ek k)) ?_
  refine ite_yes rfl ?_
  refine ops_op rfl rfl rfl ?_
  refine Eq.mpr op_ext2_1 ?_
  refine ops_op rfl rfl rfl ?_
  refine Eq.mpr op_ext2_0 ?_
  refine ops_op rfl rfl rfl ?_
  refine Eq.mpr (op_ta_20_187 (u := 2) (v := ek k)) ?_
  refine ite_no (by decide) ?_
  refine ops_op rfl rfl rfl ?_
  refine Eq.mpr op_ext2_1 ?_
  refine ops_op rfl rfl rfl ?_
  refine Eq.mpr op_ext2_0 ?_
  refine ops_op rfl rfl rfl ?_
  refine Eq.mpr (op_ta_20_5 (u := 2) (v := ek k)) ?_
  refine ite_no (by decide) ?_
  refine ops_op rfl rfl rfl ?_
  refine Eq.mpr op_ext2_1 ?_
  refine ops_op rfl rfl rfl ?_
  refine Eq.mpr op_ext2_0 ?_
  refine ops_op rfl rfl rfl ?_
  refine Eq.mpr (op_ta_20_233 (u := 2) (v := ek k)) ?_
  refine ite_no (by decide) ?_
  refine ops_op rfl rfl rfl ?_
  refine Eq.mpr op_ext2_1 ?_
  refine ops_op rfl rfl rfl ?_
  refine Eq.mpr op_ext2_0 ?_
  refine ops_op rfl rfl rfl ?_
  refine Eq.mpr (op_ta_20_22 (u := 2) (v := ek k)) ?_
  refine ite_no (by decide) ?_
  refine ops_op rfl rfl rfl ?_
  refine Eq.mpr op_ext2_1 ?_
  refine ops_op rfl rfl rfl ?_
  refine Eq.mpr op_ext2_0 ?_
  refine ops_op rfl rfl rfl ?_
  refine Eq.mpr (op_ta_20_234 (u := 2) (v := ek k)) ?_
  refine ite_no (by decide) ?_
  refine ops_op rfl rfl rfl ?_
  refine Eq.mpr op_ext2_1 ?_
  refine ops_op rfl rfl rfl ?_
  refine Eq.mpr op_ext2_0 ?_
  refine ops_op rfl rfl rfl ?_
  refine Eq.mpr (op_ta_20_12 (u := 2) (v := ek k)) ?_
  refine ite_no (by decide) ?_
  refine ops_op rfl rfl rfl ?_
  refine Eq.mpr op_ext2_1 ?_
  refine ops_op rfl rfl rfl ?_
  refine Eq.mpr op_ext2_0 ?_
  refine ops_op rfl rfl rfl ?_
  refine Eq.mpr (op_ta_20_9 (u := 2) (v := ek k)) ?_
  refine ite_no (by decide) ?_
  refine ops_op rfl rfl rfl ?_
  refine Eq.mpr op_ext2_1 ?_
  refine ops_op rfl rfl rfl ?_
  refine Eq.mpr op_ext2_0 ?_
  refine ops_pick (b := false) rfl rfl rfl rfl ?_
  refine ops_pick (b := false) rfl rfl rfl rfl ?_
  refine ops_pick (b := false) rfl rfl rfl rfl ?_
  refine ops_pick (b := false) rfl rfl rfl rfl ?_
  refine ops_pick (b := false) rfl rfl rfl rfl ?_
  refine ops_pick (b := false) rfl rfl rfl rfl ?_
  refine ops_pick (b := true) rfl rfl rfl rfl ?_
  refine ops_pick (b := false) rfl rfl rfl rfl ?_
  refine ops_pick (b := false) rfl rfl rfl rfl ?_
  refine ops_pick (b := false) rfl rfl rfl rfl ?_
  refine ops_pick (b := false) rfl rfl rfl rfl ?_
  refine ops_end ?_
  refine code_cond (t := true) rfl (.inr rfl) ?_
  refine code_seq ?_
  refine code_region ?_
  refine ops_op rfl rfl rfl ?_
  refine Eq.mpr (op_build (v := .agg #[]) (by kernel_rfl)) ?_
  refine ops_op rfl rfl rfl ?_
  refine op_box_ok fun w1 k1 z1 b1 => ?_
  refine ops_op rfl rfl rfl ?_
  refine Eq.mpr (op_mki_235 (v := ptr w.heap.size)) ?_
  refine ops_move rfl (.inr rfl) ?_
  refine ops_end ?_
  refine code_ret ?_
  exact hK _ w1 k1
end Go.Proofs.Ytbghmbbhkoniiaa.I
end
section
/- A map with its hasher, chosen or to be chosen at the first key: set, delete, get, length, iterator. -/
set_option maxRecDepth 100000
set_option maxHeartbeats 1000000
set_option linter.unusedSimpArgs false
set_option linter.unusedVariables false
set_option linter.unusedSectionVars false
namespace Go.Proofs.Ytbghmbbhkoniiaa.I
open Go.Vc Go.Proofs Go.Proofs.Ytbghmbbhkoniiaa Go.Vc.Nd
variable {w w' : World} {v hv : Value} {t : Tr} {F F' : Nat → Prop} {K : Value → World → Prop} {Kp : KP} {hash : Ky → Nat} {k : Ky} {x : Vl} {l s rb : Nat} {r0 mu nl : Bool}

theorem set_first_ok {b : Nat} (hm : IsMap w b .nilIface .emp F)
    (hK : ∀ b' w' F' d, Frm (fun c => mu = true ∧ F c) w w' → IsMap w' b' (defV d) (.arr [(k, x)]) F' → (∀ c, F' c → F c ∨ w.heap.size ≤ c) → (mu = true → b' = b) → K (ptr b') w') : Calls Try.prog 70 #[ptr b, ek k, ev x, .bool mu] w (ret K Kp) := by
  obtain ⟨r, F0, h1, h2, h3, h4⟩ := hm.lt
  have heq := fun {wz : World} {K : Value → World → Prop} {Kp : KP} => eq_nil h3 (wz := wz) (K := K) (Kp := Kp)
  obtain rfl := h3.nil
  refine vc70_calls ?_
  simp [-getElem?_pos, -Array.getElem?_eq_getElem, List.getElem?_cons_zero, List.getElem?_cons_succ, -Int.natCast_add, add_spot, and_assoc, Br_dec, -op_box, -op_st_4, -op_st_3, -op_st_132, -op_st_149, -op_st_201, -op_st_148, -op_st_134, -op_st_99, -op_alloc_4, -op_alloc_134, -op_lit_149_1, vc70, ptr, h1]
  refine Jn.intro (fun hv' w1 => ∃ d, hv' = defV d ∧ Frm (fun _ => False) w w1) ⟨newHasher_ok fun d w1 k1 => ⟨d, rfl, k1⟩, ?_⟩
  rintro w0 _ ⟨d, rfl, k0⟩
  have h10 := k0.get h1 (fun h => h)
  have n0 := k0.size
  obtain ⟨J, hJ⟩ : ∃ J : Value → World → Prop, ∀ ov w1, J ov w1 ↔ ∃ nb, ov = ptr nb ∧ Frm (fun _ => False) w0 w1 ∧ w1.heap[nb]? = some (.cells #[.int .i64 0, .nilIface, .nilIface] 134 (0, 0)) ∧ (nb = b ∧ mu = true ∨ nb = w0.heap.size) ∧ (mu = true → nb = b) := ⟨_, fun _ _ => Iff.rfl⟩
  refine Jn.intro J ⟨fun hm => ?_, fun hm => (hJ _ _).2 ⟨b, rfl, Frm.refl, h10, .inl ⟨rfl, hm⟩, fun _ => rfl⟩, ?_⟩
  · exact clone_map_ok h10 rfl rfl rfl fun w1 k1 z1 b1 => (hJ _ _).2 ⟨_, rfl, k1, b1, .inr rfl, fun h => by rw [h] at hm; cases hm⟩
  intro w1 ov hov
  obtain ⟨nb, rfl, k1, b1, hnb, hnbm⟩ := (hJ _ _).1 hov
  clear hov hJ J
  have hb1 := k1.get h10 (fun h => h)
  have n1 := k1.size
  have l1 := lt_of_get h10
  simp [-getElem?_pos, -Array.getElem?_eq_getElem, List.getElem?_cons_zero, List.getElem?_cons_succ, -Int.natCast_add, add_spot, and_assoc, Br_dec, -op_box, -op_st_4, -op_st_3, -op_st_132, -op_st_149, -op_st_201, -op_st_148, -op_st_134, -op_st_99, -op_alloc_4, -op_alloc_134, -op_lit_149_1, ptr]
  refine op_store_ok (by kernel_rfl) b1 (by simp) rfl fun w2 k2 z2 b2 => ?_
  have b2 : w2.heap[nb]? = some (.cells #[.int .i64 0, .nilIface, defV d] 134 (0, 0)) := by simpa using b2
  obtain ⟨hh, hb2⟩ : ∃ hh, w2.heap[b]? = some (.cells #[.int .i64 0, .nilIface, hh] 134 (0, 0)) := by
    by_cases e : b = nb
    · exact ⟨_, by rw [e]; exact b2⟩
    · exact ⟨_, k2.get hb1 e⟩
  simp [-getElem?_pos, -Array.getElem?_eq_getElem, List.getElem?_cons_zero, List.getElem?_cons_succ, -Int.natCast_add, add_spot, and_assoc, Br_dec, -op_box, -op_st_4, -op_st_3, -op_st_132, -op_st_149, -op_st_201, -op_st_148, -op_st_134, -op_st_99, -op_alloc_4, -op_alloc_134, -op_lit_149_1, hb2]
  refine op_store_ok (by kernel_rfl) b2 (by simp) rfl fun w3 k3 z3 b3 => ?_
  refine op_lit_ok lit_149_1 fun w4 k4 z4 b4 => ?_
  simp [-getElem?_pos, -Array.getElem?_eq_getElem, List.getElem?_cons_zero, List.getElem?_cons_succ, -Int.natCast_add, add_spot, and_assoc, Br_dec, -op_box, -op_st_4, -op_st_3, -op_st_132, -op_st_149, -op_st_201, -op_st_148, -op_st_134, -op_st_99, -op_alloc_4, -op_alloc_134, -op_lit_149_1, ]
  refine op_box_ok fun w5 k5 z5 b5 => ?_
  simp only [cells_agg] at b5
  have bn5 := k5.get (k4.get b3 (fun h => h)) (fun h => h)
  refine op_store_ok (by kernel_rfl) bn5 (by simp) rfl fun w6 k6 z6 b6 => ?_
  have l2 := lt_of_get b2
  have hq : Rw w6 148 2 w3.heap.size 1 (ents [(k, x)]) := ((Rw.lit (w := w4) (n := 1) (by rw [ents_len]; rfl) (by decide) (by simpa [ents, ent] using b4)).frame k5 (fun h => h)).frame k6 (by omega)
  have b56 := k6.get b5 (by omega)
  have kall : Frm (fun c => mu = true ∧ F c) w w6 := (k0.to (M' := fun c => mu = true ∧ F c) fun _ h => h.elim).old (k1.fst (k2.tr (k3.tr (k4.fst (k5.fst k6))))) fun c hc => by
    have hcn : c = nb := by rcases hc with h | h | h <;> exact h
    rcases hnb with h | h
    · exact .inl ⟨h.2, by rw [hcn, h.1]; exact h2.1⟩
    · exact .inr (by omega)
  refine hK nb w6 (fun c => c = nb ∨ c = w4.heap.size ∨ c = w3.heap.size) d kall ⟨_, fun c => c = w4.heap.size ∨ c = w3.heap.size, by rw [show ((toL (Nd.arr [(k, x)])).length : Int) = 1 from rfl]; simpa [ptr] using b6, .inl rfl, ⟨w4.heap.size, w3.heap.size, 1, rfl, .inl rfl, .inr rfl, by omega, b56, by simp, hq⟩, fun c hc => ⟨.inr hc, by omega⟩⟩ (fun c hc => ?_) hnbm
  rcases hc with h | h | h
  · rcases hnb with h' | h'
    · exact .inl (by rw [h, h'.1]; exact h2.1)
    · exact .inr (by omega)
  · exact .inr (by omega)
  · exact .inr (by omega)

/-- The map in block b, with its hasher, or with none as long as it is empty. -/
def Ver (w : World) (b : Nat) (hash : Ky → Nat) (nl : Bool) (t : Tr) (F : Nat → Prop) : Prop :=
  WFr hash t ∧ ∃ hv, IsMap w b hv t F ∧ (IsH hv hash ∨ nl = true ∧ hash = defHash ∧ hv = .nilIface ∧ t = .emp)
theorem Ver.keep {b : Nat} (h : Ver w b hash nl t F) (hw : ∀ c o, F c → w.heap[c]? = some o → w'.heap[c]? = some o) : Ver w' b hash nl t F := by
  obtain ⟨h1, hv, h2, h3⟩ := h
  exact ⟨h1, hv, h2.keep hw, h3⟩
theorem Ver.frame {b : Nat} {M : Nat → Prop} (h : Ver w b hash nl t F) (hf : Frm M w w') (hM : ∀ c, F c → ¬ M c) : Ver w' b hash nl t F := h.keep fun c o hc ho => hf.get ho (hM c hc)
theorem Ver.still {b : Nat} (h : Ver w b hash nl t F) (hf : Frm (fun _ => False) w w') : Ver w' b hash nl t F := h.frame hf fun _ _ h => h
theorem Ver.mono {b : Nat} (h : Ver w b hash nl t F) (hF : ∀ c, F c → F' c) : Ver w b hash nl t F' := by
  obtain ⟨h1, hv, ⟨r, F0, g1, g2, g3, g4⟩, h3⟩ := h
  exact ⟨h1, hv, ⟨r, F0, g1, hF _ g2, g3, fun c hc => ⟨hF _ (g4 c hc).1, (g4 c hc).2⟩⟩, h3⟩
theorem Ver.lt {b : Nat} (h : Ver w b hash nl t F) : Ver w b hash nl t (fun c => F c ∧ c < w.heap.size) := by
  obtain ⟨h1, hv, h2, h3⟩ := h
  exact ⟨h1, hv, h2.lt, h3⟩
theorem Ver.mem {b : Nat} (h : Ver w b hash nl t F) : F b := by obtain ⟨h1, hv, h2, h3⟩ := h; exact h2.mem
theorem ver_set_ok {b : Nat} (hdef : ∀ d, IsH (defV d) defHash) (h : Ver w b hash nl t F) (hL : (toL t).length ≤ 1000000)
    (hK : ∀ b' w' F', Frm (fun c => mu = true ∧ F c) w w' → Ver w' b' hash nl (Nd.set hash t k x) F' → (∀ c, F' c → F c ∨ w.heap.size ≤ c) → (mu = true → b' = b) → K (ptr b') w') : Calls Try.prog 70 #[ptr b, ek k, ev x, .bool mu] w (ret K Kp) := by
  obtain ⟨h1, hv, h2, h3 | ⟨hn, rfl, rfl, rfl⟩⟩ := h
  · exact set_map_ok h3 h1 hL h2 fun b' w' F' k' m' hF' hb => hK b' w' F' k' ⟨(set_spec h3.lt h1).1, hv, m', .inl h3⟩ hF' hb
  · refine set_first_ok h2 fun b' w' F' d k' m' hF' hb => hK b' w' F' k' ⟨(set_spec (hdef d).lt h1).1, defV d, m', .inl (hdef d)⟩ hF' hb
theorem ver_del_ok {b : Nat} (h : Ver w b hash nl t F) (hL : (toL t).length ≤ 1000000)
    (hK : ∀ b' w' F', Frm (fun c => mu = true ∧ F c) w w' → Ver w' b' hash nl (delT hash t k) F' → (∀ c, F' c → F c ∨ w.heap.size ≤ c) → K (ptr b') w') : Calls Try.prog 82 #[ptr b, ek k, .bool mu] w (ret K Kp) := by
  obtain ⟨h1, hv, h2, h3 | ⟨hn, rfl, rfl, rfl⟩⟩ := h
  · refine del_map_ok h3 h1 hL h2 (fun hg w' k' => ?_) fun hg b' w' F' k' m' hF' => hK b' w' F' k' ⟨(delT_spec h1).1, hv, by rw [delT, if_pos hg]; exact m', .inl h3⟩ hF'
    have e : delT hash t k = t := by rw [delT, if_neg (by rw [hg]; decide)]
    refine hK b w' F (k'.to fun _ h => h.elim) ?_ fun c hc => .inl hc
    rw [e]
    exact ⟨h1, hv, h2.keep fun c o hc ho => k'.get ho fun h => h, .inl h3⟩
  · obtain ⟨r, F0, g1, g2, g3, g4⟩ := id h2
    obtain rfl := g3.nil
    refine vc82_calls ?_
    simp [-getElem?_pos, -Array.getElem?_eq_getElem, List.getElem?_cons_zero, List.getElem?_cons_succ, -Int.natCast_add, add_spot, and_assoc, Br_dec, -op_box, -op_st_4, -op_st_3, -op_st_132, -op_st_149, -op_st_201, -op_st_148, -op_st_134, -op_st_99, -op_alloc_4, -op_alloc_134, -op_lit_149_1, vc82, ptr, g1]
    exact hK b w F Frm.refl ⟨h1, _, h2, .inr ⟨hn, rfl, rfl, rfl⟩⟩ fun c hc => .inl hc
theorem Set_ok {b : Nat} (hdef : ∀ d, IsH (defV d) defHash) (h : Ver w b hash nl t F) (hL : (toL t).length ≤ 1000000)
    (hK : ∀ b' w' F', Frm (fun _ => False) w w' → Ver w' b' hash nl (Nd.set hash t k x) F' → (∀ c, F' c → (F c ∨ w.heap.size ≤ c) ∧ c < w'.heap.size) → K (ptr b') w') : Calls Try.prog 68 #[ptr b, ek k, ev x] w (ret K Kp) := by
  refine vc68_calls ?_
  simp only [vc68, call_70]
  exact ver_set_ok hdef h hL fun b' w' F' k' h' hF' _ => hK b' w' _ (k'.to fun _ h => nomatch h.1) h'.lt fun c hc => ⟨hF' c hc.1, hc.2⟩
theorem Delete_ok {b : Nat} (h : Ver w b hash nl t F) (hL : (toL t).length ≤ 1000000)
    (hK : ∀ b' w' F', Frm (fun _ => False) w w' → Ver w' b' hash nl (delT hash t k) F' → (∀ c, F' c → (F c ∨ w.heap.size ≤ c) ∧ c < w'.heap.size) → K (ptr b') w') : Calls Try.prog 69 #[ptr b, ek k] w (ret K Kp) := by
  refine vc69_calls ?_
  simp only [vc69, call_82]
  exact ver_del_ok h hL fun b' w' F' k' h' hF' => hK b' w' _ (k'.to fun _ h => nomatch h.1) h'.lt fun c hc => ⟨hF' c hc.1, hc.2⟩
theorem ver_get_ok {b : Nat} (h : Ver w b hash nl t F) (hK : ∀ w', Frm (fun _ => False) w w' → K (gotV (getIn (hash k) k t 0)) w') : Calls Try.prog 53 #[ptr b, ek k] w (ret K Kp) := by
  obtain ⟨h1, hv, h2, h3 | ⟨hn, rfl, rfl, rfl⟩⟩ := h
  · exact get_map_ok h3 h1 h2 hK
  · obtain ⟨r, F0, g1, g2, g3, g4⟩ := id h2
    obtain rfl := g3.nil
    refine vc53_calls ?_
    simp [-getElem?_pos, -Array.getElem?_eq_getElem, List.getElem?_cons_zero, List.getElem?_cons_succ, -Int.natCast_add, add_spot, and_assoc, Br_dec, -op_box, -op_st_4, -op_st_3, -op_st_132, -op_st_149, -op_st_201, -op_st_148, -op_st_134, -op_st_99, -op_alloc_4, -op_alloc_134, -op_lit_149_1, vc53, ptr, g1]
    exact hK w Frm.refl
theorem ver_len_ok {b : Nat} (h : Ver w b hash nl t F) (hK : K (.int .i64 (toL t).length) w) : Calls Try.prog 36 #[ptr b] w (ret K Kp) := by
  obtain ⟨h1, hv, h2, h3⟩ := h
  exact len_ok h2 hK
theorem ver_iter_ok {b : Nat} (h : Ver w b hash nl t F) (hF : ∀ c, F c → c < w.heap.size)
    (hK : ∀ ib w', Frm (fun _ => False) w w' → w.heap.size ≤ ib → At w' ib b F hash (toL t) → K (ptr ib) w') : Calls Try.prog 37 #[ptr b] w (ret K Kp) := by
  obtain ⟨h1, hv, h2, h3⟩ := h
  exact iterator_ok h1 h2 hF hK
theorem ver_First_ok {ib b : Nat} (h : Ver w b hash nl t F) (hi : Itr w ib b) (hF : ¬ F ib) (hK : ∀ w', Frm (· = ib) w w' → w'.heap.size = w.heap.size → At w' ib b F hash (toL t) → K (.tuple #[]) w') : Calls Try.prog 43 #[ptr ib] w (ret K Kp) := by
  obtain ⟨h1, hv, h2, h3⟩ := h
  exact First_ok h1 h2 hi hF hK
theorem ver_new_ok {h : Value} (hv : IsH h hash ∨ nl = true ∧ hash = defHash ∧ h = .nilIface) (h1 : h.oneCell' = true) (hK : ∀ w', Frm (fun _ => False) w w' → w'.heap.size = w.heap.size + 1 → Ver w' w.heap.size hash nl .emp (· = w.heap.size) → K (ptr w.heap.size) w') : Calls Try.prog 66 #[h] w (ret K Kp) := by
  refine vc66_calls ?_
  simp [-getElem?_pos, -Array.getElem?_eq_getElem, List.getElem?_cons_zero, List.getElem?_cons_succ, -Int.natCast_add, add_spot, and_assoc, Br_dec, -op_box, -op_st_4, -op_st_3, -op_st_132, -op_st_149, -op_st_201, -op_st_148, -op_st_134, -op_st_99, -op_alloc_4, -op_alloc_134, -op_lit_149_1, vc66, h1]
  refine op_box_ok fun w1 k1 z1 b1 => ?_
  simp only [cells_agg] at b1
  refine hK w1 k1 z1 ⟨trivial, h, ⟨.nilIface, fun _ => False, b1, rfl, rfl, fun _ h => h.elim⟩, ?_⟩
  rcases hv with hv | hv
  · exact .inl hv
  · exact .inr ⟨hv.1, hv.2.1, hv.2.2, rfl⟩
end Go.Proofs.Ytbghmbbhkoniiaa.I
end
