import Derived.Test.YtbghmbbhkoniiaaH3
import Derived.Test.YtbghmbbhkoniiaaH1
import Derived.Test.YtbghmbbhkoniiaaH0
import Derived.ProofKit
import Derived.WideKeyArgs
import Derived.Deep.Slices
import Derived.Carry
import Derived.Test.YtbghmbbhkoniiaaRows
section
/- RowsOf that a call lengthens by one element after the other, each element holding something in the heap. -/
set_option linter.unusedSimpArgs false
set_option linter.unusedVariables false
namespace Go.Vc
variable {P : Program} {w w' : World} {K : Value → World → Prop} {Kp : KP} {t e : TypeId} {s base : Nat} {l v : Value} {M : Nat → Prop}

def IsSl (w : World) (v : Value) (n : Nat) (xs : List Value) : Prop := ∃ a c, v = .slice a n c ∧ n ≤ c ∧ c ≤ maxLen ∧ Row w a xs ∧ (a = none → n = 0)
theorem IsSl.frame {n : Nat} {xs : List Value} (h : IsSl w v n xs) (hf : Frm M w w') (hM : ∀ b, v.ownBlock = some b → ¬ M b) : IsSl w' v n xs := by
  obtain ⟨a, c, rfl, hc, hm, hr, ha⟩ := h
  exact ⟨a, c, rfl, hc, hm, hr.frame hf fun p hp => hM _ (by subst hp; rfl), ha⟩
theorem IsSl.still {n : Nat} {xs : List Value} (h : IsSl w v n xs) (hf : Frm (fun _ => False) w w') : IsSl w' v n xs := h.frame hf fun _ _ h => h
theorem IsSl.one {n : Nat} {xs : List Value} (h : IsSl w v n xs) : v.oneCell' = true := by obtain ⟨a, c, rfl, _⟩ := h; rfl
theorem IsSl.nil : IsSl w (.slice none 0 0) 0 [] := ⟨none, 0, rfl, Nat.le_refl _, by simp [maxLen], .inl rfl, fun _ => rfl⟩
theorem own_sl {n : Nat} {xs : List Value} (h : w.ownsRow base e s v n xs) : IsSl w v n xs := by
  obtain ⟨h1, ⟨rfl, rfl⟩ | ⟨g, cap, cur, rfl, h3, h4, h5, h6, h7, h8⟩⟩ := id h
  · exact ⟨none, 0, rfl, by omega, by simp [maxLen], .inl (List.eq_nil_of_length_eq_zero (by simpa using h1)), fun _ => rfl⟩
  · obtain ⟨a, c, hv, hc, hr, ha, _⟩ := own_slice h
    cases hv
    exact ⟨_, _, rfl, hc, h6, hr, ha⟩

structure ElOk {α : Type} (El : World → List Value → α → (Nat → Prop) → Prop) : Prop where
  frame : ∀ {w w' : World} {u : List Value} {y : α} {G M : Nat → Prop}, El w u y G → Frm M w w' → (∀ c, G c → ¬ M c) → El w' u y G
  mono : ∀ {w : World} {u : List Value} {y : α} {G G' : Nat → Prop}, El w u y G → (∀ c, G c → G' c) → El w u y G'
structure RowsOf {α : Type} (El : World → List Value → α → (Nat → Prop) → Prop) (w : World) (base : Nat) (e : TypeId) (s : Nat) (l : Value) (ys : List α) (G : Nat → Prop) : Prop where
  row : ∃ us : List (List Value), us.length = ys.length ∧ (∀ u ∈ us, u.length = s) ∧ w.ownsRow base e s l ys.length us.flatten ∧ ∀ (j : Nat) u y, us[j]? = some u → ys[j]? = some y → El w u y G
  low : ∀ c, G c → base ≤ c ∧ c < w.heap.size
  off : ∀ b, l.ownBlock = some b → ¬ G b
variable {α : Type} {El : World → List Value → α → (Nat → Prop) → Prop} {ys : List α} {G G' : Nat → Prop} {y : α}
theorem RowsOf.frame (hE : ElOk El) (h : RowsOf El w base e s l ys G) (hf : Frm M w w') (hG : ∀ c, G c → ¬ M c) (hl : ∀ b, l.ownBlock = some b → ¬ M b) : RowsOf El w' base e s l ys G := by
  obtain ⟨⟨us, h1, h2, h3, h4⟩, h5, h6⟩ := h
  exact ⟨⟨us, h1, h2, own_frame h3 hf hl, fun j u y hu hy => hE.frame (h4 j u y hu hy) hf hG⟩, fun c hc => ⟨(h5 c hc).1, Nat.lt_of_lt_of_le (h5 c hc).2 hf.size⟩, h6⟩
theorem RowsOf.still (hE : ElOk El) (h : RowsOf El w base e s l ys G) (hf : Frm (fun _ => False) w w') : RowsOf El w' base e s l ys G := h.frame hE hf (fun _ _ h => h) fun _ _ h => h
theorem RowsOf.mono (hE : ElOk El) (h : RowsOf El w base e s l ys G) (hG : ∀ c, G c → G' c) (hlow : ∀ c, G' c → base ≤ c ∧ c < w.heap.size) (hoff : ∀ b, l.ownBlock = some b → ¬ G' b) : RowsOf El w base e s l ys G' := by
  obtain ⟨⟨us, h1, h2, h3, h4⟩, h5, h6⟩ := h
  exact ⟨⟨us, h1, h2, h3, fun j u y hu hy => hE.mono (h4 j u y hu hy) hG⟩, hlow, hoff⟩
theorem RowsOf.base_le {base' : Nat} (h : RowsOf El w base e s l ys G) (hb : base' ≤ base) : RowsOf El w base' e s l ys G := by
  obtain ⟨⟨us, h1, h2, h3, h4⟩, h5, h6⟩ := h
  exact ⟨⟨us, h1, h2, own_base h3 hb, h4⟩, fun c hc => ⟨Nat.le_trans hb (h5 c hc).1, (h5 c hc).2⟩, h6⟩
theorem rows_nil : RowsOf El w base e s (.slice none 0 0) [] (fun _ => False) := ⟨⟨[], rfl, by simp, own_nil, fun j u y hu => by simp at hu⟩, fun _ h => h.elim, fun _ _ h => h⟩
theorem RowsOf.own_lt (h : RowsOf El w base e s l ys G) : ∀ b, l.ownBlock = some b → base ≤ b ∧ b < w.heap.size := by
  obtain ⟨⟨us, h1, h2, h3, h4⟩, _⟩ := h
  exact Go.Vc.own_lt h3
theorem RowsOf.one (h : RowsOf El w base e s l ys G) : l.oneCell' = true := by
  obtain ⟨⟨us, h1, h2, h3, h4⟩, _⟩ := h
  obtain ⟨a, c, rfl, _⟩ := own_slice h3; rfl
theorem flatten_get {k : Nat} : ∀ {us : List (List Value)}, (∀ u ∈ us, u.length = k) → ∀ (i r : Nat) (hi : i < us.length), r < k → us.flatten[i * k + r]? = us[i][r]?
  | [], _, i, r, hi, _ => by simp at hi
  | u :: us, h, 0, r, hi, hr => by
    rw [List.flatten_cons, List.getElem?_append_left (by rw [h u List.mem_cons_self]; omega)]; simp
  | u :: us, h, i + 1, r, hi, hr => by
    have hi' : i < us.length := by simpa using hi
    have hu := h u List.mem_cons_self
    rw [List.flatten_cons, List.getElem?_append_right (by rw [hu, Nat.add_mul]; omega), hu, show (i + 1) * k + r - k = i * k + r from by rw [Nat.add_mul]; omega]
    exact flatten_get (fun u hu => h u (List.mem_cons_of_mem _ hu)) i r hi' hr
theorem RowsOf.slice (h : RowsOf El w base e s l ys G) : ∃ a c, l = .slice a ys.length c ∧ ys.length ≤ c ∧ c ≤ maxLen ∧ (a = none → ys.length = 0) := by
  obtain ⟨⟨us, h1, h2, h3, h4⟩, _⟩ := h
  obtain ⟨a, c, h5, h6, h7, h8, h9⟩ := own_sl h3
  exact ⟨a, c, h5, h6, h7, h9⟩
theorem RowsOf.get (h : RowsOf El w base e s l ys G) {j : Nat} (hj : j < ys.length) : ∃ u g c cs, l = .slice (some ⟨g, 0, none⟩) ys.length c ∧ w.heap[g]? = some (.cells cs e (0, 0)) ∧ u.length = s ∧
    (∀ r, r < s → cs[j * s + r]? = u[r]?) ∧ j * s + s ≤ cs.size ∧ cs.extract (j * s) (j * s + s) = u.toArray ∧ El w u ys[j] G := by
  obtain ⟨⟨us, h1, h2, h3, h4⟩, _⟩ := h
  obtain ⟨h5, ⟨_, h6⟩ | ⟨g, cap, cur, rfl, k3, k4, k5, k6, k7, k8⟩⟩ := h3
  · omega
  · have hju : j < us.length := by omega
    have hul := h2 _ (List.getElem_mem hju)
    have hjs : (j + 1) * s ≤ ys.length * s := Nat.mul_le_mul_right _ hj
    rw [Nat.add_mul, Nat.one_mul] at hjs
    have hsz : j * s + s ≤ cur.size := by rw [k7]; exact Nat.le_trans hjs (Nat.mul_le_mul_right _ k5)
    have hg : ∀ r, r < s → cur[j * s + r]? = us[j][r]? := fun r hr => by
      have := flatten_get h2 j r hju hr
      rw [← this, ← k8, List.getElem?_take, if_pos (by omega)]; simp
    refine ⟨us[j], g, cap, cur, rfl, k4, hul, hg, hsz, ?_, h4 j _ _ (by simp [hju]) (by simp [hj])⟩
    apply Array.ext_getElem?
    intro r
    rw [Array.getElem?_extract]
    by_cases hr : r < s
    · rw [if_pos (by omega), hg r hr]; simp
    · rw [if_neg (by omega), Array.getElem?_eq_none (by simp [hul]; omega)]
theorem op_push {bytes : Nat} {uv : Value} {u : List Value} {G2 : Nat → Prop} (hE : ElOk El) (ha : apOf P t = some (e, s, bytes)) (hl : sliceLit P t 1 [(0, uv)] = some (e, u.toArray)) (hu : u.length = s) (hone : ∀ x ∈ u, x.oneCell' = true)
    (hR : RowsOf El w base e s l ys G) (hy : El w u y G2) (hG2 : ∀ c, G2 c → base ≤ c ∧ c < w.heap.size) (hoff : ∀ b, l.ownBlock = some b → ¬ G2 b) (h63 : (ys.length + 1) * (bytes + 1) ≤ 140737488355328) (hbase : base ≤ w.heap.size)
    (hK : ∀ l' w', Frm (fun b => some b = l.ownBlock) w w' → RowsOf El w' base e s l' (ys ++ [y]) (fun c => G c ∨ G2 c) → (l'.ownBlock = l.ownBlock ∨ ∃ b, l'.ownBlock = some b ∧ w.heap.size ≤ b) → K l' w') :
    (nice P).op (.buildSlice t 1 [(0, uv)]) w (fun v w => (nice P).op (.blt .append [t, t] t [l, v]) w K Kp) Kp := by
  obtain ⟨i, z, ht, hi, hz, hsize, hby, hzs, hsz⟩ := apOf_spec ha
  refine op_lit_ok hl fun w1 k1 z1 b1 => ?_
  have hR1 := hR.still hE k1
  obtain ⟨⟨us, h1, h2, h3, h4⟩, h5, h6⟩ := hR1
  have hr : Row w1 (some ⟨w.heap.size, 0, none⟩) u := .inr ⟨_, 0, _, _, _, rfl, b1, fun j v hv => by simpa using hv⟩
  refine op_append (base := base) (n := ys.length) (m := 1) ha h3 hr (by rw [hu]; simp) hone (fun h => nomatch h) h63 (Nat.le_trans hbase k1.size) fun l' w' ho hf hb => ?_
  have hlow := hR.low
  have hGM : ∀ c, G c → ¬ some c = l.ownBlock := fun c hc e => h6 c e.symm hc
  have hGM2 : ∀ c, G2 c → ¬ some c = l.ownBlock := fun c hc e => hoff c e.symm hc
  have hnew : ∀ b, l'.ownBlock = some b → l.ownBlock = some b ∨ w.heap.size ≤ b := fun b hb' => by
    rcases hb with h | h
    · rw [h] at hb'; exact .inl hb'
    · rw [h] at hb'; have := Option.some.inj hb'; have := k1.size; exact .inr (by omega)
  refine hK l' w' (k1.fst hf) ⟨⟨us ++ [u], by simp [h1], fun x hx => ?_, ?_, fun j x y' hx hy' => ?_⟩, fun c hc => ?_, fun b hb' hc => ?_⟩ ?_
  · rcases List.mem_append.1 hx with hx | hx
    · exact h2 x hx
    · rw [List.mem_singleton.1 hx]; exact hu
  · simpa using ho
  · by_cases hj : j < us.length
    · rw [List.getElem?_append_left hj] at hx
      rw [List.getElem?_append_left (by omega)] at hy'
      exact hE.mono (hE.frame (h4 j x y' hx hy') hf hGM) fun c hc => .inl hc
    · have hj' : j = us.length := by
        have := (List.getElem?_eq_some_iff.1 hx).1
        simp at this; omega
      subst hj'
      rw [List.getElem?_append_right (by omega)] at hx
      rw [h1, List.getElem?_append_right (by omega)] at hy'
      simp at hx hy'
      subst hx hy'
      exact hE.mono (hE.frame (hE.frame hy k1 fun _ _ h => h) hf hGM2) fun c hc => .inr hc
  · have := hf.size; have := k1.size
    rcases hc with hc | hc
    · have := hlow c hc; omega
    · have := hG2 c hc; omega
  · rcases hnew b hb' with h | h
    · rcases hc with hc | hc
      · exact hR.off b h hc
      · exact hoff b h hc
    · rcases hc with hc | hc
      · have := hlow b hc; omega
      · have := hG2 b hc; omega
  · rcases hb with h | h
    · exact .inl h
    · exact .inr ⟨_, h, k1.size⟩
def Flat {α : Type} (f : α → List Value) : World → List Value → α → (Nat → Prop) → Prop := fun _ u y _ => u = f y
theorem flat_ok {α : Type} (f : α → List Value) : ElOk (Flat f) := ⟨fun h _ _ => h, fun h _ => h⟩
theorem RowsOf.flat {f : α → List Value} (h : RowsOf (Flat f) w base e s l ys G) : IsSl w l ys.length (ys.flatMap f) := by
  obtain ⟨⟨us, h1, h2, h3, h4⟩, _⟩ := h
  have : us = ys.map f := by
    apply List.ext_getElem?
    intro j
    by_cases hj : j < us.length
    · rw [List.getElem?_eq_getElem hj, List.getElem?_map, List.getElem?_eq_getElem (by omega)]
      have := h4 j us[j] (ys[j]'(by omega)) (List.getElem?_eq_getElem _) (List.getElem?_eq_getElem _)
      rw [this]; rfl
    · rw [List.getElem?_eq_none (by omega), List.getElem?_eq_none (by simp; omega)]
  rw [this] at h3
  have := own_sl h3
  rwa [← List.flatMap_def] at this
end Go.Vc
namespace Go.Vc
variable {P : Program} {w w' : World} {K : Value → World → Prop} {Kp : KP} {t e : TypeId} {s base : Nat} {α : Type} {El : World → List Value → α → (Nat → Prop) → Prop} {y : α}
theorem op_row1 {bytes : Nat} {uv : Value} {u : List Value} {G2 : Nat → Prop} (hE : ElOk El) (ha : apOf P t = some (e, s, bytes)) (hl : sliceLit P t 1 [(0, uv)] = some (e, u.toArray)) (hu : u.length = s)
    (hy : El w u y G2) (hG2 : ∀ c, G2 c → base ≤ c ∧ c < w.heap.size) (hbase : base ≤ w.heap.size)
    (hK : ∀ l' w', Frm (fun _ => False) w w' → RowsOf El w' base e s l' [y] G2 → l'.ownBlock = some w.heap.size → K l' w') :
    (nice P).op (.buildSlice t 1 [(0, uv)]) w K Kp := by
  refine op_lit_ok hl fun w1 k1 z1 b1 => ?_
  have hr : Rw w1 e s w.heap.size 1 u := ⟨_, b1, by simp [hu], by omega, by simp, by simp [maxLen]⟩
  have ho : w1.ownsRow base e s (.slice (some ⟨w.heap.size, 0, none⟩) 1 1) 1 u := by
    obtain ⟨h1, ⟨_, h2⟩ | ⟨g, cap, cur, h2, h3, h4⟩⟩ := hr.own (n := 1) (by rw [hu]; simp) (Nat.le_refl _)
    · omega
    · cases h2
      exact ⟨h1, .inr ⟨_, _, cur, rfl, hbase, h4⟩⟩
  refine hK _ w1 k1 ⟨⟨[u], rfl, by simpa using hu, by simpa using ho, fun j u' y' hu' hy' => ?_⟩, fun c hc => ⟨(hG2 c hc).1, Nat.lt_of_lt_of_le (hG2 c hc).2 k1.size⟩, fun b hb hc => ?_⟩ rfl
  · cases j with
    | zero =>
      simp at hu' hy'
      subst hu' hy'
      exact hE.frame hy k1 fun _ _ h => h
    | succ j => simp at hu'
  · have hb : w.heap.size = b := Option.some.inj hb
    subst hb
    exact Nat.lt_irrefl _ (hG2 _ hc).2
end Go.Vc
namespace Go.Vc
variable {P : Program} {w w' : World} {K : Value → World → Prop} {Kp : KP} {t e : TypeId} {s base : Nat} {α : Type} {f : α → List Value} {ys zs : List α} {l v2 : Value}
end Go.Vc
namespace Go.Vc
variable {P : Program} {w w' : World} {K : Value → World → Prop} {Kp : KP} {t e : TypeId} {s base : Nat} {α : Type} {f : α → List Value} {ys zs : List α} {l v2 : Value} {M : Nat → Prop} {y : α}
abbrev FRow (f : α → List Value) (w : World) (base : Nat) (e : TypeId) (s : Nat) (l : Value) (ys : List α) : Prop := RowsOf (Flat f) w base e s l ys (fun _ => False)
theorem frow_frame (h : FRow f w base e s l ys) (hf : Frm M w w') (hl : ∀ b, l.ownBlock = some b → ¬ M b) : FRow f w' base e s l ys := h.frame (flat_ok f) hf (fun _ h => h.elim) hl
theorem frow_still (h : FRow f w base e s l ys) (hf : Frm (fun _ => False) w w') : FRow f w' base e s l ys := frow_frame h hf fun _ _ h => h
theorem op_pushF {bytes : Nat} {uv : Value} (ha : apOf P t = some (e, s, bytes)) (hl : sliceLit P t 1 [(0, uv)] = some (e, (f y).toArray)) (hf : ∀ x, (f x).length = s) (hone : ∀ x, ∀ u ∈ f x, u.oneCell' = true)
    (hR : FRow f w base e s l ys) (h63 : (ys.length + 1) * (bytes + 1) ≤ 140737488355328) (hbase : base ≤ w.heap.size)
    (hK : ∀ l' w', Frm (fun b => some b = l.ownBlock) w w' → FRow f w' base e s l' (ys ++ [y]) → (l'.ownBlock = l.ownBlock ∨ ∃ b, l'.ownBlock = some b ∧ w.heap.size ≤ b) → K l' w') :
    (nice P).op (.buildSlice t 1 [(0, uv)]) w (fun v w => (nice P).op (.blt .append [t, t] t [l, v]) w K Kp) Kp :=
  op_push (flat_ok f) ha hl (hf y) (hone y) hR rfl (G2 := fun _ => False) (fun _ h => h.elim) (fun _ _ h => h) h63 hbase fun l' w' k' hR' ho => hK l' w' k' (hR'.mono (flat_ok f) (fun _ h => h.elim id id) (fun _ h => h.elim) fun _ _ h => h) ho
theorem frow_get (h : FRow f w base e s l ys) {j : Nat} (hj : j < ys.length) : ∃ g c cs, l = .slice (some ⟨g, 0, none⟩) ys.length c ∧ w.heap[g]? = some (.cells cs e (0, 0)) ∧ (∀ r, r < s → cs[j * s + r]? = (f ys[j])[r]?) ∧ j * s + s ≤ cs.size ∧ cs.extract (j * s) (j * s + s) = (f ys[j]).toArray := by
  obtain ⟨u, g, c, cs, h1, h2, h3, h4, h5, h6, h7⟩ := h.get hj
  have : u = f ys[j] := h7
  subst this
  exact ⟨g, c, cs, h1, h2, h4, h5, h6⟩
end Go.Vc
namespace Go.Vc
theorem Row.old {w w' : World} {M : Nat → Prop} {a : Option Addr} {vs : List Value} (h : Row w a vs) (hf : Frm M w w') (hM : ∀ b, M b → w.heap.size ≤ b) : Row w' a vs := by
  rcases h with h | ⟨b, o, cs, e, fz, h1, h2, h3⟩
  · exact .inl h
  · exact .inr ⟨b, o, cs, e, fz, h1, hf.get h2 fun hb => by have := hM b hb; have := lt_of_get h2; omega, h3⟩
end Go.Vc
end
section
/- What a version of a map tells: mapSeen. -/
set_option maxRecDepth 100000
set_option maxHeartbeats 2000000
set_option linter.unusedSimpArgs false
set_option linter.unusedVariables false
set_option linter.unusedSectionVars false
namespace Go.Proofs.Ytbghmbbhkoniiaa.I
open Go.Vc Go.Proofs Go.Proofs.Ytbghmbbhkoniiaa Go.Vc.Nd
variable {w w' : World} {v hv : Value} {t : Tr} {F F' : Nat → Prop} {K : Value → World → Prop} {Kp : KP} {hash : Ky → Nat} {k : Ky} {x : Vl} {l s rb : Nat} {r0 mu nl : Bool}

theorem apPair : apOf Try.prog 39 = some (46, 2, 16) := by kernel_rfl
def IsPairs (w : World) (v : Value) (L : List (Ky × Vl)) : Prop := IsSl w v L.length (L.flatMap ent)
def lenAt (w : World) (b j : Nat) : Nat := match w.heap[b]? with
  | some (.cells cs _ _) => match cs[j]? with
    | some (.slice _ n _) => n
    | _ => 0
  | _ => 0
theorem nextV_cons {e : Ky × Vl} {L : List (Ky × Vl)} : nextV (e :: L) = .tuple #[ek e.1, ev e.2, .bool true] := rfl
theorem mapSeen_ok {ib mb n : Nat} {L : List (Ky × Vl)} (h : At w ib mb F hash L) (hF : ¬ F ib) (hFl : ∀ c, F c → c < w.heap.size) (hL : L.length < 2 ^ 31)
    (hK : ∀ pv w', Frm (· = ib) w w' → RowsOf (Flat ent) w' w.heap.size 46 2 pv L (fun _ => False) → K (.agg #[.int .i64 n, pv]) w') : Calls Try.prog 35 #[.int .i64 n, ptr ib] w (ret K Kp) := by
  refine vc35_calls ?_
  simp only [vc35]
  refine op_alloc_ok (z := .agg #[.int .i64 0, .slice none 0 0]) (by kernel_rfl) fun w1 k1 z1 b1 => ?_
  simp only [cells_agg] at b1
  simp [-getElem?_pos, -Array.getElem?_eq_getElem, -Int.natCast_add, add_spot, and_assoc, Br_dec, -op_box, -op_alloc_41, -op_lit_39_1, -op_st_41, -op_st_39]
  refine op_alloc_ok (z := .agg #[.int .i64 0, .slice none 0 0]) (by kernel_rfl) fun w2 k2 z2 b2 => ?_
  simp only [cells_agg] at b2
  refine op_storeN_ok (n := 2) (by kernel_rfl) b2 rfl (by decide) (by simp) fun w3 k3 z3 b3 => ?_
  have n1 := k1.size
  have n2 := k2.size
  have n3 := k3.size
  have b13 := k3.get (k2.get b1 fun h => h) (by omega)
  have hib := h.lt
  have b3 : w3.heap[w1.heap.size]? = some (.cells #[.int .i64 n, .slice none 0 0] 41 (0, 0)) := by simpa [ow] using b3
  have k03 : Frm (fun _ => False) w w3 := ((k1.no k2).old k3 fun c hc => .inr (by omega))
  have hA3 : At w3 ib mb F hash L := h.frame k03 (fun _ _ h => h) fun h => h
  obtain ⟨I, hI⟩ : ∃ I : World → Prop, ∀ wl, I wl ↔ ∃ D L' pv, D ++ L' = L ∧ Frm (· = ib) w wl ∧ w3.heap.size ≤ wl.heap.size ∧ At wl ib mb F hash L' ∧ wl.heap[w.heap.size]? = some (.cells #[.int .i64 0, .slice none 0 0] 41 (0, 0)) ∧
      wl.heap[w1.heap.size]? = some (.cells #[.int .i64 n, pv] 41 (0, 0)) ∧ RowsOf (Flat ent) wl w3.heap.size 46 2 pv D (fun _ => False) := ⟨_, fun _ => Iff.rfl⟩
  refine Lp.intro I (fun wl => L.length - lenAt wl w1.heap.size 1) ⟨(hI _).2 ⟨[], L, _, rfl, k03.to fun _ h => h.elim, Nat.le_refl _, hA3, b13, b3, rows_nil⟩, ?_⟩
  intro wl hl
  obtain ⟨D, L', pv, hDL, kl, zl, hA, bz, bo, hR⟩ := (hI _).1 hl
  have hib2 : ib ≠ w1.heap.size := by omega
  have hlow := hR.own_lt
  refine done_ok hA ?_
  cases L' with
  | nil =>
    simp only [List.append_nil] at hDL
    subst hDL
    simp [-getElem?_pos, -Array.getElem?_eq_getElem, -Int.natCast_add, add_spot, and_assoc, Br_dec, -op_box, -op_alloc_41, -op_lit_39_1, -op_st_41, -op_st_39, bo]
    have hx : (#[Value.int .i64 (n : Int), pv] : Array Value).extract 0 2 = #[.int .i64 n, pv] := rfl
    refine op_storeN_ok (n := 2) (by kernel_rfl) bz rfl (by decide) (by simp [hR.one]) fun w4 k4 z4 b4 => ?_
    have b4 : w4.heap[w.heap.size]? = some (.cells #[.int .i64 n, pv] 41 (0, 0)) := by simpa [ow] using b4
    simp [-getElem?_pos, -Array.getElem?_eq_getElem, -Int.natCast_add, add_spot, and_assoc, Br_dec, -op_box, -op_alloc_41, -op_lit_39_1, -op_st_41, -op_st_39, b4, hx]
    refine hK pv w4 (kl.old k4 fun c hc => .inr (by omega)) ((hR.frame (flat_ok _) k4 (fun _ h => h.elim) fun b hb he => ?_).base_le (by omega))
    have := hlow b hb; omega
  | cons e L' =>
    simp [-getElem?_pos, -Array.getElem?_eq_getElem, -Int.natCast_add, add_spot, and_assoc, Br_dec, -op_box, -op_alloc_41, -op_lit_39_1, -op_st_41, -op_st_39]
    refine Next_ok hA hF fun w4 k4 z4 hA4 => ?_
    rw [nextV_cons]
    have bo4 := k4.get bo (fun h => hib2 h.symm)
    have bz4 := k4.get bz (by omega)
    have hR4 := hR.frame (flat_ok _) k4 (fun _ h => h.elim) fun b hb he => by have := hlow b hb; omega
    simp [-getElem?_pos, -Array.getElem?_eq_getElem, -Int.natCast_add, add_spot, and_assoc, Br_dec, -op_box, -op_alloc_41, -op_lit_39_1, -op_st_41, -op_st_39, bo4, ek, ev]
    have hlen : D.length + L'.length + 1 = L.length := by rw [← hDL]; simp; omega
    refine op_push (u := ent e) (flat_ok ent) apPair lit_39_1 rfl (fun u hu => ents_one (es := [e]) u (by simpa [ents] using hu)) hR4 rfl (G2 := fun _ => False) (fun _ h => h.elim) (fun _ _ h => h) (by omega) (by omega) fun l' w5 k5 hR5 hown5 => ?_
    have hlow4 := hR4.own_lt
    have bo5 := k5.get bo4 (fun h => by have := hlow4 _ h.symm; omega)
    have bz5 := k5.get bz4 (fun h => by have := hlow4 _ h.symm; omega)
    refine op_store_ok (by kernel_rfl) bo5 (by simp) hR5.one fun w6 k6 z6 b6 => ?_
    have b6 : w6.heap[w1.heap.size]? = some (.cells #[.int .i64 n, l'] 41 (0, 0)) := by simpa using b6
    have hlow5 := hR5.own_lt
    have hF5 : ∀ c, F c → ¬ some c = pv.ownBlock := fun c hc he => by have := hlow4 _ he.symm; have := hFl c hc; omega
    have hA6 := (hA4.frame k5 hF5 (fun he => by have := hlow4 _ he.symm; omega)).frame k6 (fun c hc he => by have := hFl c hc; omega) hib2
    have n4 := k4.size
    have n5 := k5.size
    obtain ⟨a, c, rfl, _⟩ := hR5.slice
    refine ⟨(hI _).2 ⟨D ++ [e], L', _, by rw [← hDL]; simp, ((kl.trans k4 fun _ h _ => h).old k5 fun c hc => ?_).old k6 fun c hc => .inr (by omega), by omega, hA6, k6.get bz5 (by omega), b6, ?_⟩, ?_⟩
    · have := hlow4 _ hc.symm; exact .inr (by omega)
    · exact (hR5.frame (flat_ok _) k6 (fun _ h => h.elim (fun h => h.elim) fun h => h.elim) fun b hb he => by have := hlow5 b hb; omega).mono (flat_ok _) (fun _ h => h.elim (fun h => h.elim) fun h => h.elim) (fun _ h => h.elim) fun _ _ h => h
    · have e1 : lenAt wl w1.heap.size 1 = D.length := by
        obtain ⟨a0, c0, rfl, _⟩ := hR.slice
        simp [lenAt, bo]
      have e2 : lenAt w6 w1.heap.size 1 = D.length + 1 := by simp [lenAt, b6]
      rw [e1, e2]; omega
end Go.Proofs.Ytbghmbbhkoniiaa.I
end
section
/- The hasher of the thin package. -/
set_option maxRecDepth 100000
set_option linter.unusedSimpArgs false
set_option linter.unusedVariables false
set_option linter.unusedSectionVars false
namespace Go.Proofs.Ytbghmbbhkoniiaa.I
open Go.Vc Go.Proofs Go.Proofs.Ytbghmbbhkoniiaa Go.Vc.Nd
variable {w w' : World} {K : Value → World → Prop} {Kp : KP}

def dataHash (md ml sh : Nat) (k : Int) : Nat := (IntKind.u32.wrap ((IntKind.u32.wrap (IntKind.u32.wrap k * (ml : Int))).tmod (md : Int) * 2 ^ min sh IntKind.u32.bits)).toNat
def dataV (md ml sh : Nat) : Value := .iface 143 (.agg #[.int .u32 md, .int .u32 ml, .int .u8 sh])
theorem dataHasher_ok {md ml sh : Nat} (hm : 0 < md) : IsH (dataV md ml sh) (dataHash md ml sh) where
  lt k := by
    unfold dataHash
    have : 0 ≤ IntKind.u32.wrap ((IntKind.u32.wrap (IntKind.u32.wrap k * (ml : Int))).tmod (md : Int) * 2 ^ min sh IntKind.u32.bits) ∧ IntKind.u32.wrap ((IntKind.u32.wrap (IntKind.u32.wrap k * (ml : Int))).tmod (md : Int) * 2 ^ min sh IntKind.u32.bits) < 4294967296 := by
      rw [IntKind.wrap_u32]; omega
    omega
  eqv := fun {a b w K Kp} hK => by
    simp only [dataV, inv_143_114]
    refine vc114_calls ?_
    simp only [vc114]
    refine op_box_ok fun w1 k1 z1 b1 => ?_
    simp only [ek, op_eql]
    exact hK w1 k1
  hsh := fun {k w K Kp} hK => by
    simp only [dataV, inv_143_115]
    refine vc115_calls ?_
    simp only [vc115]
    refine op_box_ok fun w1 k1 z1 b1 => ?_
    simp only [cells_agg] at b1
    have hne : ¬ ((md : Int) = 0) := by omega
    simp [-getElem?_pos, -Array.getElem?_eq_getElem, -Int.natCast_add, add_spot, and_assoc, Br_dec, -op_box, b1, ek, hne]
    have := hK w1.drew (k1.no (Frm.drew _))
    have hd : ((dataHash md ml sh k : Nat) : Int) = IntKind.u32.wrap ((IntKind.u32.wrap (IntKind.u32.wrap k * (ml : Int))).tmod (md : Int) * 2 ^ min sh IntKind.u32.bits) := by
      unfold dataHash
      exact Int.toNat_of_nonneg (by rw [IntKind.wrap_u32]; omega)
    rw [hd] at this
    first | exact this | exact ⟨by omega, this⟩
  nilE := by intro K1; simp [dataV]
  iface := ⟨_, _, rfl⟩
end Go.Proofs.Ytbghmbbhkoniiaa.I
end
section
/- Versions of maps made by steps, and what they tell: mapsOf, MapRun. -/
set_option maxRecDepth 100000
set_option maxHeartbeats 2000000
set_option linter.unusedSimpArgs false
set_option linter.unusedVariables false
set_option linter.unusedSectionVars false
namespace Go.Proofs.Ytbghmbbhkoniiaa.I
open Go.Vc Go.Proofs Go.Proofs.Ytbghmbbhkoniiaa Go.Vc.Nd
variable {w w' : World} {v hv : Value} {t : Tr} {F F' G : Nat → Prop} {K : Value → World → Prop} {Kp : KP} {hash : Ky → Nat} {k : Ky} {x : Vl} {l s rb md ml sh : Nat} {r0 mu nl : Bool}

def hval (md ml sh : Nat) : Value := .agg #[.int .u32 md, .int .u32 ml, .int .u8 sh]
def hashOf (md ml sh : Nat) : Ky → Nat := if md = 0 then defHash else dataHash md ml sh
theorem hashOf_lt (md ml sh : Nat) (k : Ky) : hashOf md ml sh k < 2 ^ 32 := by
  unfold hashOf
  split
  · exact (defHasher_ok 0).lt k
  · exact (dataHasher_ok (by omega)).lt k
theorem hasher_ok (hK : ∀ h w', Frm (fun _ => False) w w' → h.oneCell' = true → (IsH h (hashOf md ml sh) ∨ decide (md = 0) = true ∧ hashOf md ml sh = defHash ∧ h = .nilIface) → K h w') : Calls Try.prog 41 #[hval md ml sh] w (ret K Kp) := by
  refine vc41_calls ?_
  simp only [vc41, hval]
  refine op_box_ok fun w1 k1 z1 b1 => ?_
  simp only [cells_agg] at b1
  have hx : (#[Value.int .u32 (md : Int), .int .u32 (ml : Int), .int .u8 (sh : Int)] : Array Value).extract 0 3 = #[.int .u32 md, .int .u32 ml, .int .u8 sh] := rfl
  simp [-getElem?_pos, -Array.getElem?_eq_getElem, -Int.natCast_add, add_spot, and_assoc, Br_dec, -op_box, -op_alloc_35, -op_st_35, -op_lit_88_1, -op_lit_36_1, b1]
  refine ⟨fun h0 => ?_, fun h0 => ?_⟩
  · have h0 : md = 0 := by omega
    refine hK .nilIface w1 k1 rfl (.inr ⟨by simp [h0], ?_, rfl⟩)
    rw [hashOf, if_pos h0]
  · have h0 : ¬ md = 0 := by omega
    refine hK (dataV md ml sh) w1 k1 rfl (.inl ?_)
    rw [hashOf, if_neg h0]
    exact dataHasher_ok (by omega)
theorem mapStep_ok {s : MStep} {n : Nat} (h0 : 0 ≤ s.fro) (h1 : s.fro < n) (h2 : s.kind ≤ 3) (h3 : 0 ≤ s.count) (h4 : s.count ≤ 100000) (hK : ∀ w', Frm (fun _ => False) w w' → K (.bool true) w') :
    Calls Try.prog 67 #[.agg s.cells.toArray, .int .i64 n] w (ret K Kp) := by
  refine vc67_calls ?_
  simp only [vc67]
  refine op_box_ok fun w1 k1 z1 b1 => ?_
  simp only [cells_agg, MStep.cells] at b1
  have e1 : (s.kind : Int) ≤ 3 := by omega
  have := hK w1 k1
  simp [-getElem?_pos, -Array.getElem?_eq_getElem, -Int.natCast_add, add_spot, and_assoc, Br_dec, -op_box, -op_alloc_35, -op_st_35, -op_lit_88_1, -op_lit_36_1, b1, h0, h1, e1]
  refine ⟨fun _ => this, fun _ => ?_⟩
  try simp [-getElem?_pos, -Array.getElem?_eq_getElem, -Int.natCast_add, add_spot, and_assoc, Br_dec, -op_box, -op_alloc_35, -op_st_35, -op_lit_88_1, -op_lit_36_1, h3, h4]
  first | exact this | exact ⟨this, fun h => absurd h (by omega)⟩

def ElV (hash : Ky → Nat) (nl : Bool) : World → List Value → Tr → (Nat → Prop) → Prop := fun w u t G => ∃ b, u = [ptr b] ∧ Ver w b hash nl t G
theorem elV_ok (hash : Ky → Nat) (nl : Bool) : ElOk (ElV hash nl) :=
  ⟨fun ⟨b, hu, h⟩ hf hM => ⟨b, hu, h.frame hf hM⟩, fun ⟨b, hu, h⟩ hG => ⟨b, hu, h.mono hG⟩⟩
theorem apM : apOf Try.prog 88 = some (90, 1, 8) := by kernel_rfl
theorem apSeen : apOf Try.prog 36 = some (41, 2, 32) := by kernel_rfl
theorem cells5 (s : MStep) : (#[.int .u8 s.kind, .int .i64 s.fro, .int .i64 s.key, .int .i64 s.value, .int .i64 s.count] : Array Value).extract 0 5 = s.cells.toArray := rfl

theorem mapsOf_ok {a1 : Option Addr} {c1 : Nat} {steps : List MStep} (h1 : Row w a1 (steps.flatMap MStep.cells)) (hfit : MFit steps) (hc : mcost steps ≤ 900000)
    (hK : ∀ l w' G, Frm (fun _ => False) w w' → RowsOf (ElV (hashOf md ml sh) (decide (md = 0))) w' w.heap.size 90 1 l (versT (hashOf md ml sh) steps) G → K l w') :
    Calls Try.prog 34 #[hval md ml sh, .slice a1 steps.length c1] w (ret K Kp) := by
  have hn : steps.length ≤ mcost steps := by
    clear h1 hfit hc hK
    induction steps with
    | nil => simp
    | cons s l ih => simp only [mcost, List.map_cons, List.sum_cons, List.length_cons, MStep.cost] at ih ⊢; omega
  generalize hhash : hashOf md ml sh = hash at *
  generalize hnl : decide (md = 0) = nl at *
  have hE := elV_ok hash nl
  have hlt : ∀ k, hash k < 2 ^ 32 := fun k => by rw [← hhash]; exact hashOf_lt md ml sh k
  refine vc34_calls ?_
  simp only [vc34]
  refine op_box_ok fun w1 k1 z1 b1 => ?_
  simp only [hval, cells_agg] at b1
  have hx3 : (#[Value.int .u32 (md : Int), .int .u32 (ml : Int), .int .u8 (sh : Int)] : Array Value).extract 0 3 = #[.int .u32 md, .int .u32 ml, .int .u8 sh] := rfl
  simp [-getElem?_pos, -Array.getElem?_eq_getElem, -Int.natCast_add, add_spot, and_assoc, Br_dec, -op_box, -op_alloc_35, -op_st_35, -op_lit_88_1, -op_lit_36_1, b1, hx3]
  refine hasher_ok (md := md) (ml := ml) (sh := sh) fun h w2 k2 o2 hh2 => ?_
  rw [hhash, hnl] at hh2
  try simp [-getElem?_pos, -Array.getElem?_eq_getElem, -Int.natCast_add, add_spot, and_assoc, Br_dec, -op_box, -op_alloc_35, -op_st_35, -op_lit_88_1, -op_lit_36_1]
  refine ver_new_ok hh2 o2 fun w3 k3 z3 v3 => ?_
  have n1 := k1.size
  have n2 := k2.size
  have n3 := k3.size
  have k03 := (k1.no k2).no k3
  refine op_row1 (base := w.heap.size) (u := [ptr w2.heap.size]) hE apM (lit_88_1 rfl) rfl ⟨_, rfl, v3⟩ (fun c hc => by omega) (by omega) fun l4 w4 k4 hR4 ho4 => ?_
  have b4 := k4.get (k3.get (k2.get b1 fun h => h) fun h => h) fun h => h
  obtain ⟨a4, c4, rfl, _⟩ := hR4.slice
  try simp [-getElem?_pos, -Array.getElem?_eq_getElem, -Int.natCast_add, add_spot, and_assoc, Br_dec, -op_box, -op_alloc_35, -op_st_35, -op_lit_88_1, -op_lit_36_1]
  obtain ⟨I, hI⟩ : ∃ I : Value → Value → World → Prop, ∀ l v wl, I l v wl ↔ ∃ (i : Nat) (G : Nat → Prop), v = .int .i64 i ∧ i ≤ steps.length ∧ Frm (fun _ => False) w wl ∧ w1.heap.size ≤ wl.heap.size ∧
      wl.heap[w.heap.size]? = some (.cells #[.int .u32 md, .int .u32 ml, .int .u8 sh] 24 (0, 0)) ∧ RowsOf (ElV hash nl) wl (w.heap.size + 1) 90 1 l (versT hash (steps.take i)) G := ⟨_, fun _ _ _ => Iff.rfl⟩
  have hR4' : RowsOf (ElV hash nl) w4 (w.heap.size + 1) 90 1 (.slice a4 [Nd.emp (κ := Ky) (ν := Vl)].length c4) (versT hash (steps.take 0)) (· = w2.heap.size) := by
    obtain ⟨⟨us, g1, g2, g3, g4⟩, g5, g6⟩ := hR4
    refine ⟨⟨us, by simpa [versT, vers] using g1, g2, ?_, by simpa [versT, vers] using g4⟩, fun c hc => ⟨by omega, (g5 c hc).2⟩, g6⟩
    obtain ⟨q1, ⟨q2, q3⟩ | ⟨g, cap, cur, q2, q3, q4⟩⟩ := g3
    · simp at q3
    · refine ⟨by simpa [versT, vers] using q1, .inr ⟨g, cap, cur, by simpa [versT, vers] using q2, ?_, by simpa [versT, vers] using q4⟩⟩
      rw [q2] at ho4
      have e : g = w3.heap.size := Option.some.inj ho4
      omega
  refine Lp.intro I (fun _ v _ => steps.length - natOf v) ⟨(hI _ _ _).2 ⟨0, _, rfl, by omega, k03.no k4, by have := k4.size; omega, b4, hR4'⟩, ?_⟩
  intro wl l v hl
  obtain ⟨i, G, rfl, hi, kl, zl, bl, hR⟩ := (hI _ _ _).1 hl
  simp only [op_lss, Br_dec]
  refine ⟨fun hlt' => ?_, fun hnl' => ?_⟩
  rotate_left
  · have : i = steps.length := by omega
    subst this
    rw [List.take_length] at hR
    exact hK l wl G kl (hR.base_le (by omega))
  have hi' : i < steps.length := by omega
  have htk : steps.take (i + 1) = steps.take i ++ [steps[i]] := List.take_succ_eq_append_getElem hi'
  have hct := mcost_take steps (i + 1)
  rw [htk, mcost_snoc] at hct
  obtain ⟨f1, f2, f3, f4, f5⟩ := hfit i hi'
  obtain ⟨bp, o, cs, e, fz, rfl, hcs, hsz, hext⟩ := (h1.frame kl (fun _ _ h => h)).part mcells_len (by decide) hi'
  generalize hst : steps[i] = s at *
  have hlow := hR.own_lt
  simp [-getElem?_pos, -Array.getElem?_eq_getElem, -Int.natCast_add, add_spot, and_assoc, Br_dec, -op_box, -op_alloc_35, -op_st_35, -op_lit_88_1, -op_lit_36_1, hcs, hsz, hext]
  refine ⟨hi', ?_⟩
  refine op_alloc_ok (z := .agg #[.int .u8 0, .int .i64 0, .int .i64 0, .int .i64 0, .int .i64 0]) (by kernel_rfl) fun w5 k5 z5 b5 => ?_
  simp only [cells_agg] at b5
  refine op_storeN_ok (n := 5) (by kernel_rfl) b5 rfl (by decide) (by simp [MStep.cells]) fun w6 k6 z6 b6 => ?_
  have b6 : w6.heap[wl.heap.size]? = some (.cells s.cells.toArray 35 (0, 0)) := by
    rw [ow_all (by simp [MStep.cells])] at b6; simpa [MStep.cells] using b6
  have n5 := k5.size
  have n6 := k6.size
  have k56 : Frm (fun _ => False) wl w6 := k5.old k6 fun c hc => .inr (by omega)
  have bl6 := k56.get bl fun h => h
  simp [-getElem?_pos, -Array.getElem?_eq_getElem, -Int.natCast_add, add_spot, and_assoc, Br_dec, -op_box, -op_alloc_35, -op_st_35, -op_lit_88_1, -op_lit_36_1, bl6, hx3]
  refine hasher_ok (md := md) (ml := ml) (sh := sh) fun h7 w7 k7 o7 hh7 => ?_
  rw [hhash, hnl] at hh7
  try simp [-getElem?_pos, -Array.getElem?_eq_getElem, -Int.natCast_add, add_spot, and_assoc, Br_dec, -op_box, -op_alloc_35, -op_st_35, -op_lit_88_1, -op_lit_36_1]
  refine ver_new_ok hh7 o7 fun w8 k8 z8 v8 => ?_
  have n7 := k7.size
  have n8 := k8.size
  have k78 := k7.no k8
  have k58 := k56.no k78
  have b8 : w8.heap[wl.heap.size]? = some (.cells #[.int .u8 s.kind, .int .i64 s.fro, .int .i64 s.key, .int .i64 s.value, .int .i64 s.count] 35 (0, 0)) := k78.get b6 fun h => h
  have hR8 := hR.still hE k58
  have hlv : (versT hash (steps.take i)).length = i + 1 := by rw [versT, vers_len, List.length_take]; omega
  obtain ⟨q, hq⟩ : ∃ q : Nat, s.fro = q := ⟨s.fro.toNat, by omega⟩
  have hq1 : q < (versT hash (steps.take i)).length := by omega
  obtain ⟨u, g, c, cur, hlg, hg1, hg2, hg3, hg4, hg5, bv, hub, hV⟩ := hR8.get hq1
  subst hlg hub
  have hg0 : cur[q]? = some (ptr bv) := by have := hg3 0 (by decide); simpa using this
  generalize ht : (versT hash (steps.take i))[q] = t0 at hV
  have hsize : (toL t0).length ≤ mcost (steps.take i) := (vers_size hlt (steps.take i) q t0 (by rw [List.getElem?_eq_getElem hq1, ht])).2
  have hnext : versT hash (steps.take (i + 1)) = versT hash (steps.take i) ++ [trieStep hash t0 s] := by
    have e1 : (vers (trieStep hash) MStep.ref .emp (steps.take i))[s.ref]? = some t0 := by
      have : s.ref = q := by simp [MStep.ref, hq]
      rw [this, ← ht]; exact List.getElem?_eq_getElem hq1
    rw [htk, versT, vers_snoc, e1]; rfl
  have hcost : s.cost = 1 + s.count.toNat := rfl
  obtain ⟨J, hJ⟩ : ∃ J : Value → World → Prop, ∀ p w', J p w' ↔ ∃ (b' : Nat) (G2 : Nat → Prop), p = ptr b' ∧ Frm (fun _ => False) wl w' ∧ w8.heap.size ≤ w'.heap.size ∧ Ver w' b' hash nl (trieStep hash t0 s) G2 ∧ ∀ c, G2 c → (G c ∨ wl.heap.size ≤ c) ∧ c < w'.heap.size := ⟨_, fun _ _ => Iff.rfl⟩
  refine Jn.intro J ⟨?_, ?_⟩
  rotate_left
  · intro w9 m hm
    obtain ⟨b', G2, rfl, k9, n9, v9, hG2⟩ := (hJ _ _).1 hm
    refine op_push (u := [ptr b']) hE apM (lit_88_1 rfl) rfl (by simp [ptr]) (hR.still hE k9) ⟨b', rfl, v9⟩ (fun c hc => ?_) (fun b hb hc => ?_) (by omega) (by omega) fun l10 w10 k10 hR10 ho10 => ?_
    · refine ⟨?_, (hG2 c hc).2⟩
      rcases (hG2 c hc).1 with h | h
      · exact (hR.low c h).1
      · omega
    · rcases (hG2 b hc).1 with h | h
      · exact hR.off b hb h
      · have := hlow b hb; omega
    · try simp [-getElem?_pos, -Array.getElem?_eq_getElem, -Int.natCast_add, add_spot, and_assoc, Br_dec, -op_box, -op_alloc_35, -op_st_35, -op_lit_88_1, -op_lit_36_1]
      rw [wrap_i64_small (by omega) (by omega)]
      have hM10 : ∀ b, some b = (Value.slice (some { block := g, off := 0 }) (versT hash (steps.take i)).length c).ownBlock → w.heap.size + 1 ≤ b := fun b hb => (hlow b hb.symm).1
      refine ⟨(hI _ _ _).2 ⟨i + 1, _, by simp, by omega, (kl.no k9).old k10 fun c hc => .inr (by have := hM10 c hc; omega), by have := k10.size; omega, k10.get (k9.get bl fun h => h) fun he => by have := hM10 _ he; omega, by rw [hnext]; exact hR10⟩, ?_⟩
      simp only [natOf]; omega
  have hx5 := cells5 s
  simp [-getElem?_pos, -Array.getElem?_eq_getElem, -Int.natCast_add, add_spot, and_assoc, Br_dec, -op_box, -op_alloc_35, -op_st_35, -op_lit_88_1, -op_lit_36_1, b8, hx5]
  rw [hlv]
  refine mapStep_ok (s := s) (n := i + 1) f2 (by omega) f1 f4 f5 fun w9 k9 => ?_
  have b9 := k9.get b8 fun h => h
  have hg9 := k9.get hg1 fun h => h
  have hV9 := hV.still k9
  have n9 := k9.size
  simp [-getElem?_pos, -Array.getElem?_eq_getElem, -Int.natCast_add, add_spot, and_assoc, Br_dec, -op_box, -op_alloc_35, -op_st_35, -op_lit_88_1, -op_lit_36_1, b9, hq, hg9, hg0]
  refine ⟨by omega, ?_⟩
  have hdone : ∀ {b' : Nat} {wz : World} {t' : Tr} {G2 : Nat → Prop}, t' = trieStep hash t0 s → Frm (fun _ => False) w9 wz → Ver wz b' hash nl t' G2 → (∀ c, G2 c → (G c ∨ w9.heap.size ≤ c) ∧ c < wz.heap.size) → J (ptr b') wz := fun {b' wz t' G2} he kz vz hz => by
    subst he
    refine (hJ _ _).2 ⟨b', G2, rfl, (k58.no k9).no kz, by have := kz.size; omega, vz, fun c hc => ⟨?_, (hz c hc).2⟩⟩
    rcases (hz c hc).1 with h | h
    · exact .inl h
    · exact .inr (by omega)
  have hkind : s.kind = 0 ∨ s.kind = 1 ∨ s.kind = 2 ∨ s.kind = 3 := by omega
  have hdef := defHasher_ok
  rcases hkind with hk | hk | hk | hk
  · simp [-getElem?_pos, -Array.getElem?_eq_getElem, -Int.natCast_add, add_spot, and_assoc, Br_dec, -op_box, -op_alloc_35, -op_st_35, -op_lit_88_1, -op_lit_36_1, hk, b9]
    refine Set_ok (k := s.key) (x := s.value) hdef hV9 (by omega) fun b' wz F' kz vz hz => hdone (by simp only [trieStep, hk]) kz vz hz
  · simp [-getElem?_pos, -Array.getElem?_eq_getElem, -Int.natCast_add, add_spot, and_assoc, Br_dec, -op_box, -op_alloc_35, -op_st_35, -op_lit_88_1, -op_lit_36_1, hk, b9]
    refine Delete_ok (k := s.key) hV9 (by omega) fun b' wz F' kz vz hz => hdone (by simp only [trieStep, hk]) kz vz hz
  · simp [-getElem?_pos, -Array.getElem?_eq_getElem, -Int.natCast_add, add_spot, and_assoc, Br_dec, -op_box, -op_alloc_35, -op_st_35, -op_lit_88_1, -op_lit_36_1, hk]
    obtain ⟨I2, hI2⟩ : ∃ I2 : Value → Value → World → Prop, ∀ m v wz, I2 m v wz ↔ ∃ (j b' : Nat) (G2 : Nat → Prop), m = ptr b' ∧ v = .int .i64 j ∧ (j : Int) ≤ s.count ∧ Frm (fun _ => False) w9 wz ∧ Ver wz b' hash nl (setN hash s.key s.value t0 j) G2 ∧ (∀ c, G2 c → (G c ∨ w9.heap.size ≤ c) ∧ c < wz.heap.size) := ⟨_, fun _ _ _ => Iff.rfl⟩
    refine Lp.intro I2 (fun _ v _ => s.count.toNat - natOf v) ⟨(hI2 _ _ _).2 ⟨0, bv, G, rfl, rfl, by omega, Frm.refl, hV9, fun c hc => ⟨.inl hc, by have := (hR.low c hc).2; omega⟩⟩, ?_⟩
    intro wz m v hm
    obtain ⟨j, b', G2, rfl, rfl, hj, kz, vz, hz⟩ := (hI2 _ _ _).1 hm
    have bz := kz.get b9 fun h => h
    have hsz2 := (setN_len hlt hV9.1 (k := s.key) (v := s.value) j).2
    simp [-getElem?_pos, -Array.getElem?_eq_getElem, -Int.natCast_add, add_spot, and_assoc, Br_dec, -op_box, -op_alloc_35, -op_st_35, -op_lit_88_1, -op_lit_36_1, bz]
    refine ⟨fun hlt2 => ?_, fun hge => ?_⟩
    · refine Set_ok (k := kAt s.key s.value j) (x := (j : Int)) hdef vz (by omega) fun b'' wy F' ky vy hy => ?_
      rw [← setN_succ] at vy
      rw [wrap_i64_small (by omega) (by omega)]
      have := kz.size
      refine ⟨(hI2 _ _ _).2 ⟨j + 1, b'', F', rfl, by simp, by omega, kz.no ky, vy, fun c hc => ⟨?_, (hy c hc).2⟩⟩, ?_⟩
      · rcases (hy c hc).1 with h | h
        · exact (hz c h).1
        · exact .inr (by omega)
      · simp only [natOf]; omega
    · have : j = s.count.toNat := by omega
      subst this
      exact hdone (by simp only [trieStep, hk]) kz vz hz
  · simp [-getElem?_pos, -Array.getElem?_eq_getElem, -Int.natCast_add, add_spot, and_assoc, Br_dec, -op_box, -op_alloc_35, -op_st_35, -op_lit_88_1, -op_lit_36_1, hk]
    obtain ⟨I2, hI2⟩ : ∃ I2 : Value → Value → World → Prop, ∀ m v wz, I2 m v wz ↔ ∃ (j b' : Nat) (G2 : Nat → Prop), m = ptr b' ∧ v = .int .i64 j ∧ (j : Int) ≤ s.count ∧ Frm (fun _ => False) w9 wz ∧ Ver wz b' hash nl (delN hash s.key s.value t0 j) G2 ∧ (∀ c, G2 c → (G c ∨ w9.heap.size ≤ c) ∧ c < wz.heap.size) := ⟨_, fun _ _ _ => Iff.rfl⟩
    refine Lp.intro I2 (fun _ v _ => s.count.toNat - natOf v) ⟨(hI2 _ _ _).2 ⟨0, bv, G, rfl, rfl, by omega, Frm.refl, hV9, fun c hc => ⟨.inl hc, by have := (hR.low c hc).2; omega⟩⟩, ?_⟩
    intro wz m v hm
    obtain ⟨j, b', G2, rfl, rfl, hj, kz, vz, hz⟩ := (hI2 _ _ _).1 hm
    have bz := kz.get b9 fun h => h
    have hsz2 := (delN_len hV9.1 (k := s.key) (v := s.value) j).2
    simp [-getElem?_pos, -Array.getElem?_eq_getElem, -Int.natCast_add, add_spot, and_assoc, Br_dec, -op_box, -op_alloc_35, -op_st_35, -op_lit_88_1, -op_lit_36_1, bz]
    refine ⟨fun hlt2 => ?_, fun hge => ?_⟩
    · refine Delete_ok (k := kAt s.key s.value j) vz (by omega) fun b'' wy F' ky vy hy => ?_
      rw [← delN_succ] at vy
      rw [wrap_i64_small (by omega) (by omega)]
      have := kz.size
      refine ⟨(hI2 _ _ _).2 ⟨j + 1, b'', F', rfl, by simp, by omega, kz.no ky, vy, fun c hc => ⟨?_, (hy c hc).2⟩⟩, ?_⟩
      · rcases (hy c hc).1 with h | h
        · exact (hz c h).1
        · exact .inr (by omega)
      · simp only [natOf]; omega
    · have : j = s.count.toNat := by omega
      subst this
      exact hdone (by simp only [trieStep, hk]) kz vz hz
end Go.Proofs.Ytbghmbbhkoniiaa.I
end
section
/- MapRun: what all versions tell. -/
set_option maxRecDepth 100000
set_option maxHeartbeats 2000000
set_option linter.unusedSimpArgs false
set_option linter.unusedVariables false
set_option linter.unusedSectionVars false
namespace Go.Proofs.Ytbghmbbhkoniiaa.I
open Go.Vc Go.Proofs Go.Proofs.Ytbghmbbhkoniiaa Go.Vc.Nd
variable {w w' : World} {v hv : Value} {t : Tr} {F F' G : Nat → Prop} {K : Value → World → Prop} {Kp : KP} {hash : Ky → Nat} {k : Ky} {x : Vl} {l s rb md ml sh : Nat} {r0 mu nl : Bool}

def ElS : World → List Value → Tr → (Nat → Prop) → Prop := fun w u t G => ∃ pv, u = [.int .i64 (toL t).length, pv] ∧ IsPairs w pv (toL t) ∧ ∀ b, pv.ownBlock = some b → G b
theorem elS_ok : ElOk ElS :=
  ⟨fun ⟨pv, hu, h, hG⟩ hf hM => ⟨pv, hu, h.frame hf fun b hb => hM b (hG b hb), hG⟩, fun ⟨pv, hu, h, hG⟩ hG' => ⟨pv, hu, h, fun b hb => hG' b (hG b hb)⟩⟩
theorem told_ok {b : Nat} (h : Ver w b hash nl t F) (hF : ∀ c, F c → c < w.heap.size) (hL : (toL t).length < 2 ^ 31)
    (hK : ∀ pv w', Frm (fun _ => False) w w' → RowsOf (Flat ent) w' w.heap.size 46 2 pv (toL t) (fun _ => False) → K (.agg #[.int .i64 (toL t).length, pv]) w') :
    (nice Try.prog).call (.fn 36) [ptr b] w (fun v18 w => (nice Try.prog).call (.fn 37) [ptr b] w (fun v20 w => (nice Try.prog).call (.fn 35) [v18, v20] w K Kp) Kp) Kp := by
  simp only [call_36, call_37, call_35]
  refine ver_len_ok h ?_
  refine ver_iter_ok h hF fun ib w1 k1 hib hA => ?_
  have hib2 := hA.lt
  have n1 := k1.size
  refine mapSeen_ok hA (fun hc => by have := hF _ hc; omega) (fun c hc => by have := hF c hc; omega) hL fun pv w2 k2 hR2 => hK pv w2 (k1.old k2 fun c hc => .inr (by omega)) (hR2.base_le k1.size)
theorem mapRun_ok {a1 : Option Addr} {c1 : Nat} {steps : List MStep} (h1 : Row w a1 (steps.flatMap MStep.cells)) (hfit : MFit steps) (hc : mcost steps ≤ 900000)
    (hK : ∀ l w' G, Frm (fun _ => False) w w' → RowsOf ElS w' w.heap.size 41 2 l (versT (hashOf md ml sh) steps) G → K l w') :
    Calls Try.prog 16 #[hval md ml sh, .slice a1 steps.length c1] w (ret K Kp) := by
  refine vc16_calls ?_
  simp only [vc16]
  refine op_box_ok fun w1 k1 z1 b1 => ?_
  simp only [hval, cells_agg] at b1
  have hx3 : (#[Value.int .u32 (md : Int), .int .u32 (ml : Int), .int .u8 (sh : Int)] : Array Value).extract 0 3 = #[.int .u32 md, .int .u32 ml, .int .u8 sh] := rfl
  simp [-getElem?_pos, -Array.getElem?_eq_getElem, -Int.natCast_add, add_spot, and_assoc, Br_dec, -op_box, -op_lit_36_1, b1, hx3]
  refine mapsOf_ok (md := md) (ml := ml) (sh := sh) (h1.frame k1 fun _ _ h => h) hfit hc fun l w2 G k2 hR2 => ?_
  have hlt := hashOf_lt md ml sh
  generalize hashOf md ml sh = hash at *
  generalize decide (md = 0) = nl at *
  have hn : (versT hash steps).length = steps.length + 1 := vers_len steps
  have hcl : steps.length ≤ mcost steps := by
    clear h1 hfit hc hK hR2 hn
    induction steps with
    | nil => simp
    | cons s l ih => simp only [mcost, List.map_cons, List.sum_cons, List.length_cons, MStep.cost] at ih ⊢; omega
  have hsz := vers_size hlt steps
  generalize hvs : versT hash steps = vs at *
  obtain ⟨a2, c2, hl2, _⟩ := id hR2.slice
  subst hl2
  have n1 := k1.size
  have n2 := k2.size
  obtain ⟨I, hI⟩ : ∃ I : Value → Value → World → Prop, ∀ l v wl, I l v wl ↔ ∃ (i : Nat) (G' : Nat → Prop), v = .int .i64 i ∧ i ≤ vs.length ∧ Frm (fun _ => False) w2 wl ∧ RowsOf ElS wl w2.heap.size 41 2 l (vs.take i) G' := ⟨_, fun _ _ _ => Iff.rfl⟩
  try simp [-getElem?_pos, -Array.getElem?_eq_getElem, -Int.natCast_add, add_spot, and_assoc, Br_dec, -op_box, -op_lit_36_1]
  refine Lp.intro I (fun _ v _ => vs.length - natOf v) ⟨(hI _ _ _).2 ⟨0, _, rfl, by omega, Frm.refl, rows_nil⟩, ?_⟩
  intro wl l v hl
  obtain ⟨i, G', rfl, hi, kl, hR⟩ := (hI _ _ _).1 hl
  simp only [op_lss, Br_dec]
  refine ⟨fun hlt' => ?_, fun hnl' => ?_⟩
  rotate_left
  · have : i = vs.length := by omega
    subst this
    rw [List.take_length] at hR
    exact hK l wl G' ((k1.no k2).no kl) (hR.base_le (by omega))
  have hi' : i < vs.length := by omega
  have htk : vs.take (i + 1) = vs.take i ++ [vs[i]] := List.take_succ_eq_append_getElem hi'
  have hlow := hR.own_lt
  have nl' := kl.size
  obtain ⟨u, g, c, cur, hlg, hg1, hg2, hg3, hg4, hg5, bv, hub, hV⟩ := (hR2.still (elV_ok hash nl) kl).get hi'
  cases hlg
  subst hub
  have hg0 : cur[i]? = some (ptr bv) := by have := hg3 0 (by decide); simpa using this
  have hti := (hsz i vs[i] (by simp [hi'])).2
  generalize ht : vs[i] = t0 at *
  simp [-getElem?_pos, -Array.getElem?_eq_getElem, -Int.natCast_add, add_spot, and_assoc, Br_dec, -op_box, -op_lit_36_1, hg1, hg0]
  refine ⟨hi', ?_⟩
  have := @told_ok
  simp only [call_36, call_37, call_35] at this
  refine this hV (fun c hc => by have := (hR2.low c hc).2; omega) (by omega) fun pv w3 k3 hR3 => ?_
  have hlow3 := hR3.own_lt
  have n3 := k3.size
  have hR' := hR.still elS_ok k3
  refine op_push (u := [.int .i64 (toL t0).length, pv]) (G2 := fun c => pv.ownBlock = some c) elS_ok apSeen lit_36_1 rfl (by simp [hR3.one]) hR' ⟨pv, rfl, hR3.flat, fun b hb => hb⟩ (fun c hc => by have := hlow3 c hc; omega) (fun b hb hc => by have := hlow b hb; have := hlow3 b hc; omega) (by simp; omega) (by omega) fun l' w4 k4 hR4 ho4 => ?_
  try simp [-getElem?_pos, -Array.getElem?_eq_getElem, -Int.natCast_add, add_spot, and_assoc, Br_dec, -op_box, -op_lit_36_1]
  rw [wrap_i64_small (by omega) (by omega)]
  refine ⟨(hI _ _ _).2 ⟨i + 1, _, by simp, by omega, (kl.no k3).old k4 fun c hc => .inr (hlow c hc.symm).1, by rw [htk]; exact hR4⟩, ?_⟩
  simp only [natOf]; omega
end Go.Proofs.Ytbghmbbhkoniiaa.I
end
section
/- Whole numbers and texts as keys of Go's maps; plain facts of rows of pairs. -/
set_option linter.unusedSimpArgs false
set_option linter.unusedVariables false
set_option linter.unusedSectionVars false
namespace Go.Vc
variable {P : Program}
def keyInt {t : TypeId} {k : IntKind} (h : P.underlying t = some (.int k)) : KeyEnc P t Int where
  enc := .int k
  desc := .int k
  und := h
  same a b := by
    simp only [Instr.sameNow, if_true]
    by_cases e : a = b <;> simp [e]
  bits a := by simp [Instr.sameBits]
  chk w e a := by rw [Instr.checkKey]; simp [run_und h]
section
variable {κ ν : Type} [DecidableEq κ]
theorem mem_erase_nd {L : List (κ × ν)} (hn : (L.map (·.1)).Nodup) {i : Nat} (hi : i < L.length) {e : κ × ν} : e ∈ L.eraseIdx i ↔ e ∈ L ∧ e.1 ≠ L[i].1 := by
  rw [List.mem_eraseIdx_iff_getElem]
  constructor
  · rintro ⟨j, hj, hne, rfl⟩
    refine ⟨List.getElem_mem hj, fun hk => hne ?_⟩
    have := List.pairwise_iff_getElem.1 hn
    rcases Nat.lt_trichotomy i j with h | h | h
    · exact (this i j (by simpa using hi) (by simpa using hj) h (by simp [hk])).elim
    · exact h.symm
    · exact (this j i (by simpa using hj) (by simpa using hi) h (by simp [hk])).elim
  · rintro ⟨h, h3⟩
    obtain ⟨j, hj, hje⟩ := List.mem_iff_getElem.1 h
    exact ⟨j, hj, fun e => h3 (by subst e; rw [← hje]), hje⟩
theorem one_of_key {D : List (κ × ν)} (hn : (D.map (·.1)).Nodup) {e e' : κ × ν} (h : e ∈ D) (h' : e' ∈ D) (hk : e.1 = e'.1) : e = e' := by
  obtain ⟨i, hi, rfl⟩ := List.mem_iff_getElem.1 h
  obtain ⟨j, hj, rfl⟩ := List.mem_iff_getElem.1 h'
  have := List.pairwise_iff_getElem.1 hn
  rcases Nat.lt_trichotomy i j with h | h | h
  · exact (this i j (by simpa using hi) (by simpa using hj) h (by simp [hk])).elim
  · subst h; rfl
  · exact (this j i (by simpa using hj) (by simpa using hi) h (by simp [hk])).elim
theorem HasMap.nodup {w : World} {ek : κ → Value} {ev : ν → Value} {b : Nat} {D : List (κ × ν)} (h : HasMap w ek ev b D) : (D.map (·.1)).Nodup := by
  obtain ⟨es, c, h⟩ := h; exact h.nodup
structure Copied (D L D2 : List (κ × ν)) : Prop where
  nd : (L.map (·.1)).Nodup
  sub : ∀ e ∈ L, e ∈ D
  done : ∀ e, e ∈ D2 ↔ e ∈ D ∧ e ∉ L
theorem Copied.start {D : List (κ × ν)} (hn : (D.map (·.1)).Nodup) : Copied D D [] := ⟨hn, fun _ h => h, fun e => by simp⟩
theorem Copied.next {D L D2 : List (κ × ν)} (hn : (D.map (·.1)).Nodup) (hn2 : (D2.map (·.1)).Nodup) (h : Copied D L D2) {i : Nat} (hi : i < L.length) : Copied D (L.eraseIdx i) (Nd.upd D2 L[i].1 L[i].2) := by
  refine ⟨h.nd.sublist ((List.eraseIdx_sublist L i).map _), fun e he => h.sub e ((mem_erase_nd h.nd hi).1 he).1, fun e => ?_⟩
  rw [Nd.mem_upd hn2, mem_erase_nd h.nd hi, h.done e]
  have hmem := h.sub _ (List.getElem_mem hi)
  constructor
  · rintro (rfl | ⟨h1, h2, h3⟩)
    · exact ⟨hmem, fun h => h.2 rfl⟩
    · exact ⟨h2, fun h => h3 h.1⟩
  · rintro ⟨h1, h2⟩
    by_cases hk : e.1 = L[i].1
    · exact .inl (one_of_key hn h1 hmem hk)
    · exact .inr ⟨hk, h1, fun hL => h2 ⟨hL, hk⟩⟩
theorem Copied.tells {D D2 : List (κ × ν)} {m : κ → Option ν} (h : Copied D [] D2) (hm : Tells D m) : Tells D2 m := fun k v => by
  rw [h.done]; simp [hm k v]
end
end Go.Vc
end
section
/- A loop that hands a slice's elements on into a row of another type. -/
set_option linter.unusedSimpArgs false
set_option linter.unusedVariables false
namespace Go.Vc
variable {P : Program} {w w' : World} {K : Value → World → Prop} {Kp : KP} {e : TypeId} {k : Nat}
theorem wrap_small64 {n : Int} (h0 : 0 ≤ n) (h1 : n < 9223372036854775808) : IntKind.i64.wrap n = n := by rw [IntKind.wrap_i64]; omega
theorem conv_ok {α : Type} {f : α → List Value} {tin tel tout e s : TypeId} {bytes : Nat} {z : Value} (hk : ∀ x, (f x).length = k) (hk0 : 0 < k) (hone : ∀ x, ∀ u ∈ f x, u.oneCell' = true) (hin : sliceOf P tin = some (e, k)) (hkd : kd P tin = .slice) (hel : ldk P tel = some (.agg k))
    (hz : zeroOf P tel = some z) (hzk : z.cells.size = k) (ha : apOf P tout = some (s, k, bytes)) (hl : ∀ x, sliceLit P tout 1 [(0, .agg (f x).toArray)] = some (s, (f x).toArray)) {a : Option Addr} {c : Nat} {xs : List α} (h : Row w a (xs.flatMap f)) (hn : (xs.length + 1) * (bytes + 1) ≤ 140737488355328)
    (hK : ∀ l w', Frm (fun _ => False) w w' → RowsOf (Flat f) w' w.heap.size s k l xs (fun _ => False) → K l w') :
    (nice P).op (.blt .len [tin] 3 [.slice a xs.length c]) w (fun v7 w =>
    Lp fun (I3 : Value → Value → World → Prop) (μ3 : Value → Value → World → Nat) => I3 (Value.slice none 0 0) (Value.int IntKind.i64 0) w ∧
    ∀ (wl3 : World) (junk : Nat → Value) (s3_out : Value) (s8_ : Value), I3 s3_out s8_ wl3 →
      (nice P).op (.bin BinOp.lss 3 false false s8_ v7) wl3 (fun v9 w =>
      Br v9 (
        (nice P).op (.indexAddr tin (.slice a xs.length c) s8_) w (fun v10 w =>
        (nice P).op (.load tel v10) w (fun v11 w =>
        (nice P).op (.alloc tel) w (fun v5_p w =>
        (nice P).op (.store tel v5_p v11) w (fun _ w =>
        (nice P).op (.load tel v5_p) w (fun v13 w =>
        (nice P).op (.buildSlice tout 1 [(0, v13)]) w (fun v14 w =>
        (nice P).op (.blt Builtin.append [tout, tout] tout [s3_out, v14]) w (fun v15 w =>
        (nice P).op (.bin BinOp.add 3 false true s8_ (Value.int IntKind.i64 1)) w (fun v16 w =>
        I3 v15 v16 w ∧ μ3 v15 v16 w < μ3 s3_out s8_ wl3) Kp) Kp) Kp) Kp) Kp) Kp) Kp) Kp) (
        K s3_out w)) Kp) Kp := by
  have hb0 : 0 < bytes + 1 := by omega
  have hmax : xs.length + 1 ≤ 140737488355328 := Nat.le_trans (Nat.le_mul_of_pos_right _ hb0) hn
  rw [op_len_slice hkd]
  obtain ⟨I, hI⟩ : ∃ I : Value → Value → World → Prop, ∀ l v wl, I l v wl ↔ ∃ i : Nat, v = .int .i64 i ∧ i ≤ xs.length ∧ Frm (fun _ => False) w wl ∧ RowsOf (Flat f) wl w.heap.size s k l (xs.take i) (fun _ => False) := ⟨_, fun _ _ _ => Iff.rfl⟩
  refine Lp.intro I (fun _ v _ => xs.length - (match v with | .int _ j => j.toNat | _ => 0)) ⟨(hI _ _ _).2 ⟨0, rfl, by omega, Frm.refl, rows_nil⟩, ?_⟩
  intro wl _ l v hl'
  obtain ⟨i, rfl, hi, kl, hR⟩ := (hI _ _ _).1 hl'
  simp only [op_lss, Br_dec]
  refine ⟨fun hlt => ?_, fun hge => ?_⟩
  · have hi' : i < xs.length := by omega
    obtain ⟨b, o, cs, e', fz, rfl, hcs, hsz, hext⟩ := (h.frame kl fun _ _ h => h).part hk hk0 hi'
    rw [op_ix_slice hin]
    refine ⟨⟨by omega, by omega⟩, ?_⟩
    rw [add_spot rfl, op_ldn hel]
    simp only [Int.toNat_natCast]
    refine ⟨cs, e', fz, hcs, by first | rfl | trivial, hsz, ?_⟩
    show (nice P).op (.alloc tel) wl _ Kp
    rw [hext]
    refine op_alloc_ok hz fun w1 k1 z1 b1 => ?_
    refine op_storeN_ok (n := k) hel b1 (by simp [hk]) (by rw [hzk]; omega) (fun u hu => hone _ u (by simpa using hu)) fun w2 k2 z2 b2 => ?_
    have hb2 : w2.heap[wl.heap.size]? = some (.cells (f xs[i]).toArray tel (0, 0)) := by
      rw [ow_all (by simp [hk, hzk])] at b2; exact b2
    rw [op_ldn hel]
    refine ⟨_, _, _, hb2, rfl, by simp [hk], ?_⟩
    have hx : (f xs[i]).toArray.extract 0 (0 + k) = (f xs[i]).toArray := extract_self (by simp [hk])
    rw [hx]
    have k12 : Frm (fun _ => False) wl w2 := k1.old k2 fun c hc => .inr (by omega)
    have hR2 := hR.still (flat_ok f) k12
    have hlow := hR.own_lt
    have htl : (xs.take i).length = i := by simp; omega
    have hmul : (i + 1) * (bytes + 1) ≤ (xs.length + 1) * (bytes + 1) := Nat.mul_le_mul_right _ (by omega)
    refine op_push (flat_ok f) ha (hl _) (hk _) (hone _) hR2 rfl (G2 := fun _ => False) (fun _ h => h.elim) (fun _ _ h => h) (by rw [htl]; omega) (by have := kl.size; have := k12.size; omega) fun l' w3 k3 hR3 ho3 => ?_
    rw [op_add, wrap_small64 (by omega) (by omega)]
    have hlow2 := hR2.own_lt
    refine ⟨(hI _ _ _).2 ⟨i + 1, by simp, by omega, (kl.no k12).old k3 fun c hc => .inr (by have := hlow2 c hc.symm; omega), ?_⟩, ?_⟩
    · rw [List.take_succ_eq_append_getElem hi']
      exact hR3.mono (flat_ok f) (fun c h => h.elim (fun h => h) fun h => h) (fun _ h => h.elim) fun _ _ h => h
    · have : ((i : Int) + 1).toNat = i + 1 := by omega
      simp only [Int.toNat_natCast, this]; omega
  · have : i = xs.length := by omega
    subst this
    rw [List.take_length] at hR
    exact hK l wl kl hR
end Go.Vc
namespace Go.Vc
section
variable {P : Program} {w : World} {K : Value → World → Prop} {K1 : Value → Prop} {Kp : KP} {a b c d e : Value}
@[simp] theorem pur_ext4_0 : (nice P).pur (.extract (.tuple #[a, b, c, d]) 0) K1 = K1 a := pur_ext rfl
@[simp] theorem pur_ext4_1 : (nice P).pur (.extract (.tuple #[a, b, c, d]) 1) K1 = K1 b := pur_ext rfl
@[simp] theorem pur_ext4_2 : (nice P).pur (.extract (.tuple #[a, b, c, d]) 2) K1 = K1 c := pur_ext rfl
@[simp] theorem pur_ext4_3 : (nice P).pur (.extract (.tuple #[a, b, c, d]) 3) K1 = K1 d := pur_ext rfl
@[simp] theorem pur_ext5_0 : (nice P).pur (.extract (.tuple #[a, b, c, d, e]) 0) K1 = K1 a := pur_ext rfl
@[simp] theorem pur_ext5_1 : (nice P).pur (.extract (.tuple #[a, b, c, d, e]) 1) K1 = K1 b := pur_ext rfl
@[simp] theorem pur_ext5_2 : (nice P).pur (.extract (.tuple #[a, b, c, d, e]) 2) K1 = K1 c := pur_ext rfl
@[simp] theorem pur_ext5_3 : (nice P).pur (.extract (.tuple #[a, b, c, d, e]) 3) K1 = K1 d := pur_ext rfl
@[simp] theorem pur_ext5_4 : (nice P).pur (.extract (.tuple #[a, b, c, d, e]) 4) K1 = K1 e := pur_ext rfl
@[simp] theorem op_ext4_0 : (nice P).op (.extract (.tuple #[a, b, c, d]) 0) w K Kp = K a w := op_ext rfl
@[simp] theorem op_ext4_1 : (nice P).op (.extract (.tuple #[a, b, c, d]) 1) w K Kp = K b w := op_ext rfl
@[simp] theorem op_ext4_2 : (nice P).op (.extract (.tuple #[a, b, c, d]) 2) w K Kp = K c w := op_ext rfl
@[simp] theorem op_ext4_3 : (nice P).op (.extract (.tuple #[a, b, c, d]) 3) w K Kp = K d w := op_ext rfl
@[simp] theorem op_ext5_0 : (nice P).op (.extract (.tuple #[a, b, c, d, e]) 0) w K Kp = K a w := op_ext rfl
@[simp] theorem op_ext5_1 : (nice P).op (.extract (.tuple #[a, b, c, d, e]) 1) w K Kp = K b w := op_ext rfl
@[simp] theorem op_ext5_2 : (nice P).op (.extract (.tuple #[a, b, c, d, e]) 2) w K Kp = K c w := op_ext rfl
@[simp] theorem op_ext5_3 : (nice P).op (.extract (.tuple #[a, b, c, d, e]) 3) w K Kp = K d w := op_ext rfl
@[simp] theorem op_ext5_4 : (nice P).op (.extract (.tuple #[a, b, c, d, e]) 4) w K Kp = K e w := op_ext rfl
end
end Go.Vc
end
section
/- The reference's maps: versions as Go's maps; the conversions between the packages' types. -/
set_option maxRecDepth 100000
set_option maxHeartbeats 2000000
set_option linter.unusedSimpArgs false
set_option linter.unusedVariables false
set_option linter.unusedSectionVars false
namespace Go.Proofs.Ytbghmbbhkoniiaa.I
open Go.Vc Go.Proofs Go.Proofs.Ytbghmbbhkoniiaa Go.Vc.Nd
variable {w w' : World} {v hv : Value} {t : Tr} {F F' G : Nat → Prop} {K : Value → World → Prop} {Kp : KP} {hash : Ky → Nat} {k : Ky} {x : Vl} {l s rb md ml sh : Nat} {r0 mu nl : Bool}

def kE : KeyEnc Try.prog 2 Int := keyInt Try.underlying2
def ElM : World → List Value → (Int → Option Int) → (Nat → Prop) → Prop := fun w u m G => ∃ b D, u = [.map (some b)] ∧ HasMap w kE.enc ev b D ∧ Tells D m ∧ G b
theorem elM_ok : ElOk ElM :=
  ⟨fun ⟨b, D, hu, h, ht, hG⟩ hf hM => ⟨b, D, hu, h.frame hf (hM b hG), ht, hG⟩, fun ⟨b, D, hu, h, ht, hG⟩ hG' => ⟨b, D, hu, h, ht, hG' b hG⟩⟩
theorem apMap : apOf Try.prog 28 = some (30, 1, 8) := by kernel_rfl
theorem mapAfter_ok {b : Nat} {D : List (Int × Int)} {m : Int → Option Int} {s : MStep} (h : HasMap w kE.enc ev b D) (ht : Tells D m) (hk : s.kind ≤ 3) (hc0 : 0 ≤ s.count) (hc : s.count ≤ 100000)
    (hK : ∀ b' D' w', Frm (fun _ => False) w w' → w.heap.size ≤ b' → HasMap w' kE.enc ev b' D' → Tells D' (funStep m s) → K (.map (some b')) w') : Calls Try.prog 33 #[.map (some b), .agg s.cells.toArray] w (ret K Kp) := by
  have hcells : s.cells.toArray = #[.int .u8 s.kind, .int .i64 s.fro, .int .i64 s.key, .int .i64 s.value, .int .i64 s.count] := rfl
  refine vc33_calls ?_
  simp only [vc33]
  refine op_box_ok fun w1 k1 z1 b1 => ?_
  simp only [cells_agg, hcells] at b1
  refine op_mkMap ?_
  have k2 : Frm (fun _ => False) w1 (w1.alloc (.map #[] 0)) := Frm.alloc _ _
  have hm2 : HasMap (w1.alloc (.map #[] 0)) kE.enc ev w1.heap.size ([] : List (Int × Int)) := hasMap_new w1 _ _
  generalize hw2 : w1.alloc (.map #[] 0) = w2 at *
  have n1 := k1.size
  have n2 := k2.size
  have b2 := k2.get b1 fun h => h
  have hD2 := (h.frame k1 fun h => h).frame k2 fun h => h
  have hmlt := hm2.lt
  refine op_range Try.underlying30 hD2 fun w3 k3 z3 hr3 => ?_
  have k3 := k3 (M := fun _ => False)
  have hlb := h.lt
  have hnd := h.nodup
  obtain ⟨I, hI⟩ : ∃ I : World → Prop, ∀ wl, I wl ↔ ∃ (L D2 : List (Int × Int)), Frm (fun _ => False) w wl ∧ w3.heap.size ≤ wl.heap.size ∧ Ranging wl kE.enc ev b D w2.heap.size L ∧ HasMap wl kE.enc ev w1.heap.size D2 ∧ Copied D L D2 ∧
      wl.heap[w.heap.size]? = some (.cells #[.int .u8 s.kind, .int .i64 s.fro, .int .i64 s.key, .int .i64 s.value, .int .i64 s.count] 82 (0, 0)) := ⟨_, fun _ => Iff.rfl⟩
  obtain ⟨μ, hμ⟩ : ∃ μ : World → Nat, ∀ wl L, Ranging wl kE.enc ev b D w2.heap.size L → μ wl = L.length := by
    refine ⟨fun wl => match wl.heap[w2.heap.size]? with
      | some (.mapIter (some m) since seen c0) => match wl.heap[m]? with
        | some (.map es clock) => (leftOf es seen).size
        | _ => 0
      | _ => 0, fun wl L hr => ?_⟩
    obtain ⟨es, clock, since, seen, c0, h1, h2, h3, h4, h5, h6⟩ := hr
    have := congrArg List.length h6
    simp only [h2, h1.heap]
    simpa using this
  refine Lp.intro I μ ⟨(hI _).2 ⟨D, [], (k1.no k2).no k3, Nat.le_refl _, hr3, hm2.frame k3 fun h => h, Copied.start hnd, k3.get b2 fun h => h⟩, ?_⟩
  intro wl _ hl
  obtain ⟨L, D2, kl, zl, hr, hm, hcp, bl⟩ := (hI _).1 hl
  have hrne := hr.ne
  have hrlt := hr.lt
  refine op_next hr (fun hL => ?_) fun i hi w4 k4 z4 hr4 ht4 => ?_
  · subst hL
    have htl := hcp.tells ht
    have hfin : ∀ {D' w'}, Frm (· = w1.heap.size) wl w' → HasMap w' kE.enc ev w1.heap.size D' → Tells D' (funStep m s) → K (.map (some w1.heap.size)) w' := fun {D' w'} kf hf ht' => hK _ D' w' (kl.old kf fun c hc => .inr (by omega)) (by omega) hf ht'
    simp [-getElem?_pos, -Array.getElem?_eq_getElem, -Int.natCast_add, add_spot, and_assoc, Br_dec, -op_box, -op_alloc_82, -op_st_82, -op_lit_28_1, bl]
    have hkind : s.kind = 0 ∨ s.kind = 1 ∨ s.kind = 2 ∨ s.kind = 3 := by omega
    rcases hkind with hk | hk | hk | hk
    · simp [-getElem?_pos, -Array.getElem?_eq_getElem, -Int.natCast_add, add_spot, and_assoc, Br_dec, -op_box, -op_alloc_82, -op_st_82, -op_lit_28_1, hk, bl]
      refine op_update (E := kE) (ev := ev) (k := s.key) (v := s.value) Try.underlying30 hm fun w5 k5 z5 hm5 => hfin k5 hm5 ?_
      simp only [funStep, hk]
      exact tells_upd hm.nodup htl
    · simp [-getElem?_pos, -Array.getElem?_eq_getElem, -Int.natCast_add, add_spot, and_assoc, Br_dec, -op_box, -op_alloc_82, -op_st_82, -op_lit_28_1, hk, bl]
      refine op_delete (E := kE) (ev := ev) (k := s.key) Try.underlying30 hm fun w5 k5 z5 hm5 => hfin k5 hm5 ?_
      simp only [funStep, hk]
      exact tells_wipe hm.nodup htl
    · simp [-getElem?_pos, -Array.getElem?_eq_getElem, -Int.natCast_add, add_spot, and_assoc, Br_dec, -op_box, -op_alloc_82, -op_st_82, -op_lit_28_1, hk, bl]
      obtain ⟨I2, hI2⟩ : ∃ I2 : Value → World → Prop, ∀ v wz, I2 v wz ↔ ∃ (j : Nat) (D' : List (Int × Int)), v = .int .i64 j ∧ (j : Int) ≤ s.count ∧ Frm (· = w1.heap.size) wl wz ∧ HasMap wz kE.enc ev w1.heap.size D' ∧ Tells D' (msetN s.key s.value m j) := ⟨_, fun _ _ => Iff.rfl⟩
      refine Lp.intro I2 (fun v _ => s.count.toNat - natOf v) ⟨(hI2 _ _).2 ⟨0, D2, rfl, by omega, Frm.refl, hm, htl⟩, ?_⟩
      intro wz v hv
      obtain ⟨j, D', rfl, hj, kz, hmz, htz⟩ := (hI2 _ _).1 hv
      have bz := kz.get bl (by omega)
      simp [-getElem?_pos, -Array.getElem?_eq_getElem, -Int.natCast_add, add_spot, and_assoc, Br_dec, -op_box, -op_alloc_82, -op_st_82, -op_lit_28_1, bz]
      refine ⟨fun hlt => ?_, fun hge => ?_⟩
      · refine op_update (E := kE) (ev := ev) (k := kAt s.key s.value j) (v := (j : Int)) Try.underlying30 hmz fun w5 k5 z5 hm5 => ?_
        rw [wrap_i64_small (by omega) (by omega)]
        refine ⟨(hI2 _ _).2 ⟨j + 1, _, by simp, by omega, kz.trans k5 fun _ h _ => h, hm5, ?_⟩, ?_⟩
        · rw [msetN_succ]; exact tells_upd hmz.nodup htz
        · simp only [natOf]; omega
      · have : j = s.count.toNat := by omega
        subst this
        exact hfin kz hmz (by simp only [funStep, hk]; exact htz)
    · simp [-getElem?_pos, -Array.getElem?_eq_getElem, -Int.natCast_add, add_spot, and_assoc, Br_dec, -op_box, -op_alloc_82, -op_st_82, -op_lit_28_1, hk, bl]
      obtain ⟨I2, hI2⟩ : ∃ I2 : Value → World → Prop, ∀ v wz, I2 v wz ↔ ∃ (j : Nat) (D' : List (Int × Int)), v = .int .i64 j ∧ (j : Int) ≤ s.count ∧ Frm (· = w1.heap.size) wl wz ∧ HasMap wz kE.enc ev w1.heap.size D' ∧ Tells D' (mdelN s.key s.value m j) := ⟨_, fun _ _ => Iff.rfl⟩
      refine Lp.intro I2 (fun v _ => s.count.toNat - natOf v) ⟨(hI2 _ _).2 ⟨0, D2, rfl, by omega, Frm.refl, hm, htl⟩, ?_⟩
      intro wz v hv
      obtain ⟨j, D', rfl, hj, kz, hmz, htz⟩ := (hI2 _ _).1 hv
      have bz := kz.get bl (by omega)
      simp [-getElem?_pos, -Array.getElem?_eq_getElem, -Int.natCast_add, add_spot, and_assoc, Br_dec, -op_box, -op_alloc_82, -op_st_82, -op_lit_28_1, bz]
      refine ⟨fun hlt => ?_, fun hge => ?_⟩
      · refine op_delete (E := kE) (ev := ev) (k := kAt s.key s.value j) Try.underlying30 hmz fun w5 k5 z5 hm5 => ?_
        rw [wrap_i64_small (by omega) (by omega)]
        refine ⟨(hI2 _ _).2 ⟨j + 1, _, by simp, by omega, kz.trans k5 fun _ h _ => h, hm5, ?_⟩, ?_⟩
        · rw [mdelN_succ]; exact tells_wipe hmz.nodup htz
        · simp only [natOf]; omega
      · have : j = s.count.toNat := by omega
        subst this
        exact hfin kz hmz (by simp only [funStep, hk]; exact htz)
  · have e0 : (nice Try.prog).op (.extract (.tuple #[.bool true, kE.enc L[i].1, ev L[i].2]) 0) w4 = fun K Kp => K (.bool true) w4 := by
      funext K Kp; exact op_ext3_0
    try simp [-getElem?_pos, -Array.getElem?_eq_getElem, -Int.natCast_add, add_spot, and_assoc, Br_dec, -op_box, -op_alloc_82, -op_st_82, -op_lit_28_1]
    refine op_entry ht4 ?_
    try simp [-getElem?_pos, -Array.getElem?_eq_getElem, -Int.natCast_add, add_spot, and_assoc, Br_dec, -op_box, -op_alloc_82, -op_st_82, -op_lit_28_1]
    have hm4 := hm.frame k4 (by omega)
    refine op_update (E := kE) (ev := ev) (k := L[i].1) (v := L[i].2) Try.underlying30 hm4 fun w5 k5 z5 hm5 => ?_
    have hr5 := hr4.frame k5 (by omega) (by omega)
    refine ⟨(hI _).2 ⟨_, _, (kl.old k4 fun c hc => .inr (by omega)).old k5 fun c hc => .inr (by omega), by omega, hr5, hm5, hcp.next hnd hm.nodup hi, k5.get (k4.get bl (by omega)) (by omega)⟩, ?_⟩
    rw [hμ _ _ hr5, hμ _ _ hr, List.length_eraseIdx_of_lt hi]; omega

end Go.Proofs.Ytbghmbbhkoniiaa.I
end
section
/- The reference's checks: MapFits, MapHas; the conversions; what a version tells held against the reference. -/
set_option maxRecDepth 100000
set_option maxHeartbeats 2000000
set_option linter.unusedSimpArgs false
set_option linter.unusedVariables false
set_option linter.unusedSectionVars false
namespace Go.Proofs.Ytbghmbbhkoniiaa.I
open Go.Vc Go.Proofs Go.Proofs.Ytbghmbbhkoniiaa Go.Vc.Nd
variable {w w' : World} {v hv : Value} {t : Tr} {F F' G : Nat → Prop} {K : Value → World → Prop} {Kp : KP} {hash : Ky → Nat} {k : Ky} {x : Vl} {l s rb md ml sh : Nat} {r0 mu nl : Bool}

structure Fit (steps : List MStep) : Prop where
  ok : ∀ i (h : i < steps.length), steps[i].kind ≤ 3 ∧ 0 ≤ steps[i].fro ∧ steps[i].fro ≤ i ∧ 0 ≤ steps[i].count ∧ steps[i].count ≤ 2000
  cost : mcost steps ≤ 12000
theorem Fit.m {steps : List MStep} (h : Fit steps) : MFit steps := fun i hi => by
  obtain ⟨a, b, c, d, e⟩ := h.ok i hi
  exact ⟨a, b, c, d, by omega⟩
theorem mapFits_spec_ok {a0 : Option Addr} {c0 : Nat} {steps : List MStep} (h0 : Row w a0 (steps.flatMap MStep.cells)) (hn : steps.length < 2 ^ 31)
    (hK0 : ∀ w', Frm (fun _ => False) w w' → K (.bool false) w') (hK1 : Fit steps → ∀ w', Frm (fun _ => False) w w' → K (.bool true) w') : Calls Try.prog 32 #[.slice a0 steps.length c0] w (ret K Kp) := by
  refine vc32_calls ?_
  simp only [vc32]
  try simp [-getElem?_pos, -Array.getElem?_eq_getElem, -Int.natCast_add, add_spot, and_assoc, Br_dec, -op_box, -op_alloc_82, -op_st_82]
  obtain ⟨I, hI⟩ : ∃ I : Value → Value → World → Prop, ∀ n v wl, I n v wl ↔ ∃ i : Nat, n = .int .i64 (mcost (steps.take i) : Nat) ∧ v = .int .i64 i ∧ i ≤ steps.length ∧ Frm (fun _ => False) w wl ∧ mcost (steps.take i) ≤ 2001 * i ∧
      ∀ j (h : j < steps.length), j < i → steps[j].kind ≤ 3 ∧ 0 ≤ steps[j].fro ∧ steps[j].fro ≤ j ∧ 0 ≤ steps[j].count ∧ steps[j].count ≤ 2000 := ⟨_, fun _ _ _ => Iff.rfl⟩
  refine Lp.intro I (fun _ v _ => steps.length - natOf v) ⟨(hI _ _ _).2 ⟨0, rfl, rfl, by omega, Frm.refl, by simp [mcost], fun j h hj => by omega⟩, ?_⟩
  intro wl n v hl
  obtain ⟨i, rfl, rfl, hi, kl, hcost, hall⟩ := (hI _ _ _).1 hl
  simp only [op_lss, Br_dec]
  refine ⟨fun hlt' => ?_, fun hnl' => ?_⟩
  rotate_left
  · have : i = steps.length := by omega
    subst this
    rw [List.take_length] at *
    try simp [-getElem?_pos, -Array.getElem?_eq_getElem, -Int.natCast_add, add_spot, and_assoc, Br_dec, -op_box, -op_alloc_82, -op_st_82]
    by_cases hc : mcost steps ≤ 12000
    · rw [decide_eq_true (show ((mcost steps : Nat) : Int) ≤ 12000 by omega)]
      exact hK1 ⟨fun i h => hall i h h, hc⟩ wl kl
    · rw [decide_eq_false (show ¬ ((mcost steps : Nat) : Int) ≤ 12000 by omega)]
      exact hK0 wl kl
  have hi' : i < steps.length := by omega
  have htk : steps.take (i + 1) = steps.take i ++ [steps[i]] := List.take_succ_eq_append_getElem hi'
  obtain ⟨bp, o, cs, e, fz, rfl, hcs, hsz, hext⟩ := (h0.frame kl (fun _ _ h => h)).part mcells_len (by decide) hi'
  generalize hst : steps[i] = s at *
  simp [-getElem?_pos, -Array.getElem?_eq_getElem, -Int.natCast_add, add_spot, and_assoc, Br_dec, -op_box, -op_alloc_82, -op_st_82, hcs, hsz, hext]
  refine ⟨hi', ?_⟩
  refine op_alloc_ok (z := .agg #[.int .u8 0, .int .i64 0, .int .i64 0, .int .i64 0, .int .i64 0]) (by kernel_rfl) fun w5 k5 z5 b5 => ?_
  simp only [cells_agg] at b5
  refine op_storeN_ok (n := 5) (by kernel_rfl) b5 rfl (by decide) (by simp [MStep.cells]) fun w6 k6 z6 b6 => ?_
  have b6 : w6.heap[wl.heap.size]? = some (.cells #[.int .u8 s.kind, .int .i64 s.fro, .int .i64 s.key, .int .i64 s.value, .int .i64 s.count] 82 (0, 0)) := by
    rw [ow_all (by simp [MStep.cells])] at b6; simpa [MStep.cells] using b6
  have k56 : Frm (fun _ => False) w w6 := kl.no (k5.old k6 fun c hc => .inr (by omega))
  simp [-getElem?_pos, -Array.getElem?_eq_getElem, -Int.natCast_add, add_spot, and_assoc, Br_dec, -op_box, -op_alloc_82, -op_st_82, b6]
  refine ⟨fun _ => hK0 w6 k56, fun hk3 => ⟨fun _ => hK0 w6 k56, fun hf0 => ⟨fun _ => hK0 w6 k56, fun hfi => ⟨fun _ => hK0 w6 k56, fun hc0 => ⟨fun _ => hK0 w6 k56, fun hc2 => ?_⟩⟩⟩⟩⟩
  have hsc : s.cost = 1 + s.count.toNat := rfl
  have e1 : IntKind.i64.wrap (1 + s.count) = 1 + s.count := by rw [IntKind.wrap_i64]; omega
  have e2 : IntKind.i64.wrap ((mcost (steps.take i) : Int) + (1 + s.count)) = ((mcost (steps.take (i + 1)) : Nat) : Int) := by
    rw [IntKind.wrap_i64, htk, mcost_snoc]; omega
  have e3 : IntKind.i64.wrap ((i : Int) + 1) = ((i + 1 : Nat) : Int) := by rw [IntKind.wrap_i64]; omega
  rw [e1, e2, e3]
  refine ⟨(hI _ _ _).2 ⟨i + 1, rfl, rfl, by omega, k56, ?_, fun j h hj => ?_⟩, ?_⟩
  · rw [htk, mcost_snoc]; omega
  · by_cases hji : j < i
    · exact hall j h hji
    · have : j = i := by omega
      subst this
      rw [hst]
      exact ⟨by omega, by omega, by omega, by omega, by omega⟩
  · simp only [natOf, Int.toNat_natCast]; omega
theorem fits_ok {a1 : Option Addr} {c1 : Nat} {steps : List MStep} (h1 : Row w a1 (steps.flatMap MStep.cells)) (hn : steps.length < 2 ^ 31)
    (hK0 : ∀ w', Frm (fun _ => False) w w' → K (.bool false) w') (hK1 : Fit steps → steps.length ≤ 12 → sh < 32 → ∀ w', Frm (fun _ => False) w w' → K (.bool true) w') :
    Calls Try.prog 12 #[hval md ml sh, .slice a1 steps.length c1] w (ret K Kp) := by
  refine vc12_calls ?_
  simp only [vc12]
  refine op_box_ok fun w1 k1 z1 b1 => ?_
  simp only [hval, cells_agg] at b1
  try simp [-getElem?_pos, -Array.getElem?_eq_getElem, -Int.natCast_add, add_spot, and_assoc, Br_dec, -op_box, -op_alloc_82, -op_st_82]
  refine ⟨fun h12 => ?_, fun h12 => hK0 w1 k1⟩
  refine mapFits_spec_ok (h1.frame k1 fun _ _ h => h) hn (fun w2 k2 => ?_) fun hf w2 k2 => ?_
  · try simp [-getElem?_pos, -Array.getElem?_eq_getElem, -Int.natCast_add, add_spot, and_assoc, Br_dec, -op_box, -op_alloc_82, -op_st_82]
    exact hK0 w2 (k1.no k2)
  · have b2 := k2.get b1 fun h => h
    simp [-getElem?_pos, -Array.getElem?_eq_getElem, -Int.natCast_add, add_spot, and_assoc, Br_dec, -op_box, -op_alloc_82, -op_st_82, b2]
    by_cases h32 : (sh : Int) < 32
    · rw [decide_eq_true h32]; exact hK1 hf (by omega) (by omega) w2 (k1.no k2)
    · rw [decide_eq_false h32]; exact hK0 w2 (k1.no k2)

theorem one_cells (s : MStep) : ∀ u ∈ s.cells, u.oneCell' = true := fun u hu => by simp [MStep.cells] at hu; rcases hu with rfl | rfl | rfl | rfl | rfl <;> rfl
theorem mapTo_ok {a0 : Option Addr} {c0 : Nat} {steps : List MStep} (h0 : Row w a0 (steps.flatMap MStep.cells)) (hn : steps.length < 2 ^ 31)
    (hK : ∀ l w', Frm (fun _ => False) w w' → RowsOf (Flat MStep.cells) w' w.heap.size 35 5 l steps (fun _ => False) → K l w') : Calls Try.prog 15 #[.slice a0 steps.length c0] w (ret K Kp) :=
  vc15_calls (conv_ok (f := MStep.cells) (k := 5) (e := 82) (z := .agg #[.int .u8 0, .int .i64 0, .int .i64 0, .int .i64 0, .int .i64 0]) (bytes := 40) mcells_len (by decide) one_cells (by kernel_rfl) (by kernel_rfl) (by kernel_rfl) (by kernel_rfl) rfl (by kernel_rfl) (fun _ => lit_32_1) h0 (by omega) hK)
end Go.Proofs.Ytbghmbbhkoniiaa.I
end
section
/- Structs of whole numbers that are compared. -/
set_option linter.unusedSimpArgs false
set_option linter.unusedVariables false
namespace Go.Vc
variable {P : Program} {w : World} {K : Value → World → Prop} {K1 : Value → Prop} {Kp : KP} {t : TypeId}
def allInt (P : Program) (k : IntKind) : List Field → Nat → Bool
  | [], _ => true
  | f :: fs, o => f.name != "_" && f.offset == o && (match P.underlying f.type with | some (.int k') => k' == k | _ => false) && (match ldk P f.type with | some .one => true | _ => false) && allInt P k fs (o + 1)
theorem run_eqFields {k : IntKind} {d : Nat} {xs ys : List Int} : ∀ (fs : List Field) (o : Nat) (w : World), allInt P k fs o = true → xs.length = o + fs.length → ys.length = o + fs.length →
    (Op.eqFields (d + 1) (xs.map (Value.int k)).toArray (ys.map (Value.int k)).toArray fs).run P w = .ok (decide (xs.drop o = ys.drop o)) w
  | [], o, w, _, hx, hy => by
    simp only [List.length_nil, Nat.add_zero] at hx hy
    simp [Op.eqFields, List.drop_of_length_le (Nat.le_of_eq hx), List.drop_of_length_le (Nat.le_of_eq hy)]
  | f :: fs, o, w, h, hx, hy => by
    simp only [allInt, Bool.and_eq_true] at h
    obtain ⟨⟨⟨⟨h1, h2⟩, h3⟩, h4⟩, h5⟩ := h
    have h2 : f.offset = o := by simpa using h2
    have h1 : f.name ≠ "_" := by simpa using h1
    have hu : P.underlying f.type = some (.int k) := by
      split at h3
      · rename_i k' hk; rw [hk]; have : k' = k := by simpa using h3
        rw [this]
      · cases h3
    have hl : ldk P f.type = some .one := by
      split at h4
      · rename_i hk; exact hk
      · cases h4
    simp only [List.length_cons] at hx hy
    have hox : o < xs.length := by omega
    have hoy : o < ys.length := by omega
    have px : (part f.type (xs.map (Value.int k)).toArray f.offset).run P w = .ok (.int k xs[o]) w := by
      rw [h2]; exact ldk_part hl (by simp [partV, hox]) w
    have py : (part f.type (ys.map (Value.int k)).toArray f.offset).run P w = .ok (.int k ys[o]) w := by
      rw [h2]; exact ldk_part hl (by simp [partV, hoy]) w
    rw [Op.eqFields, if_pos h1]
    simp only [Sem.run_bind, px, py, Result.andThen_ok, run_equalIn_int (k' := k) (h := hu)]
    have hiff : (xs.drop o = ys.drop o) ↔ xs[o] = ys[o] ∧ xs.drop (o + 1) = ys.drop (o + 1) := by rw [List.drop_eq_getElem_cons hox, List.drop_eq_getElem_cons hoy, List.cons.injEq]
    by_cases e : xs[o] = ys[o]
    · simp only [e, beq_self_eq_true, Bool.not_true, Bool.false_eq_true, if_false]
      rw [run_eqFields fs (o + 1) w h5 (by omega) (by omega)]
      congr 1
      exact decide_eq_decide.2 ⟨fun h => hiff.2 ⟨e, h⟩, fun h => (hiff.1 h).2⟩
    · have e' : (xs[o] == ys[o]) = false := beq_eq_false_iff_ne.2 e
      have hn : ¬ xs.drop o = ys.drop o := fun h => e (hiff.1 h).1
      simp only [e', Bool.not_false, if_true, Sem.run_pure, decide_eq_false hn]
theorem agg_eq_run {k : IntKind} {xs ys : List Int} (ht : P.underlying t = some (.struct (P.fieldsOf t))) (hp : P.stoodInHeld t = false) (hf : allInt P k (P.fieldsOf t).toList 0 = true) (hx : xs.length = (P.fieldsOf t).toList.length) (hy : ys.length = (P.fieldsOf t).toList.length) (w : World) :
    (Op.equal t (.agg (xs.map (Value.int k)).toArray) (.agg (ys.map (Value.int k)).toArray)).run P w = .ok (decide (xs = ys)) w := by
  unfold Op.equal Op.maxDepth
  rw [run_equalIn_struct w 9999 t _ _ ht hp, run_eqFields (d := 9998) _ 0 w hf (by omega) (by omega)]
  simp
theorem pur_neq_agg {k : IntKind} {xs ys : List Int} (ht : P.underlying t = some (.struct (P.fieldsOf t))) (hp : P.stoodInHeld t = false) (hf : allInt P k (P.fieldsOf t).toList 0 = true) (hg : P.eqGuardType P.depth t = false)
    (hx : xs.length = (P.fieldsOf t).toList.length) (hy : ys.length = (P.fieldsOf t).toList.length) (hK : K1 (.bool (!decide (xs = ys)))) :
    (nice P).pur (.bin .neq t false false (.agg (xs.map (Value.int k)).toArray) (.agg (ys.map (Value.int k)).toArray)) K1 := by
  refine ⟨_, fun w => ?_, hK⟩
  have h2 : ∀ w, (eqGuard .neq t (opd false) (opd false) (.agg (xs.map (Value.int k)).toArray) (.agg (ys.map (Value.int k)).toArray)).run P w = .ok () w := fun w => by
    have hp : (program : Sem Program).run P w = .ok P w := rfl
    simp [eqGuard, hp, hg]
  simp only [VOp.sem, Sem.run_bind, h2, Result.andThen_ok]
  simp [binOp, agg_eq_run ht hp hf hx hy]
end Go.Vc
end
section
/- slices.Equal, for elements of one cell and of several ones. -/
set_option linter.unusedSimpArgs false
set_option linter.unusedVariables false
set_option linter.unusedSectionVars false
namespace Go.Vc
variable {P : Program} {w w' : World} {K : Value → World → Prop} {Kp : KP} {tin tel e : TypeId} {k : Nat} {α : Type} [DecidableEq α] {f : α → List Value} {xs ys : List α} {v1 v2 : Value}
theorem same_rows (hl : xs.length = ys.length) (h : ∀ (j : Nat) (hj : j < xs.length), xs[j] = ys[j]'(by omega)) : xs = ys := List.ext_getElem hl fun j h1 h2 => h j h1
def eqChain (S : Sig) (tin tel : TypeId) (a0 a1 : Value) (w : World) (K : Value → World → Prop) (Kp : KP) : Prop :=
  S.op (.blt Builtin.len [tin] 3 [a0]) w (fun v7 w =>
  S.op (.blt Builtin.len [tin] 3 [a1]) w (fun v9 w =>
  S.op (.bin BinOp.neq 3 false false v7 v9) w (fun v10 w =>
  Br v10 (
    K (Value.bool false) w) (
    S.op (.blt Builtin.len [tin] 3 [a0]) w (fun v12 w =>
    Lp fun (I4 : Value → World → Prop) (μ4 : Value → World → Nat) => I4 (Value.int IntKind.i64 0) w ∧
    ∀ (wl4 : World) (junk : Nat → Value) (s13_ : Value), I4 s13_ wl4 →
      S.op (.bin BinOp.lss 3 false false s13_ v12) wl4 (fun v14 w =>
      Br v14 (
        S.pur (.indexAddr tin a0 s13_) (fun v18 =>
        S.ld (.load tel v18) w.drew (fun v19 =>
        S.pur (.indexAddr tin a1 s13_) (fun v22 =>
        S.ld (.load tel v22) w.drew (fun v23 =>
        S.pur (.bin BinOp.neq tel false false v19 v23) (fun v24 =>
        Br v24 (
          K (Value.bool false) w.drew) (
          S.op (.bin BinOp.add 3 false true s13_ (Value.int IntKind.i64 1)) w.drew (fun v25 w =>
          I4 v25 w ∧ μ4 v25 w < μ4 s13_ wl4) Kp))))))) (
        K (Value.bool true) w)) Kp) Kp)) Kp) Kp) Kp
theorem elem_read {c : Nat} (hin : sliceOf P tin = some (e, k)) (hk : ∀ x, (f x).length = k) (hk0 : 0 < k) (hel : ldk P tel = some (.agg k) ∨ k = 1 ∧ ldk P tel = some .one) {ev : α → Value} (hev : ∀ x, ldk P tel = some (.agg k) ∧ ev x = .agg (f x).toArray ∨ ldk P tel = some .one ∧ f x = [ev x])
    (h : IsSl w v1 xs.length (xs.flatMap f)) {j : Nat} (hj : j < xs.length) {K1 : Value → Prop} (hK : K1 (ev xs[j])) :
    (nice P).pur (.indexAddr tin v1 (.int .i64 (j : Int))) (fun v18 => (nice P).ld (.load tel v18) w K1) := by
  obtain ⟨a, c, rfl, _, _, hr, _⟩ := h
  obtain ⟨b, o, cs, e', fz, rfl, hcs, hsz, hext⟩ := hr.part hk hk0 hj
  rw [pur_ix_slice hin]
  refine ⟨⟨by omega, by omega⟩, ?_⟩
  rw [add_spot rfl]
  simp only [Int.toNat_natCast]
  rcases hev xs[j] with ⟨h1, h2⟩ | ⟨h1, h2⟩
  · rw [ld_ldn h1]
    refine ⟨cs, e', fz, hcs, rfl, hsz, ?_⟩
    show K1 (.agg (cs.extract (o + j * k) (o + j * k + k)))
    rw [hext, ← h2]; exact hK
  · rw [ld_ld h1]
    refine ⟨cs, e', fz, hcs, rfl, ev xs[j], ?_, hK⟩
    have := congrArg (fun a => a[0]?) hext
    rw [h2] at this
    simp only [Array.getElem?_extract] at this
    rw [if_pos (by omega)] at this
    simpa using this
theorem eqChain_ok {ev : α → Value} (hin : sliceOf P tin = some (e, k)) (hkd : kd P tin = .slice) (hk : ∀ x, (f x).length = k) (hk0 : 0 < k) (hel : ldk P tel = some (.agg k) ∨ k = 1 ∧ ldk P tel = some .one) (hev : ∀ x, ldk P tel = some (.agg k) ∧ ev x = .agg (f x).toArray ∨ ldk P tel = some .one ∧ f x = [ev x])
    (hne : ∀ x y (K1 : Value → Prop), K1 (.bool (!decide (x = y))) → (nice P).pur (.bin .neq tel false false (ev x) (ev y)) K1)
    (h1 : IsSl w v1 xs.length (xs.flatMap f)) (h2 : IsSl w v2 ys.length (ys.flatMap f)) (hn : xs.length < 2 ^ 62) (hK : ∀ w', Frm (fun _ => False) w w' → K (.bool (decide (xs = ys))) w') : eqChain (nice P) tin tel v1 v2 w K Kp := by
  unfold eqChain
  obtain ⟨a1, c1, hv1, _⟩ := id h1
  obtain ⟨a2, c2, hv2, _⟩ := id h2
  rw [hv1, hv2, op_len_slice hkd, op_len_slice hkd, op_neq, ← hv1, ← hv2]
  simp only [Br_bool, Bool.not_eq_eq_eq_not, Bool.not_true, Bool.not_false, decide_eq_true_eq, decide_eq_false_iff_not]
  refine ⟨fun hne' => ?_, fun heq => ?_⟩
  · have := hK w Frm.refl
    rw [decide_eq_false (fun e => hne' (by rw [e]))] at this
    exact this
  have hlen : xs.length = ys.length := by omega
  rw [hv1, op_len_slice hkd, ← hv1]
  obtain ⟨I, hI⟩ : ∃ I : Value → World → Prop, ∀ v wl, I v wl ↔ ∃ i : Nat, v = .int .i64 i ∧ i ≤ xs.length ∧ Frm (fun _ => False) w wl ∧ ∀ j (hj : j < xs.length), j < i → xs[j] = ys[j]'(by omega) := ⟨_, fun _ _ => Iff.rfl⟩
  refine Lp.intro I (fun v _ => xs.length - (match v with | .int _ j => j.toNat | _ => 0)) ⟨(hI _ _).2 ⟨0, rfl, by omega, Frm.refl, fun j hj h => by omega⟩, ?_⟩
  intro wl _ v hl
  obtain ⟨i, rfl, hi, kl, hall⟩ := (hI _ _).1 hl
  simp only [op_lss, Br_dec]
  refine ⟨fun hlt => ?_, fun hge => ?_⟩
  · have hi' : i < xs.length := by omega
    have kd := kl.no (Frm.drew wl)
    refine elem_read (w := wl.drew) (c := c1) hin hk hk0 hel hev (h1.still kd) hi' ?_
    refine elem_read (w := wl.drew) (c := c2) hin hk hk0 hel hev (h2.still kd) (show i < ys.length by omega) ?_
    refine hne _ _ _ ?_
    simp only [Br_bool, Bool.not_eq_eq_eq_not, Bool.not_true, Bool.not_false, decide_eq_true_eq, decide_eq_false_iff_not]
    refine ⟨fun hd => ?_, fun hs => ?_⟩
    · have := hK _ kd
      rw [decide_eq_false (fun e => hd (by subst e; rfl))] at this
      exact this
    · rw [op_add, wrap_small64 (by omega) (by omega)]
      refine ⟨(hI _ _).2 ⟨i + 1, by simp, by omega, kd, fun j hj hji => ?_⟩, ?_⟩
      · by_cases h : j = i
        · subst h; exact hs
        · exact hall j hj (by omega)
      · have : ((i : Int) + 1).toNat = i + 1 := by omega
        simp only [Int.toNat_natCast, this]; omega
  · have := hK wl kl
    rw [decide_eq_true (same_rows hlen fun j hj => hall j hj (by omega))] at this
    exact this
end Go.Vc
end
section
/- laws.FnMapRun, mapAwake. -/
set_option maxRecDepth 100000
set_option maxHeartbeats 2000000
set_option linter.unusedSimpArgs false
set_option linter.unusedVariables false
set_option linter.unusedSectionVars false
namespace Go.Proofs.Ytbghmbbhkoniiaa.I
open Go.Vc Go.Proofs Go.Proofs.Ytbghmbbhkoniiaa Go.Vc.Nd
variable {w w' : World} {v hv : Value} {t : Tr} {F F' G : Nat → Prop} {K : Value → World → Prop} {Kp : KP} {hash : Ky → Nat} {k : Ky} {x : Vl} {l s rb md ml sh : Nat} {r0 mu nl : Bool}

def awakeSteps : List MStep := [⟨0, 0, 1, 5, 0⟩, ⟨0, 1, 2, 6, 0⟩, ⟨1, 2, 1, 0, 0⟩]
theorem awake_vers (hash : Int → Nat) : versT hash awakeSteps = [.emp, .arr [(1, 5)], .arr [(1, 5), (2, 6)], .arr [(2, 6)]] := by
  simp [versT, vers, awakeSteps, MStep.ref, trieStep, Nd.set, Nd.find, Nd.upd, delT, Nd.getIn, Nd.look, Nd.del, List.findIdx?_cons]
theorem pair_ne (x y : Ky × Vl) (K1 : Value → Prop) (h : K1 (.bool (!decide (x = y)))) : (nice Try.prog).pur (.bin .neq 46 false false (.agg (ent x).toArray) (.agg (ent y).toArray)) K1 := by
  have := pur_neq_agg (P := Try.prog) (t := 46) (k := .i64) (xs := [x.1, x.2]) (ys := [y.1, y.2]) (K1 := K1) (by kernel_rfl) (by kernel_rfl) (by kernel_rfl) (by kernel_rfl) (by kernel_rfl) (by kernel_rfl)
  refine this ?_
  have e : decide ([x.1, x.2] = [y.1, y.2]) = decide (x = y) := decide_eq_decide.2 ⟨fun h => by simp at h; exact Prod.ext h.1 h.2, fun h => by rw [h]⟩
  rw [e]; exact h
theorem eqPairs_ok {v1 v2 : Value} {L L' : List (Ky × Vl)} (h1 : IsPairs w v1 L) (h2 : IsPairs w v2 L') (hn : L.length < 2 ^ 31) (hK : ∀ w', Frm (fun _ => False) w w' → K (.bool (decide (L = L'))) w') :
    Calls Try.prog 27 #[v1, v2] w (ret K Kp) := by
  refine vc27_calls ?_
  exact eqChain_ok (f := ent) (k := 2) (e := 46) (ev := fun x => .agg (ent x).toArray) (by kernel_rfl) (by kernel_rfl) ent_len (by decide) (.inl (by kernel_rfl)) (fun x => .inl ⟨by kernel_rfl, rfl⟩) pair_ne h1 h2 (by omega) hK
theorem mapAwake_ok (hK : ∀ w', Frm (fun _ => False) w w' → K (.bool true) w') : Calls Try.prog 13 #[] w (ret K Kp) := by
  refine vc13_calls ?_
  simp only [vc13]
  try simp [-getElem?_pos, -Array.getElem?_eq_getElem, -Int.natCast_add, add_spot, and_assoc, Br_dec, -op_box, -op_alloc_41, -op_st_41, -op_lit_32_3, -op_lit_39_1]
  refine op_lit_ok lit_32_3 fun w1 k1 z1 b1 => ?_
  have hr : Row w1 (some ⟨w.heap.size, 0, none⟩) (awakeSteps.flatMap MStep.cells) := .inr ⟨_, 0, _, _, _, rfl, b1, fun j v hj => by simpa [awakeSteps, MStep.cells] using hj⟩
  have hm := @mapRun_ok
  try simp [-getElem?_pos, -Array.getElem?_eq_getElem, -Int.natCast_add, add_spot, and_assoc, Br_dec, -op_box, -op_alloc_41, -op_st_41, -op_lit_32_3, -op_lit_39_1]
  refine mapRun_ok (md := 0) (ml := 0) (sh := 0) (steps := awakeSteps) hr (fun i hi => ?_) (by decide) fun l w2 G k2 hR2 => ?_
  · match i, hi with
    | 0, _ => simp [awakeSteps]
    | 1, _ => simp [awakeSteps]
    | 2, _ => simp [awakeSteps]
  rw [awake_vers] at hR2
  have r2 := hR2.get (j := 2) (by decide)
  have r3 := hR2.get (j := 3) (by decide)
  obtain ⟨u2, g, c, cs, rfl, hcs, hu2, hg2, _, _, pv2, hp2, hP2, _⟩ := r2
  obtain ⟨u3, g', c', cs', he, hcs', hu3, hg3, _, _, pv3, hp3, hP3, _⟩ := r3
  cases he
  rw [hcs] at hcs'
  cases hcs'
  subst hp2 hp3
  have q2 : cs[4]? = some (.int .i64 2) := by have := hg2 0 (by decide); simpa [toL] using this
  have q3 : cs[6]? = some (.int .i64 1) := by have := hg3 0 (by decide); simpa [toL] using this
  have q4 : cs[7]? = some pv3 := by have := hg3 1 (by decide); simpa using this
  try simp [-getElem?_pos, -Array.getElem?_eq_getElem, -Int.natCast_add, add_spot, and_assoc, Br_dec, -op_box, -op_alloc_41, -op_st_41, -op_lit_32_3, -op_lit_39_1, hcs, q2, q3, q4]
  have k12 := k1.no k2
  refine op_lit_ok lit_39_1 fun w3 k3 z3 b3 => ?_
  have hl : IsPairs w3 (.slice (some ⟨w2.heap.size, 0, none⟩) 1 1) [(2, 6)] := ⟨_, _, rfl, Nat.le_refl _, by simp [maxLen], .inr ⟨_, 0, _, _, _, rfl, b3, fun j v hj => by simpa [ent, ek, ev] using hj⟩, fun h => nomatch h⟩
  refine eqPairs_ok (hP3.still k3) hl (by decide) fun w4 k4 => ?_
  exact hK w4 ((k12.no k3).no k4)
end Go.Proofs.Ytbghmbbhkoniiaa.I
end
section
/- From calls that answer true and write nothing that was there to the contract of a law's row; arguments in the heap. -/
namespace Go.Vc
open Go.ChangeShapes Go.WideShapes Go.ChangeAt Go.RowKit Go.WideElems
variable {H : Type} {enc : TypeId × Value → H} {P : Program} {W W' : World}

def typed (P : Program) (ts : List TypeId) : Bool := ts.all fun t => P.readableRec t && decide (t < P.types.size)

theorem below_of (h : ∀ {M}, Frm M W W') : Below W.heap.size W W' := ⟨(h (M := fun _ => False)).os, (h (M := fun _ => False)).tape, (h (M := fun _ => False)).output, (h (M := fun _ => False)).size, fun k hk => (h (M := fun _ => False)).block k hk (fun h => h)⟩

theorem trodAll_below (hl : laidOutB P = true) {sp : Nat → Bool} (hb : Below W.heap.size W W') :
    ∀ {ts : List TypeId} {vs : List Value} {ds : List (DataW H)} {ps : List MemPlace}, typed P ts = true → (∀ p ∈ ps, p.block < W.heap.size) → (∀ p ∈ ps, sp p.block = true) →
      DataW.TrodAll enc P W 0 (fun _ => true) true ts vs ds ps → DataW.TrodAll enc P W' 0 sp true ts vs ds ps
  | [], [], [], _, _, _, _, h => h
  | t :: ts, v :: vs, d :: ds, ps, ht, h1, h2, h => by
    obtain ⟨p, q, hd, hr, rfl⟩ := h
    simp only [typed, List.all_cons, Bool.and_eq_true, decide_eq_true_eq] at ht
    refine ⟨p, q, Trod_stays hl ht.1.1 ht.1.2 hd (fun x hx => hb.same (h1 x (by simp [hx]))) (fun x hx => h2 x (by simp [hx])), ?_, rfl⟩
    exact trodAll_below hl hb (by simpa [typed] using ht.2) (fun x hx => h1 x (by simp [hx])) (fun x hx => h2 x (by simp [hx])) hr
  | [], [], _ :: _, _, _, _, _, h => h.elim
  | [], _ :: _, _, _, _, _, _, h => h.elim
  | _ :: _, [], _, _, _, _, _, h => h.elim
  | _ :: _, _ :: _, [], _, _, _, _, h => h.elim

theorem trodAll_len : ∀ {ts : List TypeId} {vs : List Value} {ds : List (DataW H)} {ps : List MemPlace} {b : Nat} {sp : Nat → Bool} {hd : Bool}, DataW.TrodAll enc P W b sp hd ts vs ds ps → ds.length = ts.length
  | [], [], [], _, _, _, _, _ => rfl
  | t :: ts, v :: vs, d :: ds, ps, _, _, _, h => by
    obtain ⟨p, q, hd, hr, rfl⟩ := h
    simp [trodAll_len hr]
  | [], [], _ :: _, _, _, _, _, h => h.elim
  | [], _ :: _, _, _, _, _, _, h => h.elim
  | _ :: _, [], _, _, _, _, _, h => h.elim
  | _ :: _, _ :: _, [], _, _, _, _, h => h.elim

theorem returns_true {C : Checked} {os : Os} {f : FuncId} {fn : Func} {s : ChangeSpec} {tb : TypeId}
    (own : ownKnob C.prog.godebug = none) (started : os.Started) (noInit : C.prog.inits.idxOf? f = none) (hfn : C.prog.funcs[f]? = some fn)
    (witness : ∃ (w : World) (tape : Tape) (i : Input), w.os = os ∧ (w.forCall tape i).Shaped C.prog ∧ i.vars = [] ∧ Input.okWide C.prog (w.forCall tape i) .any w.heap.size f i ∧
      s.pre6 enc C.prog fn [] false (w.forCall tape i).memory i.args ∧ ({} : Assume).holds C.prog (lone (Frame.enter C.prog f i.args .normal) [] (w.forCall tape i)))
    (hl : laidOutB C.prog = true) (ht : typed C.prog fn.params.toList = true) (hv : s.vars = []) (hres : fn.resultTypes = #[tb]) (hb : C.prog.underlying tb = some .bool)
    (hs : ∀ ds : List (DataW H), ds.length = fn.params.toList.length → s.fn H ds = { results := [.lit (.bool true)], args := ds })
    (contract : ∀ (W : World) (base : Nat) (args : Array Value) (ds : List (DataW H)) (before : List MemPlace), W.ShapedOpen C.prog →
      (∀ (j : Nat) t v, fn.params[j]? = some t → args[j]? = some v → Value.okWide C.prog W .any base t v) →
      DataW.TrodAll enc C.prog W 0 (fun _ => true) true fn.params.toList args.toList ds before → (∀ p ∈ before, p.block < W.heap.size) →
      Calls C.prog f args W (ret (fun v W' => v = .bool true ∧ ∀ M, Frm M W W') fun _ _ => False)) :
    ReturnsInHanded {} C os f .any (s.pre6 enc C.prog fn [] false) (s.post enc C.prog fn false true false false) := by
  refine returnsInHanded_of_calls own started noInit witness ?_
  intro w tape i _ hsh _ hok hpre hholds
  obtain ⟨_, _, _, fn', hfn', _, _, _, _, hval⟩ := hok
  have e : fn' = fn := Option.some.inj (hfn'.symm.trans hfn)
  subst e
  obtain ⟨⟨ds, gs, before, hw, hc⟩, hz⟩ := hpre
  have hw' := DataW.Whole.of_heap (w' := w.forCall tape i) (by rfl) hw
  have hlt := hw'.lt
  have hw'' := hw'
  obtain ⟨p, q, hA, hV, rfl, hfz, hnd⟩ := hw'
  rw [hv] at hV
  obtain ⟨rfl, rfl⟩ := trodVars_none hV
  rw [List.append_nil] at hlt hw''
  refine (contract (w.forCall tape i) w.heap.size i.args ds p hsh hval hA hlt).mono fun e W' he => ?_
  cases e with
  | returned v =>
    obtain ⟨rfl, hf⟩ := he
    have hb' := below_of (fun {M} => hf M)
    have hlen := trodAll_len hA
    have hsd : s.fn H (ds ++ []) = { results := [.lit (.bool true)], args := ds } := by rw [List.append_nil]; exact hs ds hlen
    refine ChangeSpec.post_blind ⟨ds, [], p, [], p, [], hw'', ?_, ?_, ?_, World.keptBut_mono (fun x hx => ⟨hx, .inr (.inl hx)⟩) (hb'.frame (· ∈ p)), (fun h => nomatch h)⟩
    · rw [hsd, hres]; exact trodAll_mk1 (shut_bool hb _)
    · rw [hsd]; exact trodAll_below hl hb' ht hlt (fun x hx => by simpa using hlt x hx) hA
    · rw [hsd, hv]; rfl
  | panicked _ => exact he.elim
  | outgrown => exact he.elim

/-! ### arguments -/
theorem open_rows {t e : TypeId} {base : Nat} {v : Value} {d : DataW H} {ps : List MemPlace} (ht : P.underlying t = some (.slice e)) {c : Nat} (hc : P.cellsOf e = c) (hc0 : 0 < c)
    (hok : Value.okWide P W .any base t v) (h : DataW.Trod enc P W 0 (fun _ => true) true t v d ps) :
    ∃ (a : Option Addr) (len cap : Nat) (f : Nat → List Value), v = .slice a len cap ∧ len ≤ cap ∧ cap ≤ maxLen ∧ (a = none → len = 0) ∧ (∀ p, a = some p → p.spot = none ∧ p.block < W.heap.size) ∧
      Row W a ((List.range len).flatMap f) ∧ (∀ i, (f i).length = c) ∧ ∀ i, i < len → ∃ n x, DataW.trod enc P W 0 (fun _ => true) true n e (f i) = some x := by
  have hv : v = .slice none 0 0 ∨ ∃ p len cap, v = .slice (some p) len cap ∧ p.spot = none ∧ p.block < W.heap.size := by
    unfold Value.okWide at hok
    rw [ht] at hok
    simp only [Cell.okWide, ht] at hok
    unfold Cell.ok at hok
    rw [ht] at hok
    cases v with
    | slice a len cap =>
      cases a with
      | none =>
        match len, cap, hok with
        | 0, 0, _ => exact .inl rfl
      | some p =>
        refine .inr ⟨p, len, cap, rfl, hok.2.2.2.1, ?_⟩
        obtain ⟨row, cells, hsh, _⟩ := hok.2.2.2.2
        unfold World.shape? at hsh
        split at hsh
        · rename_i hb; exact lt_of_get hb
        · cases hsh
    | _ => exact hok.elim
  obtain ⟨fuel, hf⟩ := h
  rcases hv with rfl | ⟨p, len, cap, rfl, hs, hbl⟩
  · exact ⟨none, 0, 0, fun _ => List.replicate c undef, rfl, Nat.le_refl _, by simp [maxLen], fun _ => rfl, (fun p h => nomatch h), .inl rfl, fun i => by simp, fun i hi => by omega⟩
  · have hf' : DataW.trod enc P W 0 (fun _ => true) true fuel t [.slice (some p) len cap] = some (d, ps) := hf
    rcases Go.Deep.open_slice ht hf' with ⟨h0, _⟩ | ⟨a, len', cap', m, n, D, Pl, hcs, _, hl, hm, hmm, _, hx⟩
    · cases h0
    · simp only [List.cons.injEq, Value.slice.injEq, Option.some.injEq, and_true] at hcs
      obtain ⟨rfl, rfl, rfl⟩ := hcs
      obtain ⟨b, o, sp⟩ := p
      simp only at hs
      subst hs
      have hle : ∀ i, i < len → ∃ cs', W.cells? 0 ((⟨b, o, none⟩ : Addr).add (i * c)) c = some cs' ∧ DataW.trod enc P W 0 (fun _ => true) true n e cs' = some (D i, Pl i) := fun i hi => by
        have := hx i (by rw [hmm]; simp; omega)
        rwa [hc] at this
      have hcell : ∀ i, i < len → ∃ cs' : List Value, cs'.length = c ∧ (∀ r, r < c → W.cell? ⟨b, o + (i * c + r), none⟩ = cs'[r]?) ∧ DataW.trod enc P W 0 (fun _ => true) true n e cs' = some (D i, Pl i) := fun i hi => by
        obtain ⟨cs', h1, h2⟩ := hle i hi
        obtain ⟨_, h3, h4⟩ := World.cells?_some h1
        refine ⟨cs', h3, fun r hr => ?_, h2⟩
        rw [← h4 r hr, Go.Deep.add_add, add_spot rfl]
      have hch : ∃ f : Nat → List Value, (∀ i, (f i).length = c) ∧ ∀ i, i < len → (∀ r, r < c → W.cell? ⟨b, o + (i * c + r), none⟩ = (f i)[r]?) ∧ DataW.trod enc P W 0 (fun _ => true) true n e (f i) = some (D i, Pl i) := by
        classical
        refine ⟨fun i => if hi : i < len then Classical.choose (hcell i hi) else List.replicate c undef, fun i => ?_, fun i hi => ?_⟩
        · by_cases hi : i < len
          · simp only [dif_pos hi]; exact (Classical.choose_spec (hcell i hi)).1
          · simp only [dif_neg hi]; simp
        · simp only [dif_pos hi]; exact (Classical.choose_spec (hcell i hi)).2
      obtain ⟨f, hf1, hf2⟩ := hch
      have hrow : Row W (some ⟨b, o, none⟩) ((List.range len).flatMap f) ∧ (len ≠ 0 → b < W.heap.size) := by
        by_cases h0 : len = 0
        · subst h0; exact ⟨.inl rfl, fun h => absurd rfl h⟩
        · have hz := (hf2 0 (by omega)).1 0 hc0
          rw [List.getElem?_eq_getElem (by rw [hf1]; exact hc0)] at hz
          have hb : ∃ cs e' fz, W.heap[b]? = some (.cells cs e' fz) := by
            unfold World.cell? at hz
            split at hz
            · rename_i c' e' fz hb; exact ⟨_, _, _, hb⟩
            · cases hz
          obtain ⟨cs, e', fz, hb⟩ := hb
          refine ⟨.inr ⟨b, o, cs, e', fz, rfl, hb, fun j v hj => ?_⟩, fun _ => lt_of_get hb⟩
          have hjl : j < len * c := by
            have := (List.getElem?_eq_some_iff.1 hj).1
            rwa [flatMap_len hf1, List.length_range] at this
          have hjc : j = j / c * c + j % c := by rw [Nat.mul_comm]; exact (Nat.div_add_mod j c).symm
          have hi : j / c < len := Nat.div_lt_of_lt_mul (by rw [Nat.mul_comm]; exact hjl)
          have hr : j % c < c := Nat.mod_lt _ hc0
          have hg := flatMap_get hf1 (List.range len) (j / c) (j % c) (by simpa using hi) hr
          rw [← hjc] at hg
          rw [hg] at hj
          simp only [List.getElem_range] at hj
          have := (hf2 _ hi).1 _ hr
          rw [← hjc, hj] at this
          rw [← this]
          exact (cell_of (p := ⟨b, o + j, none⟩) hb rfl).symm
      exact ⟨some ⟨b, o, none⟩, len, cap, f, rfl, hl, hm, (fun h => nomatch h), fun p hp => by cases hp; exact ⟨rfl, hbl⟩, hrow.1, hf1, fun i hi => ⟨n, _, (hf2 i hi).2⟩⟩

theorem open_fields {t : TypeId} {fs : Array Field} {n : Nat} {cs : List Value} {x : DataW H × List MemPlace} (ht : P.underlying t = some (.struct fs)) (h : DataW.trod enc P W 0 (fun _ => true) true n t cs = some x)
    {i : Nat} {f : Field} (hf : fs[i]? = some f) (ho : f.offset = i) (hc : P.cellsOf f.type = 1) (hi : i < cs.length) :
    ∃ n y, DataW.trod enc P W 0 (fun _ => true) true n f.type [cs[i]] = some y := by
  obtain ⟨xs, k, rfl, rfl, hl, hxl, hx⟩ := DataW.trod_struct ht h
  have h1 := hx i f hf
  have hi2 : i < xs.length := by rw [hxl]; exact (Array.getElem?_eq_some_iff.1 hf).1
  rw [ho, hc, List.getElem?_eq_getElem hi2, List.drop_eq_getElem_cons hi, List.take_succ_cons, List.take_zero] at h1
  exact ⟨k, _, h1⟩
theorem field_int {t : TypeId} {k : IntKind} {n : Nat} {u : Value} {x : DataW H × List MemPlace} (ht : P.underlying t = some (.int k)) (h : DataW.trod enc P W 0 (fun _ => true) true n t [u] = some x) : ∃ m, u = .int k m ∧ k.min ≤ m ∧ m ≤ k.max := by
  obtain ⟨m, hm, _, hw⟩ := DataW.trod_int ht h
  simp only [Lit.wf, Bool.and_eq_true, decide_eq_true_eq] at hw
  exact ⟨m, by simpa using hm, hw.1, hw.2⟩
end Go.Vc
end
section
/- Further arguments in the heap: whole numbers, structs of them, rows of structs. -/
namespace Go.Vc
open Go.ChangeShapes Go.WideShapes Go.ChangeAt Go.RowKit Go.WideElems
variable {H : Type} {enc : TypeId × Value → H} {P : Program} {W W' : World}
theorem open_int {t : TypeId} {k : IntKind} {base : Nat} {v : Value} (ht : P.underlying t = some (.int k)) (hok : Value.okWide P W .any base t v) : ∃ m, v = .int k m ∧ k.min ≤ m ∧ m ≤ k.max := by
  unfold Value.okWide at hok
  rw [ht] at hok
  simp only [Cell.okWide, ht] at hok
  unfold Cell.ok at hok
  rw [ht] at hok
  cases v with
  | int k' m =>
    obtain ⟨rfl, hm⟩ := hok
    exact ⟨m, rfl, hm⟩
  | _ => exact hok.elim
theorem open_agg {t : TypeId} {fs : Array Field} {base n : Nat} {v : Value} {d : DataW H} {ps : List MemPlace} (ht : P.underlying t = some (.struct fs)) (hc : P.cellsOf t = n)
    (hok : Value.okWide P W .any base t v) (h : DataW.Trod enc P W 0 (fun _ => true) true t v d ps) :
    ∃ cs : List Value, v = .agg cs.toArray ∧ cs.length = n ∧ ∃ m x, DataW.trod enc P W 0 (fun _ => true) true m t cs = some x := by
  unfold Value.okWide at hok
  rw [ht] at hok
  obtain ⟨cs, rfl, hs, _⟩ := hok
  obtain ⟨fuel, hf⟩ := h
  exact ⟨cs.toList, by simp, by simp [hs, hc], fuel, _, hf⟩
theorem rows_of {α : Type} {f : Nat → List Value} {c : α → List Value} {len : Nat} {a : Option Addr} (d : α) (h : Row W a ((List.range len).flatMap f)) (hf : ∀ i, i < len → ∃ s, f i = c s) : ∃ xs : List α, xs.length = len ∧ Row W a (xs.flatMap c) := by
  obtain ⟨g, hg⟩ := Classical.axiomOfChoice (r := fun i (s : α) => i < len → f i = c s) fun i => by
    by_cases hi : i < len
    · obtain ⟨s, hs⟩ := hf i hi
      exact ⟨s, fun _ => hs⟩
    · exact ⟨d, fun h => absurd h hi⟩
  refine ⟨(List.range len).map g, by simp, ?_⟩
  rw [Go.Deep.flatMap_congr_range hg] at h
  rwa [List.flatMap_map]
end Go.Vc
end
section
/- What the laws' arguments are in the heap: a hasher's numbers, steps. -/
set_option maxRecDepth 100000
set_option linter.unusedSimpArgs false
set_option linter.unusedVariables false
set_option maxHeartbeats 8000000
namespace Go.Proofs.Ytbghmbbhkoniiaa.I
open Go.Vc Go.Proofs Go.Proofs.Ytbghmbbhkoniiaa Go.ChangeShapes Go.WideShapes Go.ChangeAt Go.RowKit
variable {H : Type} {enc : TypeId × Value → H} {W : World}
theorem row_own : ownKnob Try.prog.godebug = none := by kernel_rfl
theorem row_laid : laidOutB Try.prog = true := by kernel_rfl
theorem open_hash {base : Nat} {v : Value} {d : DataW H} {ps : List MemPlace} (hok : Value.okWide Try.prog W .any base 24 v) (h : DataW.Trod enc Try.prog W 0 (fun _ => true) true 24 v d ps) : ∃ md ml sh : Nat, v = hval md ml sh := by
  obtain ⟨cs, rfl, hl, n, x, hx⟩ := open_agg Try.underlying24 (n := 3) (by kernel_rfl) hok h
  match cs, hl, hx with
  | [u0, u1, u2], _, hx =>
    have hu := Try.underlying24
    obtain ⟨n0, y0, z0⟩ := open_fields hu hx (i := 0) rfl rfl (by kernel_rfl) (by simp)
    obtain ⟨n1, y1, z1⟩ := open_fields hu hx (i := 1) rfl rfl (by kernel_rfl) (by simp)
    obtain ⟨n2, y2, z2⟩ := open_fields hu hx (i := 2) rfl rfl (by kernel_rfl) (by simp)
    obtain ⟨m0, e0, b0, _⟩ := field_int Try.underlying22 z0
    obtain ⟨m1, e1, b1, _⟩ := field_int Try.underlying22 z1
    obtain ⟨m2, e2, b2, _⟩ := field_int Try.underlying5 z2
    have h0 : (m0.toNat : Int) = m0 := Int.toNat_of_nonneg b0
    have h1 : (m1.toNat : Int) = m1 := Int.toNat_of_nonneg b1
    have h2 : (m2.toNat : Int) = m2 := Int.toNat_of_nonneg b2
    refine ⟨m0.toNat, m1.toNat, m2.toNat, ?_⟩
    simp only [List.getElem_cons_zero, List.getElem_cons_succ] at e0 e1 e2
    simp only [hval, h0, h1, h2, e0, e1, e2]
theorem mstep_of {n : Nat} {cs : List Value} {x : DataW H × List MemPlace} (hl : cs.length = 5) (h : DataW.trod enc Try.prog W 0 (fun _ => true) true n 82 cs = some x) : ∃ s : MStep, cs = s.cells := by
  match cs, hl, h with
  | [u0, u1, u2, u3, u4], _, h =>
    have hu := Try.underlying82
    obtain ⟨n0, y0, z0⟩ := open_fields hu h (i := 0) rfl rfl (by kernel_rfl) (by simp)
    obtain ⟨n1, y1, z1⟩ := open_fields hu h (i := 1) rfl rfl (by kernel_rfl) (by simp)
    obtain ⟨n2, y2, z2⟩ := open_fields hu h (i := 2) rfl rfl (by kernel_rfl) (by simp)
    obtain ⟨n3, y3, z3⟩ := open_fields hu h (i := 3) rfl rfl (by kernel_rfl) (by simp)
    obtain ⟨n4, y4, z4⟩ := open_fields hu h (i := 4) rfl rfl (by kernel_rfl) (by simp)
    obtain ⟨m0, e0, b0, _⟩ := field_int Try.underlying5 z0
    obtain ⟨m1, e1, _⟩ := field_int Try.underlying3 z1
    obtain ⟨m2, e2, _⟩ := field_int Try.underlying2 z2
    obtain ⟨m3, e3, _⟩ := field_int Try.underlying2 z3
    obtain ⟨m4, e4, _⟩ := field_int Try.underlying3 z4
    have h0 : (m0.toNat : Int) = m0 := Int.toNat_of_nonneg b0
    refine ⟨⟨m0.toNat, m1, m2, m3, m4⟩, ?_⟩
    simp only [List.getElem_cons_zero, List.getElem_cons_succ] at e0 e1 e2 e3 e4
    simp only [MStep.cells, h0, e0, e1, e2, e3, e4]
theorem open_msteps {base : Nat} {v : Value} {d : DataW H} {ps : List MemPlace} (hok : Value.okWide Try.prog W .any base 25 v) (h : DataW.Trod enc Try.prog W 0 (fun _ => true) true 25 v d ps) :
    ∃ (a : Option Addr) (cap : Nat) (steps : List MStep), v = .slice a steps.length cap ∧ steps.length ≤ cap ∧ cap ≤ maxLen ∧ (a = none → steps.length = 0) ∧ Row W a (steps.flatMap MStep.cells) := by
  obtain ⟨a, len, cap, f, rfl, h1, h2, h3, h4, h6, h7, h8⟩ := open_rows Try.underlying25 (c := 5) (by kernel_rfl) (by decide) hok h
  obtain ⟨xs, rfl, hr⟩ := rows_of (c := MStep.cells) ⟨0, 0, 0, 0, 0⟩ h6 fun i hi => by
    obtain ⟨n, x, hx⟩ := h8 i hi
    exact mstep_of (h7 i) hx
  exact ⟨a, cap, xs, rfl, h1, h2, h3, hr⟩
theorem open_ints {base : Nat} {v : Value} {d : DataW H} {ps : List MemPlace} (hok : Value.okWide Try.prog W .any base 65 v) (h : DataW.Trod enc Try.prog W 0 (fun _ => true) true 65 v d ps) :
    ∃ (a : Option Addr) (cap : Nat) (xs : List Int), v = .slice a xs.length cap ∧ xs.length ≤ cap ∧ cap ≤ maxLen ∧ (a = none → xs.length = 0) ∧ Row W a (xs.flatMap fun x => [.int .i64 x]) := by
  obtain ⟨a, len, cap, f, rfl, h1, h2, h3, h4, h6, h7, h8⟩ := open_rows Try.underlying65 (c := 1) (by kernel_rfl) (by decide) hok h
  obtain ⟨xs, rfl, hr⟩ := rows_of (c := fun x : Int => [Value.int .i64 x]) 0 h6 fun i hi => by
    obtain ⟨n, x, hx⟩ := h8 i hi
    match hfi : f i, h7 i, hx with
    | [u0], _, hx =>
      obtain ⟨m0, e0, _⟩ := field_int Try.underlying2 hx
      exact ⟨m0, by rw [e0]⟩
  exact ⟨a, cap, xs, rfl, h1, h2, h3, hr⟩
end Go.Proofs.Ytbghmbbhkoniiaa.I
end
section
/- A seat's own rewriting rules of single operations, printed by program out of its types and functions. -/
set_option maxRecDepth 100000
set_option linter.unusedSimpArgs false
namespace Go.Proofs.Ytbghmbbhkoniiaa
open Go.Vc Go.Proofs
variable {w : World} {K : Value → World → Prop} {Kp : KP} {K1 : Value → Prop}
@[simp] theorem call_28 {args : List Value} : (nice Try.prog).call (.fn 28) args w K Kp = Calls Try.prog 28 args.toArray w (ret K Kp) := call_fn (by kernel_rfl)
@[simp] theorem call_29 {args : List Value} : (nice Try.prog).call (.fn 29) args w K Kp = Calls Try.prog 29 args.toArray w (ret K Kp) := call_fn (by kernel_rfl)
@[simp] theorem call_54 {args : List Value} : (nice Try.prog).call (.fn 54) args w K Kp = Calls Try.prog 54 args.toArray w (ret K Kp) := call_fn (by kernel_rfl)
@[simp] theorem op_len_114 {a : Option Addr} {n c ty : Nat} : (nice Try.prog).op (.blt .len [114] ty [.slice a n c]) w K Kp = K (.int .i64 n) w := op_len_slice (by kernel_rfl)
@[simp] theorem pur_len_114 {a : Option Addr} {n c ty : Nat} : (nice Try.prog).pur (.blt .len [114] ty [.slice a n c]) K1 = K1 (.int .i64 n) := pur_len_slice (by kernel_rfl)
@[simp] theorem ld_len_114 {a : Option Addr} {n c ty : Nat} : (nice Try.prog).ld (.blt .len [114] ty [.slice a n c]) w K1 = K1 (.int .i64 n) := ld_len_slice (by kernel_rfl)
@[simp] theorem same_len_114 {a : Option Addr} {n c ty : Nat} {u : Value} : (nice Try.prog).same (.blt .len [114] ty [.slice a n c]) u w = (.int .i64 n = u) := same_len_slice (by kernel_rfl)
@[simp] theorem op_ix_114 {p : Addr} {len cap : Nat} {k : IntKind} {j : Int} : (nice Try.prog).op (.indexAddr 114 (.slice (some p) len cap) (.int k j)) w K Kp = ((0 ≤ j ∧ j < (len : Int)) ∧ K (.pointer (some (p.add (j.toNat * 1)))) w) := op_ix_slice (e := 118) (by kernel_rfl)
@[simp] theorem pur_ix_114 {p : Addr} {len cap : Nat} {k : IntKind} {j : Int} : (nice Try.prog).pur (.indexAddr 114 (.slice (some p) len cap) (.int k j)) K1 = ((0 ≤ j ∧ j < (len : Int)) ∧ K1 (.pointer (some (p.add (j.toNat * 1))))) := pur_ix_slice (e := 118) (by kernel_rfl)
@[simp] theorem op_ld_118 {p : Addr} : (nice Try.prog).op (.load 118 (.pointer (some p))) w K Kp = ∃ cs e fz, w.heap[p.block]? = some (.cells cs e fz) ∧ p.spot = none ∧ p.off + 1 ≤ cs.size ∧ K (.agg (cs.extract p.off (p.off + 1))) w := op_ldn (by kernel_rfl)
@[simp] theorem ld_ld_118 {p : Addr} : (nice Try.prog).ld (.load 118 (.pointer (some p))) w K1 = ∃ cs e fz, w.heap[p.block]? = some (.cells cs e fz) ∧ p.spot = none ∧ p.off + 1 ≤ cs.size ∧ K1 (.agg (cs.extract p.off (p.off + 1))) := ld_ldn (by kernel_rfl)
@[simp] theorem same_ld_118 {p : Addr} {v : Value} : (nice Try.prog).same (.load 118 (.pointer (some p))) v w = ∃ cs e fz, w.heap[p.block]? = some (.cells cs e fz) ∧ p.spot = none ∧ p.off + 1 ≤ cs.size ∧ .agg (cs.extract p.off (p.off + 1)) = v := same_ldn (by kernel_rfl)
@[simp] theorem op_st_118 {p : Addr} {vs : Array Value} : (nice Try.prog).op (.store 118 (.pointer (some p)) (.agg vs)) w K Kp = (vs.size = 1 ∧ (∀ u ∈ vs.toList, u.oneCell' = true) ∧ ∃ cs e, w.heap[p.block]? = some (.cells cs e (0, 0)) ∧ p.spot = none ∧ p.off + 1 ≤ cs.size ∧ K undef (w.upd p.block (.cells (ow cs p.off vs.toList) e (0, 0)))) := op_stn (by kernel_rfl)
@[simp] theorem call_55 {args : List Value} : (nice Try.prog).call (.fn 55) args w K Kp = Calls Try.prog 55 args.toArray w (ret K Kp) := call_fn (by kernel_rfl)
@[simp] theorem call_77 {args : List Value} : (nice Try.prog).call (.fn 77) args w K Kp = Calls Try.prog 77 args.toArray w (ret K Kp) := call_fn (by kernel_rfl)
theorem lit_114_1 {y0_0 : Value} : sliceLit Try.prog 114 1 [(0, .agg #[y0_0])] = some (118, #[y0_0]) := by
  have e : sliceLit Try.prog 114 1 [(0, .agg #[y0_0])] = (Instr.fill (fun i => some (i * 1, 1)) (#[Value.pointer none]) [(0, .agg #[y0_0])]).map fun cs => (118, cs) := by kernel_rfl
  rw [e]; simp [Instr.fill, Value.cells]
@[simp] theorem op_lit_114_1 {y0_0 : Value} : (nice Try.prog).op (.buildSlice 114 1 [(0, .agg #[y0_0])]) w K Kp = K (.slice (some ⟨w.heap.size, 0, none⟩) 1 1) (w.alloc (.cells #[y0_0] 118)) := op_lit (lit_114_1)
@[simp] theorem op_alloc_118 : (nice Try.prog).op (.alloc 118) w K Kp = K (.pointer (some ⟨w.heap.size, 0, none⟩)) (w.alloc (.cells #[Value.pointer none] 118)) := op_alloc (z := (.agg #[(Value.pointer none)])) (by kernel_rfl)
@[simp] theorem call_78 {args : List Value} : (nice Try.prog).call (.fn 78) args w K Kp = Calls Try.prog 78 args.toArray w (ret K Kp) := call_fn (by kernel_rfl)
@[simp] theorem call_79 {args : List Value} : (nice Try.prog).call (.fn 79) args w K Kp = Calls Try.prog 79 args.toArray w (ret K Kp) := call_fn (by kernel_rfl)
@[simp] theorem call_89 {args : List Value} : (nice Try.prog).call (.fn 89) args w K Kp = Calls Try.prog 89 args.toArray w (ret K Kp) := call_fn (by kernel_rfl)
theorem build_190_  : buildV Try.prog 190 [] = some (.agg (#[])) := by
  have e : buildV Try.prog 190 [] = (Instr.fill ((#[] : Array (Nat × Nat))[·]?) (#[]) []).map .agg := by kernel_rfl
  rw [e]; simp [Instr.fill]
@[simp] theorem op_build_190_  : (nice Try.prog).op (.build 190 []) w K Kp = K (.agg (#[])) w := op_build (build_190_)
@[simp] theorem pur_build_190_  : (nice Try.prog).pur (.build 190 []) K1 = K1 (.agg (#[])) := pur_build (build_190_)
@[simp] theorem call_90 {args : List Value} : (nice Try.prog).call (.fn 90) args w K Kp = Calls Try.prog 90 args.toArray w (ret K Kp) := call_fn (by kernel_rfl)
theorem build_118_0 {x0 : Value} (h0 : x0.oneCell' = true) : buildV Try.prog 118 [(0, x0)] = some (.agg (#[x0])) := by
  have e : buildV Try.prog 118 [(0, x0)] = (Instr.fill ((#[(0, 1)] : Array (Nat × Nat))[·]?) (#[Value.pointer none]) [(0, x0)]).map .agg := by kernel_rfl
  rw [e]; simp [Instr.fill, cells_of_one h0]
@[simp] theorem op_build_118_0 {x0 : Value} (h0 : x0.oneCell' = true) : (nice Try.prog).op (.build 118 [(0, x0)]) w K Kp = K (.agg (#[x0])) w := op_build (build_118_0 h0)
@[simp] theorem pur_build_118_0 {x0 : Value} (h0 : x0.oneCell' = true) : (nice Try.prog).pur (.build 118 [(0, x0)]) K1 = K1 (.agg (#[x0])) := pur_build (build_118_0 h0)
@[simp] theorem op_fa_118_0 {p : Addr} : (nice Try.prog).op (.fieldAddr 118 (.pointer (some p)) 0) w K Kp = K (.pointer (some (p.add 0))) w := op_fa (k := .one) (by kernel_rfl)
@[simp] theorem pur_fa_118_0 {p : Addr} : (nice Try.prog).pur (.fieldAddr 118 (.pointer (some p)) 0) K1 = K1 (.pointer (some (p.add 0))) := pur_fa (k := .one) (by kernel_rfl)
@[simp] theorem op_ld_116 {p : Addr} : (nice Try.prog).op (.load 116 (.pointer (some p))) w K Kp = ∃ cs e fz, w.heap[p.block]? = some (.cells cs e fz) ∧ p.spot = none ∧ ∃ v, cs[p.off]? = some v ∧ K v w := op_ld (by kernel_rfl)
@[simp] theorem ld_ld_116 {p : Addr} : (nice Try.prog).ld (.load 116 (.pointer (some p))) w K1 = ∃ cs e fz, w.heap[p.block]? = some (.cells cs e fz) ∧ p.spot = none ∧ ∃ v, cs[p.off]? = some v ∧ K1 v := ld_ld (by kernel_rfl)
@[simp] theorem same_ld_116 {p : Addr} {v : Value} : (nice Try.prog).same (.load 116 (.pointer (some p))) v w = ∃ cs e fz, w.heap[p.block]? = some (.cells cs e fz) ∧ p.spot = none ∧ cs[p.off]? = some v := same_ld (by kernel_rfl)
@[simp] theorem call_91 {args : List Value} : (nice Try.prog).call (.fn 91) args w K Kp = Calls Try.prog 91 args.toArray w (ret K Kp) := call_fn (by kernel_rfl)
@[simp] theorem call_92 {args : List Value} : (nice Try.prog).call (.fn 92) args w K Kp = Calls Try.prog 92 args.toArray w (ret K Kp) := call_fn (by kernel_rfl)
@[simp] theorem op_alloc_190 : (nice Try.prog).op (.alloc 190) w K Kp = K (.pointer (some ⟨w.heap.size, 0, none⟩)) (w.alloc (.cells #[] 190)) := op_alloc (z := (.agg #[])) (by kernel_rfl)
@[simp] theorem op_fa_228_1 {p : Addr} : (nice Try.prog).op (.fieldAddr 228 (.pointer (some p)) 1) w K Kp = K (.pointer (some (p.add 1))) w := op_fa (k := .one) (by kernel_rfl)
@[simp] theorem pur_fa_228_1 {p : Addr} : (nice Try.prog).pur (.fieldAddr 228 (.pointer (some p)) 1) K1 = K1 (.pointer (some (p.add 1))) := pur_fa (k := .one) (by kernel_rfl)
@[simp] theorem op_ld_226 {p : Addr} : (nice Try.prog).op (.load 226 (.pointer (some p))) w K Kp = ∃ cs e fz, w.heap[p.block]? = some (.cells cs e fz) ∧ p.spot = none ∧ ∃ v, cs[p.off]? = some v ∧ K v w := op_ld (by kernel_rfl)
@[simp] theorem ld_ld_226 {p : Addr} : (nice Try.prog).ld (.load 226 (.pointer (some p))) w K1 = ∃ cs e fz, w.heap[p.block]? = some (.cells cs e fz) ∧ p.spot = none ∧ ∃ v, cs[p.off]? = some v ∧ K1 v := ld_ld (by kernel_rfl)
@[simp] theorem same_ld_226 {p : Addr} {v : Value} : (nice Try.prog).same (.load 226 (.pointer (some p))) v w = ∃ cs e fz, w.heap[p.block]? = some (.cells cs e fz) ∧ p.spot = none ∧ cs[p.off]? = some v := same_ld (by kernel_rfl)
@[simp] theorem op_st_226 {p : Addr} {v : Value} : (nice Try.prog).op (.store 226 (.pointer (some p)) v) w K Kp = ∃ cs e, w.heap[p.block]? = some (.cells cs e (0, 0)) ∧ p.spot = none ∧ p.off < cs.size ∧ v.oneCell' = true ∧ K undef (w.upd p.block (.cells (cs.setIfInBounds p.off v) e (0, 0))) := op_st (by kernel_rfl)
@[simp] theorem op_eql_226_y {xc yc : Bool} {u : TypeId} {v : Value} : (nice Try.prog).op (.bin BinOp.eql 226 xc yc (.iface u v) .nilIface) w K Kp = K (.bool false) w := op_eq_iface (by kernel_rfl) rfl
@[simp] theorem op_eql_226_n {xc : Bool} : (nice Try.prog).op (.bin BinOp.eql 226 xc true .nilIface .nilIface) w K Kp = K (.bool true) w := op_eq_niface (by kernel_rfl) rfl
@[simp] theorem pur_eql_226_y {xc yc : Bool} {u : TypeId} {v : Value} : (nice Try.prog).pur (.bin BinOp.eql 226 xc yc (.iface u v) .nilIface) K1 = K1 (.bool false) := pur_eq_iface (by kernel_rfl) rfl
@[simp] theorem pur_eql_226_n {xc : Bool} : (nice Try.prog).pur (.bin BinOp.eql 226 xc true .nilIface .nilIface) K1 = K1 (.bool true) := pur_eq_niface (by kernel_rfl) rfl
@[simp] theorem op_ld_190 {p : Addr} : (nice Try.prog).op (.load 190 (.pointer (some p))) w K Kp = K (.agg #[]) w := op_ld0 (by kernel_rfl)
@[simp] theorem ld_ld_190 {p : Addr} : (nice Try.prog).ld (.load 190 (.pointer (some p))) w K1 = K1 (.agg #[]) := ld_ld0 (by kernel_rfl)
@[simp] theorem same_ld_190 {p : Addr} {v : Value} : (nice Try.prog).same (.load 190 (.pointer (some p))) v w = (.agg #[] = v) := same_ld0 (by kernel_rfl)
@[simp] theorem op_st_190 {p : Addr} : (nice Try.prog).op (.store 190 (.pointer (some p)) (.agg #[])) w K Kp = K undef w := op_st0 (by kernel_rfl)
@[simp] theorem op_fa_228_2 {p : Addr} : (nice Try.prog).op (.fieldAddr 228 (.pointer (some p)) 2) w K Kp = K (.pointer (some (p.add 2))) w := op_fa (k := .one) (by kernel_rfl)
@[simp] theorem pur_fa_228_2 {p : Addr} : (nice Try.prog).pur (.fieldAddr 228 (.pointer (some p)) 2) K1 = K1 (.pointer (some (p.add 2))) := pur_fa (k := .one) (by kernel_rfl)
@[simp] theorem call_80 {args : List Value} : (nice Try.prog).call (.fn 80) args w K Kp = Calls Try.prog 80 args.toArray w (ret K Kp) := call_fn (by kernel_rfl)
theorem build_228_2 {x2 : Value} (h2 : x2.oneCell' = true) : buildV Try.prog 228 [(2, x2)] = some (.agg (#[Value.int IntKind.i64 0, Value.nilIface, x2])) := by
  have e : buildV Try.prog 228 [(2, x2)] = (Instr.fill ((#[(0, 1), (1, 1), (2, 1)] : Array (Nat × Nat))[·]?) (#[Value.int IntKind.i64 0, Value.nilIface, Value.nilIface]) [(2, x2)]).map .agg := by kernel_rfl
  rw [e]; simp [Instr.fill, cells_of_one h2]
@[simp] theorem op_build_228_2 {x2 : Value} (h2 : x2.oneCell' = true) : (nice Try.prog).op (.build 228 [(2, x2)]) w K Kp = K (.agg (#[Value.int IntKind.i64 0, Value.nilIface, x2])) w := op_build (build_228_2 h2)
@[simp] theorem pur_build_228_2 {x2 : Value} (h2 : x2.oneCell' = true) : (nice Try.prog).pur (.build 228 [(2, x2)]) K1 = K1 (.agg (#[Value.int IntKind.i64 0, Value.nilIface, x2])) := pur_build (build_228_2 h2)
@[simp] theorem call_93 {args : List Value} : (nice Try.prog).call (.fn 93) args w K Kp = Calls Try.prog 93 args.toArray w (ret K Kp) := call_fn (by kernel_rfl)
@[simp] theorem op_fa_228_0 {p : Addr} : (nice Try.prog).op (.fieldAddr 228 (.pointer (some p)) 0) w K Kp = K (.pointer (some (p.add 0))) w := op_fa (k := .one) (by kernel_rfl)
@[simp] theorem pur_fa_228_0 {p : Addr} : (nice Try.prog).pur (.fieldAddr 228 (.pointer (some p)) 0) K1 = K1 (.pointer (some (p.add 0))) := pur_fa (k := .one) (by kernel_rfl)
theorem build_242_0_1 {x0 : Value} (h0 : x0.oneCell' = true) : buildV Try.prog 242 [(0, x0), (1, .agg #[])] = some (.agg (#[x0])) := by
  have e : buildV Try.prog 242 [(0, x0), (1, .agg #[])] = (Instr.fill ((#[(0, 1), (1, 0)] : Array (Nat × Nat))[·]?) (#[Value.int IntKind.i64 0]) [(0, x0), (1, .agg #[])]).map .agg := by kernel_rfl
  rw [e]; simp [Instr.fill, cells_of_one h0, show (Value.agg #[]).cells = #[] from rfl]; rfl
@[simp] theorem op_build_242_0_1 {x0 : Value} (h0 : x0.oneCell' = true) : (nice Try.prog).op (.build 242 [(0, x0), (1, .agg #[])]) w K Kp = K (.agg (#[x0])) w := op_build (build_242_0_1 h0)
@[simp] theorem pur_build_242_0_1 {x0 : Value} (h0 : x0.oneCell' = true) : (nice Try.prog).pur (.build 242 [(0, x0), (1, .agg #[])]) K1 = K1 (.agg (#[x0])) := pur_build (build_242_0_1 h0)
theorem lit_243_1 {y0_0 : Value} : sliceLit Try.prog 243 1 [(0, .agg #[y0_0])] = some (242, #[y0_0]) := by
  have e : sliceLit Try.prog 243 1 [(0, .agg #[y0_0])] = (Instr.fill (fun i => some (i * 1, 1)) (#[Value.int IntKind.i64 0]) [(0, .agg #[y0_0])]).map fun cs => (242, cs) := by kernel_rfl
  rw [e]; simp [Instr.fill, Value.cells]
@[simp] theorem op_lit_243_1 {y0_0 : Value} : (nice Try.prog).op (.buildSlice 243 1 [(0, .agg #[y0_0])]) w K Kp = K (.slice (some ⟨w.heap.size, 0, none⟩) 1 1) (w.alloc (.cells #[y0_0] 242)) := op_lit (lit_243_1)
theorem build_245_0 {x0 : Value} (h0 : x0.oneCell' = true) : buildV Try.prog 245 [(0, x0)] = some (.agg (#[x0])) := by
  have e : buildV Try.prog 245 [(0, x0)] = (Instr.fill ((#[(0, 1)] : Array (Nat × Nat))[·]?) (#[Value.slice none 0 0]) [(0, x0)]).map .agg := by kernel_rfl
  rw [e]; simp [Instr.fill, cells_of_one h0]
@[simp] theorem op_build_245_0 {x0 : Value} (h0 : x0.oneCell' = true) : (nice Try.prog).op (.build 245 [(0, x0)]) w K Kp = K (.agg (#[x0])) w := op_build (build_245_0 h0)
@[simp] theorem pur_build_245_0 {x0 : Value} (h0 : x0.oneCell' = true) : (nice Try.prog).pur (.build 245 [(0, x0)]) K1 = K1 (.agg (#[x0])) := pur_build (build_245_0 h0)
@[simp] theorem op_mki_240 {v : Value} : (nice Try.prog).op (.mkIface 240 v) w K Kp = K (.iface 240 v) w := op_mkIface (by kernel_rfl) (by kernel_rfl)
@[simp] theorem pur_mki_240 {v : Value} : (nice Try.prog).pur (.mkIface 240 v) K1 = K1 (.iface 240 v) := pur_mkIface (by kernel_rfl) (by kernel_rfl)
@[simp] theorem call_94 {args : List Value} : (nice Try.prog).call (.fn 94) args w K Kp = Calls Try.prog 94 args.toArray w (ret K Kp) := call_fn (by kernel_rfl)
@[simp] theorem op_ld_228 {p : Addr} : (nice Try.prog).op (.load 228 (.pointer (some p))) w K Kp = ∃ cs e fz, w.heap[p.block]? = some (.cells cs e fz) ∧ p.spot = none ∧ p.off + 3 ≤ cs.size ∧ K (.agg (cs.extract p.off (p.off + 3))) w := op_ldn (by kernel_rfl)
@[simp] theorem ld_ld_228 {p : Addr} : (nice Try.prog).ld (.load 228 (.pointer (some p))) w K1 = ∃ cs e fz, w.heap[p.block]? = some (.cells cs e fz) ∧ p.spot = none ∧ p.off + 3 ≤ cs.size ∧ K1 (.agg (cs.extract p.off (p.off + 3))) := ld_ldn (by kernel_rfl)
@[simp] theorem same_ld_228 {p : Addr} {v : Value} : (nice Try.prog).same (.load 228 (.pointer (some p))) v w = ∃ cs e fz, w.heap[p.block]? = some (.cells cs e fz) ∧ p.spot = none ∧ p.off + 3 ≤ cs.size ∧ .agg (cs.extract p.off (p.off + 3)) = v := same_ldn (by kernel_rfl)
@[simp] theorem op_st_228 {p : Addr} {vs : Array Value} : (nice Try.prog).op (.store 228 (.pointer (some p)) (.agg vs)) w K Kp = (vs.size = 3 ∧ (∀ u ∈ vs.toList, u.oneCell' = true) ∧ ∃ cs e, w.heap[p.block]? = some (.cells cs e (0, 0)) ∧ p.spot = none ∧ p.off + 3 ≤ cs.size ∧ K undef (w.upd p.block (.cells (ow cs p.off vs.toList) e (0, 0)))) := op_stn (by kernel_rfl)
@[simp] theorem op_alloc_228 : (nice Try.prog).op (.alloc 228) w K Kp = K (.pointer (some ⟨w.heap.size, 0, none⟩)) (w.alloc (.cells #[Value.int IntKind.i64 0, Value.nilIface, Value.nilIface] 228)) := op_alloc (z := (.agg #[(Value.int IntKind.i64 0), (Value.nilIface), (Value.nilIface)])) (by kernel_rfl)
@[simp] theorem call_169 {args : List Value} : (nice Try.prog).call (.fn 169) args w K Kp = Calls Try.prog 169 args.toArray w (ret K Kp) := call_fn (by kernel_rfl)
@[simp] theorem op_fa_245_0 {p : Addr} : (nice Try.prog).op (.fieldAddr 245 (.pointer (some p)) 0) w K Kp = K (.pointer (some (p.add 0))) w := op_fa (k := .one) (by kernel_rfl)
@[simp] theorem pur_fa_245_0 {p : Addr} : (nice Try.prog).pur (.fieldAddr 245 (.pointer (some p)) 0) K1 = K1 (.pointer (some (p.add 0))) := pur_fa (k := .one) (by kernel_rfl)
@[simp] theorem op_ld_243 {p : Addr} : (nice Try.prog).op (.load 243 (.pointer (some p))) w K Kp = ∃ cs e fz, w.heap[p.block]? = some (.cells cs e fz) ∧ p.spot = none ∧ ∃ v, cs[p.off]? = some v ∧ K v w := op_ld (by kernel_rfl)
@[simp] theorem ld_ld_243 {p : Addr} : (nice Try.prog).ld (.load 243 (.pointer (some p))) w K1 = ∃ cs e fz, w.heap[p.block]? = some (.cells cs e fz) ∧ p.spot = none ∧ ∃ v, cs[p.off]? = some v ∧ K1 v := ld_ld (by kernel_rfl)
@[simp] theorem same_ld_243 {p : Addr} {v : Value} : (nice Try.prog).same (.load 243 (.pointer (some p))) v w = ∃ cs e fz, w.heap[p.block]? = some (.cells cs e fz) ∧ p.spot = none ∧ cs[p.off]? = some v := same_ld (by kernel_rfl)
@[simp] theorem op_st_243 {p : Addr} {v : Value} : (nice Try.prog).op (.store 243 (.pointer (some p)) v) w K Kp = ∃ cs e, w.heap[p.block]? = some (.cells cs e (0, 0)) ∧ p.spot = none ∧ p.off < cs.size ∧ v.oneCell' = true ∧ K undef (w.upd p.block (.cells (cs.setIfInBounds p.off v) e (0, 0))) := op_st (by kernel_rfl)
@[simp] theorem op_len_243 {a : Option Addr} {n c ty : Nat} : (nice Try.prog).op (.blt .len [243] ty [.slice a n c]) w K Kp = K (.int .i64 n) w := op_len_slice (by kernel_rfl)
@[simp] theorem pur_len_243 {a : Option Addr} {n c ty : Nat} : (nice Try.prog).pur (.blt .len [243] ty [.slice a n c]) K1 = K1 (.int .i64 n) := pur_len_slice (by kernel_rfl)
@[simp] theorem ld_len_243 {a : Option Addr} {n c ty : Nat} : (nice Try.prog).ld (.blt .len [243] ty [.slice a n c]) w K1 = K1 (.int .i64 n) := ld_len_slice (by kernel_rfl)
@[simp] theorem same_len_243 {a : Option Addr} {n c ty : Nat} {u : Value} : (nice Try.prog).same (.blt .len [243] ty [.slice a n c]) u w = (.int .i64 n = u) := same_len_slice (by kernel_rfl)
@[simp] theorem op_cutlo_243 {len cap b o : Nat} {k : IntKind} {x : Int} : (nice Try.prog).op (.slice 243 (.slice (some ⟨b, o, none⟩) len cap) (some (.int k x)) none none) w K Kp = ((0 ≤ x ∧ x ≤ (len : Int) ∧ (len : Int) ≤ (cap : Int)) ∧ K (.slice (some (if cap = x.toNat then ⟨b, o, none⟩ else ⟨b, o + x.toNat * 1, none⟩)) (len - x.toNat) (cap - x.toNat)) w) := op_cut_lo (e := 242) (by kernel_rfl)
@[simp] theorem op_cuthi_243 {len cap b o : Nat} {k : IntKind} {x : Int} : (nice Try.prog).op (.slice 243 (.slice (some ⟨b, o, none⟩) len cap) none (some (.int k x)) none) w K Kp = ((0 ≤ x ∧ x ≤ (cap : Int)) ∧ K (.slice (some ⟨b, o, none⟩) x.toNat cap) w) := op_cut_hi (s := 1) (e := 242) (by kernel_rfl)
@[simp] theorem pur_cutlo_243 {len cap b o : Nat} {k : IntKind} {x : Int} : (nice Try.prog).pur (.slice 243 (.slice (some ⟨b, o, none⟩) len cap) (some (.int k x)) none none) K1 = ((0 ≤ x ∧ x ≤ (len : Int) ∧ (len : Int) ≤ (cap : Int)) ∧ K1 (.slice (some (if cap = x.toNat then ⟨b, o, none⟩ else ⟨b, o + x.toNat * 1, none⟩)) (len - x.toNat) (cap - x.toNat))) := pur_cut_lo (e := 242) (by kernel_rfl)
@[simp] theorem pur_cuthi_243 {len cap b o : Nat} {k : IntKind} {x : Int} : (nice Try.prog).pur (.slice 243 (.slice (some ⟨b, o, none⟩) len cap) none (some (.int k x)) none) K1 = ((0 ≤ x ∧ x ≤ (cap : Int)) ∧ K1 (.slice (some ⟨b, o, none⟩) x.toNat cap)) := pur_cut_hi (s := 1) (e := 242) (by kernel_rfl)
theorem build_242_  : buildV Try.prog 242 [] = some (.agg (#[Value.int IntKind.i64 0])) := by
  have e : buildV Try.prog 242 [] = (Instr.fill ((#[(0, 1), (1, 0)] : Array (Nat × Nat))[·]?) (#[Value.int IntKind.i64 0]) []).map .agg := by kernel_rfl
  rw [e]; simp [Instr.fill]
@[simp] theorem op_build_242_  : (nice Try.prog).op (.build 242 []) w K Kp = K (.agg (#[Value.int IntKind.i64 0])) w := op_build (build_242_)
@[simp] theorem pur_build_242_  : (nice Try.prog).pur (.build 242 []) K1 = K1 (.agg (#[Value.int IntKind.i64 0])) := pur_build (build_242_)
@[simp] theorem op_ix_243 {p : Addr} {len cap : Nat} {k : IntKind} {j : Int} : (nice Try.prog).op (.indexAddr 243 (.slice (some p) len cap) (.int k j)) w K Kp = ((0 ≤ j ∧ j < (len : Int)) ∧ K (.pointer (some (p.add (j.toNat * 1)))) w) := op_ix_slice (e := 242) (by kernel_rfl)
@[simp] theorem pur_ix_243 {p : Addr} {len cap : Nat} {k : IntKind} {j : Int} : (nice Try.prog).pur (.indexAddr 243 (.slice (some p) len cap) (.int k j)) K1 = ((0 ≤ j ∧ j < (len : Int)) ∧ K1 (.pointer (some (p.add (j.toNat * 1))))) := pur_ix_slice (e := 242) (by kernel_rfl)
@[simp] theorem op_ld_242 {p : Addr} : (nice Try.prog).op (.load 242 (.pointer (some p))) w K Kp = ∃ cs e fz, w.heap[p.block]? = some (.cells cs e fz) ∧ p.spot = none ∧ p.off + 1 ≤ cs.size ∧ K (.agg (cs.extract p.off (p.off + 1))) w := op_ldn (by kernel_rfl)
@[simp] theorem ld_ld_242 {p : Addr} : (nice Try.prog).ld (.load 242 (.pointer (some p))) w K1 = ∃ cs e fz, w.heap[p.block]? = some (.cells cs e fz) ∧ p.spot = none ∧ p.off + 1 ≤ cs.size ∧ K1 (.agg (cs.extract p.off (p.off + 1))) := ld_ldn (by kernel_rfl)
@[simp] theorem same_ld_242 {p : Addr} {v : Value} : (nice Try.prog).same (.load 242 (.pointer (some p))) v w = ∃ cs e fz, w.heap[p.block]? = some (.cells cs e fz) ∧ p.spot = none ∧ p.off + 1 ≤ cs.size ∧ .agg (cs.extract p.off (p.off + 1)) = v := same_ldn (by kernel_rfl)
@[simp] theorem op_st_242 {p : Addr} {vs : Array Value} : (nice Try.prog).op (.store 242 (.pointer (some p)) (.agg vs)) w K Kp = (vs.size = 1 ∧ (∀ u ∈ vs.toList, u.oneCell' = true) ∧ ∃ cs e, w.heap[p.block]? = some (.cells cs e (0, 0)) ∧ p.spot = none ∧ p.off + 1 ≤ cs.size ∧ K undef (w.upd p.block (.cells (ow cs p.off vs.toList) e (0, 0)))) := op_stn (by kernel_rfl)
@[simp] theorem op_fa_242_0 {p : Addr} : (nice Try.prog).op (.fieldAddr 242 (.pointer (some p)) 0) w K Kp = K (.pointer (some (p.add 0))) w := op_fa (k := .one) (by kernel_rfl)
@[simp] theorem pur_fa_242_0 {p : Addr} : (nice Try.prog).pur (.fieldAddr 242 (.pointer (some p)) 0) K1 = K1 (.pointer (some (p.add 0))) := pur_fa (k := .one) (by kernel_rfl)
@[simp] theorem call_171 {args : List Value} : (nice Try.prog).call (.fn 171) args w K Kp = Calls Try.prog 171 args.toArray w (ret K Kp) := call_fn (by kernel_rfl)
@[simp] theorem op_mki_283 {v : Value} : (nice Try.prog).op (.mkIface 283 v) w K Kp = K (.iface 283 v) w := op_mkIface (by kernel_rfl) (by kernel_rfl)
@[simp] theorem pur_mki_283 {v : Value} : (nice Try.prog).pur (.mkIface 283 v) K1 = K1 (.iface 283 v) := pur_mkIface (by kernel_rfl) (by kernel_rfl)
@[simp] theorem op_alloc_242 : (nice Try.prog).op (.alloc 242) w K Kp = K (.pointer (some ⟨w.heap.size, 0, none⟩)) (w.alloc (.cells #[Value.int IntKind.i64 0] 242)) := op_alloc (z := (.agg #[(Value.int IntKind.i64 0)])) (by kernel_rfl)
@[simp] theorem op_alloc_245 : (nice Try.prog).op (.alloc 245) w K Kp = K (.pointer (some ⟨w.heap.size, 0, none⟩)) (w.alloc (.cells #[Value.slice none 0 0] 245)) := op_alloc (z := (.agg #[(Value.slice none 0 0)])) (by kernel_rfl)
theorem build_286_0_1_2 {x0 : Value} {x1 : Value} (h0 : x0.oneCell' = true) (h1 : x1.oneCell' = true) : buildV Try.prog 286 [(0, x0), (1, x1), (2, .agg #[])] = some (.agg (#[x0, x1])) := by
  have e : buildV Try.prog 286 [(0, x0), (1, x1), (2, .agg #[])] = (Instr.fill ((#[(0, 1), (1, 1), (2, 0)] : Array (Nat × Nat))[·]?) (#[Value.int IntKind.u32 0, Value.int IntKind.i64 0]) [(0, x0), (1, x1), (2, .agg #[])]).map .agg := by kernel_rfl
  rw [e]; simp [Instr.fill, cells_of_one h0, cells_of_one h1, show (Value.agg #[]).cells = #[] from rfl]; rfl
@[simp] theorem op_build_286_0_1_2 {x0 : Value} {x1 : Value} (h0 : x0.oneCell' = true) (h1 : x1.oneCell' = true) : (nice Try.prog).op (.build 286 [(0, x0), (1, x1), (2, .agg #[])]) w K Kp = K (.agg (#[x0, x1])) w := op_build (build_286_0_1_2 h0 h1)
@[simp] theorem pur_build_286_0_1_2 {x0 : Value} {x1 : Value} (h0 : x0.oneCell' = true) (h1 : x1.oneCell' = true) : (nice Try.prog).pur (.build 286 [(0, x0), (1, x1), (2, .agg #[])]) K1 = K1 (.agg (#[x0, x1])) := pur_build (build_286_0_1_2 h0 h1)
@[simp] theorem op_fa_286_1 {p : Addr} : (nice Try.prog).op (.fieldAddr 286 (.pointer (some p)) 1) w K Kp = K (.pointer (some (p.add 1))) w := op_fa (k := .one) (by kernel_rfl)
@[simp] theorem pur_fa_286_1 {p : Addr} : (nice Try.prog).pur (.fieldAddr 286 (.pointer (some p)) 1) K1 = K1 (.pointer (some (p.add 1))) := pur_fa (k := .one) (by kernel_rfl)
@[simp] theorem op_fa_286_0 {p : Addr} : (nice Try.prog).op (.fieldAddr 286 (.pointer (some p)) 0) w K Kp = K (.pointer (some (p.add 0))) w := op_fa (k := .one) (by kernel_rfl)
@[simp] theorem pur_fa_286_0 {p : Addr} : (nice Try.prog).pur (.fieldAddr 286 (.pointer (some p)) 0) K1 = K1 (.pointer (some (p.add 0))) := pur_fa (k := .one) (by kernel_rfl)
@[simp] theorem call_177 {args : List Value} : (nice Try.prog).call (.fn 177) args w K Kp = Calls Try.prog 177 args.toArray w (ret K Kp) := call_fn (by kernel_rfl)
theorem lit_243_2 {y0_0 y1_0 : Value} : sliceLit Try.prog 243 2 [(0, .agg #[y0_0]), (1, .agg #[y1_0])] = some (242, #[y0_0, y1_0]) := by
  have e : sliceLit Try.prog 243 2 [(0, .agg #[y0_0]), (1, .agg #[y1_0])] = (Instr.fill (fun i => some (i * 1, 1)) (#[Value.int IntKind.i64 0, Value.int IntKind.i64 0]) [(0, .agg #[y0_0]), (1, .agg #[y1_0])]).map fun cs => (242, cs) := by kernel_rfl
  rw [e]; simp [Instr.fill, Value.cells]
@[simp] theorem op_lit_243_2 {y0_0 y1_0 : Value} : (nice Try.prog).op (.buildSlice 243 2 [(0, .agg #[y0_0]), (1, .agg #[y1_0])]) w K Kp = K (.slice (some ⟨w.heap.size, 0, none⟩) 2 2) (w.alloc (.cells #[y0_0, y1_0] 242)) := op_lit (lit_243_2)
theorem build_292_0_1 {x0 : Value} {x1 : Value} (h0 : x0.oneCell' = true) (h1 : x1.oneCell' = true) : buildV Try.prog 292 [(0, x0), (1, x1)] = some (.agg (#[x0, x1])) := by
  have e : buildV Try.prog 292 [(0, x0), (1, x1)] = (Instr.fill ((#[(0, 1), (1, 1)] : Array (Nat × Nat))[·]?) (#[Value.int IntKind.u32 0, Value.slice none 0 0]) [(0, x0), (1, x1)]).map .agg := by kernel_rfl
  rw [e]; simp [Instr.fill, cells_of_one h0, cells_of_one h1]
@[simp] theorem op_build_292_0_1 {x0 : Value} {x1 : Value} (h0 : x0.oneCell' = true) (h1 : x1.oneCell' = true) : (nice Try.prog).op (.build 292 [(0, x0), (1, x1)]) w K Kp = K (.agg (#[x0, x1])) w := op_build (build_292_0_1 h0 h1)
@[simp] theorem pur_build_292_0_1 {x0 : Value} {x1 : Value} (h0 : x0.oneCell' = true) (h1 : x1.oneCell' = true) : (nice Try.prog).pur (.build 292 [(0, x0), (1, x1)]) K1 = K1 (.agg (#[x0, x1])) := pur_build (build_292_0_1 h0 h1)
@[simp] theorem op_mki_290 {v : Value} : (nice Try.prog).op (.mkIface 290 v) w K Kp = K (.iface 290 v) w := op_mkIface (by kernel_rfl) (by kernel_rfl)
@[simp] theorem pur_mki_290 {v : Value} : (nice Try.prog).pur (.mkIface 290 v) K1 = K1 (.iface 290 v) := pur_mkIface (by kernel_rfl) (by kernel_rfl)
theorem build_298_0 {x0 : Value} (h0 : x0.oneCell' = true) : buildV Try.prog 298 [(0, x0)] = some (.agg (#[x0, Value.slice none 0 0])) := by
  have e : buildV Try.prog 298 [(0, x0)] = (Instr.fill ((#[(0, 1), (1, 1)] : Array (Nat × Nat))[·]?) (#[Value.int IntKind.u32 0, Value.slice none 0 0]) [(0, x0)]).map .agg := by kernel_rfl
  rw [e]; simp [Instr.fill, cells_of_one h0]
@[simp] theorem op_build_298_0 {x0 : Value} (h0 : x0.oneCell' = true) : (nice Try.prog).op (.build 298 [(0, x0)]) w K Kp = K (.agg (#[x0, Value.slice none 0 0])) w := op_build (build_298_0 h0)
@[simp] theorem pur_build_298_0 {x0 : Value} (h0 : x0.oneCell' = true) : (nice Try.prog).pur (.build 298 [(0, x0)]) K1 = K1 (.agg (#[x0, Value.slice none 0 0])) := pur_build (build_298_0 h0)
theorem lit_296_1 {x0 : Value} (h0 : x0.oneCell' = true) : sliceLit Try.prog 296 1 [(0, x0)] = some (226, #[x0]) := by
  have e : sliceLit Try.prog 296 1 [(0, x0)] = (Instr.fill (fun i => some (i * 1, 1)) (#[Value.nilIface]) [(0, x0)]).map fun cs => (226, cs) := by kernel_rfl
  rw [e]; simp [Instr.fill, cells_of_one h0]
@[simp] theorem op_lit_296_1 {x0 : Value} (h0 : x0.oneCell' = true) : (nice Try.prog).op (.buildSlice 296 1 [(0, x0)]) w K Kp = K (.slice (some ⟨w.heap.size, 0, none⟩) 1 1) (w.alloc (.cells #[x0] 226)) := op_lit (lit_296_1 h0)
@[simp] theorem op_fa_298_1 {p : Addr} : (nice Try.prog).op (.fieldAddr 298 (.pointer (some p)) 1) w K Kp = K (.pointer (some (p.add 1))) w := op_fa (k := .one) (by kernel_rfl)
@[simp] theorem pur_fa_298_1 {p : Addr} : (nice Try.prog).pur (.fieldAddr 298 (.pointer (some p)) 1) K1 = K1 (.pointer (some (p.add 1))) := pur_fa (k := .one) (by kernel_rfl)
@[simp] theorem op_ld_296 {p : Addr} : (nice Try.prog).op (.load 296 (.pointer (some p))) w K Kp = ∃ cs e fz, w.heap[p.block]? = some (.cells cs e fz) ∧ p.spot = none ∧ ∃ v, cs[p.off]? = some v ∧ K v w := op_ld (by kernel_rfl)
@[simp] theorem ld_ld_296 {p : Addr} : (nice Try.prog).ld (.load 296 (.pointer (some p))) w K1 = ∃ cs e fz, w.heap[p.block]? = some (.cells cs e fz) ∧ p.spot = none ∧ ∃ v, cs[p.off]? = some v ∧ K1 v := ld_ld (by kernel_rfl)
@[simp] theorem same_ld_296 {p : Addr} {v : Value} : (nice Try.prog).same (.load 296 (.pointer (some p))) v w = ∃ cs e fz, w.heap[p.block]? = some (.cells cs e fz) ∧ p.spot = none ∧ cs[p.off]? = some v := same_ld (by kernel_rfl)
@[simp] theorem op_st_296 {p : Addr} {v : Value} : (nice Try.prog).op (.store 296 (.pointer (some p)) v) w K Kp = ∃ cs e, w.heap[p.block]? = some (.cells cs e (0, 0)) ∧ p.spot = none ∧ p.off < cs.size ∧ v.oneCell' = true ∧ K undef (w.upd p.block (.cells (cs.setIfInBounds p.off v) e (0, 0))) := op_st (by kernel_rfl)
theorem lit_296_2 {x0 x1 : Value} (h0 : x0.oneCell' = true) (h1 : x1.oneCell' = true) : sliceLit Try.prog 296 2 [(0, x0), (1, x1)] = some (226, #[x0, x1]) := by
  have e : sliceLit Try.prog 296 2 [(0, x0), (1, x1)] = (Instr.fill (fun i => some (i * 1, 1)) (#[Value.nilIface, Value.nilIface]) [(0, x0), (1, x1)]).map fun cs => (226, cs) := by kernel_rfl
  rw [e]; simp [Instr.fill, cells_of_one h0, cells_of_one h1]
@[simp] theorem op_lit_296_2 {x0 x1 : Value} (h0 : x0.oneCell' = true) (h1 : x1.oneCell' = true) : (nice Try.prog).op (.buildSlice 296 2 [(0, x0), (1, x1)]) w K Kp = K (.slice (some ⟨w.heap.size, 0, none⟩) 2 2) (w.alloc (.cells #[x0, x1] 226)) := op_lit (lit_296_2 h0 h1)
@[simp] theorem op_mki_295 {v : Value} : (nice Try.prog).op (.mkIface 295 v) w K Kp = K (.iface 295 v) w := op_mkIface (by kernel_rfl) (by kernel_rfl)
@[simp] theorem pur_mki_295 {v : Value} : (nice Try.prog).pur (.mkIface 295 v) K1 = K1 (.iface 295 v) := pur_mkIface (by kernel_rfl) (by kernel_rfl)
@[simp] theorem call_185 {args : List Value} : (nice Try.prog).call (.fn 185) args w K Kp = Calls Try.prog 185 args.toArray w (ret K Kp) := call_fn (by kernel_rfl)
@[simp] theorem op_fa_292_1 {p : Addr} : (nice Try.prog).op (.fieldAddr 292 (.pointer (some p)) 1) w K Kp = K (.pointer (some (p.add 1))) w := op_fa (k := .one) (by kernel_rfl)
@[simp] theorem pur_fa_292_1 {p : Addr} : (nice Try.prog).pur (.fieldAddr 292 (.pointer (some p)) 1) K1 = K1 (.pointer (some (p.add 1))) := pur_fa (k := .one) (by kernel_rfl)
@[simp] theorem op_fa_292_0 {p : Addr} : (nice Try.prog).op (.fieldAddr 292 (.pointer (some p)) 0) w K Kp = K (.pointer (some (p.add 0))) w := op_fa (k := .one) (by kernel_rfl)
@[simp] theorem pur_fa_292_0 {p : Addr} : (nice Try.prog).pur (.fieldAddr 292 (.pointer (some p)) 0) K1 = K1 (.pointer (some (p.add 0))) := pur_fa (k := .one) (by kernel_rfl)
theorem build_292_0 {x0 : Value} (h0 : x0.oneCell' = true) : buildV Try.prog 292 [(0, x0)] = some (.agg (#[x0, Value.slice none 0 0])) := by
  have e : buildV Try.prog 292 [(0, x0)] = (Instr.fill ((#[(0, 1), (1, 1)] : Array (Nat × Nat))[·]?) (#[Value.int IntKind.u32 0, Value.slice none 0 0]) [(0, x0)]).map .agg := by kernel_rfl
  rw [e]; simp [Instr.fill, cells_of_one h0]
@[simp] theorem op_build_292_0 {x0 : Value} (h0 : x0.oneCell' = true) : (nice Try.prog).op (.build 292 [(0, x0)]) w K Kp = K (.agg (#[x0, Value.slice none 0 0])) w := op_build (build_292_0 h0)
@[simp] theorem pur_build_292_0 {x0 : Value} (h0 : x0.oneCell' = true) : (nice Try.prog).pur (.build 292 [(0, x0)]) K1 = K1 (.agg (#[x0, Value.slice none 0 0])) := pur_build (build_292_0 h0)
@[simp] theorem op_fa_298_0 {p : Addr} : (nice Try.prog).op (.fieldAddr 298 (.pointer (some p)) 0) w K Kp = K (.pointer (some (p.add 0))) w := op_fa (k := .one) (by kernel_rfl)
@[simp] theorem pur_fa_298_0 {p : Addr} : (nice Try.prog).pur (.fieldAddr 298 (.pointer (some p)) 0) K1 = K1 (.pointer (some (p.add 0))) := pur_fa (k := .one) (by kernel_rfl)
@[simp] theorem op_ix_296 {p : Addr} {len cap : Nat} {k : IntKind} {j : Int} : (nice Try.prog).op (.indexAddr 296 (.slice (some p) len cap) (.int k j)) w K Kp = ((0 ≤ j ∧ j < (len : Int)) ∧ K (.pointer (some (p.add (j.toNat * 1)))) w) := op_ix_slice (e := 226) (by kernel_rfl)
@[simp] theorem pur_ix_296 {p : Addr} {len cap : Nat} {k : IntKind} {j : Int} : (nice Try.prog).pur (.indexAddr 296 (.slice (some p) len cap) (.int k j)) K1 = ((0 ≤ j ∧ j < (len : Int)) ∧ K1 (.pointer (some (p.add (j.toNat * 1))))) := pur_ix_slice (e := 226) (by kernel_rfl)
@[simp] theorem op_len_296 {a : Option Addr} {n c ty : Nat} : (nice Try.prog).op (.blt .len [296] ty [.slice a n c]) w K Kp = K (.int .i64 n) w := op_len_slice (by kernel_rfl)
@[simp] theorem pur_len_296 {a : Option Addr} {n c ty : Nat} : (nice Try.prog).pur (.blt .len [296] ty [.slice a n c]) K1 = K1 (.int .i64 n) := pur_len_slice (by kernel_rfl)
@[simp] theorem ld_len_296 {a : Option Addr} {n c ty : Nat} : (nice Try.prog).ld (.blt .len [296] ty [.slice a n c]) w K1 = K1 (.int .i64 n) := ld_len_slice (by kernel_rfl)
@[simp] theorem same_len_296 {a : Option Addr} {n c ty : Nat} {u : Value} : (nice Try.prog).same (.blt .len [296] ty [.slice a n c]) u w = (.int .i64 n = u) := same_len_slice (by kernel_rfl)
@[simp] theorem op_cutlo_296 {len cap b o : Nat} {k : IntKind} {x : Int} : (nice Try.prog).op (.slice 296 (.slice (some ⟨b, o, none⟩) len cap) (some (.int k x)) none none) w K Kp = ((0 ≤ x ∧ x ≤ (len : Int) ∧ (len : Int) ≤ (cap : Int)) ∧ K (.slice (some (if cap = x.toNat then ⟨b, o, none⟩ else ⟨b, o + x.toNat * 1, none⟩)) (len - x.toNat) (cap - x.toNat)) w) := op_cut_lo (e := 226) (by kernel_rfl)
@[simp] theorem op_cuthi_296 {len cap b o : Nat} {k : IntKind} {x : Int} : (nice Try.prog).op (.slice 296 (.slice (some ⟨b, o, none⟩) len cap) none (some (.int k x)) none) w K Kp = ((0 ≤ x ∧ x ≤ (cap : Int)) ∧ K (.slice (some ⟨b, o, none⟩) x.toNat cap) w) := op_cut_hi (s := 1) (e := 226) (by kernel_rfl)
@[simp] theorem pur_cutlo_296 {len cap b o : Nat} {k : IntKind} {x : Int} : (nice Try.prog).pur (.slice 296 (.slice (some ⟨b, o, none⟩) len cap) (some (.int k x)) none none) K1 = ((0 ≤ x ∧ x ≤ (len : Int) ∧ (len : Int) ≤ (cap : Int)) ∧ K1 (.slice (some (if cap = x.toNat then ⟨b, o, none⟩ else ⟨b, o + x.toNat * 1, none⟩)) (len - x.toNat) (cap - x.toNat))) := pur_cut_lo (e := 226) (by kernel_rfl)
@[simp] theorem pur_cuthi_296 {len cap b o : Nat} {k : IntKind} {x : Int} : (nice Try.prog).pur (.slice 296 (.slice (some ⟨b, o, none⟩) len cap) none (some (.int k x)) none) K1 = ((0 ≤ x ∧ x ≤ (cap : Int)) ∧ K1 (.slice (some ⟨b, o, none⟩) x.toNat cap)) := pur_cut_hi (s := 1) (e := 226) (by kernel_rfl)
theorem build_298_0_1 {x0 : Value} {x1 : Value} (h0 : x0.oneCell' = true) (h1 : x1.oneCell' = true) : buildV Try.prog 298 [(0, x0), (1, x1)] = some (.agg (#[x0, x1])) := by
  have e : buildV Try.prog 298 [(0, x0), (1, x1)] = (Instr.fill ((#[(0, 1), (1, 1)] : Array (Nat × Nat))[·]?) (#[Value.int IntKind.u32 0, Value.slice none 0 0]) [(0, x0), (1, x1)]).map .agg := by kernel_rfl
  rw [e]; simp [Instr.fill, cells_of_one h0, cells_of_one h1]
@[simp] theorem op_build_298_0_1 {x0 : Value} {x1 : Value} (h0 : x0.oneCell' = true) (h1 : x1.oneCell' = true) : (nice Try.prog).op (.build 298 [(0, x0), (1, x1)]) w K Kp = K (.agg (#[x0, x1])) w := op_build (build_298_0_1 h0 h1)
@[simp] theorem pur_build_298_0_1 {x0 : Value} {x1 : Value} (h0 : x0.oneCell' = true) (h1 : x1.oneCell' = true) : (nice Try.prog).pur (.build 298 [(0, x0), (1, x1)]) K1 = K1 (.agg (#[x0, x1])) := pur_build (build_298_0_1 h0 h1)
def zero_307 : Array Value := #[Value.int IntKind.u64 0, Value.nilIface, Value.nilIface, Value.nilIface, Value.nilIface, Value.nilIface, Value.nilIface, Value.nilIface, Value.nilIface, Value.nilIface, Value.nilIface, Value.nilIface, Value.nilIface, Value.nilIface, Value.nilIface, Value.nilIface, Value.nilIface, Value.nilIface, Value.nilIface, Value.nilIface, Value.nilIface, Value.nilIface, Value.nilIface, Value.nilIface, Value.nilIface, Value.nilIface, Value.nilIface, Value.nilIface, Value.nilIface, Value.nilIface, Value.nilIface, Value.nilIface, Value.nilIface]
@[simp] theorem op_alloc_307 : (nice Try.prog).op (.alloc 307) w K Kp = K (.pointer (some ⟨w.heap.size, 0, none⟩)) (w.alloc (.cells zero_307 307)) := op_alloc (z := .agg zero_307) (by kernel_rfl)
@[simp] theorem op_fa_307_0 {p : Addr} : (nice Try.prog).op (.fieldAddr 307 (.pointer (some p)) 0) w K Kp = K (.pointer (some (p.add 0))) w := op_fa (k := .one) (by kernel_rfl)
@[simp] theorem pur_fa_307_0 {p : Addr} : (nice Try.prog).pur (.fieldAddr 307 (.pointer (some p)) 0) K1 = K1 (.pointer (some (p.add 0))) := pur_fa (k := .one) (by kernel_rfl)
@[simp] theorem op_fa_307_1 {p : Addr} : (nice Try.prog).op (.fieldAddr 307 (.pointer (some p)) 1) w K Kp = K (.pointer (some (p.add 1))) w := op_fa (k := (.agg 32)) (by kernel_rfl)
@[simp] theorem pur_fa_307_1 {p : Addr} : (nice Try.prog).pur (.fieldAddr 307 (.pointer (some p)) 1) K1 = K1 (.pointer (some (p.add 1))) := pur_fa (k := (.agg 32)) (by kernel_rfl)
@[simp] theorem op_ix_305 {p : Addr} {k : IntKind} {j : Int} : (nice Try.prog).op (.indexAddr 305 (.pointer (some p)) (.int k j)) w K Kp = ((0 ≤ j ∧ j < 32) ∧ K (.pointer (some (p.add (j.toNat * 1)))) w) := op_ix_arr (by kernel_rfl)
@[simp] theorem pur_ix_305 {p : Addr} {k : IntKind} {j : Int} : (nice Try.prog).pur (.indexAddr 305 (.pointer (some p)) (.int k j)) K1 = ((0 ≤ j ∧ j < 32) ∧ K1 (.pointer (some (p.add (j.toNat * 1))))) := pur_ix_arr (by kernel_rfl)
@[simp] theorem op_mki_308 {v : Value} : (nice Try.prog).op (.mkIface 308 v) w K Kp = K (.iface 308 v) w := op_mkIface (by kernel_rfl) (by kernel_rfl)
@[simp] theorem pur_mki_308 {v : Value} : (nice Try.prog).pur (.mkIface 308 v) K1 = K1 (.iface 308 v) := pur_mkIface (by kernel_rfl) (by kernel_rfl)
@[simp] theorem op_ld_307 {p : Addr} : (nice Try.prog).op (.load 307 (.pointer (some p))) w K Kp = ∃ cs e fz, w.heap[p.block]? = some (.cells cs e fz) ∧ p.spot = none ∧ p.off + 33 ≤ cs.size ∧ K (.agg (cs.extract p.off (p.off + 33))) w := op_ldn (by kernel_rfl)
@[simp] theorem ld_ld_307 {p : Addr} : (nice Try.prog).ld (.load 307 (.pointer (some p))) w K1 = ∃ cs e fz, w.heap[p.block]? = some (.cells cs e fz) ∧ p.spot = none ∧ p.off + 33 ≤ cs.size ∧ K1 (.agg (cs.extract p.off (p.off + 33))) := ld_ldn (by kernel_rfl)
@[simp] theorem same_ld_307 {p : Addr} {v : Value} : (nice Try.prog).same (.load 307 (.pointer (some p))) v w = ∃ cs e fz, w.heap[p.block]? = some (.cells cs e fz) ∧ p.spot = none ∧ p.off + 33 ≤ cs.size ∧ .agg (cs.extract p.off (p.off + 33)) = v := same_ldn (by kernel_rfl)
@[simp] theorem op_st_307 {p : Addr} {vs : Array Value} : (nice Try.prog).op (.store 307 (.pointer (some p)) (.agg vs)) w K Kp = (vs.size = 33 ∧ (∀ u ∈ vs.toList, u.oneCell' = true) ∧ ∃ cs e, w.heap[p.block]? = some (.cells cs e (0, 0)) ∧ p.spot = none ∧ p.off + 33 ≤ cs.size ∧ K undef (w.upd p.block (.cells (ow cs p.off vs.toList) e (0, 0)))) := op_stn (by kernel_rfl)
theorem build_298_1 {x1 : Value} (h1 : x1.oneCell' = true) : buildV Try.prog 298 [(1, x1)] = some (.agg (#[Value.int IntKind.u32 0, x1])) := by
  have e : buildV Try.prog 298 [(1, x1)] = (Instr.fill ((#[(0, 1), (1, 1)] : Array (Nat × Nat))[·]?) (#[Value.int IntKind.u32 0, Value.slice none 0 0]) [(1, x1)]).map .agg := by kernel_rfl
  rw [e]; simp [Instr.fill, cells_of_one h1]
@[simp] theorem op_build_298_1 {x1 : Value} (h1 : x1.oneCell' = true) : (nice Try.prog).op (.build 298 [(1, x1)]) w K Kp = K (.agg (#[Value.int IntKind.u32 0, x1])) w := op_build (build_298_1 h1)
@[simp] theorem pur_build_298_1 {x1 : Value} (h1 : x1.oneCell' = true) : (nice Try.prog).pur (.build 298 [(1, x1)]) K1 = K1 (.agg (#[Value.int IntKind.u32 0, x1])) := pur_build (build_298_1 h1)
@[simp] theorem op_ld_305 {p : Addr} : (nice Try.prog).op (.load 305 (.pointer (some p))) w K Kp = ∃ cs e fz, w.heap[p.block]? = some (.cells cs e fz) ∧ p.spot = none ∧ p.off + 32 ≤ cs.size ∧ K (.agg (cs.extract p.off (p.off + 32))) w := op_ldn (by kernel_rfl)
@[simp] theorem ld_ld_305 {p : Addr} : (nice Try.prog).ld (.load 305 (.pointer (some p))) w K1 = ∃ cs e fz, w.heap[p.block]? = some (.cells cs e fz) ∧ p.spot = none ∧ p.off + 32 ≤ cs.size ∧ K1 (.agg (cs.extract p.off (p.off + 32))) := ld_ldn (by kernel_rfl)
@[simp] theorem same_ld_305 {p : Addr} {v : Value} : (nice Try.prog).same (.load 305 (.pointer (some p))) v w = ∃ cs e fz, w.heap[p.block]? = some (.cells cs e fz) ∧ p.spot = none ∧ p.off + 32 ≤ cs.size ∧ .agg (cs.extract p.off (p.off + 32)) = v := same_ldn (by kernel_rfl)
@[simp] theorem op_neq_226_y {xc yc : Bool} {u : TypeId} {v : Value} : (nice Try.prog).op (.bin BinOp.neq 226 xc yc (.iface u v) .nilIface) w K Kp = K (.bool true) w := op_eq_iface (by kernel_rfl) rfl
@[simp] theorem op_neq_226_n {xc : Bool} : (nice Try.prog).op (.bin BinOp.neq 226 xc true .nilIface .nilIface) w K Kp = K (.bool false) w := op_eq_niface (by kernel_rfl) rfl
@[simp] theorem pur_neq_226_y {xc yc : Bool} {u : TypeId} {v : Value} : (nice Try.prog).pur (.bin BinOp.neq 226 xc yc (.iface u v) .nilIface) K1 = K1 (.bool true) := pur_eq_iface (by kernel_rfl) rfl
@[simp] theorem pur_neq_226_n {xc : Bool} : (nice Try.prog).pur (.bin BinOp.neq 226 xc true .nilIface .nilIface) K1 = K1 (.bool false) := pur_eq_niface (by kernel_rfl) rfl
@[simp] theorem call_191 {args : List Value} : (nice Try.prog).call (.fn 191) args w K Kp = Calls Try.prog 191 args.toArray w (ret K Kp) := call_fn (by kernel_rfl)
end Go.Proofs.Ytbghmbbhkoniiaa
end
