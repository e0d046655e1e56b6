import Derived.Test.YtbghmbbhkoniiaaGreatB0
import Derived.Test.YtbghmbbhkoniiaaGreatB1
import Derived.Test.YtbghmbbhkoniiaaGreatB4
import Derived.Test.YtbghmbbhkoniiaaGreatB2
set_option linter.unusedSimpArgs false
set_option linter.unusedVariables false
set_option linter.unusedSectionVars false
set_option maxRecDepth 100000
set_option maxHeartbeats 4000000
section
/- The nodes of a map's trie in the heap; what looking a key up in them does. -/
namespace Go.Proofs.YtbghmbbhkoniiaaGreat.S
open Go.Vc Go.Proofs Go.Proofs.YtbghmbbhkoniiaaGreat Go.Vc.Nd
abbrev Ky := Int
abbrev Vl := Unit
def ek (k : Ky) : Value := .int .i64 k
def ev (_ : Vl) : Value := .agg #[]
def zv : Value := .agg #[]
abbrev Tr := Nd Ky Vl
def ent (e : Ky × Vl) : List Value := [ek e.1]
theorem ent_len (e : Ky × Vl) : (ent e).length = 1 := rfl
theorem one_ek (k : Ky) : (ek k).oneCell' = true := rfl
def ents (es : List (Ky × Vl)) : List Value := es.flatMap ent
theorem ents_len (es : List (Ky × Vl)) : (ents es).length = es.length * 1 := flatMap_len ent_len es
theorem ents_get {es : List (Ky × Vl)} {i r : Nat} (hi : i < es.length) (hr : r < 1) : (ents es)[i * 1 + r]? = (ent es[i])[r]? := flatMap_get ent_len es i r hi hr
theorem ents_one {es : List (Ky × Vl)} : ∀ u ∈ ents es, u.oneCell' = true := fun u hu => by
  obtain ⟨e, _, he⟩ := List.mem_flatMap.1 hu
  simp only [ent, List.mem_cons, List.not_mem_nil, or_false] at he
  subst he; rfl
def ptr (b : Nat) : Value := .pointer (some ⟨b, 0, none⟩)
@[simp] theorem op_ent (a : Ky) (c : Vl) {w : World} {K : KV} {Kp : KP} : (nice Tryz.prog).op (.build 131 [(0, ek a), (1, ev c)]) w K Kp = K (.agg #[ek a]) w := op_build_131_0_1 (one_ek a)
@[simp] theorem pur_ent (a : Ky) (c : Vl) {K1 : Value → Prop} : (nice Tryz.prog).pur (.build 131 [(0, ek a), (1, ev c)]) K1 = K1 (.agg #[ek a]) := pur_build_131_0_1 (one_ek a)
@[simp] theorem pur_valB (a : Ky) (c : Vl) {h : Nat} {K1 : Value → Prop} : (nice Tryz.prog).pur (.build 137 [(0, .int .u32 h), (1, ek a), (2, ev c)]) K1 = K1 (.agg #[.int .u32 h, ek a]) := pur_build_137_0_1_2 one_int (one_ek a)
@[simp] theorem op_ent0 (a : Ky) {w : World} {K : KV} {Kp : KP} : (nice Tryz.prog).op (.build 131 [(0, ek a), (1, .agg #[])]) w K Kp = K (.agg #[ek a]) w := op_ent a ()
@[simp] theorem pur_ent0 (a : Ky) {K1 : Value → Prop} : (nice Tryz.prog).pur (.build 131 [(0, ek a), (1, .agg #[])]) K1 = K1 (.agg #[ek a]) := pur_ent a ()
@[simp] theorem pur_valB0 (a : Ky) {h : Nat} {K1 : Value → Prop} : (nice Tryz.prog).pur (.build 137 [(0, .int .u32 h), (1, ek a), (2, .agg #[])]) K1 = K1 (.agg #[.int .u32 h, ek a]) := pur_valB a ()
theorem apE : apOf Tryz.prog 132 = some (131, 1, 16) := by kernel_rfl
theorem apN : apOf Tryz.prog 167 = some (119, 1, 16) := by kernel_rfl
structure IsH (hv : Value) (hash : Ky → Nat) : Prop where
  lt : ∀ k, hash k < 2 ^ 32
  eqv : ∀ {a b : Ky} {w : World} {K : KV} {Kp : KP}, (∀ w', Frm (fun _ => False) w w' → K (.bool (decide (a = b))) w') → (nice Tryz.prog).call (.inv hv "Equal") [ek a, ek b] w K Kp
  hsh : ∀ {k : Ky} {w : World} {K : KV} {Kp : KP}, (∀ w', Frm (fun _ => False) w w' → K (.int .u32 (hash k)) w') → (nice Tryz.prog).call (.inv hv "Hash") [ek k] w K Kp
  nilE : ∀ {K1 : Value → Prop}, (nice Tryz.prog).pur (.nilCheck (.func (.method "Equal") #[hv] #[])) K1 = K1 (.func (.method "Equal") #[hv] #[])
  iface : ∃ t p, hv = .iface t p
def Rep (w : World) : Tr → Value → (Nat → Prop) → Prop
  | .emp, v, F => v = .nilIface
  | .arr es, v, F => ∃ b g cap, v = .iface 128 (ptr b) ∧ F b ∧ F g ∧ g ≠ b ∧ w.heap[b]? = some (.cells #[.slice (some ⟨g, 0, none⟩) es.length cap] 134 (0, 0)) ∧ es.length ≤ cap ∧ Rw w 131 1 g cap (ents es)
  | .val h k x, v, F => ∃ b, v = .iface 135 (ptr b) ∧ F b ∧ w.heap[b]? = some (.cells #[.int .u32 h, ek k] 137 (0, 0))
  | .col h es, v, F => ∃ b g cap, v = .iface 138 (ptr b) ∧ F b ∧ F g ∧ g ≠ b ∧ w.heap[b]? = some (.cells #[.int .u32 h, .slice (some ⟨g, 0, none⟩) es.length cap] 140 (0, 0)) ∧ es.length ≤ cap ∧ Rw w 131 1 g cap (ents es)
  | .br false f, v, F => ∃ b g cap, ∃ vs : Nat → Value, ∃ Fs : Nat → Nat → Prop, v = .iface 166 (ptr b) ∧ F b ∧ F g ∧ g ≠ b ∧ w.heap[b]? = some (.cells #[.int .u32 (bm f), .slice (some ⟨g, 0, none⟩) (cnt f) cap] 169 (0, 0)) ∧ cnt f ≤ cap ∧ Rw w 119 1 g cap (kids f vs) ∧
      (∀ i, i < 32 → Rep w (f i) (vs i) (Fs i)) ∧ ∀ i, i < 32 → ∀ c, Fs i c → F c ∧ c ≠ b ∧ c ≠ g ∧ ∀ k, k < 32 → k ≠ i → ¬ Fs k c
  | .br true f, v, F => ∃ b cs, ∃ vs : Nat → Value, ∃ Fs : Nat → Nat → Prop, v = .iface 170 (ptr b) ∧ F b ∧ w.heap[b]? = some (.cells cs 173 (0, 0)) ∧ cs.size = 33 ∧ cs[0]? = some (.int .u64 (cnt f)) ∧ (∀ i, i < 32 → cs[i + 1]? = some (vs i)) ∧
      (∀ i, i < 32 → Rep w (f i) (vs i) (Fs i)) ∧ ∀ i, i < 32 → ∀ c, Fs i c → F c ∧ c ≠ b ∧ ∀ k, k < 32 → k ≠ i → ¬ Fs k c
variable {w w' : World} {v hv : Value} {t : Tr} {F F' : Nat → Prop} {K : KV} {Kp : KP} {hash : Ky → Nat} {k : Ky} {x : Vl}
theorem Rep.mono : ∀ {t : Tr} {v : Value} {F F' : Nat → Prop}, Rep w t v F → (∀ b, F b → F' b) → (∀ b o, F b → w.heap[b]? = some o → w'.heap[b]? = some o) → Rep w' t v F'
  | .emp, v, F, F', h, hF, hw => h
  | .arr es, v, F, F', h, hF, hw => by
    obtain ⟨b, g, cap, h1, h2, h3, h4, h5, h6, h7⟩ := h
    exact ⟨b, g, cap, h1, hF _ h2, hF _ h3, h4, hw _ _ h2 h5, h6, h7.keep fun o => hw _ _ h3⟩
  | .val h' k x, v, F, F', h, hF, hw => by
    obtain ⟨b, h1, h2, h3⟩ := h
    exact ⟨b, h1, hF _ h2, hw _ _ h2 h3⟩
  | .col h' es, v, F, F', h, hF, hw => by
    obtain ⟨b, g, cap, h1, h2, h3, h4, h5, h6, h7⟩ := h
    exact ⟨b, g, cap, h1, hF _ h2, hF _ h3, h4, hw _ _ h2 h5, h6, h7.keep fun o => hw _ _ h3⟩
  | .br false f, v, F, F', h, hF, hw => by
    obtain ⟨b, g, cap, vs, Fs, h1, h2, h3, h4, h5, h6, h7, h8, h9⟩ := h
    exact ⟨b, g, cap, vs, Fs, h1, hF _ h2, hF _ h3, h4, hw _ _ h2 h5, h6, h7.keep fun o => hw _ _ h3, fun i hi => (h8 i hi).mono (fun _ h => h) fun c o hc => hw c o (h9 i hi c hc).1,
      fun i hi c hc => ⟨hF _ (h9 i hi c hc).1, (h9 i hi c hc).2⟩⟩
  | .br true f, v, F, F', h, hF, hw => by
    obtain ⟨b, cs, vs, Fs, h1, h2, h3, h4, h5, h6, h7, h8⟩ := h
    exact ⟨b, cs, vs, Fs, h1, hF _ h2, hw _ _ h2 h3, h4, h5, h6, fun i hi => (h7 i hi).mono (fun _ h => h) fun c o hc => hw c o (h8 i hi c hc).1,
      fun i hi c hc => ⟨hF _ (h8 i hi c hc).1, (h8 i hi c hc).2⟩⟩
theorem Rep.frame {M : Nat → Prop} (h : Rep w t v F) (hf : Frm M w w') (hM : ∀ b, F b → ¬ M b) : Rep w' t v F :=
  h.mono (fun _ h => h) fun b o hb ho => hf.get ho (hM b hb)
theorem Rep.still (h : Rep w t v F) (hf : Frm (fun _ => False) w w') : Rep w' t v F := h.frame hf fun _ _ h => h
theorem Rep.lt : ∀ {t : Tr} {v : Value} {F : Nat → Prop}, Rep w t v F → Rep w t v (fun b => F b ∧ b < w.heap.size)
  | .emp, v, F, h => h
  | .arr es, v, F, h => by
    obtain ⟨b, g, cap, h1, h2, h3, h4, h5, h6, h7⟩ := h
    exact ⟨b, g, cap, h1, ⟨h2, lt_of_get h5⟩, ⟨h3, h7.lt⟩, h4, h5, h6, h7⟩
  | .val h' k x, v, F, h => by
    obtain ⟨b, h1, h2, h3⟩ := h
    exact ⟨b, h1, ⟨h2, lt_of_get h3⟩, h3⟩
  | .col h' es, v, F, h => by
    obtain ⟨b, g, cap, h1, h2, h3, h4, h5, h6, h7⟩ := h
    exact ⟨b, g, cap, h1, ⟨h2, lt_of_get h5⟩, ⟨h3, h7.lt⟩, h4, h5, h6, h7⟩
  | .br false f, v, F, h => by
    obtain ⟨b, g, cap, vs, Fs, h1, h2, h3, h4, h5, h6, h7, h8, h9⟩ := h
    exact ⟨b, g, cap, vs, fun i c => Fs i c ∧ c < w.heap.size, h1, ⟨h2, lt_of_get h5⟩, ⟨h3, h7.lt⟩, h4, h5, h6, h7, fun i hi => (h8 i hi).lt,
      fun i hi c hc => ⟨⟨(h9 i hi c hc.1).1, hc.2⟩, (h9 i hi c hc.1).2.1, (h9 i hi c hc.1).2.2.1, fun k hk hne h => (h9 i hi c hc.1).2.2.2 k hk hne h.1⟩⟩
  | .br true f, v, F, h => by
    obtain ⟨b, cs, vs, Fs, h1, h2, h3, h4, h5, h6, h7, h8⟩ := h
    exact ⟨b, cs, vs, fun i c => Fs i c ∧ c < w.heap.size, h1, ⟨h2, lt_of_get h3⟩, h3, h4, h5, h6, fun i hi => (h7 i hi).lt,
      fun i hi c hc => ⟨⟨(h8 i hi c hc.1).1, hc.2⟩, (h8 i hi c hc.1).2.1, fun k hk hne h => (h8 i hi c hc.1).2.2 k hk hne h.1⟩⟩
theorem Rep.iface (h : Rep w t v F) (ht : t ≠ .emp) : ∃ u b, v = .iface u (ptr b) := by
  cases t with
  | emp => exact absurd rfl ht
  | arr es => obtain ⟨b, g, cap, h1, _⟩ := h; exact ⟨_, _, h1⟩
  | val h' k x => obtain ⟨b, h1, _⟩ := h; exact ⟨_, _, h1⟩
  | col h' es => obtain ⟨b, g, cap, h1, _⟩ := h; exact ⟨_, _, h1⟩
  | br hs f => cases hs with
    | true => obtain ⟨b, cs, vs, Fs, h1, _⟩ := h; exact ⟨_, _, h1⟩
    | false => obtain ⟨b, g, cap, vs, Fs, h1, _⟩ := h; exact ⟨_, _, h1⟩
theorem Rep.nil (h : Rep w .emp v F) : v = .nilIface := h
theorem Rep.one (h : Rep w t v F) : v.oneCell' = true := by
  by_cases ht : t = .emp
  · subst ht; rw [h.nil]; rfl
  · obtain ⟨u, b, rfl⟩ := h.iface ht; rfl
theorem find_at {es : List (Ky × Vl)} {j : Nat} (hj : j < es.length) (h1 : ∀ i (hi : i < j), es[i].1 ≠ k) (h2 : es[j].1 = k) : find es k = some j := by
  rw [find, List.findIdx?_eq_some_iff_getElem]
  exact ⟨hj, by simpa using h2, fun i hi => by simpa using h1 i hi⟩
def idxV (o : Option Nat) : Value := match o with
  | some i => .int .i64 i
  | none => .int .i64 (-1)
theorem key_cell {g cap : Nat} {es : List (Ky × Vl)} (h : Rw w 131 1 g cap (ents es)) : ∃ cur, w.heap[g]? = some (.cells cur 131 (0, 0)) ∧ ∀ j (hj : j < es.length), cur[j * 1]? = some (ek es[j].1) ∧ cur[j * 1 + 1]? = if 1 < 1 then some (ev es[j].2) else cur[j * 1 + 1]? := by
  obtain ⟨cur, h1, h2, h3⟩ := h.cells
  refine ⟨cur, h1, fun j hj => ⟨?_, ?_⟩⟩
  · rw [h3 _ (by rw [ents_len]; omega)]
    have := ents_get (r := 0) hj (by decide)
    rw [Nat.add_zero] at this
    rw [this]; rfl
  · rfl
theorem ent_val {g o : Nat} {cur : Array Value} {fz : Nat × Nat} (hb : w.heap[g]? = some (.cells cur 131 fz)) : (Instr.fieldAt 131 (.pointer (some ⟨g, o, none⟩)) 1).run Tryz.prog w = .ok (.pointer (some ⟨g, o + 1, some (o * 16 + 8)⟩)) w := by
  have c1 : Tryz.prog.cellsOf 131 = 1 := by kernel_rfl
  have c2 : Tryz.prog.bytesOf 131 = 16 := by kernel_rfl
  have c3 : byteOfCell Tryz.prog Tryz.prog.depth 131 0 = some 0 := by kernel_rfl
  have := fieldAt0 (P := Tryz.prog) (t := 131) (f := 1) (o := o) (b1 := 0) (b2 := 0) (fs := Tryz.prog.fieldsOf 131) (fd := ((Tryz.prog.fieldsOf 131)[1]?).getD default) (by kernel_rfl) (by kernel_rfl) (by kernel_rfl) hb (by rw [c1]; decide) (by rw [c1, Nat.mod_one]; exact c3) (by rw [c1, Nat.mod_one]; exact c3)
  have d1 : (((Tryz.prog.fieldsOf 131)[1]?).getD default).offset = 1 := by kernel_rfl
  have d2 : (((Tryz.prog.fieldsOf 131)[1]?).getD default).byteOffset = 8 := by kernel_rfl
  rw [c1, c2, d1, d2, Nat.div_one, Nat.div_one] at this
  exact this (by omega)
theorem val_val {b : Nat} {cur : Array Value} {fz : Nat × Nat} (hb : w.heap[b]? = some (.cells cur 137 fz)) : (Instr.fieldAt 137 (.pointer (some ⟨b, 0, none⟩)) 2).run Tryz.prog w = .ok (.pointer (some ⟨b, 2, some 16⟩)) w := by
  have c1 : Tryz.prog.cellsOf 137 = 2 := by kernel_rfl
  have c2 : Tryz.prog.bytesOf 137 = 24 := by kernel_rfl
  have c3 : byteOfCell Tryz.prog Tryz.prog.depth 137 0 = some 0 := by kernel_rfl
  have d1 : (((Tryz.prog.fieldsOf 137)[2]?).getD default).offset = 2 := by kernel_rfl
  have d2 : (((Tryz.prog.fieldsOf 137)[2]?).getD default).byteOffset = 16 := by kernel_rfl
  have := fieldAt0 (P := Tryz.prog) (t := 137) (f := 2) (o := 0) (b1 := 0) (b2 := 0) (fs := Tryz.prog.fieldsOf 137) (fd := ((Tryz.prog.fieldsOf 137)[2]?).getD default) (by kernel_rfl) (by kernel_rfl) (by kernel_rfl) hb (by rw [c1]; decide) (by rw [c1]; exact c3) (by rw [c1, d1]; exact c3)
  rw [c1, c2, d1, d2] at this
  exact this (by decide)
theorem wrap_i64_small {n : Int} (h0 : 0 ≤ n) (h1 : n < 9223372036854775808) : IntKind.i64.wrap n = n := by rw [IntKind.wrap_i64]; omega
def natOf : Value → Nat
  | .int _ j => j.toNat
  | _ => 0
theorem indexA_ok {b g cap : Nat} {es : List (Ky × Vl)} (hH : IsH hv hash) (hb : w.heap[b]? = some (.cells #[.slice (some ⟨g, 0, none⟩) es.length cap] 134 (0, 0))) (hg : Rw w 131 1 g cap (ents es)) (h6 : es.length ≤ cap)
    (hK : ∀ w', Frm (fun _ => False) w w' → K (idxV (find es k)) w') : Calls Tryz.prog 87 #[ptr b, ek k, hv] w (ret K Kp) := by
  have hc := hg.cap_le h6
  refine vc87_calls ?_
  simp [-getElem?_pos, -Array.getElem?_eq_getElem, vc87, ptr, add_spot, hb, and_assoc]
  obtain ⟨I, hI⟩ : ∃ I : KV, ∀ s wl, I s wl ↔ ∃ j : Nat, s = Value.int .i64 j ∧ j ≤ es.length ∧ Frm (fun _ => False) w wl ∧ ∀ i (_ : i < j) (hi : i < es.length), es[i].1 ≠ k := ⟨_, fun _ _ => Iff.rfl⟩
  refine Lp.intro I (fun s _ => es.length - natOf s) ⟨(hI _ _).2 ⟨0, rfl, by omega, Frm.refl, fun i hi => by omega⟩, ?_⟩
  intro wl s hs
  obtain ⟨j, rfl, hj, hf, hno⟩ := (hI _ _).1 hs
  simp only [op_lss, Br_dec]
  refine ⟨fun hlt => ?_, fun hge => ?_⟩
  · have hlt' : j < es.length := by omega
    have hb' := hf.get hb id
    obtain ⟨cur, hcur, hk⟩ := key_cell (hg.frame hf fun h => h)
    have hk' := (hk j hlt').1
    rw [Nat.mul_one] at hk'
    simp [-getElem?_pos, -Array.getElem?_eq_getElem, ptr, add_spot, hb', hcur, hk', hH.nilE, and_assoc]
    refine ⟨by omega, hH.eqv fun w' hf' => ?_⟩
    simp only [Br_dec]
    refine ⟨fun he => ?_, fun hne => ?_⟩
    · have := hK w' (Frm.no hf (Frm.dr hf'))
      rw [find_at hlt' (fun i hi => hno i hi (by omega)) he] at this
      exact this
    · rw [wrap_i64_small (by omega) (by omega)]
      refine ⟨(hI _ _).2 ⟨j + 1, by simp, by omega, Frm.no hf (Frm.dr hf'), fun i hi hi' => ?_⟩, ?_⟩
      · by_cases e : i = j
        · subst e; exact hne
        · exact hno i (by omega) hi'
      · simp only [natOf]; omega
  · have := hK wl hf
    rw [show find es k = none from Nd.find_none.2 fun e he => by obtain ⟨i, hi, rfl⟩ := List.mem_iff_getElem.1 he; exact hno i (by omega) hi] at this
    exact this
end Go.Proofs.YtbghmbbhkoniiaaGreat.S
end
section
/- Looking a key up in a node. -/
namespace Go.Proofs.YtbghmbbhkoniiaaGreat.S
open Go.Vc Go.Proofs Go.Proofs.YtbghmbbhkoniiaaGreat Go.Vc.Nd
variable {w w' : World} {v hv : Value} {t : Tr} {F : Nat → Prop} {K : KV} {Kp : KP} {hash : Ky → Nat} {k : Ky} {x : Vl} {l : Nat}
theorem indexC_ok {b g cap : Nat} {hx : Value} {es : List (Ky × Vl)} (hH : IsH hv hash) (hb : w.heap[b]? = some (.cells #[hx, .slice (some ⟨g, 0, none⟩) es.length cap] 140 (0, 0))) (hg : Rw w 131 1 g cap (ents es)) (h6 : es.length ≤ cap)
    (hK : ∀ w', Frm (fun _ => False) w w' → K (idxV (find es k)) w') : Calls Tryz.prog 99 #[ptr b, ek k, hv] w (ret K Kp) := by
  have hc := hg.cap_le h6
  refine vc99_calls ?_
  simp [-getElem?_pos, -Array.getElem?_eq_getElem, vc99, ptr, add_spot, hb, and_assoc]
  obtain ⟨I, hI⟩ : ∃ I : KV, ∀ s wl, I s wl ↔ ∃ j : Nat, s = Value.int .i64 j ∧ j ≤ es.length ∧ Frm (fun _ => False) w wl ∧ ∀ i (_ : i < j) (hi : i < es.length), es[i].1 ≠ k := ⟨_, fun _ _ => Iff.rfl⟩
  refine Lp.intro I (fun s _ => es.length - natOf s) ⟨(hI _ _).2 ⟨0, rfl, by omega, Frm.refl, fun i hi => by omega⟩, ?_⟩
  intro wl s hs
  obtain ⟨j, rfl, hj, hf, hno⟩ := (hI _ _).1 hs
  simp only [op_lss, Br_dec]
  refine ⟨fun hlt => ?_, fun hge => ?_⟩
  · have hlt' : j < es.length := by omega
    have hb' := hf.get hb id
    obtain ⟨cur, hcur, hk⟩ := key_cell (hg.frame hf fun h => h)
    have hk' := (hk j hlt').1
    rw [Nat.mul_one] at hk'
    simp [-getElem?_pos, -Array.getElem?_eq_getElem, ptr, add_spot, hb', hcur, hk', hH.nilE, and_assoc]
    refine ⟨by omega, hH.eqv fun w' hf' => ?_⟩
    simp only [Br_dec]
    refine ⟨fun he => ?_, fun hne => ?_⟩
    · have := hK w' (Frm.no hf (Frm.dr hf'))
      rw [find_at hlt' (fun i hi => hno i hi (by omega)) he] at this
      exact this
    · rw [wrap_i64_small (by omega) (by omega)]
      refine ⟨(hI _ _).2 ⟨j + 1, by simp, by omega, Frm.no hf (Frm.dr hf'), fun i hi hi' => ?_⟩, ?_⟩
      · by_cases e : i = j
        · subst e; exact hne
        · exact hno i (by omega) hi'
      · simp only [natOf]; omega
  · have := hK wl hf
    rw [show find es k = none from Nd.find_none.2 fun e he => by obtain ⟨i, hi, rfl⟩ := List.mem_iff_getElem.1 he; exact hno i (by omega) hi] at this
    exact this
theorem pop_ok {x : Nat} (hx : x < 2 ^ 32) (hK : ∀ w', Frm (fun _ => False) w w' → K (.int .i64 (pop 32 x)) w') : Calls Tryz.prog 118 #[.int .u32 x] w (ret K Kp) := by
  refine vc118_calls ?_
  delta vc118
  generalize hs : (ByteArray.mk _) = s
  have hz : s.size = 256 := by rw [← hs]; rfl
  have ht : ∀ j, j < 256 → ((s[j]?).getD 0).toNat = pop 8 j := by
    have h : (List.range 256).all (fun j => ((s[j]?).getD 0).toNat == pop 8 j) = true := by rw [← hs]; kernel_rfl
    intro j hj
    have := List.all_eq_true.1 h j (List.mem_range.2 hj)
    simpa using this
  clear hs
  have e24 : (2 : Int) ^ min (Int.toNat 24) IntKind.u32.bits = 2 ^ 24 := rfl
  have e16 : (2 : Int) ^ min (Int.toNat 16) IntKind.u32.bits = 2 ^ 16 := rfl
  have e8 : (2 : Int) ^ min (Int.toNat 8) IntKind.u32.bits = 2 ^ 8 := rfl
  have f24 := fdiv_pow x 24
  have f16 := fdiv_pow x 16
  have f8 := fdiv_pow x 8
  have a16 := and255 (a := x / 2 ^ 16) (by omega)
  have a8 := and255 (a := x / 2 ^ 8) (by omega)
  have a0 := and255 (a := x) hx
  simp only [pur_shr, pur_and, pur_index_9, pur_add, pur_conv_5_3, e24, e16, e8, f24, f16, f8, a16, a8, a0, hz, Int.toNat_natCast]
  have p := pop_bytes x hx
  have l1 := pop_le 8 (x / 2 ^ 24)
  have l2 := pop_le 8 (x / 2 ^ 16 % 256)
  have l3 := pop_le 8 (x / 2 ^ 8 % 256)
  have l4 := pop_le 8 (x % 256)
  have t1 := ht (x / 2 ^ 24) (by omega)
  have t2 := ht (x / 2 ^ 16 % 256) (by omega)
  have t3 := ht (x / 2 ^ 8 % 256) (by omega)
  have t4 := ht (x % 256) (by omega)
  rw [t1, t2, t3, t4]
  refine ⟨by omega, by omega, by omega, by omega, by omega, by omega, by omega, ?_⟩
  have := hK w.drew (Frm.drew _)
  rw [p] at this
  simp only [IntKind.wrap_u8, IntKind.wrap_i64]
  refine (congrArg (fun z : Int => K (Value.int .i64 z) w.drew) ?_).mpr this
  omega
/-! ### get -/
def gotV (o : Option Vl) : Value := match o with
  | some x => .tuple #[ev x, .bool true]
  | none => .tuple #[zv, .bool false]
theorem look_find {es : List (Ky × Vl)} : Nd.look es k = (find es k).bind fun i => es[i]?.map (·.2) := by
  induction es with
  | nil => rfl
  | cons e es ih =>
    by_cases h : e.1 = k
    · simp [Nd.look, find, h, List.findIdx?_cons]
    · simp only [Nd.look, find, List.find?_cons, List.findIdx?_cons, decide_eq_false h] at ih ⊢
      rw [ih]
      cases List.findIdx? (fun e => decide (e.1 = k)) es <;> simp
theorem getA_ok {es : List (Ky × Vl)} {a3 : Value} {s : Value} (hH : IsH hv hash) (h : Rep w (.arr es) v F) (hK : ∀ w', Frm (fun _ => False) w w' → K (gotV (Nd.look es k)) w') :
    (nice Tryz.prog).call (.inv v "pub-bracken/pub/immutable.get") [ek k, s, a3, hv] w K Kp := by
  obtain ⟨b, g, cap, rfl, h2, h3, h4, h5, h6, h7⟩ := h
  simp only [inv_128_86]
  refine vc86_calls ?_
  simp only [vc86, call_87]
  refine op_alloc_ok (z := .agg #[]) (by kernel_rfl) fun w0 k0 z0 b0 => ?_
  replace h5 := k0.get h5 id
  replace h7 := h7.frame k0 fun h => h
  replace hK := fun w' (hf : Frm (fun _ => False) w0 w') => hK w' (k0.no hf)
  refine indexA_ok hH h5 h7 h6 fun w' hf => ?_
  have := hK w' hf
  rw [look_find] at this
  cases hx : find es k with
  | none =>
    rw [hx] at this
    simp [idxV]
    exact this
  | some i =>
    rw [hx] at this
    obtain ⟨hi, _, _⟩ := find_some hx
    have hb' := hf.get h5 id
    obtain ⟨cur, hcur, hk⟩ := key_cell (h7.frame hf fun h => h)
    have hk' := (hk i hi).2
    simp only [Option.bind_some, List.getElem?_eq_getElem hi, Option.map_some] at this
    simp [-getElem?_pos, -Array.getElem?_eq_getElem, idxV, ptr, add_spot, hb', hcur, hk', and_assoc]
    refine ⟨hi, op_fa0_ok (by kernel_rfl) (ent_val hcur) ?_⟩
    simp
    exact this
theorem getC_ok {h' : Nat} {es : List (Ky × Vl)} {a3 s : Value} (hH : IsH hv hash) (h : Rep w (.col h' es) v F) (hK : ∀ w', Frm (fun _ => False) w w' → K (gotV (Nd.look es k)) w') :
    (nice Tryz.prog).call (.inv v "pub-bracken/pub/immutable.get") [ek k, s, a3, hv] w K Kp := by
  obtain ⟨b, g, cap, rfl, h2, h3, h4, hb, h6, hg⟩ := h
  have hc := hg.cap_le h6
  simp only [inv_138_96]
  refine vc96_calls ?_
  simp only [vc96]
  refine op_alloc_ok (z := .agg #[]) (by kernel_rfl) fun w0 k0 z0 b0 => ?_
  replace hb := k0.get hb id
  replace hg := hg.frame k0 fun h => h
  replace hK := fun w' (hf : Frm (fun _ => False) w0 w') => hK w' (k0.no hf)
  simp [-getElem?_pos, -Array.getElem?_eq_getElem, vc96, ptr, add_spot, hb, and_assoc]
  obtain ⟨I, hI⟩ : ∃ I : KV, ∀ s wl, I s wl ↔ ∃ j : Nat, s = Value.int .i64 j ∧ j ≤ es.length ∧ Frm (fun _ => False) w0 wl ∧ ∀ i (_ : i < j) (hi : i < es.length), es[i].1 ≠ k := ⟨_, fun _ _ => Iff.rfl⟩
  refine Lp.intro I (fun s _ => es.length - natOf s) ⟨(hI _ _).2 ⟨0, rfl, by omega, Frm.refl, fun i hi => by omega⟩, ?_⟩
  intro wl s hs
  obtain ⟨j, rfl, hj, hf, hno⟩ := (hI _ _).1 hs
  simp only [op_lss, Br_dec]
  refine ⟨fun hlt => ?_, fun hge => ?_⟩
  · have hlt' : j < es.length := by omega
    have hb' := hf.get hb id
    obtain ⟨cur, hcur, hk⟩ := key_cell (hg.frame hf fun h => h)
    have hk' := (hk j hlt').1
    rw [Nat.mul_one] at hk'
    simp [-getElem?_pos, -Array.getElem?_eq_getElem, ptr, add_spot, hb', hcur, hk', hH.nilE, and_assoc]
    refine ⟨by omega, hH.eqv fun w' hf' => ?_⟩
    simp only [Br_dec]
    refine ⟨fun he => ?_, fun hne => ?_⟩
    · have := hK w' (Frm.no hf (Frm.dr hf'))
      rw [look_find, find_at hlt' (fun i hi => hno i hi (by omega)) he] at this
      simp only [Option.bind_some, List.getElem?_eq_getElem hlt', Option.map_some] at this
      have hf2 := Frm.no hf (Frm.dr hf')
      have hb2 := hf2.get hb id
      obtain ⟨cur2, hcur2, hk2⟩ := key_cell (hg.frame hf2 fun h => h)
      have hk2' := (hk2 j hlt').2
      simp [-getElem?_pos, -Array.getElem?_eq_getElem, ptr, add_spot, hb2, hcur2, hk2', and_assoc]
      refine ⟨by omega, op_fa0_ok (by kernel_rfl) (ent_val hcur2) ?_⟩
      simp
      exact this
    · rw [wrap_i64_small (by omega) (by omega)]
      refine ⟨(hI _ _).2 ⟨j + 1, by simp, by omega, Frm.no hf (Frm.dr hf'), fun i hi hi' => ?_⟩, ?_⟩
      · by_cases e : i = j
        · subst e; exact hne
        · exact hno i (by omega) hi'
      · simp only [natOf]; omega
  · have := hK wl hf
    rw [look_find, show find es k = none from Nd.find_none.2 fun e he => by obtain ⟨i, hi, rfl⟩ := List.mem_iff_getElem.1 he; exact hno i (by omega) hi] at this
    exact this
theorem getV_ok {h' : Nat} {k' : Ky} {a3 s : Value} (hH : IsH hv hash) (h : Rep w (.val h' k' x) v F) (hK : ∀ w', Frm (fun _ => False) w w' → K (gotV (if k' = k then some x else none)) w') :
    (nice Tryz.prog).call (.inv v "pub-bracken/pub/immutable.get") [ek k, s, a3, hv] w K Kp := by
  obtain ⟨b, rfl, h2, hb⟩ := h
  simp only [inv_135_91]
  refine vc91_calls ?_
  simp only [vc91]
  refine op_alloc_ok (z := .agg #[]) (by kernel_rfl) fun w0 k0 z0 b0 => ?_
  replace hb := k0.get hb id
  replace hK := fun w' (hf : Frm (fun _ => False) w0 w') => hK w' (k0.no hf)
  simp [-getElem?_pos, -Array.getElem?_eq_getElem, vc91, ptr, add_spot, hb, hH.nilE, and_assoc]
  refine hH.eqv fun w' hf => ?_
  have hb' := (Frm.dr hf).get hb id
  have := hK w' (Frm.dr hf)
  by_cases e : k' = k
  · rw [if_pos e] at this
    simp [-getElem?_pos, -Array.getElem?_eq_getElem, e, ptr, add_spot, hb', and_assoc]
    refine op_fa0_ok (by kernel_rfl) (val_val hb') ?_
    simp
    exact this
  · rw [if_neg e] at this
    simp [e]
    exact this
theorem kid_cell {g cap : Nat} {f : Nat → Tr} {vs : Nat → Value} (h : Rw w 119 1 g cap (kids f vs)) : ∃ cur, w.heap[g]? = some (.cells cur 119 (0, 0)) ∧ ∀ i, i < 32 → f i ≠ .emp → cur[rk f i]? = some (vs i) := by
  obtain ⟨cur, h1, h2, h3⟩ := h.cells
  refine ⟨cur, h1, fun i hi hf => ?_⟩
  have hg := kids_get (vs := vs) hi hf
  rw [h3 _ (by rw [kids_len, cnt_rk]; exact rk_lt hi hf), hg]
theorem get_ok : ∀ {t : Tr} {l p s : Nat} {v : Value} {F : Nat → Prop} {K : KV} {Kp : KP} {w : World}, IsH hv hash → WF hash t l p → Rep w t v F → t ≠ .emp → s = 5 * l →
    (∀ w', Frm (fun _ => False) w w' → K (gotV (getIn (hash k) k t l)) w') → (nice Tryz.prog).call (.inv v "pub-bracken/pub/immutable.get") [ek k, .int .u64 s, .int .u32 (hash k), hv] w K Kp
  | .emp, l, p, s, v, F, K, Kp, w, hH, hW, h, hne, hs, hK => absurd rfl hne
  | .arr es, l, p, s, v, F, K, Kp, w, hH, hW, h, hne, hs, hK => hW.elim
  | .val h' k' x, l, p, s, v, F, K, Kp, w, hH, hW, h, hne, hs, hK => getV_ok hH h hK
  | .col h' es, l, p, s, v, F, K, Kp, w, hH, hW, h, hne, hs, hK => getC_ok hH h hK
  | .br false f, l, p, s, v, F, K, Kp, w, hH, hW, h, hne, hs, hK => by
    obtain ⟨b, g, cap, vs, Fs, rfl, h2, h3, h4, h5, h6, h7, h8, h9⟩ := h
    obtain ⟨hl, hWs, _⟩ := hW
    have hi := frag_lt l (hash k)
    have hfr := frag_eq (hH.lt k) hs hl
    rw [getIn] at hK
    generalize frag l (hash k) = i at *
    simp only [inv_166_116]
    refine vc116_calls ?_
    simp only [vc116]
    refine op_alloc_ok (z := .agg #[]) (by kernel_rfl) fun w0 k0 z0 b0 => ?_
    replace h5 := k0.get h5 id
    replace h7 := h7.frame k0 fun h => h
    replace h8 := fun i hi => (h8 i hi).still k0
    replace hK := fun w' (hf : Frm (fun _ => False) w0 w') => hK w' (k0.no hf)
    have hbit := bit_eq hi
    have hand := and_u32 (bm_lt (f := f)) (two_pow_lt hi)
    have hless := bit_less hi
    have hpos := Nat.pow_pos (n := i) (show 0 < 2 by decide)
    have hbel := and_u32 (bm_lt (f := f)) (b := 2 ^ i - 1) (by have := two_pow_lt hi; omega)
    have hz := bm_and_zero (f := f) i hi
    have hpop := pop_rk (f := f) (i := i) (by omega)
    have hlt2 : bm f &&& (2 ^ i - 1) < 2 ^ 32 := Nat.lt_of_le_of_lt Nat.and_le_left bm_lt
    generalize hB : bm f &&& 2 ^ i = B at *
    generalize hC : bm f &&& (2 ^ i - 1) = C at *
    have hns := next_shift hs hl
    generalize (2 : Nat) ^ i = y at *
    generalize bm f = z at *
    simp [-getElem?_pos, -Array.getElem?_eq_getElem, -Int.natCast_add, vc116, ptr, add_spot, h5, hfr, hbit, hand, Br_dec, and_assoc]
    refine ⟨fun h0 => ?_, fun h0 => ?_⟩
    · have := hK _ Frm.refl
      rw [hz.1 h0] at this
      exact this
    · have hne : f i ≠ .emp := fun e => h0 (hz.2 e)
      rw [hless, hbel]
      refine pop_ok hlt2 fun w' hf => ?_
      rw [hpop]
      have h5' := (Frm.dr hf).get h5 id
      obtain ⟨cur, hcur, hk⟩ := kid_cell (h7.frame (Frm.dr hf) fun h => h)
      have hk' := hk i hi hne
      have hr := (h8 i hi).still (Frm.dr hf)
      have hrl := rk_lt (f := f) hi hne
      rw [← cnt_rk] at hrl
      simp [-getElem?_pos, -Array.getElem?_eq_getElem, -Int.natCast_add, ptr, add_spot, h5', hcur, hk', hns, hrl, and_assoc]
      refine get_ok hH (hWs i hi) hr hne (by omega) fun w'' hf' => ?_
      have := hK w'' (Frm.no (Frm.dr hf) hf')
      cases hx : getIn (hash k) k (f i) (l + 1) with
      | none => rw [hx] at this; simpa [gotV, zv] using this
      | some x => rw [hx] at this; simpa [gotV, ev] using this
  | .br true f, l, p, s, v, F, K, Kp, w, hH, hW, h, hne, hs, hK => by
    obtain ⟨b, cs, vs, Fs, rfl, h2, h3, h4, h5, h6, h7, h8⟩ := h
    obtain ⟨hl, hWs, _⟩ := hW
    have hi := frag_lt l (hash k)
    have hfr := frag_eq (hH.lt k) hs hl
    rw [getIn] at hK
    generalize frag l (hash k) = i at *
    have hc := h6 i hi
    have hns := next_shift hs hl
    simp only [inv_170_121]
    refine vc121_calls ?_
    simp only [vc121]
    refine op_alloc_ok (z := .agg #[]) (by kernel_rfl) fun w0 k0 z0 b0 => ?_
    replace h3 := k0.get h3 id
    replace h7 := fun i hi => (h7 i hi).still k0
    replace hK := fun w' (hf : Frm (fun _ => False) w0 w') => hK w' (k0.no hf)
    simp [-getElem?_pos, -Array.getElem?_eq_getElem, -Int.natCast_add, vc121, ptr, add_spot, h3, hfr, Nat.add_comm 1, hc, Br_dec, and_assoc]
    refine ⟨by omega, ?_⟩
    by_cases he : f i = .emp
    · have hv : vs i = .nilIface := by have := h7 i hi; rw [he] at this; exact this.nil
      have := hK _ Frm.refl
      rw [he] at this
      rw [hv]
      simp
      exact this
    · obtain ⟨u, c, hv⟩ := (h7 i hi).iface he
      have hr := h7 i hi
      rw [hv] at hr ⊢
      simp [-Int.natCast_add, hns]
      refine get_ok hH (hWs i hi) hr he (by omega) fun w'' hf' => ?_
      have := hK w'' hf'
      cases hx : getIn (hash k) k (f i) (l + 1) with
      | none => rw [hx] at this; simpa [gotV, zv] using this
      | some x => rw [hx] at this; simpa [gotV, ev] using this
theorem root_get_ok (hH : IsH hv hash) (hW : WFr hash t) (h : Rep w t v F) (hne : t ≠ .emp) (hK : ∀ w', Frm (fun _ => False) w w' → K (gotV (getIn (hash k) k t 0)) w') :
    (nice Tryz.prog).call (.inv v "pub-bracken/pub/immutable.get") [ek k, .int .u64 0, .int .u32 (hash k), hv] w K Kp := by
  cases t with
  | arr es => exact getA_ok hH h hK
  | emp => exact absurd rfl hne
  | br hs f => exact get_ok (s := 0) hH hW h hne rfl hK
  | val h' k' x => exact get_ok (s := 0) hH hW h hne rfl hK
  | col h' es => exact get_ok (s := 0) hH hW h hne rfl hK
end Go.Proofs.YtbghmbbhkoniiaaGreat.S
end
section
/- Setting a key in a leaf; merging a leaf and a key into branches. -/
namespace Go.Proofs.YtbghmbbhkoniiaaGreat.S
open Go.Vc Go.Proofs Go.Proofs.YtbghmbbhkoniiaaGreat Go.Vc.Nd
variable {w w' : World} {v hv : Value} {t : Tr} {F F' : Nat → Prop} {K : KV} {Kp : KP} {k : Ky} {x : Vl} {l s rb : Nat} {mu : Bool}
def flag (w : World) (rb : Nat) (b : Bool) : Prop := w.heap[rb]? = some (.cells #[.bool b] 4 (0, 0))
theorem flag.frame {M : Nat → Prop} {b : Bool} (h : flag w rb b) (hf : Frm M w w') (hM : ¬ M rb) : flag w' rb b := hf.get h hM
def Sets (w : World) (mu : Bool) (F : Nat → Prop) (rb : Nat) (fl : Bool) (t' : Tr) (K : KV) : Prop :=
  ∀ v' w' F', Frm (fun b => b = rb ∨ mu = true ∧ F b) w w' → Rep w' t' v' F' → (∀ b, F' b → F b ∨ w.heap.size ≤ b) → flag w' rb fl → K v' w'
theorem Sets.still {fl : Bool} {t' : Tr} (h : Sets w mu F rb fl t' K) (k0 : Frm (fun _ => False) w w') : Sets w' mu F rb fl t' K :=
  fun v' w'' F' hf hr hF hfl => h v' w'' F' (k0.fst hf) hr (fun b hb => (hF b hb).imp id fun h => Nat.le_trans k0.size h) hfl
theorem raise_ok {b : Bool} (h : flag w rb b) (hK : ∀ w', Frm (· = rb) w w' → w'.heap.size = w.heap.size → flag w' rb true → K undef w') : (nice Tryz.prog).op (.store 4 (ptr rb) (.bool true)) w K Kp :=
  op_store_ok (by kernel_rfl) h (by simp) rfl fun w' hf hs hb => hK w' hf hs (by simpa [flag] using hb)
theorem new_val_ok {h' : Nat} (hK : ∀ b w', Frm (fun _ => False) w w' → w.heap.size ≤ b → b < w'.heap.size → Rep w' (.val h' k x) (.iface 135 (ptr b)) (fun c => c = b) → K (ptr b) w') : Calls Tryz.prog 89 #[.int .u32 h', ek k, ev x] w (ret K Kp) := by
  refine vc89_calls ?_
  simp only [vc89, ev]
  refine op_box_ok fun w1 k1 z1 b1 => ?_
  simp only [op_ld_88, op_build_137_0_1_2 (one_int (k := .u32) (n := (h' : Int))) (one_ek k)]
  refine op_box_ok fun w2 k2 z2 b2 => ?_
  exact hK _ w2 (k1.no k2) (by omega) (by omega) ⟨_, rfl, rfl, by simpa using b2⟩
def leafH : Tr → Option Nat
  | .val h _ _ => some h
  | .col h _ => some h
  | _ => none
theorem khv_ok {h1 : Nat} (h : Rep w t v F) (ht : leafH t = some h1) (hK : K (.int .u32 h1) w) : (nice Tryz.prog).call (.inv v "pub-bracken/pub/immutable.keyHashValue") [] w K Kp := by
  cases t with
  | val h' k x =>
    obtain ⟨b, rfl, h2, h3⟩ := h
    obtain rfl := Option.some.inj ht
    simp only [inv_135_92]
    refine vc92_calls ?_
    simp [-getElem?_pos, -Array.getElem?_eq_getElem, -Int.natCast_add, add_spot, and_assoc, Br_dec, -op_box, -op_st_4, -op_st_22, -op_st_119, -op_st_132, -op_st_167, -op_st_131, -op_st_144, -op_st_2, -op_alloc_134, -op_alloc_131, -op_alloc_173, -op_lit_132_1, -op_lit_132_2, -op_lit_167_1, -op_lit_167_2, vc92, ptr, h3]
    exact hK
  | col h' es =>
    obtain ⟨b, g, cap, rfl, h2, h3, h4, h5, h6⟩ := h
    obtain rfl := Option.some.inj ht
    simp only [inv_138_97]
    refine vc97_calls ?_
    simp [-getElem?_pos, -Array.getElem?_eq_getElem, -Int.natCast_add, add_spot, and_assoc, Br_dec, -op_box, -op_st_4, -op_st_22, -op_st_119, -op_st_132, -op_st_167, -op_st_131, -op_st_144, -op_st_2, -op_alloc_134, -op_alloc_131, -op_alloc_173, -op_lit_132_1, -op_lit_132_2, -op_lit_167_1, -op_lit_167_2, vc97, ptr, h5]
    exact hK
  | _ => cases ht
theorem leaf_ne {h1 : Nat} (ht : leafH t = some h1) : t ≠ .emp := by intro e; subst e; cases ht
def Kin (w : World) (f : Nat → Tr) (vs : Nat → Value) (Fs : Nat → Nat → Prop) (O : Nat → Prop) : Prop :=
  (∀ i, i < 32 → Rep w (f i) (vs i) (Fs i)) ∧ ∀ i, i < 32 → ∀ c, Fs i c → ¬ O c ∧ ∀ j, j < 32 → j ≠ i → ¬ Fs j c
theorem Kin.none {O : Nat → Prop} : Kin w (fun _ => .emp) (fun _ => .nilIface) (fun _ _ => False) O := ⟨fun _ _ => rfl, fun _ _ _ h => h.elim⟩
theorem Kin.put {f : Nat → Tr} {vs : Nat → Value} {Fs : Nat → Nat → Prop} {O O' F1 : Nat → Prop} {i : Nat} (h : Kin w f vs Fs O) (hk : ∀ j, j < 32 → j ≠ i → ∀ c o, Fs j c → w.heap[c]? = some o → w'.heap[c]? = some o)
    (hr : Rep w' t v F1) (ha : ∀ c, F1 c → ∀ j, j < 32 → j ≠ i → ¬ Fs j c) (h1 : ∀ c, F1 c → ¬ O' c) (h2 : ∀ j, j < 32 → j ≠ i → ∀ c, Fs j c → ¬ O' c) :
    Kin w' (Nd.put f i t) (putV vs i v) (fun j => if j = i then F1 else Fs j) O' := by
  refine ⟨fun j hj => ?_, fun j hj c hc => ?_⟩
  · by_cases e : j = i
    · subst e; rw [Nd.put_same]; simpa [putV] using hr
    · rw [Nd.put_ne e]; simp only [putV, if_neg e]; exact (h.1 j hj).mono (fun _ h => h) fun b o hb => hk j hj e b o hb
  · by_cases e : j = i
    · simp only [if_pos e] at hc
      refine ⟨h1 c hc, fun k hk hne hkc => ?_⟩
      simp only [if_neg (show ¬ k = i by omega)] at hkc
      exact ha c hc k hk (by omega) hkc
    · simp only [if_neg e] at hc
      refine ⟨h2 j hj e c hc, fun k hk hne hkc => ?_⟩
      by_cases e' : k = i
      · simp only [if_pos e'] at hkc; exact ha c hkc j hj e hc
      · simp only [if_neg e'] at hkc; exact (h.2 j hj c hc).2 k hk hne hkc
theorem Kin.lt {f : Nat → Tr} {vs : Nat → Value} {Fs : Nat → Nat → Prop} {O : Nat → Prop} (h : Kin w f vs Fs O) : Kin w f vs (fun i c => Fs i c ∧ c < w.heap.size) O :=
  ⟨fun i hi => (h.1 i hi).lt, fun i hi c hc => ⟨(h.2 i hi c hc.1).1, fun j hj hne hc' => (h.2 i hi c hc.1).2 j hj hne hc'.1⟩⟩
theorem Rep.mkB {f : Nat → Tr} {vs : Nat → Value} {Fs : Nat → Nat → Prop} {b g cap : Nat} (hn : g ≠ b) (hb : w.heap[b]? = some (.cells #[.int .u32 (bm f), .slice (some ⟨g, 0, none⟩) (Nd.cnt f) cap] 169 (0, 0))) (hc : Nd.cnt f ≤ cap) (hg : Rw w 119 1 g cap (kids f vs))
    (h : Kin w f vs Fs (fun c => c = b ∨ c = g)) : Rep w (.br false f) (.iface 166 (ptr b)) (fun c => c = b ∨ c = g ∨ ∃ i, i < 32 ∧ Fs i c) :=
  ⟨b, g, cap, vs, Fs, rfl, .inl rfl, .inr (.inl rfl), hn, hb, hc, hg, h.1, fun i hi c hc => ⟨.inr (.inr ⟨i, hi, hc⟩), fun e => (h.2 i hi c hc).1 (.inl e), fun e => (h.2 i hi c hc).1 (.inr e), (h.2 i hi c hc).2⟩⟩
theorem Rep.mkH {f : Nat → Tr} {vs : Nat → Value} {Fs : Nat → Nat → Prop} {b : Nat} {cs : Array Value} (hb : w.heap[b]? = some (.cells cs 173 (0, 0))) (hz : cs.size = 33) (h0 : cs[0]? = some (.int .u64 (Nd.cnt f))) (hv : ∀ i, i < 32 → cs[i + 1]? = some (vs i))
    (h : Kin w f vs Fs (fun c => c = b)) : Rep w (.br true f) (.iface 170 (ptr b)) (fun c => c = b ∨ ∃ i, i < 32 ∧ Fs i c) :=
  ⟨b, cs, vs, Fs, rfl, .inl rfl, hb, hz, h0, hv, h.1, fun i hi c hc => ⟨.inr ⟨i, hi, hc⟩, (h.2 i hi c hc).1, (h.2 i hi c hc).2⟩⟩
theorem merge_ne {n l h1 h2 : Nat} {t : Tr} (l1 : h1 < 2 ^ 32) (l2 : h2 < 2 ^ 32) (hne : h1 ≠ h2) (hp : h1 % 32 ^ l = h2 % 32 ^ l) (hn : n + l = 7) : merge t h1 h2 k x n l ≠ .emp := by
  cases n with
  | zero =>
    obtain rfl : l = 7 := by omega
    rw [Nat.mod_eq_of_lt (by omega), Nat.mod_eq_of_lt (by omega)] at hp
    exact absurd hp hne
  | succ n => rw [merge]; split <;> simp
theorem merge_ok : ∀ (n : Nat) {l s h1 h2 p : Nat} {t : Tr} {v : Value} {F : Nat → Prop} {K : KV} {Kp : KP} {w : World}, Rep w t v F → leafH t = some h1 → h1 < 2 ^ 32 → h2 < 2 ^ 32 → h1 ≠ h2 → h1 % 32 ^ l = h2 % 32 ^ l → n + l = 7 → s = 5 * l →
    (∀ v' w' F', Frm (fun _ => False) w w' → Rep w' (merge t h1 h2 k x n l) v' F' → (∀ b, F' b → F b ∨ w.heap.size ≤ b) → K v' w') → Calls Tryz.prog 94 #[v, .int .u64 s, .int .u32 h2, ek k, ev x] w (ret K Kp)
  | 0, l, s, h1, h2, p, t, v, F, K, Kp, w, hr, ht, l1, l2, hne, hp, hn, hs, hK => by
    obtain rfl : l = 7 := by omega
    rw [Nat.mod_eq_of_lt (by omega), Nat.mod_eq_of_lt (by omega)] at hp
    exact absurd hp hne
  | n + 1, l, s, h1, h2, p, t, v, F, K, Kp, w, hr, ht, l1, l2, hne, hp, hn, hs, hK => by
    have hl : l ≤ 6 := by omega
    have hi1 := frag_lt l h1
    have hi2 := frag_lt l h2
    have hf1 := frag_eq l1 hs hl
    have hf2 := frag_eq l2 hs hl
    have hte := leaf_ne ht
    have hns := next_shift hs hl
    have hb1 := bit_eq hi1
    have hb2 := bit_eq hi2
    have hor := or_u32 (two_pow_lt hi1) (two_pow_lt hi2)
    have hfe : (frag l h1 : Int) = (frag l h2 : Int) ↔ frag l h1 = frag l h2 := by omega
    have hnx1 := mod_next l h1
    have hnx2 := mod_next l h2
    have hbm1 := bm_one (t := t) hi1 hte
    have hbm2 := bm_two (t := t) (u := Nd.val h2 k x) hi1 hi2 hte (by simp)
    have hbm3 : ∀ u : Tr, u ≠ .emp → frag l h1 = frag l h2 → bm (Nd.one (frag l h1) u) = 2 ^ frag l h1 ||| 2 ^ frag l h2 := fun u hu e => by rw [bm_one hi1 hu, ← e, Nat.or_self]
    generalize hi1e : frag l h1 = i1 at *
    generalize hi2e : frag l h2 = i2 at *
    generalize hB : 2 ^ i1 ||| 2 ^ i2 = B at *
    generalize 2 ^ i1 = y1 at *
    generalize 2 ^ i2 = y2 at *
    have h1' := Rep.one hr
    obtain ⟨u, bv, hv⟩ := hr.iface hte
    rw [merge, hi1e, hi2e] at hK
    refine vc94_calls ?_
    simp only [vc94]
    refine op_box_ok fun w k0 z0 b0 => ?_
    replace hr := hr.still k0
    replace hK := fun v' w' F' (hf : Frm (fun _ => False) w w') hr' (hF : ∀ b, F' b → F b ∨ w.heap.size ≤ b) => hK v' w' F' (k0.no hf) hr' fun b hb => (hF b hb).imp id fun h => by omega
    refine khv_ok hr ht ?_
    simp [-getElem?_pos, -Array.getElem?_eq_getElem, -Int.natCast_add, add_spot, and_assoc, Br_dec, -op_box, -op_st_4, -op_st_22, -op_st_119, -op_st_132, -op_st_167, -op_st_131, -op_st_144, -op_st_2, -op_alloc_134, -op_alloc_131, -op_alloc_173, -op_lit_132_1, -op_lit_132_2, -op_lit_167_1, -op_lit_167_2, hf1, hf2, hb1, hb2, hor, hns, hfe]
    refine op_box_ok fun w1 k1 z1 b1 => ?_
    simp only [cells_agg] at b1
    refine ⟨fun e => ?_, fun e => ?_⟩
    · rw [if_pos e] at hK
      have hr1 := hr.lt.still k1
      refine merge_ok n (p := p) hr1 ht l1 l2 hne (by rw [hnx1, hnx2, hp, e]) (by omega) (by omega) fun v' w2 F'' k2 r2' f2' => ?_
      obtain ⟨F', hF', r2, f2, hlt2⟩ : ∃ F' : Nat → Prop, F' = (fun c => F'' c ∧ c < w2.heap.size) ∧ Rep w2 (merge t h1 h2 k x n (l + 1)) v' F' ∧ (∀ b, F' b → F b ∧ b < w.heap.size ∨ w1.heap.size ≤ b) ∧ ∀ b, F' b → b < w2.heap.size := ⟨_, rfl, r2'.lt, fun b hb => f2' b hb.1, fun b hb => hb.2⟩
      have hme : merge t h1 h2 k x n (l + 1) ≠ .emp := merge_ne l1 l2 hne (by rw [hnx1, hnx2, hp, e]) (by omega)
      refine op_lit_ok (lit_167_1 r2.one) fun w3 k3 z3 b3 => ?_
      simp [-getElem?_pos, -Array.getElem?_eq_getElem, -Int.natCast_add, add_spot, and_assoc, Br_dec, -op_box, -op_st_4, -op_st_22, -op_st_119, -op_st_132, -op_st_167, -op_st_131, -op_st_144, -op_st_2, -op_alloc_134, -op_alloc_131, -op_alloc_173, -op_lit_132_1, -op_lit_132_2, -op_lit_167_1, -op_lit_167_2]
      have b1' := ((k1.no k2).no k3)
      refine op_store_ok (by kernel_rfl) ((k2.no k3).get b1 id) (by simp) rfl fun w4 k4 z4 b4 => ?_
      have := k2.size
      have hg : Rw w4 119 1 w2.heap.size 1 [v'] := (Rw.lit (w := w3) (n := 1) rfl (by decide) b3).frame k4 (by omega)
      have hnew : ∀ c, F' c → c < w2.heap.size ∧ c ≠ w.heap.size := fun c hc => ⟨(hlt2 c hc), fun e' => by rcases f2 c hc with h | h <;> omega⟩
      have hkin := (Kin.none (w := w4) (O := fun _ => False)).put (w' := w4) (t := merge t h1 h2 k x n (l + 1)) (v := v') (F1 := F') (O' := fun c => c = w.heap.size ∨ c = w2.heap.size) (i := i1) (fun _ _ _ _ _ h => h.elim)
        ((r2.still k3).frame k4 (fun b hb => (hnew b hb).2)) (fun _ _ _ _ _ h => h) (fun c hc h => by have := hnew c hc; omega) (fun _ _ _ _ h => h.elim)
      refine hK _ w4 _ (((k1.no k2).no k3).old k4 fun b e => .inr (by omega)) (Rep.mkB (cap := 1) (f := Nd.one i1 (merge t h1 h2 k x n (l + 1))) (by omega) (by simpa [cnt_one hi1 hme, hbm3 _ hme e] using b4) (by rw [cnt_one hi1 hme]; omega) (by rw [kids_one hi1 hme]; exact hg) hkin) ?_
      rintro c (rfl | rfl | ⟨i, hi, hc⟩)
      · exact .inr (by omega)
      · exact .inr (by omega)
      · by_cases ei : i = i1
        · simp only [if_pos ei] at hc
          rcases f2 c hc with h | h
          · exact .inl h.1
          · exact .inr (by omega)
        · simp only [if_neg ei] at hc
    · rw [if_neg e] at hK
      refine new_val_ok (x := x) fun bv w2 k2 lv lv2 r2 => ?_
      have hr2 := (hr.lt.still k1).still k2
      have hval : (Value.iface 135 (ptr bv)).oneCell' = true := rfl
      have fin : ∀ w3, ∀ ks : List Value, ks = (if i1 < i2 then [v, .iface 135 (ptr bv)] else [.iface 135 (ptr bv), v]) → Frm (fun _ => False) w2 w3 → w3.heap.size = w2.heap.size + 1 → w3.heap[w2.heap.size]? = some (.cells ks.toArray 119 (0, 0)) →
          (nice Tryz.prog).op (.store 167 (.pointer (some ⟨w.heap.size, 1, none⟩)) (.slice (some ⟨w2.heap.size, 0, none⟩) 2 2)) w3 (fun _ wz => K (.iface 166 (ptr w.heap.size)) wz) Kp := fun w3 ks hks k3 z3 b3 => by
        refine op_store_ok (by kernel_rfl) ((k2.no k3).get b1 id) (by simp) rfl fun w4 k4 z4 b4 => ?_
        have hlen : ks.length = 2 * 1 := by rw [hks]; split <;> rfl
        have hg : Rw w4 119 1 w2.heap.size 2 ks := (Rw.lit (w := w3) (n := 2) hlen (by decide) b3).frame k4 (by omega)
        have hv1 : Nd.val h2 k x ≠ .emp := by simp
        have hk1 := (Kin.none (w := w4) (O := fun _ => False)).put (w' := w4) (t := t) (v := v) (F1 := fun b => F b ∧ b < w.heap.size) (O' := fun c => c = w.heap.size ∨ c = w2.heap.size) (i := i1) (fun _ _ _ _ _ h => h.elim)
          ((hr2.still k3).frame k4 (fun b hb => by omega)) (fun _ _ _ _ _ h => h) (fun c hc h => by omega) (fun _ _ _ _ h => h.elim)
        have hk2 := hk1.put (w' := w4) (t := Nd.val h2 k x) (v := .iface 135 (ptr bv)) (F1 := fun b => b = bv) (O' := fun c => c = w.heap.size ∨ c = w2.heap.size) (i := i2) (fun _ _ _ _ _ _ h => h)
          ((r2.still k3).frame k4 (fun b hb => by omega)) (fun c hc j hj hne h => by
            by_cases ej : j = i1
            · simp only [if_pos ej] at h; omega
            · simp only [if_neg ej] at h) (fun c hc h => by omega) (fun j hj hne c h => by
            by_cases ej : j = i1
            · simp only [if_pos ej] at h; omega
            · simp only [if_neg ej] at h)
        refine hK _ w4 _ (((k1.no k2).no k3).old k4 fun b e => .inr (by omega)) (Rep.mkB (cap := 2) (f := Nd.put (Nd.one i1 t) i2 (Nd.val h2 k x)) (by omega) (by simpa [cnt_two hi1 hi2 e hte hv1, hbm2] using b4) (by rw [cnt_two hi1 hi2 e hte hv1]; omega) (by rw [kids_two hi1 hi2 e hte hv1, ← hks]; exact hg) hk2) ?_
        rintro c (rfl | rfl | ⟨i, hi, hc⟩)
        · exact .inr (by omega)
        · exact .inr (by omega)
        · by_cases ei : i = i2
          · simp only [if_pos ei] at hc; exact .inr (by omega)
          · simp only [if_neg ei] at hc
            by_cases ei' : i = i1
            · simp only [if_pos ei'] at hc; exact .inl hc.1
            · simp only [if_neg ei'] at hc
      refine ⟨fun hlt => ?_, fun hle => ?_⟩
      · refine op_lit_ok (lit_167_2 h1' hval) fun w3 k3 z3 b3 => ?_
        simp [-getElem?_pos, -Array.getElem?_eq_getElem, -Int.natCast_add, add_spot, and_assoc, Br_dec, -op_box, -op_st_4, -op_st_22, -op_st_119, -op_st_132, -op_st_167, -op_st_131, -op_st_144, -op_st_2, -op_alloc_134, -op_alloc_131, -op_alloc_173, -op_lit_132_1, -op_lit_132_2, -op_lit_167_1, -op_lit_167_2]
        exact fin w3 [v, .iface 135 (ptr bv)] (by rw [if_pos hlt]) k3 z3 b3
      · refine op_lit_ok (lit_167_2 hval h1') fun w3 k3 z3 b3 => ?_
        simp [-getElem?_pos, -Array.getElem?_eq_getElem, -Int.natCast_add, add_spot, and_assoc, Br_dec, -op_box, -op_st_4, -op_st_22, -op_st_119, -op_st_132, -op_st_167, -op_st_131, -op_st_144, -op_st_2, -op_alloc_134, -op_alloc_131, -op_alloc_173, -op_lit_132_1, -op_lit_132_2, -op_lit_167_1, -op_lit_167_2]
        exact fin w3 [.iface 135 (ptr bv), v] (by rw [if_neg (by omega)]) k3 z3 b3
end Go.Proofs.YtbghmbbhkoniiaaGreat.S
end
section
/- Setting a key in a leaf. -/
namespace Go.Proofs.YtbghmbbhkoniiaaGreat.S
open Go.Vc Go.Proofs Go.Proofs.YtbghmbbhkoniiaaGreat Go.Vc.Nd
variable {w w' : World} {v hv : Value} {t : Tr} {F F' : Nat → Prop} {K : KV} {Kp : KP} {hash : Ky → Nat} {k : Ky} {x : Vl} {l s rb : Nat} {r0 mu : Bool}
theorem WF.hash_lt (hH : IsH hv hash) {h1 p : Nat} (hW : WF hash t l p) (ht : leafH t = some h1) : h1 < 2 ^ 32 ∧ h1 % 32 ^ l = p := by
  cases t with
  | val h' k x => obtain rfl := Option.some.inj ht; exact ⟨by rw [hW.1]; exact hH.lt _, hW.2⟩
  | col h' es =>
    obtain rfl := Option.some.inj ht
    obtain ⟨h1, h2, h3, h4⟩ := hW
    cases es with
    | nil => simp at h1
    | cons e es => exact ⟨by rw [← h3 e (by simp)]; exact hH.lt _, h4⟩
  | _ => cases ht
/-! ### rows of entries -/
theorem ents_take (es : List (Ky × Vl)) (i : Nat) : (ents es).take (i * 1) = ents (es.take i) := by
  induction es generalizing i with
  | nil => simp [ents]
  | cons e es ih =>
    cases i with
    | zero => simp [ents]
    | succ i =>
      have h : ents (e :: es) = ent e ++ ents es := rfl
      have h' : ents (List.take (i + 1) (e :: es)) = ent e ++ ents (es.take i) := rfl
      rw [h, h', ← ih, Nat.add_mul, Nat.one_mul, Nat.add_comm (i * 1), show (ent e ++ ents es).take (1 + i * 1) = ent e ++ (ents es).take (i * 1) from by rw [← ent_len e, List.take_length_add_append]]
theorem ents_drop (es : List (Ky × Vl)) (i : Nat) : (ents es).drop (i * 1) = ents (es.drop i) := by
  induction es generalizing i with
  | nil => simp [ents]
  | cons e es ih =>
    cases i with
    | zero => simp [ents]
    | succ i =>
      have h : ents (e :: es) = ent e ++ ents es := rfl
      rw [h, Nat.add_mul, Nat.one_mul, Nat.add_comm (i * 1), show (ent e ++ ents es).drop (1 + i * 1) = (ents es).drop (i * 1) from by rw [← ent_len e, List.drop_length_add_append], ih]; rfl
theorem ents_append (es es' : List (Ky × Vl)) : ents (es ++ es') = ents es ++ ents es' := by simp [ents]
theorem ents_set {es : List (Ky × Vl)} {i : Nat} (hi : i < es.length) (e : Ky × Vl) : lw (ents es) (i * 1) (ent e) = ents (es.set i e) := by
  rw [List.set_eq_take_append_cons_drop, if_pos hi, ents_append, lw, ents_take, ent_len, show i * 1 + 1 = (i + 1) * 1 from by omega, ents_drop]
  simp [ents]
theorem ents_set_at {es : List (Ky × Vl)} {i o : Nat} {e : Ky × Vl} {l : List Value} (hi : i < es.length) (ho : o = i * 1) (hl : l = ent e) : lw (ents es) o l = ents (es.set i e) := by
  rw [ho, hl, ents_set hi]
theorem ents_snoc_at {es : List (Ky × Vl)} {o : Nat} {zs l : List Value} {e : Ky × Vl} (hz : zs.length = 1) (ho : o = es.length * 1) (hl : l = ent e) : lw (ents es ++ zs) o l = ents (es ++ [e]) := by
  have h : lw (ents es ++ zs) (ents es).length (ent e) = ents es ++ ent e := by
    have : zs.length = (ent e).length := by rw [hz, ent_len]
    rw [lw, List.take_left, List.append_assoc, List.drop_append, show (ents es).length + (ent e).length - (ents es).length = (ent e).length from by omega, ← this, List.drop_length, List.drop_of_length_le (by omega)]; simp
  rw [ho, hl, ← ents_len, h, ents_append]; simp [ents]
theorem Rw_to {w : World} {e s g cap : Nat} {xs ys : List Value} (h : Rw w e s g cap xs) (he : xs = ys) : Rw w e s g cap ys := he ▸ h
theorem lw_all {zs l : List Value} (h : zs.length = l.length) : lw zs 0 l = l := by simp [lw, ← h]
theorem lw_first {zs l : List Value} : lw zs 0 l = l ++ zs.drop l.length := by simp [lw]
theorem meet_ok {h1 p : Nat} {t : Tr} (hH : IsH hv hash) (hW : WF hash t l p) (hp : hash k % 32 ^ l = p) (hl : l ≤ 7) (hs : s = 5 * l) (h : Rep w t v F) (ht : leafH t = some h1) (hne : h1 ≠ hash k)
    (hK : ∀ v' w' F', Frm (fun _ => False) w w' → Rep w' (merge t h1 (hash k) k x (7 - l) l) v' F' → (∀ b, F' b → F b ∨ w.heap.size ≤ b) → K v' w') : Calls Tryz.prog 94 #[v, .int .u64 s, .int .u32 (hash k), ek k, ev x] w (ret K Kp) :=
  merge_ok (7 - l) (p := p) h ht (WF.hash_lt hH hW ht).1 (hH.lt k) hne (by rw [(WF.hash_lt hH hW ht).2, hp]) (by omega) hs hK
theorem setV_ok {h' : Nat} {k' : Ky} {x' : Vl} {p : Nat} (hH : IsH hv hash) (hW : WF hash (.val h' k' x') l p) (hp : hash k % 32 ^ l = p) (hl : l ≤ 7) (hs : s = 5 * l) (h : Rep w (.val h' k' x') v F) (hr : flag w rb r0) (hrb : ¬ F rb)
    (hK : Sets w mu F rb (r0 || !decide (k' = k)) (setIn (hash k) k x (.val h' k' x') l) K) :
    (nice Tryz.prog).call (.inv v "pub-bracken/pub/immutable.set") [ek k, ev x, .int .u64 s, .int .u32 (hash k), hv, .bool mu, ptr rb] w K Kp := by
  have h0 := h
  obtain ⟨b, rfl, h2, h3⟩ := h
  simp only [inv_135_93]
  refine vc93_calls ?_
  simp only [vc93]
  refine op_box_ok fun w k0 z0 b0 => ?_
  replace h0 := h0.still k0
  replace h3 := k0.get h3 id
  replace hr := hr.frame k0 id
  replace hK := hK.still k0
  simp [-getElem?_pos, -Array.getElem?_eq_getElem, -Int.natCast_add, add_spot, and_assoc, Br_dec, -op_box, -op_st_4, -op_st_22, -op_st_119, -op_st_132, -op_st_167, -op_st_131, -op_st_144, -op_st_2, -op_alloc_134, -op_alloc_131, -op_alloc_173, -op_lit_132_1, -op_lit_132_2, -op_lit_167_1, -op_lit_167_2, vc93, ptr, h3, hH.nilE]
  refine hH.eqv fun w1 k1 => ?_
  have k1 := Frm.dr k1
  have h3' := k1.get h3 id
  have hr' := hr.frame k1 id
  have hne : b ≠ rb := fun e => hrb (e ▸ h2)
  rw [Sets, setIn] at hK
  by_cases hk : k' = k
  · rw [if_pos hk] at hK
    cases mu with
    | true =>
      simp [-getElem?_pos, -Array.getElem?_eq_getElem, -Int.natCast_add, add_spot, and_assoc, Br_dec, -op_box, -op_st_4, -op_st_22, -op_st_119, -op_st_132, -op_st_167, -op_st_131, -op_st_144, -op_st_2, -op_alloc_134, -op_alloc_131, -op_alloc_173, -op_lit_132_1, -op_lit_132_2, -op_lit_167_1, -op_lit_167_2, hk]
      refine op_fa0_ok (by kernel_rfl) (val_val h3') ?_
      simp [-getElem?_pos, -Array.getElem?_eq_getElem, -Int.natCast_add, add_spot, and_assoc, Br_dec, -op_box, -op_st_4, -op_st_22, -op_st_119, -op_st_132, -op_st_167, -op_st_131, -op_st_144, -op_st_2, -op_alloc_134, -op_alloc_131, -op_alloc_173, -op_lit_132_1, -op_lit_132_2, -op_lit_167_1, -op_lit_167_2]
      exact hK _ w1 F (k1.to fun _ h => h.elim) ⟨b, rfl, h2, by simpa [hk] using h3'⟩ (fun _ h => .inl h) (by rw [decide_eq_true hk]; simpa using hr')
    | false =>
      simp [-getElem?_pos, -Array.getElem?_eq_getElem, -Int.natCast_add, add_spot, and_assoc, Br_dec, -op_box, -op_st_4, -op_st_22, -op_st_119, -op_st_132, -op_st_167, -op_st_131, -op_st_144, -op_st_2, -op_alloc_134, -op_alloc_131, -op_alloc_173, -op_lit_132_1, -op_lit_132_2, -op_lit_167_1, -op_lit_167_2, hk, h3']
      refine new_val_ok (x := x) fun bv w2 k2 lv lv2 r2 => ?_
      replace k2 : Frm (fun _ => False) w1 w2 := by first | exact k2 | exact Frm.dr k2
      replace lv : w1.heap.size ≤ bv := lv
      have := hK _ w2 _ ((k1.no k2).mono fun _ h _ => h.elim) r2 (fun c hc => .inr (by have := k1.size; omega)) (by rw [decide_eq_true hk]; simpa using hr'.frame k2 id)
      exact this
  · rw [if_neg hk] at hK
    simp [-getElem?_pos, -Array.getElem?_eq_getElem, -Int.natCast_add, add_spot, and_assoc, Br_dec, -op_box, -op_st_4, -op_st_22, -op_st_119, -op_st_132, -op_st_167, -op_st_131, -op_st_144, -op_st_2, -op_alloc_134, -op_alloc_131, -op_alloc_173, -op_lit_132_1, -op_lit_132_2, -op_lit_167_1, -op_lit_167_2, hk]
    refine raise_ok hr' fun w2 k2 z2 f2 => ?_
    have h3'' := k2.get h3' (fun e => hne e)
    by_cases hh : h' = hash k
    · have hh' : ((h' : Nat) : Int) = ((hash k : Nat) : Int) := by omega
      rw [if_pos hh] at hK
      simp [-getElem?_pos, -Array.getElem?_eq_getElem, -Int.natCast_add, add_spot, and_assoc, Br_dec, -op_box, -op_st_4, -op_st_22, -op_st_119, -op_st_132, -op_st_167, -op_st_131, -op_st_144, -op_st_2, -op_alloc_134, -op_alloc_131, -op_alloc_173, -op_lit_132_1, -op_lit_132_2, -op_lit_167_1, -op_lit_167_2, ptr, h3'', hh']
      refine ld_fa0_ok (val_val (w := w2.drew) h3'') ?_
      simp [-getElem?_pos, -Array.getElem?_eq_getElem, -Int.natCast_add, add_spot, and_assoc, Br_dec, -op_box, -op_st_4, -op_st_22, -op_st_119, -op_st_132, -op_st_167, -op_st_131, -op_st_144, -op_st_2, -op_alloc_134, -op_alloc_131, -op_alloc_173, -op_lit_132_1, -op_lit_132_2, -op_lit_167_1, -op_lit_167_2]
      refine op_lit_ok lit_132_2 fun w3 k3 z3 b3 => ?_
      simp [-getElem?_pos, -Array.getElem?_eq_getElem, -Int.natCast_add, add_spot, and_assoc, Br_dec, -op_box, -op_st_4, -op_st_22, -op_st_119, -op_st_132, -op_st_167, -op_st_131, -op_st_144, -op_st_2, -op_alloc_134, -op_alloc_131, -op_alloc_173, -op_lit_132_1, -op_lit_132_2, -op_lit_167_1, -op_lit_167_2]
      refine op_box_ok fun w4 k4 z4 b4 => ?_
      have k3 := Frm.dr k3
      have hg : Rw w4 131 1 w2.heap.size 2 (ents [(k', x'), (k, x)]) := (Rw.lit (w := w3) (n := 2) (by rw [ents_len]; rfl) (by decide) (by simpa [ents, ent] using b3)).frame k4 id
      have := k1.size
      refine hK _ w4 (fun c => c = w3.heap.size ∨ c = w2.heap.size) ((k1.fst (k2.old (k3.no k4) fun _ h => h.elim)).to fun c hc => .inl hc)
        ⟨w3.heap.size, w2.heap.size, 2, rfl, .inl rfl, .inr rfl, by simp at z3; omega, by simpa [hh] using b4, by simp, hg⟩ (fun c hc => .inr (by simp at z3; omega)) ?_
      rw [decide_eq_false hk]
      simpa using (f2.frame k3 id).frame k4 id
    · have hh' : ¬ ((h' : Nat) : Int) = ((hash k : Nat) : Int) := by omega
      rw [if_neg hh] at hK
      have h0' := (h0.still k1).frame k2 (fun c hc e => hrb (e ▸ hc))
      simp [-getElem?_pos, -Array.getElem?_eq_getElem, -Int.natCast_add, add_spot, and_assoc, Br_dec, -op_box, -op_st_4, -op_st_22, -op_st_119, -op_st_132, -op_st_167, -op_st_131, -op_st_144, -op_st_2, -op_alloc_134, -op_alloc_131, -op_alloc_173, -op_lit_132_1, -op_lit_132_2, -op_lit_167_1, -op_lit_167_2, ptr, h3'', hh']
      refine meet_ok (x := x) hH hW hp hl hs h0' rfl hh fun v' w3 F' k3 r3 f3 => ?_
      refine hK v' w3 F' ((k1.fst (k2.old k3 fun _ h => h.elim)).to fun c hc => .inl hc) r3 (fun c hc => (f3 c hc).imp id fun h => by have := k1.size; omega) ?_
      rw [decide_eq_false hk]
      simpa using f2.frame k3 id
theorem setC_ok {h' : Nat} {es : List (Ky × Vl)} {p : Nat} (hH : IsH hv hash) (hW : WF hash (.col h' es) l p) (hp : hash k % 32 ^ l = p) (hl : l ≤ 7) (hs : s = 5 * l) (hz : es.length ≤ 1000000) (h : Rep w (.col h' es) v F) (hr : flag w rb r0) (hrb : ¬ F rb)
    (hK : Sets w mu F rb (r0 || (!decide (h' = hash k) || (find es k).isNone)) (setIn (hash k) k x (.col h' es) l) K) :
    (nice Tryz.prog).call (.inv v "pub-bracken/pub/immutable.set") [ek k, ev x, .int .u64 s, .int .u32 (hash k), hv, .bool mu, ptr rb] w K Kp := by
  have h0 := h
  obtain ⟨b, g, cap, rfl, h2, h3, h4, hb, h6, hg⟩ := h
  simp only [inv_138_98]
  refine vc98_calls ?_
  simp only [vc98]
  refine op_box_ok fun w k0 z0 b0 => ?_
  replace h0 := h0.still k0
  replace hb := k0.get hb id
  replace hg := hg.frame k0 id
  replace hr := hr.frame k0 id
  replace hK := hK.still k0
  have hne : b ≠ rb := fun e => hrb (e ▸ h2)
  have hgr : g ≠ rb := fun e => hrb (e ▸ h3)
  rw [Sets, setIn] at hK
  by_cases hh : h' = hash k
  · have hh' : ((h' : Nat) : Int) = ((hash k : Nat) : Int) := by omega
    rw [if_pos hh] at hK
    rw [decide_eq_true hh] at hK
    cases mu with
    | true =>
      simp [-getElem?_pos, -Array.getElem?_eq_getElem, -Int.natCast_add, add_spot, and_assoc, Br_dec, -op_box, -op_st_4, -op_st_22, -op_st_119, -op_st_132, -op_st_167, -op_st_131, -op_st_144, -op_st_2, -op_alloc_134, -op_alloc_131, -op_alloc_173, -op_lit_132_1, -op_lit_132_2, -op_lit_167_1, -op_lit_167_2, vc98, ptr, hb, hh']
      refine indexC_ok hH hb hg h6 fun w1 k1 => ?_
      have hb1 := k1.get hb id
      have hg1 := hg.frame k1 id
      have hr1 := hr.frame k1 id
      cases hx : find es k with
      | none =>
        rw [hx] at hK
        simp [-getElem?_pos, -Array.getElem?_eq_getElem, -Int.natCast_add, add_spot, and_assoc, Br_dec, -op_box, -op_st_4, -op_st_22, -op_st_119, -op_st_132, -op_st_167, -op_st_131, -op_st_144, -op_st_2, -op_alloc_134, -op_alloc_131, -op_alloc_173, -op_lit_132_1, -op_lit_132_2, -op_lit_167_1, -op_lit_167_2, idxV]
        refine raise_ok hr1 fun w2 k2 z2 f2 => ?_
        have hb2 := k2.get hb1 hne
        have hg2 := hg1.frame k2 hgr
        simp [-getElem?_pos, -Array.getElem?_eq_getElem, -Int.natCast_add, add_spot, and_assoc, Br_dec, -op_box, -op_st_4, -op_st_22, -op_st_119, -op_st_132, -op_st_167, -op_st_131, -op_st_144, -op_st_2, -op_alloc_134, -op_alloc_131, -op_alloc_173, -op_lit_132_1, -op_lit_132_2, -op_lit_167_1, -op_lit_167_2, hb2]
        refine op_lit_ok lit_132_1 fun w3 k3 z3 b3 => ?_
        have k3 := Frm.dr k3
        have hg3 := hg2.frame k3 id
        have hq : Rw w3 131 1 w2.heap.size 1 (ent (k, x)) := Rw.lit (n := 1) (ent_len _) (by decide) (by simpa [ent] using b3)
        have hb3' := k3.get hb2 id
        simp [-getElem?_pos, -Array.getElem?_eq_getElem, -Int.natCast_add, add_spot, and_assoc, Br_dec, -op_box, -op_st_4, -op_st_22, -op_st_119, -op_st_132, -op_st_167, -op_st_131, -op_st_144, -op_st_2, -op_alloc_134, -op_alloc_131, -op_alloc_173, -op_lit_132_1, -op_lit_132_2, -op_lit_167_1, -op_lit_167_2, hb3']
        refine op_appendR (m := 1) (apE) hg3 (ents_len es) h6 hq (by rw [ent_len]) (fun u hu => ents_one (es := [(k, x)]) u (by simpa [ents] using hu)) (by omega) (by omega) fun w4 g' cap' k4 hg4 hc4 hgg => ?_
        have hb3 := (k3.get hb2 id)
        have hb4 := k4.get hb3 (fun e => h4 e.symm)
        refine op_store_ok (by kernel_rfl) hb4 (by simp) rfl fun w5 k5 z5 b5 => ?_
        have hgb : g' ≠ b := by
          rcases hgg with rfl | rfl
          · exact h4
          · have := lt_of_get hb3; omega
        have hg5 := hg4.frame k5 hgb
        have hrg : g' ≠ rb := by
          rcases hgg with rfl | rfl
          · exact hgr
          · have := lt_of_get (f2.frame k3 id); omega
        have f5 := ((f2.frame k3 id).frame k4 (fun e => hgr e.symm)).frame k5 (fun e => hne e.symm)
        refine hK _ w5 (fun c => c = b ∨ c = g') ((k1.fst ((k2.tr (k3.fst k4)).tr k5)).to fun c hc => ?_) ⟨b, g', cap', rfl, .inl rfl, .inr rfl, hgb, ?_, ?_, ?_⟩ (fun c hc => ?_) ?_
        · rcases hc with (hc | hc) | hc
          · exact .inl hc
          · exact .inr ⟨rfl, hc ▸ h3⟩
          · exact .inr ⟨rfl, hc ▸ h2⟩
        · simpa [upd, hx] using b5
        · simpa [upd, hx] using hc4
        · simpa [upd, hx, ents_append, ents] using hg5
        · rcases hc with rfl | rfl
          · exact .inl h2
          · rcases hgg with rfl | rfl
            · exact .inl h3
            · exact .inr (by have := k1.size; have := k3.size; omega)
        · simpa using f5
      | some i =>
        rw [hx] at hK
        obtain ⟨hi, hik, _⟩ := find_some hx
        simp [-getElem?_pos, -Array.getElem?_eq_getElem, -Int.natCast_add, add_spot, and_assoc, Br_dec, -op_box, -op_st_4, -op_st_22, -op_st_119, -op_st_132, -op_st_167, -op_st_131, -op_st_144, -op_st_2, -op_alloc_134, -op_alloc_131, -op_alloc_173, -op_lit_132_1, -op_lit_132_2, -op_lit_167_1, -op_lit_167_2, idxV, hb1, hi]
        refine op_storeRN (n := 1) (by kernel_rfl) rfl hg1 (by rw [ents_len]; omega) (fun u hu => ents_one (es := [(k, x)]) u (by simpa [ents, ent] using hu)) fun w2 k2 z2 hg2 => ?_
        have hg2 : Rw w2 131 1 g cap (ents (es.set i (k, x))) := Rw_to hg2 (ents_set_at hi (by omega) rfl)
        have k2 := Frm.dr k2
        have hb2 := k2.get hb1 (fun e => h4 e.symm)
        refine hK _ w2 F ((k1.fst k2).to fun c hc => .inr ⟨rfl, hc ▸ h3⟩) ⟨b, g, cap, rfl, h2, h3, h4, ?_, ?_, ?_⟩ (fun _ h => .inl h) ?_
        · simpa [upd, hx, hh] using hb2
        · simpa [upd, hx] using h6
        · simpa [upd, hx] using hg2
        · simpa using hr1.frame k2 (fun e => hgr e.symm)
    | false =>
      simp [-getElem?_pos, -Array.getElem?_eq_getElem, -Int.natCast_add, add_spot, and_assoc, Br_dec, -op_box, -op_st_4, -op_st_22, -op_st_119, -op_st_132, -op_st_167, -op_st_131, -op_st_144, -op_st_2, -op_alloc_134, -op_alloc_131, -op_alloc_173, -op_lit_132_1, -op_lit_132_2, -op_lit_167_1, -op_lit_167_2, vc98, ptr, hb, hh']
      refine op_box_ok fun w1 k1 z1 b1 => ?_
      have hb1 := k1.get hb id
      have hg1 := hg.frame k1 id
      have hr1 := hr.frame k1 id
      refine indexC_ok hH hb1 hg1 h6 fun w2 k2 => ?_
      have bn2 := k2.get b1 id
      have hb2 := k2.get hb1 id
      have hg2 := hg1.frame k2 id
      have hr2 := hr1.frame k2 id
      have l1 := lt_of_get hb
      have l2 := lt_of_get hr
      have l3 := hg.lt
      have s2 := k2.size
      cases hx : find es k with
      | none =>
        rw [hx] at hK
        simp [-getElem?_pos, -Array.getElem?_eq_getElem, -Int.natCast_add, add_spot, and_assoc, Br_dec, -op_box, -op_st_4, -op_st_22, -op_st_119, -op_st_132, -op_st_167, -op_st_131, -op_st_144, -op_st_2, -op_alloc_134, -op_alloc_131, -op_alloc_173, -op_lit_132_1, -op_lit_132_2, -op_lit_167_1, -op_lit_167_2, idxV]
        refine raise_ok hr2 fun w3 k3 z3 f3 => ?_
        have bn3 := k3.get bn2 (by omega)
        have hb3 := k3.get hb2 hne
        have hg3 := hg2.frame k3 hgr
        simp [-getElem?_pos, -Array.getElem?_eq_getElem, -Int.natCast_add, add_spot, and_assoc, Br_dec, -op_box, -op_st_4, -op_st_22, -op_st_119, -op_st_132, -op_st_167, -op_st_131, -op_st_144, -op_st_2, -op_alloc_134, -op_alloc_131, -op_alloc_173, -op_lit_132_1, -op_lit_132_2, -op_lit_167_1, -op_lit_167_2, hb3, wrap_i64_small (n := (es.length : Int) + 1) (by omega) (by omega)]
        refine op_make_ok (n := es.length + 1) apE (by omega) (by omega) fun w4 zs k4 z4 hzs q4 => ?_
        have bn4 := k4.get bn3 id
        have hb4 := k4.get hb3 id
        have hg4 := hg3.frame k4 id
        have f4 := f3.frame k4 id
        refine op_store_ok (by kernel_rfl) bn4 (by simp) rfl fun w5 k5 z5 bn5 => ?_
        have hb5 := k5.get hb4 (by omega)
        have hg5 := hg4.frame k5 (by omega)
        have f5 := f4.frame k5 (by omega)
        have q5 := q4.frame k5 (by omega)
        simp only [cells_agg] at bn5
        simp [-getElem?_pos, -Array.getElem?_eq_getElem, -Int.natCast_add, add_spot, and_assoc, Br_dec, -op_box, -op_st_4, -op_st_22, -op_st_119, -op_st_132, -op_st_167, -op_st_131, -op_st_144, -op_st_2, -op_alloc_134, -op_alloc_131, -op_alloc_173, -op_lit_132_1, -op_lit_132_2, -op_lit_167_1, -op_lit_167_2, bn5, hb5]
        refine op_copyR (n := es.length) (by kernel_rfl) q5.drew hg5.drew (by omega) (by rw [hzs]; omega) (by rw [ents_len]; omega) ents_one fun w6 k6 z6 q6 => ?_
        have k6 := Frm.dr k6
        have bn6 := k6.get bn5 (by omega)
        have f6 := f5.frame k6 (by omega)
        have hq : lw zs 0 (List.take (es.length * 1) (List.drop 0 (ents es))) = ents es ++ zs.drop (es.length * 1) := by
          rw [List.drop_zero, List.take_of_length_le (by rw [ents_len]; omega), lw_first, ents_len]
        rw [hq] at q6
        have hm1 : IntKind.i64.wrap (((es.length + 1 : Nat) : Int) - 1) = (es.length : Int) := by rw [IntKind.wrap_i64]; omega
        have hm2 : es.length < es.length + 1 := by omega
        simp [-getElem?_pos, -Array.getElem?_eq_getElem, -Int.natCast_add, add_spot, and_assoc, Br_dec, -op_box, -op_st_4, -op_st_22, -op_st_119, -op_st_132, -op_st_167, -op_st_131, -op_st_144, -op_st_2, -op_alloc_134, -op_alloc_131, -op_alloc_173, -op_lit_132_1, -op_lit_132_2, -op_lit_167_1, -op_lit_167_2, bn6, hm1]
        refine op_storeRN (n := 1) (by kernel_rfl) rfl q6.drew (by simp [ents_len, hzs] <;> omega) (fun u hu => ents_one (es := [(k, x)]) u (by simpa [ents, ent] using hu)) fun w7 k7 z7 q7 => ?_
        have k7 := Frm.dr k7
        have bn7 := k7.get bn6 (by omega)
        have f7 := f6.frame k7 (by omega)
        have q7 : Rw w7 131 1 w3.heap.size (es.length + 1) (ents (es ++ [(k, x)])) := Rw_to q7 (ents_snoc_at (by rw [List.length_drop, hzs]; omega) (by omega) rfl)
        refine hK _ w7 (fun c => c = w.heap.size ∨ c = w3.heap.size) (((k1.no k2).fst k3).old ((k4.fst (k5.tr k6)).tr k7) (fun c hc => .inr (by omega)) |>.to fun c hc => .inl hc) ⟨w.heap.size, w3.heap.size, es.length + 1, rfl, .inl rfl, .inr rfl, by omega, ?_, ?_, ?_⟩ (fun c hc => .inr (by omega)) ?_
        · simpa [upd, hx, hh] using bn7
        · simp [upd, hx]
        · simpa [upd, hx] using q7
        · simpa using f7
      | some i =>
        rw [hx] at hK
        obtain ⟨hi, hik, _⟩ := find_some hx
        simp [-getElem?_pos, -Array.getElem?_eq_getElem, -Int.natCast_add, add_spot, and_assoc, Br_dec, -op_box, -op_st_4, -op_st_22, -op_st_119, -op_st_132, -op_st_167, -op_st_131, -op_st_144, -op_st_2, -op_alloc_134, -op_alloc_131, -op_alloc_173, -op_lit_132_1, -op_lit_132_2, -op_lit_167_1, -op_lit_167_2, idxV, hb2]
        refine op_make_ok (n := es.length) apE (by omega) (by omega) fun w4 zs k4 z4 hzs q4 => ?_
        have bn4 := k4.get bn2 id
        have hb4 := k4.get hb2 id
        have hg4 := hg2.frame k4 id
        have f4 := hr2.frame k4 id
        refine op_store_ok (by kernel_rfl) bn4 (by simp) rfl fun w5 k5 z5 bn5 => ?_
        have hb5 := k5.get hb4 (by omega)
        have hg5 := hg4.frame k5 (by omega)
        have f5 := f4.frame k5 (by omega)
        have q5 := q4.frame k5 (by omega)
        simp only [cells_agg] at bn5
        simp [-getElem?_pos, -Array.getElem?_eq_getElem, -Int.natCast_add, add_spot, and_assoc, Br_dec, -op_box, -op_st_4, -op_st_22, -op_st_119, -op_st_132, -op_st_167, -op_st_131, -op_st_144, -op_st_2, -op_alloc_134, -op_alloc_131, -op_alloc_173, -op_lit_132_1, -op_lit_132_2, -op_lit_167_1, -op_lit_167_2, bn5, hb5]
        refine op_copyR (n := es.length) (by kernel_rfl) q5.drew hg5.drew (by omega) (by rw [hzs]; omega) (by rw [ents_len]; omega) ents_one fun w6 k6 z6 q6 => ?_
        have k6 := Frm.dr k6
        have bn6 := k6.get bn5 (by omega)
        have f6 := f5.frame k6 (by omega)
        have hq : lw zs 0 (List.take (es.length * 1) (List.drop 0 (ents es))) = ents es := by
          rw [List.drop_zero, List.take_of_length_le (by rw [ents_len]; omega), lw_all (by rw [hzs, ents_len])]
        rw [hq] at q6
        simp [-getElem?_pos, -Array.getElem?_eq_getElem, -Int.natCast_add, add_spot, and_assoc, Br_dec, -op_box, -op_st_4, -op_st_22, -op_st_119, -op_st_132, -op_st_167, -op_st_131, -op_st_144, -op_st_2, -op_alloc_134, -op_alloc_131, -op_alloc_173, -op_lit_132_1, -op_lit_132_2, -op_lit_167_1, -op_lit_167_2, bn6, hi]
        refine op_storeRN (n := 1) (by kernel_rfl) rfl q6 (by rw [ents_len]; omega) (fun u hu => ents_one (es := [(k, x)]) u (by simpa [ents, ent] using hu)) fun w7 k7 z7 q7 => ?_
        have k7 := Frm.dr k7
        have bn7 := k7.get bn6 (by omega)
        have f7 := f6.frame k7 (by omega)
        have q7 : Rw w7 131 1 w2.heap.size es.length (ents (es.set i (k, x))) := Rw_to q7 (ents_set_at hi (by omega) rfl)
        refine hK _ w7 (fun c => c = w.heap.size ∨ c = w2.heap.size) ((((k1.no k2).no k4).old ((k5.tr k6).tr k7) fun c hc => .inr (by omega)).to fun c hc => hc.elim) ⟨w.heap.size, w2.heap.size, es.length, rfl, .inl rfl, .inr rfl, by omega, ?_, ?_, ?_⟩ (fun c hc => .inr (by omega)) ?_
        · simpa [upd, hx, hh] using bn7
        · simp [upd, hx]
        · simpa [upd, hx] using q7
        · simpa using f7
  · have hh' : ¬ ((h' : Nat) : Int) = ((hash k : Nat) : Int) := by omega
    rw [if_neg hh] at hK
    simp [-getElem?_pos, -Array.getElem?_eq_getElem, -Int.natCast_add, add_spot, and_assoc, Br_dec, -op_box, -op_st_4, -op_st_22, -op_st_119, -op_st_132, -op_st_167, -op_st_131, -op_st_144, -op_st_2, -op_alloc_134, -op_alloc_131, -op_alloc_173, -op_lit_132_1, -op_lit_132_2, -op_lit_167_1, -op_lit_167_2, vc98, ptr, hb, hh']
    refine raise_ok hr fun w2 k2 z2 f2 => ?_
    have h0' := h0.frame k2 (fun c hc e => hrb (e ▸ hc))
    refine meet_ok (x := x) hH hW hp hl hs h0' rfl hh fun v' w3 F' k3 r3 f3 => ?_
    refine hK v' w3 F' ((k2.old k3 fun _ h => h.elim).to fun c hc => .inl hc) r3 (fun c hc => (f3 c hc).imp id fun h => by omega) ?_
    rw [decide_eq_false hh]
    simpa using f2.frame k3 id
end Go.Proofs.YtbghmbbhkoniiaaGreat.S
end
section
/- Setting a key in a branch. -/
namespace Go.Proofs.YtbghmbbhkoniiaaGreat.S
open Go.Vc Go.Proofs Go.Proofs.YtbghmbbhkoniiaaGreat Go.Vc.Nd
variable {w : World} {v hv : Value} {t : Tr} {F F' : Nat → Prop} {K : KV} {Kp : KP} {hash : Ky → Nat} {k : Ky} {x : Vl} {l s rb : Nat} {r0 mu : Bool}
theorem kids_one_cell {f : Nat → Tr} {vs : Nat → Value} {Fs : Nat → Nat → Prop} (h : ∀ i, i < 32 → Rep w (f i) (vs i) (Fs i)) : ∀ u ∈ kids f vs, u.oneCell' = true := fun u hu => by
  obtain ⟨j, hj, rfl⟩ := List.mem_map.1 hu
  have := (List.mem_filter.1 hj).1
  exact (h j (List.mem_range.1 this)).one
theorem kids_set {f : Nat → Tr} {vs : Nat → Value} {i : Nat} (hi : i < 32) (hf : f i ≠ .emp) (ht : t ≠ .emp) : (kids f vs).set (rk f i) v = kids (Nd.put f i t) (putV vs i v) := by
  have hr := rk_lt (f := f) hi hf
  rw [kids_put hi ht, List.set_eq_take_append_cons_drop, if_pos (by rw [kids_len, cnt_rk]; exact hr), full_iff.2 hf]
  rfl
theorem kids_ins {f : Nat → Tr} {vs : Nat → Value} {i : Nat} (hi : i < 32) (hf : f i = .emp) (ht : t ≠ .emp) : (kids f vs).take (rk f i) ++ v :: (kids f vs).drop (rk f i) = kids (Nd.put f i t) (putV vs i v) := by
  rw [kids_put hi ht, full_not.2 hf]
  rfl
theorem setIn_ne (hH : IsH hv hash) {p : Nat} (hW : WF hash t l p) (hp : hash k % 32 ^ l = p) (hlt : p < 32 ^ l) (hl : l ≤ 7) : setIn (hash k) k x t l ≠ .emp := by
  intro e
  exact (setIn_spec (hash := hash) (k := k) (v := x) hH.lt t l p hW hlt hp hl).2.1 e
def SetC (hv : Value) (hash : Ky → Nat) (k : Ky) (x : Vl) (mu : Bool) (rb s : Nat) (t t' : Tr) (nw : Bool) : Prop :=
  ∀ {w : World} {v : Value} {F : Nat → Prop} {K : KV} {Kp : KP} {r0 : Bool}, Rep w t v F → flag w rb r0 → ¬ F rb → Sets w mu F rb (r0 || nw) t' K →
    (nice Tryz.prog).call (.inv v "pub-bracken/pub/immutable.set") [ek k, ev x, .int .u64 s, .int .u32 (hash k), hv, .bool mu, ptr rb] w K Kp
theorem setB_ok {f : Nat → Tr} {p i : Nat} {t' : Tr} (hH : IsH hv hash) (hl : l ≤ 6) (hs : s = 5 * l) (hi0 : frag l (hash k) = i) (ht' : t' ≠ .emp) (nw : Bool) (he : f i = .emp → t' = .val (hash k) k x ∧ nw = true)
    (child : f i ≠ .emp → SetC hv hash k x mu rb (s + 5) (f i) t' nw) : SetC hv hash k x mu rb s (.br false f) (.br ((f i).isEmp && decide (16 < Nd.cnt f)) (Nd.put f i t')) nw := by
  intro w v F K Kp r0 h hr hrb hK
  have hi := frag_lt l (hash k)
  have hfr := frag_eq (hH.lt k) hs hl
  rw [hi0] at hi hfr
  obtain ⟨b, g, cap, vs, Fs0, rfl, h2, h3, h4, hb, h6, hg, h8, h9⟩ := h
  have hF : ∀ j, j < 32 → ∀ c, Fs0 j c → F c := fun j hj c hc => (h9 j hj c hc).1
  have hkin0 : Kin w f vs Fs0 (fun c => c = b ∨ c = g) := ⟨h8, fun j hj c hc => ⟨fun e => e.elim (h9 j hj c hc).2.1 (h9 j hj c hc).2.2.1, (h9 j hj c hc).2.2.2⟩⟩
  obtain ⟨Fs, hkin, hFl⟩ : ∃ Fs : Nat → Nat → Prop, Kin w f vs Fs (fun c => c = b ∨ c = g) ∧ ∀ j, j < 32 → ∀ c, Fs j c → F c ∧ c < w.heap.size := ⟨_, hkin0.lt, fun j hj c hc => ⟨hF j hj c hc.1, hc.2⟩⟩
  clear h8 h9 hF hkin0
  simp only [inv_166_117]
  refine vc117_calls ?_
  simp only [vc117]
  refine op_box_ok fun w k0 z0 b0 => ?_
  replace hb := k0.get hb id
  replace hg := hg.frame k0 id
  replace hr := hr.frame k0 id
  replace hK := hK.still k0
  replace hFl : ∀ j, j < 32 → ∀ c, Fs j c → F c ∧ c < w.heap.size := fun j hj c hc => ⟨(hFl j hj c hc).1, by have := (hFl j hj c hc).2; omega⟩
  replace hkin : Kin w f vs Fs (fun c => c = b ∨ c = g) := ⟨fun j hj => (hkin.1 j hj).still k0, hkin.2⟩
  have hbit := bit_eq hi
  have hand := and_u32 (bm_lt (f := f)) (two_pow_lt hi)
  have hor := or_u32 (bm_lt (f := f)) (two_pow_lt hi)
  have hless := bit_less hi
  have hpos := Nat.pow_pos (n := i) (show 0 < 2 by decide)
  have hbel := and_u32 (bm_lt (f := f)) (b := 2 ^ i - 1) (by have := two_pow_lt hi; omega)
  have hz := bm_and_zero (f := f) i hi
  have hpop := pop_rk (f := f) (i := i) (by omega)
  have hlt2 : bm f &&& (2 ^ i - 1) < 2 ^ 32 := Nat.lt_of_le_of_lt Nat.and_le_left bm_lt
  have hbm := bm_or (f := f) hi ht'
  have hns := next_shift hs hl
  have hne : b ≠ rb := fun e => hrb (e ▸ h2)
  have hgr : g ≠ rb := fun e => hrb (e ▸ h3)
  have l1 := lt_of_get hb
  have l2 := lt_of_get hr
  have l3 := hg.lt
  generalize hB : bm f &&& 2 ^ i = B at *
  generalize hO : bm f ||| 2 ^ i = O at *
  generalize hC : bm f &&& (2 ^ i - 1) = C at *
  have hbits : ∀ j, j < 32 → (bm f &&& 2 ^ j = 0 ↔ f j = .emp) := fun j hj => bm_and_zero (f := f) j hj
  generalize hy : (2 : Nat) ^ i = y at *
  have hzB : ((B : Int) = 0) ↔ f i = .emp := by rw [← hz]; omega
  simp [-getElem?_pos, -Array.getElem?_eq_getElem, -Int.natCast_add, add_spot, and_assoc, Br_dec, -op_box, -op_st_4, -op_st_22, -op_st_119, -op_st_132, -op_st_167, -op_st_131, -op_st_144, -op_st_2, -op_alloc_134, -op_alloc_131, -op_alloc_173, -op_lit_132_1, -op_lit_132_2, -op_lit_167_1, -op_lit_167_2, vc117, ptr, hb, hfr, hbit, hand, -Int.natCast_eq_zero, hzB]
  refine Jn.intro (fun w1 => Frm (· = rb) w w1 ∧ flag w1 rb (r0 || (f i).isEmp)) ⟨fun e => ?_, fun e => ?_, ?_⟩
  · refine raise_ok hr fun w1 k1 z1 f1 => ⟨k1, ?_⟩
    rw [e]; simpa [Nd.isEmp] using f1
  · refine ⟨Frm.refl, ?_⟩
    have : (f i).isEmp = false := by cases h : (f i).isEmp; rfl; exact absurd (isEmp_iff.1 h) e
    rw [this]; simpa using hr
  rintro w1 ⟨k1, f1⟩
  have hb1 := k1.get hb hne
  have hg1 := hg.frame k1 hgr
  have n1 := k1.size
  have hkin1 : ∀ j, j < 32 → Rep w1 (f j) (vs j) (Fs j) := fun j hj => (hkin.1 j hj).frame k1 fun c hc e => hrb (e ▸ (hFl j hj c hc).1)
  simp [-getElem?_pos, -Array.getElem?_eq_getElem, -Int.natCast_add, add_spot, and_assoc, Br_dec, -op_box, -op_st_4, -op_st_22, -op_st_119, -op_st_132, -op_st_167, -op_st_131, -op_st_144, -op_st_2, -op_alloc_134, -op_alloc_131, -op_alloc_173, -op_lit_132_1, -op_lit_132_2, -op_lit_167_1, -op_lit_167_2, hb1, hless, hbel]
  refine pop_ok hlt2 fun w2 k2 => ?_
  rw [hpop]
  have hb2 := k2.get hb1 id
  have hg2 := hg1.frame k2 id
  have f2 := f1.frame k2 id
  have n2 := k2.size
  obtain ⟨J, hJ⟩ : ∃ J : KV, ∀ nv w3, J nv w3 ↔ ∃ F1, Frm (fun c => c = rb ∨ mu = true ∧ Fs i c) w2 w3 ∧ Rep w3 t' nv F1 ∧ (∀ c, F1 c → (Fs i c ∨ w2.heap.size ≤ c) ∧ c < w3.heap.size) ∧ flag w3 rb (r0 || nw) := ⟨_, fun _ _ => Iff.rfl⟩
  refine Jn.intro J ⟨fun e => ?_, fun e => ?_, ?_⟩
  · obtain ⟨cur, hcur, hk⟩ := kid_cell hg2
    have hk' := hk i hi e
    have hrl := rk_lt (f := f) hi e
    rw [← cnt_rk] at hrl
    have he' : (f i).isEmp = false := by cases h : (f i).isEmp; rfl; exact absurd (isEmp_iff.1 h) e
    simp [-getElem?_pos, -Array.getElem?_eq_getElem, -Int.natCast_add, add_spot, and_assoc, Br_dec, -op_box, -op_st_4, -op_st_22, -op_st_119, -op_st_132, -op_st_167, -op_st_131, -op_st_144, -op_st_2, -op_alloc_134, -op_alloc_131, -op_alloc_173, -op_lit_132_1, -op_lit_132_2, -op_lit_167_1, -op_lit_167_2, hb2, hcur, hk', hns, hrl]
    refine child e ((hkin1 i hi).still (k2.no (Frm.drew w2))) (r0 := r0) (by rw [he'] at f2; exact flag.frame (M := fun _ => False) (by simpa using f2) (Frm.drew w2) id) (fun h => hrb (hFl i hi rb h).1) fun v' w3 F' k3 r3 h3' f3 => ?_
    replace k3 := Frm.dr k3
    exact (hJ _ _).2 ⟨fun c => F' c ∧ c < w3.heap.size, k3, r3.lt, fun c hc => ⟨h3' c hc.1, hc.2⟩, f3⟩
  · obtain ⟨rfl, rfl⟩ := he e
    refine new_val_ok (x := x) fun bv w3 k3 lv lv2 r3 => (hJ _ _).2 ⟨_, (k3.to fun _ h => h.elim), r3, fun c hc => ⟨.inr (by omega), by omega⟩, ?_⟩
    have : (f i).isEmp = true := by rw [e]; rfl
    rw [this] at f2
    exact f2.frame k3 id
  intro w3 nv hJnv
  obtain ⟨F1, k3, r3, hF1, f3⟩ := (hJ _ _).1 hJnv
  clear hJnv hJ J
  have n3 := k3.size
  have hbF : ¬ Fs i b := fun h => (hkin.2 i hi b h).1 (.inl rfl)
  have hgF : ¬ Fs i g := fun h => (hkin.2 i hi g h).1 (.inr rfl)
  have hb3 := k3.get hb2 (fun h => h.elim hne fun h => hbF h.2)
  have hg3 := hg2.frame k3 (fun h => h.elim hgr fun h => hgF h.2)
  have hkin3 : ∀ j, j < 32 → j ≠ i → Rep w3 (f j) (vs j) (Fs j) := fun j hj hji => ((hkin1 j hj).still k2).frame k3 fun c hc h => h.elim (fun e => hrb (e ▸ (hFl j hj c hc).1)) fun h => (hkin.2 j hj c hc).2 i hi (fun e => hji e.symm) h.2
  have hF1b : ∀ c, F1 c → c ≠ b ∧ c ≠ g := fun c hc => by
    rcases (hF1 c hc).1 with h | h
    · have := (hkin.2 i hi c h).1; exact ⟨fun e => this (.inl e), fun e => this (.inr e)⟩
    · exact ⟨by omega, by omega⟩
  have hF1d : ∀ c, F1 c → ∀ j, j < 32 → j ≠ i → ¬ Fs j c := fun c hc j hj hji hjc => by
    rcases (hF1 c hc).1 with h | h
    · exact (hkin.2 i hi c h).2 j hj hji hjc
    · have := (hFl j hj c hjc).2; omega
  have hto : ∀ {w4 : World} {M : Nat → Prop}, Frm M w3 w4 → (∀ c, M c → (mu = true ∧ (c = b ∨ c = g)) ∨ w.heap.size ≤ c) → Frm (fun c => c = rb ∨ mu = true ∧ F c) w w4 := fun {w4 M} k4 hM => by
    refine Frm.old (((k1.tr (k2.fst k3)).to fun c hc => ?_)) (k4.to (M' := fun c => (mu = true ∧ (c = b ∨ c = g)) ∨ w.heap.size ≤ c) hM) fun c hc => ?_
    · rcases hc with h | h | h
      · exact .inl h
      · exact .inl h
      · exact .inr ⟨h.1, (hFl i hi c h.2).1⟩
    · rcases hc with ⟨hm, h | h⟩ | h
      · exact .inl (.inr ⟨hm, h ▸ h2⟩)
      · exact .inl (.inr ⟨hm, h ▸ h3⟩)
      · exact .inr h
  have hkinP : ∀ {w4 : World} {M O : Nat → Prop}, Frm M w3 w4 → (∀ c, M c → c = b ∨ c = g ∨ w3.heap.size ≤ c) → (∀ c, O c → c = b ∨ c = g ∨ w3.heap.size ≤ c) → Kin w4 (Nd.put f i t') (putV vs i nv) (fun j => if j = i then F1 else Fs j) O := fun {w4 M O} k4 hM hO => by
    have hOF : ∀ j, j < 32 → ∀ c, Fs j c → ¬ O c ∧ ¬ M c := fun j hj c hc => by
      have h1 := (hkin.2 j hj c hc).1
      have h2 := (hFl j hj c hc).2
      exact ⟨fun h => by rcases hO c h with h | h | h; exact h1 (.inl h); exact h1 (.inr h); omega, fun h => by rcases hM c h with h | h | h; exact h1 (.inl h); exact h1 (.inr h); omega⟩
    have hOF1 : ∀ c, F1 c → ¬ O c ∧ ¬ M c := fun c hc => by
      have h1 := hF1b c hc
      have h2 := (hF1 c hc).2
      exact ⟨fun h => by rcases hO c h with h | h | h; exact h1.1 h; exact h1.2 h; omega, fun h => by rcases hM c h with h | h | h; exact h1.1 h; exact h1.2 h; omega⟩
    refine ⟨fun j hj => ?_, fun j hj c hc => ?_⟩
    · by_cases e : j = i
      · subst e; rw [Nd.put_same]; simpa [putV] using r3.frame k4 fun c hc => (hOF1 c hc).2
      · rw [Nd.put_ne e]; simp only [putV, if_neg e]; exact (hkin3 j hj e).frame k4 fun c hc => (hOF j hj c hc).2
    · by_cases e : j = i
      · simp only [if_pos e] at hc
        refine ⟨(hOF1 c hc).1, fun q hq hne hqc => ?_⟩
        simp only [if_neg (show ¬ q = i by omega)] at hqc
        exact hF1d c hc q hq (by omega) hqc
      · simp only [if_neg e] at hc
        refine ⟨(hOF j hj c hc).1, fun q hq hne hqc => ?_⟩
        by_cases e' : q = i
        · simp only [if_pos e'] at hqc; exact hF1d c hqc j hj e hc
        · simp only [if_neg e'] at hqc; exact (hkin.2 j hj c hc).2 q hq hne hqc
  have hFF : ∀ {O : Nat → Prop} {w4 : World}, (∀ c, O c → F c ∨ w.heap.size ≤ c) → ∀ c, (O c ∨ ∃ j, j < 32 ∧ (if j = i then F1 else Fs j) c) → F c ∨ w.heap.size ≤ c := fun {O w4} hO c hc => by
    rcases hc with hc | ⟨j, hj, hc⟩
    · exact hO c hc
    · by_cases e : j = i
      · simp only [if_pos e] at hc
        rcases (hF1 c hc).1 with h | h
        · exact .inl (hFl i hi c h).1
        · exact .inr (by omega)
      · simp only [if_neg e] at hc
        exact .inl (hFl j hj c hc).1
  have hone := kids_one_cell hkin.1
  have hnil : ∀ q, q < 32 → f q = .emp → vs q = .nilIface := fun q hq e => by have := hkin.1 q hq; rw [e] at this; exact this.nil
  clear hkin hkin1 hkin3
  refine Jn.intro (fun w4 => w4 = w3 ∧ ¬ (f i = .emp ∧ 16 < Nd.cnt f)) ⟨fun e => ?_, fun e => ⟨rfl, fun h => e h.1⟩, ?_⟩
  · have hcast : ((16 : Int) < (Nd.cnt f : Int)) ↔ 16 < Nd.cnt f := by omega
    simp [-getElem?_pos, -Array.getElem?_eq_getElem, -Int.natCast_add, add_spot, and_assoc, Br_dec, -op_box, -op_st_4, -op_st_22, -op_st_119, -op_st_132, -op_st_167, -op_st_131, -op_st_144, -op_st_2, -op_alloc_134, -op_alloc_131, -op_alloc_173, -op_lit_132_1, -op_lit_132_2, -op_lit_167_1, -op_lit_167_2, hb3, hcast, e]
    intro h16
    refine op_alloc_ok (z := .agg zero_173) (by kernel_rfl) fun w4 k4 z4 b4 => ?_
    simp only [cells_agg] at b4
    have hzz : ∀ j, j < 32 → zero_173[j + 1]? = some Value.nilIface := fun j hj => by
      have : zero_173.toList = Value.int .u64 0 :: List.replicate 32 Value.nilIface := by kernel_rfl
      rw [← Array.getElem?_toList, this, List.getElem?_cons_succ, List.getElem?_replicate, if_pos hj]
    obtain ⟨I, hI⟩ : ∃ I : KV, ∀ sv w5, I sv w5 ↔ ∃ j : Nat, sv = Value.int .u64 j ∧ j ≤ 32 ∧ Frm (· = w3.heap.size) w4 w5 ∧ w5.heap.size = w4.heap.size ∧ ∃ cs, w5.heap[w3.heap.size]? = some (.cells cs 173 (0, 0)) ∧ cs.size = 33 ∧ cs[0]? = some (.int .u64 (rk f j)) ∧ ∀ q, q < 32 → cs[q + 1]? = some (if q < j ∧ full f q = true then vs q else .nilIface) := ⟨_, fun _ _ => Iff.rfl⟩
    refine Lp.intro I (fun sv _ => 32 - natOf sv) ⟨(hI _ _).2 ⟨0, rfl, by omega, Frm.refl, rfl, zero_173, b4, rfl, rfl, fun q hq => by rw [hzz q hq]; simp⟩, ?_⟩
    intro wl sv hsv
    obtain ⟨j, rfl, hj, kl, nl, cs, bl, hcz, hc0, hcs⟩ := (hI _ _).1 hsv
    have hbl := kl.get (k4.get hb3 id) (by omega)
    have hgl := (hg3.frame k4 id).frame kl (by omega)
    have hjlt : ((j : Int) < 32) ↔ j < 32 := by omega
    simp [-getElem?_pos, -Array.getElem?_eq_getElem, -Int.natCast_add, add_spot, and_assoc, Br_dec, -op_box, -op_st_4, -op_st_22, -op_st_119, -op_st_132, -op_st_167, -op_st_131, -op_st_144, -op_st_2, -op_alloc_134, -op_alloc_131, -op_alloc_173, -op_lit_132_1, -op_lit_132_2, -op_lit_167_1, -op_lit_167_2, hjlt]
    refine ⟨fun hj32 => ?_, fun hj32 => ?_⟩
    · have hbitj := bit_eq hj32
      have handj := and_u32 (bm_lt (f := f)) (two_pow_lt hj32)
      have hzj := hbits j hj32
      generalize hBj : bm f &&& 2 ^ j = Bj at *
      generalize (2 : Nat) ^ j = yj at *
      have hzBj : ((Bj : Int) = 0) ↔ f j = .emp := by rw [← hzj]; omega
      have hnx : IntKind.u64.wrap ((j : Int) + 1) = ((j + 1 : Nat) : Int) := by rw [IntKind.wrap_u64]; omega
      simp [-getElem?_pos, -Array.getElem?_eq_getElem, -Int.natCast_add, add_spot, and_assoc, Br_dec, -op_box, -op_st_4, -op_st_22, -op_st_119, -op_st_132, -op_st_167, -op_st_131, -op_st_144, -op_st_2, -op_alloc_134, -op_alloc_131, -op_alloc_173, -op_lit_132_1, -op_lit_132_2, -op_lit_167_1, -op_lit_167_2, hbl, hbitj, handj, -Int.natCast_eq_zero, hzBj, hnx]
      refine ⟨fun ej => ?_, fun ej => ?_⟩
      · obtain ⟨cur, hcur, hk⟩ := kid_cell hgl
        have hk' := hk j hj32 ej
        have hrl := rk_lt (f := f) hj32 ej
        rw [← cnt_rk] at hrl
        simp [-getElem?_pos, -Array.getElem?_eq_getElem, -Int.natCast_add, add_spot, and_assoc, Br_dec, -op_box, -op_st_4, -op_st_22, -op_st_119, -op_st_132, -op_st_167, -op_st_131, -op_st_144, -op_st_2, -op_alloc_134, -op_alloc_131, -op_alloc_173, -op_lit_132_1, -op_lit_132_2, -op_lit_167_1, -op_lit_167_2, bl, hc0, hcur, hk', hrl, hj32]
        refine op_store_ok (by kernel_rfl) bl (by omega) (hone (vs j) (by have := kids_get (vs := vs) hj32 ej; exact List.mem_of_getElem? this)) fun w5 k5 z5 b5 => ?_
        have k5 := Frm.dr k5
        have hc5 : (cs.setIfInBounds (1 + j) (vs j))[0]? = some (.int .u64 (rk f j)) := by rw [Array.getElem?_setIfInBounds, if_neg (by omega), hc0]
        have hr32 := rk_le (f := f) j
        have hrn : IntKind.u64.wrap ((rk f j : Int) + 1) = ((rk f j + 1 : Nat) : Int) := by rw [IntKind.wrap_u64]; omega
        simp [-getElem?_pos, -Array.getElem?_eq_getElem, -Int.natCast_add, add_spot, and_assoc, Br_dec, -op_box, -op_st_4, -op_st_22, -op_st_119, -op_st_132, -op_st_167, -op_st_131, -op_st_144, -op_st_2, -op_alloc_134, -op_alloc_131, -op_alloc_173, -op_lit_132_1, -op_lit_132_2, -op_lit_167_1, -op_lit_167_2, b5, hc5, hrn]
        refine op_store_ok (by kernel_rfl) b5 (by simp; omega) rfl fun w6 k6 z6 b6 => ?_
        refine ⟨(hI _ _).2 ⟨j + 1, rfl, by omega, (kl.tr (k5.tr k6)).to (fun c hc => by omega), by simp at z5; omega, _, b6, by simp [hcz], ?_, fun q hq => ?_⟩, by simp only [natOf]; omega⟩
        · rw [Array.getElem?_setIfInBounds, if_pos rfl, if_pos (by simp; omega), rk_succ, full_iff.2 ej]; rfl
        · rw [Array.getElem?_setIfInBounds, if_neg (by omega), Array.getElem?_setIfInBounds]
          by_cases eq : q = j
          · subst eq
            rw [if_pos (by omega), if_pos (by omega), if_pos ⟨by omega, full_iff.2 ej⟩]
          · rw [if_neg (by omega), hcs q hq]
            simp only [show q < j + 1 ↔ q < j by omega]
      · refine ⟨(hI _ _).2 ⟨j + 1, rfl, by omega, kl, nl, cs, bl, hcz, ?_, fun q hq => ?_⟩, by simp only [natOf]; omega⟩
        · rw [hc0, rk_succ, full_not.2 ej]; simp
        · rw [hcs q hq]
          by_cases eq : q = j
          · subst eq; simp [full_not.2 ej]
          · simp only [show q < j + 1 ↔ q < j by omega]
    · obtain rfl : j = 32 := by omega
      have hi' : (i : Int) < 32 := by omega
      simp [-getElem?_pos, -Array.getElem?_eq_getElem, -Int.natCast_add, add_spot, and_assoc, Br_dec, -op_box, -op_st_4, -op_st_22, -op_st_119, -op_st_132, -op_st_167, -op_st_131, -op_st_144, -op_st_2, -op_alloc_134, -op_alloc_131, -op_alloc_173, -op_lit_132_1, -op_lit_132_2, -op_lit_167_1, -op_lit_167_2, hi']
      refine op_store_ok (by kernel_rfl) bl (by omega) r3.one fun w5 k5 z5 b5 => ?_
      have hc5 : (cs.setIfInBounds (1 + i) nv)[0]? = some (.int .u64 (rk f 32)) := by rw [Array.getElem?_setIfInBounds, if_neg (by omega), hc0]
      have hr32 := rk_le (f := f) 32
      have hrn : IntKind.u64.wrap ((rk f 32 : Int) + 1) = ((rk f 32 + 1 : Nat) : Int) := by rw [IntKind.wrap_u64]; omega
      simp [-getElem?_pos, -Array.getElem?_eq_getElem, -Int.natCast_add, add_spot, and_assoc, Br_dec, -op_box, -op_st_4, -op_st_22, -op_st_119, -op_st_132, -op_st_167, -op_st_131, -op_st_144, -op_st_2, -op_alloc_134, -op_alloc_131, -op_alloc_173, -op_lit_132_1, -op_lit_132_2, -op_lit_167_1, -op_lit_167_2, b5, hc5, hrn]
      refine op_store_ok (by kernel_rfl) b5 (by simp; omega) rfl fun w6 k6 z6 b6 => ?_
      have hcn : Nd.cnt (Nd.put f i t') = Nd.cnt f + 1 := cnt_add hi e ht'
      have hfl : ((f i).isEmp && decide (16 < Nd.cnt f)) = true := by rw [e]; simpa [Nd.isEmp] using h16
      rw [hfl] at hK
      have kall := k4.fst (kl.tr (k5.tr k6))
      have hempty : ∀ q, q < 32 → full f q = false → vs q = .nilIface := fun q hq hfq => hnil q hq (full_not.1 hfq)
      refine hK _ w6 _ (hto kall fun c hc => .inr (by omega)) (Rep.mkH (f := Nd.put f i t') (b := w3.heap.size) b6 (by simp [hcz]) ?_ (fun q hq => ?_) (hkinP kall (fun c hc => .inr (.inr (by omega))) (fun c hc => .inr (.inr (by omega))))) (fun c hc => hFF (O := fun c => c = w3.heap.size) (w4 := w) (fun c hc => .inr (by omega)) c hc) ?_
      · rw [Array.getElem?_setIfInBounds, if_pos rfl, if_pos (by simp; omega), hcn, cnt_rk]
      · rw [Array.getElem?_setIfInBounds, if_neg (by omega), Array.getElem?_setIfInBounds]
        by_cases eq : q = i
        · subst eq
          rw [if_pos (by omega), if_pos (by omega)]; simp [putV]
        · rw [if_neg (by omega), hcs q hq]
          simp only [putV, if_neg eq]
          cases hfq : full f q with
          | true => simp [hq]
          | false => simp [hempty q hq hfq]
      · have := lt_of_get f3
        exact ((f3.frame k4 id).frame kl (by omega)).frame (k5.tr k6) (by omega)
  rintro w4 ⟨rfl, h16⟩
  have hfl : ((f i).isEmp && decide (16 < Nd.cnt f)) = false := by
    cases h : (f i).isEmp with
    | false => rfl
    | true => rw [Bool.true_and]; exact decide_eq_false fun h' => h16 ⟨isEmp_iff.1 h, h'⟩
  rw [hfl] at hK
  have hvs : ∀ u ∈ kids f vs, u.oneCell' = true := hone
  have hcl := cnt_le (f := f)
  have hrk : rk f i ≤ Nd.cnt f := by rw [cnt_rk]; exact rk_mono (by omega)
  have hcm := hg3.cap_le h6
  refine ⟨fun hm => ⟨fun e => ?_, fun e => ?_⟩, fun hm => ?_⟩
  · have hrl := rk_lt (f := f) hi e
    rw [← cnt_rk] at hrl
    simp [-getElem?_pos, -Array.getElem?_eq_getElem, -Int.natCast_add, add_spot, and_assoc, Br_dec, -op_box, -op_st_4, -op_st_22, -op_st_119, -op_st_132, -op_st_167, -op_st_131, -op_st_144, -op_st_2, -op_alloc_134, -op_alloc_131, -op_alloc_173, -op_lit_132_1, -op_lit_132_2, -op_lit_167_1, -op_lit_167_2, hb3, hrl]
    refine op_storeR1 (by kernel_rfl) hg3 (by rw [kids_len]; exact hrl) r3.one fun w5 k5 z5 q5 => ?_
    rw [kids_set hi e ht'] at q5
    have f5 := f3.frame k5 (fun e => hgr e.symm)
    refine hK _ w5 _ (hto k5 fun c hc => .inl ⟨hm, .inr hc⟩) (Rep.mkB (f := Nd.put f i t') h4 (by rw [bm_keep e ht', cnt_same e ht']; exact k5.get hb3 (fun e => h4 e.symm)) (by rw [cnt_same e ht']; exact h6) q5 (hkinP k5 (fun c hc => .inr (.inl hc)) (fun c hc => hc.imp id .inl))) (fun c hc => hFF (O := fun c => c = b ∨ c = g) (w4 := w) (fun c hc => .inl (hc.elim (fun e => e ▸ h2) fun e => e ▸ h3)) c (or_assoc.2 hc)) f5
  · simp [-getElem?_pos, -Array.getElem?_eq_getElem, -Int.natCast_add, add_spot, and_assoc, Br_dec, -op_box, -op_st_4, -op_st_22, -op_st_119, -op_st_132, -op_st_167, -op_st_131, -op_st_144, -op_st_2, -op_alloc_134, -op_alloc_131, -op_alloc_173, -op_lit_132_1, -op_lit_132_2, -op_lit_167_1, -op_lit_167_2, hb3, hor]
    refine op_store_ok (by kernel_rfl) hb3 (by simp) rfl fun w5 k5 z5 b5 => ?_
    have hg5 := hg3.frame k5 h4
    have f5 := f3.frame k5 (fun e => hne e.symm)
    simp [-getElem?_pos, -Array.getElem?_eq_getElem, -Int.natCast_add, add_spot, and_assoc, Br_dec, -op_box, -op_st_4, -op_st_22, -op_st_119, -op_st_132, -op_st_167, -op_st_131, -op_st_144, -op_st_2, -op_alloc_134, -op_alloc_131, -op_alloc_173, -op_lit_132_1, -op_lit_132_2, -op_lit_167_1, -op_lit_167_2, b5]
    refine op_lit_ok (lit_167_1 rfl) fun w6 k6 z6 b6 => ?_
    have hq : Rw w6 119 1 w5.heap.size 1 [.nilIface] := Rw.lit (n := 1) rfl (by decide) b6
    refine op_appendR apN (hg5.frame k6 fun h => h) (n := Nd.cnt f) (by rw [kids_len]; omega) h6 hq (m := 1) rfl (fun u hu => by simp at hu; subst hu; rfl) (by omega) (by omega) fun w7 g' cap' k7 hg7 hc7 hgg => ?_
    have b7 := k7.get (k6.get b5 id) (fun e => h4 e.symm)
    have f7 := (f5.frame k6 id).frame k7 (fun e => hgr e.symm)
    have hgb : g' ≠ b := by
      rcases hgg with rfl | rfl
      · exact h4
      · omega
    have hgr' : g' ≠ rb := by
      rcases hgg with rfl | rfl
      · exact hgr
      · omega
    refine op_store_ok (by kernel_rfl) b7 (by simp) rfl fun w8 k8 z8 b8 => ?_
    have hg8 := hg7.frame k8 hgb
    have f8 := f7.frame k8 (fun e => hne e.symm)
    have hw : IntKind.i64.wrap ((rk f i : Int) + 1) = ((rk f i + 1 : Nat) : Int) := by rw [IntKind.wrap_i64]; omega
    simp [-getElem?_pos, -Array.getElem?_eq_getElem, -Int.natCast_add, add_spot, and_assoc, Br_dec, -op_box, -op_st_4, -op_st_22, -op_st_119, -op_st_132, -op_st_167, -op_st_131, -op_st_144, -op_st_2, -op_alloc_134, -op_alloc_131, -op_alloc_173, -op_lit_132_1, -op_lit_132_2, -op_lit_167_1, -op_lit_167_2, b8, hw]
    have hkl : (kids f vs).length = Nd.cnt f := kids_len
    refine ⟨by omega, hc7, by omega, hc7, ?_⟩
    refine op_copyX (n := Nd.cnt f - rk f i) (x1 := rk f i + 1) (x2 := rk f i) (by kernel_rfl) hg8.drew hg8.drew (by split; exact .inr ⟨rfl, by omega⟩; exact .inl (by simp)) (by split; exact .inr ⟨rfl, by omega⟩; exact .inl (by simp)) (by omega) (by simp; omega) (by simp; omega)
      (fun u hu => by rcases List.mem_append.1 hu with h | h; exact hvs u h; simp at h; subst h; rfl) fun w9 k9 z9 q9 => ?_
    have k9 := Frm.dr k9
    have b9 := k9.get b8 (fun e => hgb e.symm)
    have f9 := f8.frame k9 (fun e => hgr' e.symm)
    simp only [Nat.mul_one] at q9
    have hlt9 : rk f i < Nd.cnt f + 1 := by omega
    simp [-getElem?_pos, -Array.getElem?_eq_getElem, -Int.natCast_add, add_spot, and_assoc, Br_dec, -op_box, -op_st_4, -op_st_22, -op_st_119, -op_st_132, -op_st_167, -op_st_131, -op_st_144, -op_st_2, -op_alloc_134, -op_alloc_131, -op_alloc_173, -op_lit_132_1, -op_lit_132_2, -op_lit_167_1, -op_lit_167_2, b9, hlt9]
    refine op_storeR1 (by kernel_rfl) q9 (by rw [lw_len (by simp; omega)]; simp; omega) r3.one fun w10 k10 z10 q10 => ?_
    have hins := ins_mut (A := kids f vs) (z := .nilIface) (v := nv) (by rw [hkl]; exact hrk)
    rw [hkl] at hins
    rw [hins, kids_ins hi e ht'] at q10
    have b10 := k10.get b9 (fun e => hgb e.symm)
    have f10 := f9.frame k10 (fun e => hgr' e.symm)
    have hcn : Nd.cnt (Nd.put f i t') = Nd.cnt f + 1 := cnt_add hi e ht'
    have n6 := k6.size
    have n7 := k7.size
    have kall := (((((k5.tr (k6.fst k7)).tr k8).tr k9).tr k10))
    have hall : ∀ c, ((((c = b ∨ c = g) ∨ c = b) ∨ c = g') ∨ c = g') → (c = b ∨ c = g) ∨ w4.heap.size ≤ c := fun c hc => by
      rcases hgg with h | h <;> omega
    refine hK _ w10 _ (hto kall fun c hc => ?_) (Rep.mkB (f := Nd.put f i t') hgb (by rw [← hbm, hcn]; simpa using b10) (by rw [hcn]; exact hc7) q10 (hkinP kall (fun c hc => or_assoc.1 (hall c hc)) (fun c hc => by rcases hc with h | h; exact .inl h; rcases hgg with h' | h'; exact .inr (.inl (by omega)); exact .inr (.inr (by omega))))) (fun c hc => hFF (O := fun c => c = b ∨ c = g') (w4 := w) (fun c hc => ?_) c (or_assoc.2 hc)) f10
    · rcases hall c hc with h | h
      · exact .inl ⟨hm, h⟩
      · exact .inr (by omega)
    · rcases hc with h | h
      · exact .inl (h ▸ h2)
      · rcases hgg with h' | h'
        · exact .inl (h ▸ h' ▸ h3)
        · exact .inr (by omega)
  · simp [-getElem?_pos, -Array.getElem?_eq_getElem, -Int.natCast_add, add_spot, and_assoc, Br_dec, -op_box, -op_st_4, -op_st_22, -op_st_119, -op_st_132, -op_st_167, -op_st_131, -op_st_144, -op_st_2, -op_alloc_134, -op_alloc_131, -op_alloc_173, -op_lit_132_1, -op_lit_132_2, -op_lit_167_1, -op_lit_167_2, hb3, hor]
    refine op_box_ok fun w5 k5 z5 b5 => ?_
    simp only [cells_agg] at b5
    have hb5 := k5.get hb3 id
    have hg5 := hg3.frame k5 id
    have f5 := f3.frame k5 id
    have hkl : (kids f vs).length = Nd.cnt f := kids_len
    refine ⟨fun e => ?_, fun e => ?_⟩
    · have hrl := rk_lt (f := f) hi e
      rw [← cnt_rk] at hrl
      simp [-getElem?_pos, -Array.getElem?_eq_getElem, -Int.natCast_add, add_spot, and_assoc, Br_dec, -op_box, -op_st_4, -op_st_22, -op_st_119, -op_st_132, -op_st_167, -op_st_131, -op_st_144, -op_st_2, -op_alloc_134, -op_alloc_131, -op_alloc_173, -op_lit_132_1, -op_lit_132_2, -op_lit_167_1, -op_lit_167_2, hb5]
      refine op_make_ok (n := Nd.cnt f) apN rfl (by omega) fun w6 zs k6 z6 hzs q6 => ?_
      have b6 := k6.get b5 id
      have hb6 := k6.get hb5 id
      have hg6 := hg5.frame k6 id
      have f6 := f5.frame k6 id
      refine op_store_ok (by kernel_rfl) b6 (by simp) rfl fun w7 k7 z7 b7 => ?_
      have hb7 := k7.get hb6 (by omega)
      have hg7 := hg6.frame k7 (by omega)
      have f7 := f6.frame k7 (by omega)
      have q7 := q6.frame k7 (by omega)
      simp [-getElem?_pos, -Array.getElem?_eq_getElem, -Int.natCast_add, add_spot, and_assoc, Br_dec, -op_box, -op_st_4, -op_st_22, -op_st_119, -op_st_132, -op_st_167, -op_st_131, -op_st_144, -op_st_2, -op_alloc_134, -op_alloc_131, -op_alloc_173, -op_lit_132_1, -op_lit_132_2, -op_lit_167_1, -op_lit_167_2, b7, hb7]
      refine op_copyX (n := Nd.cnt f) (x1 := 0) (x2 := 0) (by kernel_rfl) q7.drew hg7.drew (.inl rfl) (.inl rfl) (by omega) (by omega) (by omega) hvs fun w8 k8 z8 q8 => ?_
      have k8 := Frm.dr k8
      have b8 := k8.get b7 (by omega)
      have f8 := f7.frame k8 (by omega)
      have hq8 : lw zs (0 * 1) (List.take (Nd.cnt f * 1) (List.drop (0 * 1) (kids f vs))) = kids f vs := by
        simp only [Nat.zero_mul, Nat.mul_one, List.drop_zero]
        rw [List.take_of_length_le (by omega), lw_all (by omega)]
      rw [hq8] at q8
      simp [-getElem?_pos, -Array.getElem?_eq_getElem, -Int.natCast_add, add_spot, and_assoc, Br_dec, -op_box, -op_st_4, -op_st_22, -op_st_119, -op_st_132, -op_st_167, -op_st_131, -op_st_144, -op_st_2, -op_alloc_134, -op_alloc_131, -op_alloc_173, -op_lit_132_1, -op_lit_132_2, -op_lit_167_1, -op_lit_167_2, b8, hrl]
      refine op_storeR1 (by kernel_rfl) q8 (by rw [hkl]; exact hrl) r3.one fun w9 k9 z9 q9 => ?_
      rw [kids_set hi e ht'] at q9
      have b9 := k9.get b8 (by omega)
      have f9 := f8.frame k9 (by omega)
      have n6 := k6.size
      have kall := ((k5.fst (k6.fst (k7.tr (k8.tr k9)))))
      have hall : ∀ c, (c = w4.heap.size ∨ c = w5.heap.size ∨ c = w5.heap.size) → w4.heap.size ≤ c := fun c hc => by omega
      have hbm2 : O = bm (Nd.put f i t') := hbm
      refine hK _ w9 _ (hto kall fun c hc => .inr (by have := hall c hc; omega)) (Rep.mkB (f := Nd.put f i t') (b := w4.heap.size) (g := w5.heap.size) (cap := Nd.cnt f) (by omega) (by rw [← hbm2, cnt_same e ht']; simpa using b9) (by rw [cnt_same e ht']; omega) q9 (hkinP kall (fun c hc => .inr (.inr (hall c hc))) (fun c hc => .inr (.inr (by omega))))) (fun c hc => hFF (O := fun c => c = w4.heap.size ∨ c = w5.heap.size) (w4 := w) (fun c hc => .inr (by omega)) c (or_assoc.2 hc)) f9
    · have hwc : IntKind.i64.wrap ((Nd.cnt f : Int) + 1) = ((Nd.cnt f + 1 : Nat) : Int) := by rw [IntKind.wrap_i64]; omega
      have hw : IntKind.i64.wrap ((rk f i : Int) + 1) = ((rk f i + 1 : Nat) : Int) := by rw [IntKind.wrap_i64]; omega
      simp [-getElem?_pos, -Array.getElem?_eq_getElem, -Int.natCast_add, add_spot, and_assoc, Br_dec, -op_box, -op_st_4, -op_st_22, -op_st_119, -op_st_132, -op_st_167, -op_st_131, -op_st_144, -op_st_2, -op_alloc_134, -op_alloc_131, -op_alloc_173, -op_lit_132_1, -op_lit_132_2, -op_lit_167_1, -op_lit_167_2, hb5, hwc]
      refine op_make_ok (n := Nd.cnt f + 1) apN rfl (by omega) fun w6 zs k6 z6 hzs q6 => ?_
      have b6 := k6.get b5 id
      have hb6 := k6.get hb5 id
      have hg6 := hg5.frame k6 id
      have f6 := f5.frame k6 id
      refine op_store_ok (by kernel_rfl) b6 (by simp) rfl fun w7 k7 z7 b7 => ?_
      have hb7 := k7.get hb6 (by omega)
      have hg7 := hg6.frame k7 (by omega)
      have f7 := f6.frame k7 (by omega)
      have q7 := q6.frame k7 (by omega)
      simp [-getElem?_pos, -Array.getElem?_eq_getElem, -Int.natCast_add, add_spot, and_assoc, Br_dec, -op_box, -op_st_4, -op_st_22, -op_st_119, -op_st_132, -op_st_167, -op_st_131, -op_st_144, -op_st_2, -op_alloc_134, -op_alloc_131, -op_alloc_173, -op_lit_132_1, -op_lit_132_2, -op_lit_167_1, -op_lit_167_2, b7, hb7]
      refine ⟨by omega, ?_⟩
      refine op_copyX (n := rk f i) (x1 := 0) (x2 := 0) (by kernel_rfl) q7.drew hg7.drew (.inl rfl) (.inl rfl) (by omega) (by omega) (by omega) hvs fun w8 k8 z8 q8 => ?_
      have k8 := Frm.dr k8
      have b8 := k8.get b7 (by omega)
      have hb8 := k8.get hb7 (by omega)
      have hg8 := hg7.frame k8 (by omega)
      have f8 := f7.frame k8 (by omega)
      simp only [Nat.zero_mul, Nat.mul_one, List.drop_zero] at q8
      have hlt8 : rk f i < Nd.cnt f + 1 := by omega
      simp [-getElem?_pos, -Array.getElem?_eq_getElem, -Int.natCast_add, add_spot, and_assoc, Br_dec, -op_box, -op_st_4, -op_st_22, -op_st_119, -op_st_132, -op_st_167, -op_st_131, -op_st_144, -op_st_2, -op_alloc_134, -op_alloc_131, -op_alloc_173, -op_lit_132_1, -op_lit_132_2, -op_lit_167_1, -op_lit_167_2, b8, hlt8]
      refine op_storeR1 (by kernel_rfl) q8 (by rw [lw_len (by simp; omega)]; omega) r3.one fun w9 k9 z9 q9 => ?_
      have b9 := k9.get b8 (by omega)
      have hb9 := k9.get hb8 (by omega)
      have hg9 := hg8.frame k9 (by omega)
      have f9 := f8.frame k9 (by omega)
      simp [-getElem?_pos, -Array.getElem?_eq_getElem, -Int.natCast_add, add_spot, and_assoc, Br_dec, -op_box, -op_st_4, -op_st_22, -op_st_119, -op_st_132, -op_st_167, -op_st_131, -op_st_144, -op_st_2, -op_alloc_134, -op_alloc_131, -op_alloc_173, -op_lit_132_1, -op_lit_132_2, -op_lit_167_1, -op_lit_167_2, b9, hb9, hw]
      refine ⟨hrk, h6, ?_⟩
      refine op_copyX (n := Nd.cnt f - rk f i) (x1 := rk f i + 1) (x2 := rk f i) (by kernel_rfl) q9.drew hg9.drew (by split; exact .inr ⟨rfl, by omega⟩; exact .inl (by simp)) (by split; exact .inr ⟨rfl, by omega⟩; exact .inl (by simp)) (by omega)
        (by rw [List.length_set, lw_len (by simp; omega)]; omega) (by omega) hvs fun w10 k10 z10 q10 => ?_
      have k10 := Frm.dr k10
      have b10 := k10.get b9 (by omega)
      have f10 := f9.frame k10 (by omega)
      have hins := ins_new (A := kids f vs) (zs := zs) (r := rk f i) (v := nv) (by rw [hkl]; exact hrk) (by omega)
      rw [hkl] at hins
      simp only [Nat.mul_one] at q10
      rw [hins, kids_ins hi e ht'] at q10
      have hcn : Nd.cnt (Nd.put f i t') = Nd.cnt f + 1 := cnt_add hi e ht'
      have n6 := k6.size
      have kall := ((k5.fst (k6.fst (k7.tr (k8.tr (k9.tr k10))))))
      have hall : ∀ c, (c = w4.heap.size ∨ c = w5.heap.size ∨ c = w5.heap.size ∨ c = w5.heap.size) → w4.heap.size ≤ c := fun c hc => by omega
      refine hK _ w10 _ (hto kall fun c hc => .inr (by have := hall c hc; omega)) (Rep.mkB (f := Nd.put f i t') (b := w4.heap.size) (g := w5.heap.size) (cap := Nd.cnt f + 1) (by omega) (by rw [← hbm, hcn]; simpa using b10) (by rw [hcn]; omega) q10 (hkinP kall (fun c hc => .inr (.inr (hall c hc))) (fun c hc => .inr (.inr (by omega))))) (fun c hc => hFF (O := fun c => c = w4.heap.size ∨ c = w5.heap.size) (w4 := w) (fun c hc => .inr (by omega)) c (or_assoc.2 hc)) f10
end Go.Proofs.YtbghmbbhkoniiaaGreat.S
end
section
/- Setting a key in a branch of 32 places; setting at any node, and behind a root. -/
namespace Go.Proofs.YtbghmbbhkoniiaaGreat.S
open Go.Vc Go.Proofs Go.Proofs.YtbghmbbhkoniiaaGreat Go.Vc.Nd
variable {w w' : World} {v hv : Value} {t : Tr} {F F' : Nat → Prop} {K : KV} {Kp : KP} {hash : Ky → Nat} {k : Ky} {x : Vl} {l s rb : Nat} {r0 mu : Bool}
theorem clone_ok {b : Nat} {cs : Array Value} (hb : w.heap[b]? = some (.cells cs 173 (0, 0))) (hz : cs.size = 33) (h1 : ∀ u ∈ cs, u.oneCell' = true)
    (hK : ∀ w', Frm (fun _ => False) w w' → w'.heap[w.heap.size]? = some (.cells cs 173 (0, 0)) → K (ptr w.heap.size) w') : Calls Tryz.prog 119 #[ptr b] w (ret K Kp) := by
  refine vc119_calls ?_
  have hx : cs.extract 0 33 = cs := extract_self hz
  simp [-getElem?_pos, -Array.getElem?_eq_getElem, -Int.natCast_add, add_spot, and_assoc, Br_dec, -op_box, -op_st_4, -op_st_22, -op_st_119, -op_st_132, -op_st_167, -op_st_131, -op_st_144, -op_st_2, -op_st_173, -op_alloc_134, -op_alloc_131, -op_alloc_173, -op_lit_132_1, -op_lit_132_2, -op_lit_167_1, -op_lit_167_2, vc119, ptr, hb, hz, hx]
  refine op_alloc_ok (z := .agg zero_173) (by kernel_rfl) fun w1 k1 z1 b1 => ?_
  simp only [cells_agg] at b1
  rw [op_stn (n := 33) (by kernel_rfl)]
  have how : ow zero_173 0 cs.toList = cs := by rw [ow_all (by simp [hz]; rfl)]
  refine ⟨hz, fun u hu => h1 u (by simpa using hu), _, _, b1, rfl, by show 0 + 33 ≤ zero_173.size; decide, ?_⟩
  refine hK _ (k1.old (Frm.upd (M := (· = w.heap.size)) _ _ fun _ => rfl) fun c hc => .inr (by omega)) ?_
  have := heap_upd_same (o := .cells (ow zero_173 0 cs.toList) 173 (0, 0)) b1
  rw [how] at this
  show (w1.upd w.heap.size (.cells (ow zero_173 0 cs.toList) 173 (0, 0))).heap[w.heap.size]? = _
  rw [how]; exact this
theorem cells_one_H {cs : Array Value} {n : Nat} {vs : Nat → Value} (hz : cs.size = 33) (h0 : cs[0]? = some (.int .u64 n)) (hv : ∀ i, i < 32 → cs[i + 1]? = some (vs i)) (hone : ∀ i, i < 32 → (vs i).oneCell' = true) : ∀ u ∈ cs, u.oneCell' = true := fun u hu => by
  obtain ⟨j, hj, rfl⟩ := Array.mem_iff_getElem.1 hu
  cases j with
  | zero =>
    rw [Array.getElem?_eq_getElem hj] at h0
    rw [Option.some.inj h0]; rfl
  | succ j =>
    have := hv j (by omega)
    rw [Array.getElem?_eq_getElem hj] at this
    rw [Option.some.inj this]; exact hone j (by omega)
theorem setH_ok {f : Nat → Tr} {p i : Nat} {t' : Tr} (hH : IsH hv hash) (hl : l ≤ 6) (hs : s = 5 * l) (hi0 : frag l (hash k) = i) (ht' : t' ≠ .emp) (nw : Bool) (he : f i = .emp → t' = .val (hash k) k x ∧ nw = true)
    (child : f i ≠ .emp → SetC hv hash k x mu rb (s + 5) (f i) t' nw) : SetC hv hash k x mu rb s (.br true f) (.br true (Nd.put f i t')) nw := by
  intro w v F K Kp r0 h hr hrb hK
  have hi := frag_lt l (hash k)
  have hfr := frag_eq (hH.lt k) hs hl
  rw [hi0] at hi hfr
  obtain ⟨b, cs, vs, Fs0, rfl, h2, hb, hcz, hc0, hcs, h8, h9⟩ := h
  obtain ⟨Fs, hrep, hdis, hFl⟩ : ∃ Fs : Nat → Nat → Prop, (∀ j, j < 32 → Rep w (f j) (vs j) (Fs j)) ∧ (∀ j, j < 32 → ∀ c, Fs j c → c ≠ b ∧ ∀ q, q < 32 → q ≠ j → ¬ Fs q c) ∧ ∀ j, j < 32 → ∀ c, Fs j c → F c ∧ c < w.heap.size :=
    ⟨fun j c => Fs0 j c ∧ c < w.heap.size, fun j hj => (h8 j hj).lt, fun j hj c hc => ⟨(h9 j hj c hc.1).2.1, fun q hq hne h => (h9 j hj c hc.1).2.2 q hq hne h.1⟩, fun j hj c hc => ⟨(h9 j hj c hc.1).1, hc.2⟩⟩
  clear h8 h9
  have hns := next_shift hs hl
  have hne : b ≠ rb := fun e => hrb (e ▸ h2)
  have l1 := lt_of_get hb
  have l2 := lt_of_get hr
  have hci := hcs i hi
  simp only [inv_170_122]
  refine vc122_calls ?_
  simp only [vc122]
  refine op_box_ok fun w k0 z0 b0 => ?_
  replace hb := k0.get hb id
  replace l1 := lt_of_get hb
  replace hr := hr.frame k0 id
  replace l2 := lt_of_get hr
  replace hK := hK.still k0
  replace hFl : ∀ j, j < 32 → ∀ c, Fs j c → F c ∧ c < w.heap.size := fun j hj c hc => ⟨(hFl j hj c hc).1, by have := (hFl j hj c hc).2; omega⟩
  replace hrep : ∀ j, j < 32 → Rep w (f j) (vs j) (Fs j) := fun j hj => (hrep j hj).still k0
  have hi' : (i : Int) < 32 := by omega
  simp [-getElem?_pos, -Array.getElem?_eq_getElem, -Int.natCast_add, add_spot, and_assoc, Br_dec, -op_box, -op_st_4, -op_st_22, -op_st_119, -op_st_132, -op_st_167, -op_st_131, -op_st_144, -op_st_2, -op_st_173, -op_alloc_134, -op_alloc_131, -op_alloc_173, -op_lit_132_1, -op_lit_132_2, -op_lit_167_1, -op_lit_167_2, vc122, ptr, hb, hfr, Nat.add_comm 1, hci, hi']
  have heq : ∀ {w : World} {K : KV} {Kp : KP}, (nice Tryz.prog).op (.bin .eql 119 false true (vs i) .nilIface) w K Kp = K (.bool (f i).isEmp) w := fun {w K Kp} => by
    by_cases e : f i = .emp
    · have := hrep i hi
      rw [e] at this
      rw [this.nil, e]
      simp [Nd.isEmp]
    · obtain ⟨u, c, hv⟩ := (hrep i hi).iface e
      have he' : (f i).isEmp = false := by cases h : (f i).isEmp; rfl; exact absurd (isEmp_iff.1 h) e
      rw [hv, he']; simp
  obtain ⟨J, hJ⟩ : ∃ J : KV, ∀ nv w3, J nv w3 ↔ ∃ F1, Frm (fun c => c = rb ∨ mu = true ∧ Fs i c) w w3 ∧ Rep w3 t' nv F1 ∧ (∀ c, F1 c → (Fs i c ∨ w.heap.size ≤ c) ∧ c < w3.heap.size) ∧ flag w3 rb (r0 || nw) := ⟨_, fun _ _ => Iff.rfl⟩
  refine Jn.intro J ⟨?_, ?_⟩
  · rw [heq]
    by_cases e : f i = .emp
    · obtain ⟨rfl, rfl⟩ := he e
      have he' : (f i).isEmp = true := by rw [e]; rfl
      simp [-getElem?_pos, -Array.getElem?_eq_getElem, -Int.natCast_add, add_spot, and_assoc, Br_dec, -op_box, -op_st_4, -op_st_22, -op_st_119, -op_st_132, -op_st_167, -op_st_131, -op_st_144, -op_st_2, -op_st_173, -op_alloc_134, -op_alloc_131, -op_alloc_173, -op_lit_132_1, -op_lit_132_2, -op_lit_167_1, -op_lit_167_2, he']
      refine raise_ok hr fun w1 k1 z1 f1 => ?_
      refine new_val_ok (x := x) fun bv w3 k3 lv lv2 r3 => (hJ _ _).2 ⟨_, ((k1.tr k3).to fun c hc => .inl (hc.elim id fun h => h.elim)), r3, fun c hc => ⟨.inr (by omega), by omega⟩, ?_⟩
      simpa using f1.frame k3 id
    · have he' : (f i).isEmp = false := by cases h : (f i).isEmp; rfl; exact absurd (isEmp_iff.1 h) e
      simp [-getElem?_pos, -Array.getElem?_eq_getElem, -Int.natCast_add, add_spot, and_assoc, Br_dec, -op_box, -op_st_4, -op_st_22, -op_st_119, -op_st_132, -op_st_167, -op_st_131, -op_st_144, -op_st_2, -op_st_173, -op_alloc_134, -op_alloc_131, -op_alloc_173, -op_lit_132_1, -op_lit_132_2, -op_lit_167_1, -op_lit_167_2, he', hns]
      refine child e (hrep i hi) (r0 := r0) hr (fun h => hrb (hFl i hi rb h).1) fun v' w3 F' k3 r3 h3' f3 => ?_
      exact (hJ _ _).2 ⟨fun c => F' c ∧ c < w3.heap.size, k3, r3.lt, fun c hc => ⟨h3' c hc.1, hc.2⟩, f3⟩
  intro w3 nv hJnv
  obtain ⟨F1, k3, r3, hF1, f3⟩ := (hJ _ _).1 hJnv
  clear hJnv hJ J
  have n3 := k3.size
  have hbF : ¬ Fs i b := fun h => (hdis i hi b h).1 rfl
  have hb3 := k3.get hb (fun h => h.elim hne fun h => hbF h.2)
  have hrep3 : ∀ j, j < 32 → j ≠ i → Rep w3 (f j) (vs j) (Fs j) := fun j hj hji => (hrep j hj).frame k3 fun c hc h => h.elim (fun e => hrb (e ▸ (hFl j hj c hc).1)) fun h => (hdis j hj c hc).2 i hi (fun e => hji e.symm) h.2
  have hcone := cells_one_H hcz hc0 hcs fun j hj => (hrep j hj).one
  obtain ⟨J, hJ⟩ : ∃ J : KV, ∀ ov w4, J ov w4 ↔ ∃ nb, ov = ptr nb ∧ Frm (fun _ => False) w3 w4 ∧ w4.heap[nb]? = some (.cells cs 173 (0, 0)) ∧ (nb = b ∧ mu = true ∨ nb = w3.heap.size) := ⟨_, fun _ _ => Iff.rfl⟩
  refine Jn.intro J ⟨fun hm => ?_, fun hm => (hJ _ _).2 ⟨b, rfl, Frm.refl, hb3, .inl ⟨rfl, hm⟩⟩, ?_⟩
  · exact clone_ok hb3 hcz hcone fun w4 k4 b4 => (hJ _ _).2 ⟨_, rfl, k4, b4, .inr rfl⟩
  intro w4 ov hov
  obtain ⟨nb, rfl, k4, b4, hnb⟩ := (hJ _ _).1 hov
  clear hov hJ J
  rw [heq]
  have f4 := f3.frame k4 id
  have hnr : nb ≠ rb := by
    rcases hnb with h | h
    · rw [h.1]; exact hne
    · have := lt_of_get f3; omega
  have fin : ∀ {w5 : World} {cs' : Array Value}, Frm (· = nb) w4 w5 → w5.heap[nb]? = some (.cells cs' 173 (0, 0)) → cs'.size = 33 → cs'[0]? = some (.int .u64 (Nd.cnt (Nd.put f i t'))) → (∀ q, q < 32 → cs'[q + 1]? = some (putV vs i nv q)) → K (.iface 170 (ptr nb)) w5 := fun {w5 cs'} k5 b5 hz5 h05 hv5 => by
    have kall := k4.fst k5
    have hnF : ∀ j, j < 32 → ∀ c, Fs j c → c ≠ nb := fun j hj c hc => by
      rcases hnb with h | h
      · rw [h.1]; exact (hdis j hj c hc).1
      · have := (hFl j hj c hc).2; omega
    have hnF1 : ∀ c, F1 c → c ≠ nb := fun c hc => by
      rcases hnb with h | h
      · rw [h.1]
        rcases (hF1 c hc).1 with h' | h'
        · exact (hdis i hi c h').1
        · omega
      · have := (hF1 c hc).2; omega
    have hF1d : ∀ c, F1 c → ∀ j, j < 32 → j ≠ i → ¬ Fs j c := fun c hc j hj hji hjc => by
      rcases (hF1 c hc).1 with h | h
      · exact (hdis i hi c h).2 j hj hji hjc
      · have := (hFl j hj c hjc).2; omega
    have hkin : Kin w5 (Nd.put f i t') (putV vs i nv) (fun j => if j = i then F1 else Fs j) (fun c => c = nb) := by
      refine ⟨fun j hj => ?_, fun j hj c hc => ?_⟩
      · by_cases e : j = i
        · subst e; rw [Nd.put_same]; simpa [putV] using r3.frame kall fun c hc h => hnF1 c hc h
        · rw [Nd.put_ne e]; simp only [putV, if_neg e]; exact (hrep3 j hj e).frame kall fun c hc h => hnF j hj c hc h
      · by_cases e : j = i
        · simp only [if_pos e] at hc
          refine ⟨hnF1 c hc, fun q hq hne hqc => ?_⟩
          simp only [if_neg (show ¬ q = i by omega)] at hqc
          exact hF1d c hc q hq (by omega) hqc
        · simp only [if_neg e] at hc
          refine ⟨hnF j hj c hc, fun q hq hne hqc => ?_⟩
          by_cases e' : q = i
          · simp only [if_pos e'] at hqc; exact hF1d c hqc j hj e hc
          · simp only [if_neg e'] at hqc; exact (hdis j hj c hc).2 q hq hne hqc
    refine hK _ w5 _ ((k3.to (M' := fun c => c = rb ∨ mu = true ∧ F c) fun c hc => hc.imp id fun h => ⟨h.1, (hFl i hi c h.2).1⟩).old kall fun c hc => ?_) (Rep.mkH (f := Nd.put f i t') b5 hz5 h05 hv5 hkin) (fun c hc => ?_) (f4.frame k5 (fun e => hnr e.symm))
    · rcases hnb with h | h
      · exact .inl (.inr ⟨h.2, by rw [hc, h.1]; exact h2⟩)
      · exact .inr (by omega)
    · rcases hc with rfl | ⟨j, hj, hc⟩
      · rcases hnb with h | h
        · exact .inl (by rw [h.1]; exact h2)
        · exact .inr (by omega)
      · by_cases e : j = i
        · simp only [if_pos e] at hc
          exact (hF1 c hc).1.imp (fun h => (hFl i hi c h).1) id
        · simp only [if_neg e] at hc
          exact .inl (hFl j hj c hc).1
  by_cases e : f i = .emp
  · have he' : (f i).isEmp = true := by rw [e]; rfl
    have hcn : Nd.cnt (Nd.put f i t') = Nd.cnt f + 1 := cnt_add hi e ht'
    have hcl := cnt_le (f := f)
    have hrn : IntKind.u64.wrap ((Nd.cnt f : Int) + 1) = ((Nd.cnt f + 1 : Nat) : Int) := by rw [IntKind.wrap_u64]; omega
    simp [-getElem?_pos, -Array.getElem?_eq_getElem, -Int.natCast_add, add_spot, and_assoc, Br_dec, -op_box, -op_st_4, -op_st_22, -op_st_119, -op_st_132, -op_st_167, -op_st_131, -op_st_144, -op_st_2, -op_st_173, -op_alloc_134, -op_alloc_131, -op_alloc_173, -op_lit_132_1, -op_lit_132_2, -op_lit_167_1, -op_lit_167_2, he', ptr, b4, hc0, hrn]
    refine op_store_ok (by kernel_rfl) b4 (by omega) rfl fun w5 k5 z5 b5 => ?_
    simp [-getElem?_pos, -Array.getElem?_eq_getElem, -Int.natCast_add, add_spot, and_assoc, Br_dec, -op_box, -op_st_4, -op_st_22, -op_st_119, -op_st_132, -op_st_167, -op_st_131, -op_st_144, -op_st_2, -op_st_173, -op_alloc_134, -op_alloc_131, -op_alloc_173, -op_lit_132_1, -op_lit_132_2, -op_lit_167_1, -op_lit_167_2, hi']
    refine op_store_ok (by kernel_rfl) b5 (by simp; omega) r3.one fun w6 k6 z6 b6 => ?_
    refine fin ((k5.tr k6).to fun c hc => hc.elim id id) b6 (by simp [hcz]) ?_ fun q hq => ?_
    · rw [Array.getElem?_setIfInBounds, if_neg (by omega), Array.getElem?_setIfInBounds, if_pos rfl, if_pos (by omega), hcn]
    · rw [Array.getElem?_setIfInBounds]
      by_cases eq : q = i
      · subst eq; rw [if_pos (by omega), if_pos (by simp; omega)]; simp [putV]
      · rw [if_neg (by omega), Array.getElem?_setIfInBounds, if_neg (by omega), hcs q hq]; simp [putV, eq]
  · have he' : (f i).isEmp = false := by cases h : (f i).isEmp; rfl; exact absurd (isEmp_iff.1 h) e
    simp [-getElem?_pos, -Array.getElem?_eq_getElem, -Int.natCast_add, add_spot, and_assoc, Br_dec, -op_box, -op_st_4, -op_st_22, -op_st_119, -op_st_132, -op_st_167, -op_st_131, -op_st_144, -op_st_2, -op_st_173, -op_alloc_134, -op_alloc_131, -op_alloc_173, -op_lit_132_1, -op_lit_132_2, -op_lit_167_1, -op_lit_167_2, he', ptr, hi']
    refine op_store_ok (by kernel_rfl) b4 (by omega) r3.one fun w5 k5 z5 b5 => ?_
    refine fin k5 b5 (by simp [hcz]) ?_ fun q hq => ?_
    · rw [Array.getElem?_setIfInBounds, if_neg (by omega), hc0, cnt_same e ht']
    · rw [Array.getElem?_setIfInBounds]
      by_cases eq : q = i
      · subst eq; rw [if_pos (by omega), if_pos (by omega)]; simp [putV]
      · rw [if_neg (by omega), hcs q hq]; simp [putV, eq]
theorem set_ok : ∀ {t : Tr} {l p s : Nat}, IsH hv hash → WF hash t l p → p < 32 ^ l → hash k % 32 ^ l = p → l ≤ 7 → s = 5 * l → t ≠ .emp → (toL t).length ≤ 1000000 →
    SetC hv hash k x mu rb s t (setIn (hash k) k x t l) (getIn (hash k) k t l).isNone
  | .emp, l, p, s, hH, hW, hlt, hp, hl, hs, hne, hL => absurd rfl hne
  | .arr es, l, p, s, hH, hW, hlt, hp, hl, hs, hne, hL => hW.elim
  | .val h' k' x', l, p, s, hH, hW, hlt, hp, hl, hs, hne, hL => by
    intro h hr hrb hK
    refine setV_ok hH hW hp hl hs h hr hrb ?_
    have e : (getIn (hash k) k (Nd.val h' k' x') l).isNone = !decide (k' = k) := by
      rw [getIn]; by_cases hk : k' = k <;> simp [hk]
    rw [e] at hK; exact hK
  | .col h' es, l, p, s, hH, hW, hlt, hp, hl, hs, hne, hL => by
    intro h hr hrb hK
    refine setC_ok hH hW hp hl hs hL h hr hrb ?_
    have e : (getIn (hash k) k (Nd.col h' es) l).isNone = (!decide (h' = hash k) || (find es k).isNone) := by
      rw [getIn, look_find]
      cases hx : find es k with
      | none => simp
      | some i =>
        obtain ⟨hi, hik, _⟩ := find_some hx
        have : h' = hash k := by rw [← hW.2.2.1 es[i] (List.getElem_mem hi), hik]
        simp [this, hi]
    rw [e] at hK; exact hK
  | .br hs' f, l, p, s, hH, hW, hlt, hp, hl, hs, hne, hL => by
    obtain ⟨hl6, hWs, hup, _⟩ := hW
    have hi := frag_lt l (hash k)
    have hnext := next_lt (i := frag l (hash k)) hlt hi
    have hpre : hash k % 32 ^ (l + 1) = p + frag l (hash k) * 32 ^ l := by rw [mod_next, hp]
    have hne' := setIn_ne (x := x) hH (hWs _ hi) hpre hnext (by omega)
    have child : f (frag l (hash k)) ≠ .emp → SetC hv hash k x mu rb (s + 5) (f (frag l (hash k))) (setIn (hash k) k x (f (frag l (hash k))) (l + 1)) (getIn (hash k) k (f (frag l (hash k))) (l + 1)).isNone :=
      fun e => set_ok hH (hWs _ hi) hnext hpre (by omega) (by omega) e (Nat.le_trans (len_child (hs := hs') hi) hL)
    have he : f (frag l (hash k)) = .emp → setIn (hash k) k x (f (frag l (hash k))) (l + 1) = .val (hash k) k x ∧ (getIn (hash k) k (f (frag l (hash k))) (l + 1)).isNone = true := fun e => by
      rw [e]; exact ⟨rfl, rfl⟩
    rw [setIn, getIn]
    cases hs' with
    | false => rw [Bool.false_or]; exact setB_ok (p := p) hH hl6 hs rfl hne' _ he child
    | true => rw [Bool.true_or]; exact setH_ok (p := p) hH hl6 hs rfl hne' _ he child
end Go.Proofs.YtbghmbbhkoniiaaGreat.S
end
section
/- Setting a key behind a root. -/
namespace Go.Proofs.YtbghmbbhkoniiaaGreat.S
open Go.Vc Go.Proofs Go.Proofs.YtbghmbbhkoniiaaGreat Go.Vc.Nd
variable {w : World} {v hv : Value} {t : Tr} {F F' : Nat → Prop} {K : KV} {Kp : KP} {hash : Ky → Nat} {k : Ky} {x : Vl} {l s rb : Nat} {r0 mu : Bool}
def zeroE : Array Value := #[.int .i64 0]
theorem set_root (h : WF hash t 0 0) : Nd.set hash t k x = setIn (hash k) k x t 0 ∨ t = .emp := by
  cases t with
  | emp => exact .inr rfl
  | arr es => exact h.elim
  | _ => exact .inl rfl
theorem setIn_len (hH : IsH hv hash) (h : WF hash t 0 0) (hne : t ≠ .emp) : (toL (setIn (hash k) k x t 0)).length ≤ (toL t).length + 1 := by
  have := set_len (hash := hash) (k := k) (v := x) hH.lt (WFr.of h)
  rw [(set_root h).resolve_right hne] at this
  rw [this]; split <;> omega
theorem nil_set (h : Rep w t v F) (hne : t ≠ .emp) {K1 : Value → Prop} : (nice Tryz.prog).pur (.nilCheck (.func (.method "pub-bracken/pub/immutable.set") #[v] #[])) K1 = K1 (.func (.method "pub-bracken/pub/immutable.set") #[v] #[]) := by
  cases t with
  | emp => exact absurd rfl hne
  | arr es => obtain ⟨b, g, cap, rfl, _⟩ := h; simp [ptr]
  | val h' k x => obtain ⟨b, rfl, _⟩ := h; simp [ptr]
  | col h' es => obtain ⟨b, g, cap, rfl, _⟩ := h; simp [ptr]
  | br hs f => cases hs with
    | true => obtain ⟨b, cs, vs, Fs, rfl, _⟩ := h; simp [ptr]
    | false => obtain ⟨b, g, cap, vs, Fs, rfl, _⟩ := h; simp [ptr]
theorem setA_ok {es : List (Ky × Vl)} {kh : Value} (hH : IsH hv hash) (hL : es.length ≤ 8) (h : Rep w (.arr es) v F) (hr : flag w rb r0) (hrb : ¬ F rb)
    (hK : Sets w mu F rb (r0 || (find es k).isNone) (Nd.set hash (.arr es) k x) K) :
    (nice Tryz.prog).call (.inv v "pub-bracken/pub/immutable.set") [ek k, ev x, .int .u64 0, kh, hv, .bool mu, ptr rb] w K Kp := by
  obtain ⟨b, g, cap, rfl, h2, h3, h4, hb, h6, hg⟩ := h
  simp only [inv_128_88]
  refine vc88_calls ?_
  simp only [vc88]
  refine op_box_ok fun w k0 z0 b0 => ?_
  replace hb := k0.get hb id
  replace hg := hg.frame k0 id
  replace hr := hr.frame k0 id
  replace hK := hK.still k0
  have hne : b ≠ rb := fun e => hrb (e ▸ h2)
  have hgr : g ≠ rb := fun e => hrb (e ▸ h3)
  have l1 := lt_of_get hb
  have l2 := lt_of_get hr
  have l3 := hg.lt
  simp [-getElem?_pos, -Array.getElem?_eq_getElem, -Int.natCast_add, add_spot, and_assoc, Br_dec, -op_box, -op_st_4, -op_st_22, -op_st_119, -op_st_132, -op_st_167, -op_st_131, -op_st_144, -op_st_2, -op_st_173, -op_alloc_134, -op_alloc_131, -op_alloc_173, -op_lit_132_1, -op_lit_132_2, -op_lit_167_1, -op_lit_167_2, vc88]
  refine indexA_ok hH hb hg h6 fun w1 k1 => ?_
  have hb1 := k1.get hb id
  have hg1 := hg.frame k1 id
  have hr1 := hr.frame k1 id
  have n1 := k1.size
  have hidx : ∀ {w : World} {K : KV} {Kp : KP}, (nice Tryz.prog).op (.bin .eql 3 false true (idxV (find es k)) (.int .i64 (-1))) w K Kp = K (.bool (find es k).isNone) w := fun {w K Kp} => by
    cases find es k with
    | none => simp [idxV]
    | some i => simp only [idxV, op_eql]; rw [decide_eq_false (by omega)]; rfl
  have hidn : ∀ {w : World} {K : KV} {Kp : KP}, (nice Tryz.prog).op (.bin .neq 3 false true (idxV (find es k)) (.int .i64 (-1))) w K Kp = K (.bool (find es k).isSome) w := fun {w K Kp} => by
    cases find es k with
    | none => simp [idxV]
    | some i => simp only [idxV, op_neq]; rw [decide_eq_false (by omega)]; rfl
  simp [-getElem?_pos, -Array.getElem?_eq_getElem, -Int.natCast_add, add_spot, and_assoc, Br_dec, -op_box, -op_st_4, -op_st_22, -op_st_119, -op_st_132, -op_st_167, -op_st_131, -op_st_144, -op_st_2, -op_st_173, -op_alloc_134, -op_alloc_131, -op_alloc_173, -op_lit_132_1, -op_lit_132_2, -op_lit_167_1, -op_lit_167_2, hidx, hidn, ptr]
  refine Jn.intro (fun w2 => Frm (· = rb) w1 w2 ∧ flag w2 rb (r0 || (find es k).isNone)) ⟨fun e => ?_, fun e => ⟨Frm.refl, ?_⟩, ?_⟩
  · exact raise_ok hr1 fun w2 k2 z2 f2 => ⟨k2, by simpa [e] using f2⟩
  · have : (find es k).isNone = false := by cases h : find es k <;> simp_all
    rw [this]; simpa using hr1
  rintro w2 ⟨k2, f2⟩
  have hb2 := k2.get hb1 hne
  have hg2 := hg1.frame k2 hgr
  have n2 := k2.size
  refine Jn.intro (fun w3 => w3 = w2 ∧ ¬ ((find es k).isNone = true ∧ 8 ≤ es.length)) ⟨fun e => ?_, fun e => ⟨rfl, fun h => ?_⟩, ?_⟩
  · have h8i : ((8 : Int) ≤ (es.length : Int)) ↔ 8 ≤ es.length := by omega
    simp [-getElem?_pos, -Array.getElem?_eq_getElem, -Int.natCast_add, add_spot, and_assoc, Br_dec, -op_box, -op_st_4, -op_st_22, -op_st_119, -op_st_132, -op_st_167, -op_st_131, -op_st_144, -op_st_2, -op_st_173, -op_alloc_134, -op_alloc_131, -op_alloc_173, -op_lit_132_1, -op_lit_132_2, -op_lit_167_1, -op_lit_167_2, ptr, hb2, e, h8i]
    intro h8
    have hset : Nd.set hash (.arr es) k x = es.foldl (fun n e => setIn (hash e.1) e.1 e.2 n 0) (.val (hash k) k x) := by
      show (if ((find es k).isNone && decide (8 ≤ es.length)) = true then _ else _) = _
      rw [e, decide_eq_true h8]; rfl
    rw [hset] at hK
    refine hH.hsh fun w3 k3 => ?_
    replace k3 := Frm.dr k3
    have hb3 := k3.get hb2 id
    have hg3 := hg2.frame k3 id
    have f3 := f2.frame k3 id
    have n3 := k3.size
    refine new_val_ok (x := x) fun bv w4 k4 lv lv2 r4 => ?_
    have hb4 := k4.get hb3 id
    have hg4 := hg3.frame k4 id
    have f4 := f3.frame k4 id
    rw [e] at f4 hK
    simp only [Option.isNone_none, Bool.or_true] at f4 hK
    simp [-getElem?_pos, -Array.getElem?_eq_getElem, -Int.natCast_add, add_spot, and_assoc, Br_dec, -op_box, -op_st_4, -op_st_22, -op_st_119, -op_st_132, -op_st_167, -op_st_131, -op_st_144, -op_st_2, -op_st_173, -op_alloc_134, -op_alloc_131, -op_alloc_173, -op_lit_132_1, -op_lit_132_2, -op_lit_167_1, -op_lit_167_2, hb4]
    obtain ⟨N, hN⟩ : ∃ N : Nat → Tr, ∀ j, N j = (es.take j).foldl (fun n e => setIn (hash e.1) e.1 e.2 n 0) (.val (hash k) k x) := ⟨_, fun _ => rfl⟩
    have hN0 : N 0 = .val (hash k) k x := by rw [hN]; rfl
    have hNs : ∀ j (hj : j < es.length), N (j + 1) = setIn (hash es[j].1) es[j].1 es[j].2 (N j) 0 := fun j hj => by
      rw [hN, hN, List.take_succ_eq_append_getElem hj, List.foldl_append]; rfl
    have hNe : N es.length = es.foldl (fun n e => setIn (hash e.1) e.1 e.2 n 0) (.val (hash k) k x) := by rw [hN, List.take_length]
    have hNW : ∀ j, j ≤ es.length → WF hash (N j) 0 0 ∧ N j ≠ .emp ∧ (toL (N j)).length ≤ j + 1 := fun j => by
      induction j with
      | zero => intro _; rw [hN0]; exact ⟨⟨rfl, by simp [Nat.mod_one]⟩, by simp, by simp [toL]⟩
      | succ j ih =>
        intro hj
        obtain ⟨i1, i2, i3⟩ := ih (by omega)
        rw [hNs j (by omega)]
        have hsp := setIn_spec (hash := hash) (k := es[j].1) (v := es[j].2) hH.lt (N j) 0 0 i1 (by decide) (mod_one _) (by decide)
        have hln := setIn_len (k := es[j].1) (x := es[j].2) hH i1 i2
        exact ⟨hsp.1, hsp.2.1, by omega⟩
    clear hN
    obtain ⟨I, hI⟩ : ∃ I : Value → KV, ∀ nv sv wl, I nv sv wl ↔ ∃ (j : Nat) (Fj : Nat → Prop), sv = Value.int .i64 j ∧ j ≤ es.length ∧ Frm (· = rb) w4 wl ∧ Rep wl (N j) nv Fj ∧ (∀ c, Fj c → w3.heap.size ≤ c) ∧ flag wl rb true := ⟨_, fun _ _ _ => Iff.rfl⟩
    refine Lp.intro I (fun _ sv _ => es.length - natOf sv) ⟨(hI _ _ _).2 ⟨0, _, rfl, by omega, Frm.refl, by rw [hN0]; exact r4, fun c hc => by omega, f4⟩, ?_⟩
    intro wl nv sv hs
    obtain ⟨j, Fj, rfl, hj, kl, rl, hFj, fl⟩ := (hI _ _ _).1 hs
    have hjlt : ((j : Int) < (es.length : Int)) ↔ j < es.length := by omega
    simp [-getElem?_pos, -Array.getElem?_eq_getElem, -Int.natCast_add, add_spot, and_assoc, Br_dec, -op_box, -op_st_4, -op_st_22, -op_st_119, -op_st_132, -op_st_167, -op_st_131, -op_st_144, -op_st_2, -op_st_173, -op_alloc_134, -op_alloc_131, -op_alloc_173, -op_lit_132_1, -op_lit_132_2, -op_lit_167_1, -op_lit_167_2, hjlt]
    refine ⟨fun hlt => ?_, fun hge => ?_⟩
    · obtain ⟨hW, hne', hLn⟩ := hNW j hj
      have hgl := hg4.frame kl (by omega)
      obtain ⟨cur, hcur, hcz, hpart⟩ := hgl.part
      have nl := kl.size
      have hp := hpart (j * 1) 1 (by rw [ents_len]; omega)
      have hpe : ((ents es).drop (j * 1)).take 1 = ent es[j] := by
        rw [ents_drop, List.drop_eq_getElem_cons hlt]
        show (ent es[j] ++ ents (es.drop (j + 1))).take 1 = _
        rw [← ent_len es[j], List.take_left]
      rw [hpe] at hp
      have hp1 := hp.1
      have hp2 := hp.2
      rw [Nat.mul_one] at hp1 hp2
      simp [-getElem?_pos, -Array.getElem?_eq_getElem, -Int.natCast_add, add_spot, and_assoc, Br_dec, -op_box, -op_st_4, -op_st_22, -op_st_119, -op_st_132, -op_st_167, -op_st_131, -op_st_144, -op_st_2, -op_st_173, -op_alloc_134, -op_alloc_131, -op_alloc_173, -op_lit_132_1, -op_lit_132_2, -op_lit_167_1, -op_lit_167_2, hlt, hcur, hp1, hp2]
      refine op_alloc_ok (z := .agg zeroE) (by kernel_rfl) fun w5 k5 z5 b5 => ?_
      simp only [cells_agg] at b5
      have q5 : Rw w5 131 1 wl.heap.size 1 zeroE.toList := Rw.lit (n := 1) rfl (by decide) (by simpa using b5)
      refine op_storeRN (n := 1) (by kernel_rfl) rfl q5 (by show 0 + 1 ≤ 1; omega) (fun u hu => ents_one (es := [es[j]]) u (by simpa [ents] using hu)) fun w6 k6 z6 q6 => ?_
      have q6 : Rw w6 131 1 wl.heap.size 1 (ents [es[j]]) := by
        have h : lw zeroE.toList 0 (ent es[j]) = ents [es[j]] := by rw [lw_all (zs := zeroE.toList) (l := ent es[j]) rfl]; simp [ents]
        rw [← h]; exact q6
      obtain ⟨c6, hc6, hk6⟩ := key_cell q6
      have hk6' := hk6 0 (by simp)
      simp only [Nat.zero_mul, Nat.zero_add, List.getElem_cons_zero] at hk6'
      have hk6a := hk6'.1
      have hk6b := hk6'.2
      have hnil := fun {K1 : Value → Prop} => nil_set (K1 := K1) rl hne'
      simp [-getElem?_pos, -Array.getElem?_eq_getElem, -Int.natCast_add, add_spot, and_assoc, Br_dec, -op_box, -op_st_4, -op_st_22, -op_st_119, -op_st_132, -op_st_167, -op_st_131, -op_st_144, -op_st_2, -op_st_173, -op_alloc_134, -op_alloc_131, -op_alloc_173, -op_lit_132_1, -op_lit_132_2, -op_lit_167_1, -op_lit_167_2, ptr, hc6, hk6a, hk6b, hnil]
      refine ld_fa0_ok (ent_val (w := w6.drew) hc6) ?_
      simp [-getElem?_pos, -Array.getElem?_eq_getElem, -Int.natCast_add, add_spot, and_assoc, Br_dec, -op_box, -op_st_4, -op_st_22, -op_st_119, -op_st_132, -op_st_167, -op_st_131, -op_st_144, -op_st_2, -op_st_173, -op_alloc_134, -op_alloc_131, -op_alloc_173, -op_lit_132_1, -op_lit_132_2, -op_lit_167_1, -op_lit_167_2]
      refine hH.hsh fun w7 k7 => ?_
      have k7 := Frm.dr k7
      have hc7 := k7.get hc6 id
      simp [-getElem?_pos, -Array.getElem?_eq_getElem, -Int.natCast_add, add_spot, and_assoc, Br_dec, -op_box, -op_st_4, -op_st_22, -op_st_119, -op_st_132, -op_st_167, -op_st_131, -op_st_144, -op_st_2, -op_st_173, -op_alloc_134, -op_alloc_131, -op_alloc_173, -op_lit_132_1, -op_lit_132_2, -op_lit_167_1, -op_lit_167_2, hc7, hk6a, hk6b]
      refine ⟨same_fa0_ok (ent_val hc7), ?_⟩
      have kk := k5.fst (k6.tr k7)
      have r7 : Rep w7 (N j) nv (fun c => Fj c ∧ c < wl.heap.size) := rl.lt.frame kk fun c hc h => by rcases h with h | h; omega; exact h
      have f7 : flag w7 rb true := fl.frame kk fun h => by rcases h with h | h; omega; exact h
      have n6 := k6.size
      have n7 := k7.size
      refine set_ok (x := es[j].2) (s := 0) (p := 0) hH hW (by decide) (mod_one _) (by decide) rfl hne' (by omega) (r0 := true) r7 f7 (fun h => by have := hFj rb h.1; omega) fun v' w8 F' k8 r8 hF8 f8 => ?_
      rw [wrap_i64_small (by omega) (by omega)]
      refine ⟨(hI _ _ _).2 ⟨j + 1, F', by simp, by omega, (kl.old (kk.tr k8) fun c hc => ?_), by rw [hNs j hlt]; exact r8, fun c hc => ?_, by simpa using f8⟩, by simp only [natOf]; omega⟩
      · rcases hc with (hc | hc) | hc | hc
        · exact .inr (by omega)
        · exact hc.elim
        · exact .inl hc
        · exact absurd hc.1 (by decide)
      · rcases hF8 c hc with h | h
        · exact hFj c h.1
        · omega
    · obtain rfl : j = es.length := by omega
      rw [hNe] at rl
      have kall := k1.fst (k2.old ((k3.no k4).fst kl) fun c hc => .inl hc)
      exact hK _ wl Fj (kall.to fun c hc => .inl hc) rl (fun c hc => .inr (by have := hFj c hc; omega)) fl
  · have h1 := Option.isNone_iff_eq_none.1 h.1
    rw [h1] at e; cases e
  rintro w3 ⟨rfl, h8⟩
  have hc := hg2.cap_le h6
  have hset : Nd.set hash (.arr es) k x = .arr (upd es k x) := by
    have h8' : ((find es k).isNone && decide (8 ≤ es.length)) = false := by
      cases h : find es k with
      | none => rw [h] at h8; simp at h8 ⊢; omega
      | some i => rfl
    show (if ((find es k).isNone && decide (8 ≤ es.length)) = true then _ else _) = _
    rw [h8']; rfl
  rw [hset] at hK
  refine ⟨fun hm => ⟨fun e => ?_, fun e => ?_⟩, fun hm => ?_⟩
  · obtain ⟨i, hx⟩ := Option.isSome_iff_exists.1 e
    obtain ⟨hi, hik, _⟩ := find_some hx
    have hi' : i < es.length := hi
    simp [-getElem?_pos, -Array.getElem?_eq_getElem, -Int.natCast_add, add_spot, and_assoc, Br_dec, -op_box, -op_st_4, -op_st_22, -op_st_119, -op_st_132, -op_st_167, -op_st_131, -op_st_144, -op_st_2, -op_st_173, -op_alloc_134, -op_alloc_131, -op_alloc_173, -op_lit_132_1, -op_lit_132_2, -op_lit_167_1, -op_lit_167_2, idxV, hx, hb2, hi]
    refine op_storeRN (n := 1) (by kernel_rfl) rfl hg2 (by rw [ents_len]; omega) (fun u hu => ents_one (es := [(k, x)]) u (by simpa [ents, ent] using hu)) fun w4 k4 z4 hg4 => ?_
    replace k4 := Frm.dr k4
    have hg4 : Rw w4 131 1 g cap (ents (es.set i (k, x))) := Rw_to hg4 (ents_set_at hi (by omega) rfl)
    have hb4 := k4.get hb2 (fun e => h4 e.symm)
    refine hK _ w4 F ((k1.fst (k2.tr k4)).to fun c hc => hc.elim (fun h => .inl h) fun h => .inr ⟨hm, by rw [h]; exact h3⟩) ⟨b, g, cap, rfl, h2, h3, h4, ?_, ?_, ?_⟩ (fun _ h => .inl h) (f2.frame k4 (fun e => hgr e.symm))
    · simpa [upd, hx] using hb4
    · simpa [upd, hx] using h6
    · simpa [upd, hx] using hg4
  · have hx := e
    simp [-getElem?_pos, -Array.getElem?_eq_getElem, -Int.natCast_add, add_spot, and_assoc, Br_dec, -op_box, -op_st_4, -op_st_22, -op_st_119, -op_st_132, -op_st_167, -op_st_131, -op_st_144, -op_st_2, -op_st_173, -op_alloc_134, -op_alloc_131, -op_alloc_173, -op_lit_132_1, -op_lit_132_2, -op_lit_167_1, -op_lit_167_2, hb2]
    refine op_lit_ok lit_132_1 fun w4 k4 z4 b4 => ?_
    replace k4 := Frm.dr k4
    have hb3' := k4.get hb2 id
    simp [-getElem?_pos, -Array.getElem?_eq_getElem, -Int.natCast_add, add_spot, and_assoc, Br_dec, -op_box, -op_st_4, -op_st_22, -op_st_119, -op_st_132, -op_st_167, -op_st_131, -op_st_144, -op_st_2, -op_st_173, -op_alloc_134, -op_alloc_131, -op_alloc_173, -op_lit_132_1, -op_lit_132_2, -op_lit_167_1, -op_lit_167_2, hb3']
    have hg4 := hg2.frame k4 id
    have hq : Rw w4 131 1 w3.heap.size 1 (ent (k, x)) := Rw.lit (n := 1) (ent_len _) (by decide) (by simpa [ent] using b4)
    refine op_appendR (m := 1) (apE) hg4 (ents_len es) h6 hq (by rw [ent_len]) (fun u hu => ents_one (es := [(k, x)]) u (by simpa [ents] using hu)) (by omega) (by omega) fun w5 g' cap' k5 hg5 hc5 hgg => ?_
    have hb4 := k4.get hb2 id
    have hb5 := k5.get hb4 (fun e => h4 e.symm)
    have n4 := k4.size
    refine op_store_ok (by kernel_rfl) hb5 (by simp) rfl fun w6 k6 z6 b6 => ?_
    have hgb : g' ≠ b := by
      rcases hgg with rfl | rfl
      · exact h4
      · omega
    have hrg : g' ≠ rb := by
      rcases hgg with rfl | rfl
      · exact hgr
      · omega
    have f6 := ((f2.frame k4 id).frame k5 (fun e => hgr e.symm)).frame k6 (fun e => hne e.symm)
    refine hK _ w6 (fun c => c = b ∨ c = g') ((k1.fst ((k2.tr (k4.fst k5)).tr k6)).to fun c hc => ?_) ⟨b, g', cap', rfl, .inl rfl, .inr rfl, hgb, ?_, ?_, ?_⟩ (fun c hc => ?_) f6
    · rcases hc with (hc | hc) | hc
      · exact .inl hc
      · exact .inr ⟨hm, hc ▸ h3⟩
      · exact .inr ⟨hm, hc ▸ h2⟩
    · simpa [upd, hx] using b6
    · simpa [upd, hx] using hc5
    · simpa [upd, hx, ents_append, ents] using hg5.frame k6 hgb
    · rcases hc with rfl | rfl
      · exact .inl h2
      · rcases hgg with rfl | rfl
        · exact .inl h3
        · exact .inr (by omega)
  · refine op_alloc_ok (z := .agg #[.slice none 0 0]) (by kernel_rfl) fun w4 k4 z4 bn4 => ?_
    simp only [cells_agg] at bn4
    have hb4 := k4.get hb2 id
    have hg4 := hg2.frame k4 id
    have f4 := f2.frame k4 id
    refine ⟨fun e => ?_, fun e => ?_⟩
    · obtain ⟨i, hx⟩ := Option.isSome_iff_exists.1 e
      obtain ⟨hi, hik, _⟩ := find_some hx
      simp [-getElem?_pos, -Array.getElem?_eq_getElem, -Int.natCast_add, add_spot, and_assoc, Br_dec, -op_box, -op_st_4, -op_st_22, -op_st_119, -op_st_132, -op_st_167, -op_st_131, -op_st_144, -op_st_2, -op_st_173, -op_alloc_134, -op_alloc_131, -op_alloc_173, -op_lit_132_1, -op_lit_132_2, -op_lit_167_1, -op_lit_167_2, hb4, idxV, hx]
      refine op_make_ok (n := es.length) apE (by omega) (by omega) fun w5 zs k5 z5 hzs q5 => ?_
      have bn5 := k5.get bn4 id
      have hb5 := k5.get hb4 id
      have hg5 := hg4.frame k5 id
      have f5 := f4.frame k5 id
      refine op_store_ok (by kernel_rfl) bn5 (by simp) rfl fun w6 k6 z6 bn6 => ?_
      have hb6 := k6.get hb5 (by omega)
      have hg6 := hg5.frame k6 (by omega)
      have f6 := f5.frame k6 (by omega)
      have q6 := q5.frame k6 (by omega)
      simp [-getElem?_pos, -Array.getElem?_eq_getElem, -Int.natCast_add, add_spot, and_assoc, Br_dec, -op_box, -op_st_4, -op_st_22, -op_st_119, -op_st_132, -op_st_167, -op_st_131, -op_st_144, -op_st_2, -op_st_173, -op_alloc_134, -op_alloc_131, -op_alloc_173, -op_lit_132_1, -op_lit_132_2, -op_lit_167_1, -op_lit_167_2, bn6, hb6]
      refine op_copyR (n := es.length) (by kernel_rfl) q6.drew hg6.drew (by omega) (by rw [hzs]; omega) (by rw [ents_len]; omega) ents_one fun w7 k7 z7 q7 => ?_
      have k7 := Frm.dr k7
      have bn7 := k7.get bn6 (by omega)
      have f7 := f6.frame k7 (by omega)
      have hq : lw zs 0 (List.take (es.length * 1) (List.drop 0 (ents es))) = ents es := by
        rw [List.drop_zero, List.take_of_length_le (by rw [ents_len]; omega), lw_all (by rw [hzs, ents_len])]
      rw [hq] at q7
      simp [-getElem?_pos, -Array.getElem?_eq_getElem, -Int.natCast_add, add_spot, and_assoc, Br_dec, -op_box, -op_st_4, -op_st_22, -op_st_119, -op_st_132, -op_st_167, -op_st_131, -op_st_144, -op_st_2, -op_st_173, -op_alloc_134, -op_alloc_131, -op_alloc_173, -op_lit_132_1, -op_lit_132_2, -op_lit_167_1, -op_lit_167_2, bn7, hi]
      refine op_storeRN (n := 1) (by kernel_rfl) rfl q7 (by rw [ents_len]; omega) (fun u hu => ents_one (es := [(k, x)]) u (by simpa [ents, ent] using hu)) fun w8 k8 z8 q8 => ?_
      have bn8 := k8.get bn7 (by omega)
      have f8 := f7.frame k8 (by omega)
      have q8 : Rw w8 131 1 w4.heap.size es.length (ents (es.set i (k, x))) := Rw_to q8 (ents_set_at hi (by omega) rfl)
      have kall := k1.fst (k2.old (k4.fst (k5.fst (k6.tr (k7.tr k8)))) fun c hc => .inr (by omega))
      refine hK _ w8 (fun c => c = w3.heap.size ∨ c = w4.heap.size) (kall.to fun c hc => .inl hc) ⟨w3.heap.size, w4.heap.size, es.length, rfl, .inl rfl, .inr rfl, by omega, ?_, ?_, ?_⟩ (fun c hc => .inr (by omega)) f8
      · simpa [upd, hx] using bn8
      · simp [upd, hx]
      · simpa [upd, hx] using q8
    · have hx := e
      simp [-getElem?_pos, -Array.getElem?_eq_getElem, -Int.natCast_add, add_spot, and_assoc, Br_dec, -op_box, -op_st_4, -op_st_22, -op_st_119, -op_st_132, -op_st_167, -op_st_131, -op_st_144, -op_st_2, -op_st_173, -op_alloc_134, -op_alloc_131, -op_alloc_173, -op_lit_132_1, -op_lit_132_2, -op_lit_167_1, -op_lit_167_2, hb4, wrap_i64_small (n := (es.length : Int) + 1) (by omega) (by omega)]
      refine op_make_ok (n := es.length + 1) apE (by omega) (by omega) fun w5 zs k5 z5 hzs q5 => ?_
      have bn5 := k5.get bn4 id
      have hb5 := k5.get hb4 id
      have hg5 := hg4.frame k5 id
      have f5 := f4.frame k5 id
      refine op_store_ok (by kernel_rfl) bn5 (by simp) rfl fun w6 k6 z6 bn6 => ?_
      have hb6 := k6.get hb5 (by omega)
      have hg6 := hg5.frame k6 (by omega)
      have f6 := f5.frame k6 (by omega)
      have q6 := q5.frame k6 (by omega)
      simp [-getElem?_pos, -Array.getElem?_eq_getElem, -Int.natCast_add, add_spot, and_assoc, Br_dec, -op_box, -op_st_4, -op_st_22, -op_st_119, -op_st_132, -op_st_167, -op_st_131, -op_st_144, -op_st_2, -op_st_173, -op_alloc_134, -op_alloc_131, -op_alloc_173, -op_lit_132_1, -op_lit_132_2, -op_lit_167_1, -op_lit_167_2, bn6, hb6]
      refine op_copyR (n := es.length) (by kernel_rfl) q6.drew hg6.drew (by omega) (by rw [hzs]; omega) (by rw [ents_len]; omega) ents_one fun w7 k7 z7 q7 => ?_
      have k7 := Frm.dr k7
      have bn7 := k7.get bn6 (by omega)
      have f7 := f6.frame k7 (by omega)
      have hq : lw zs 0 (List.take (es.length * 1) (List.drop 0 (ents es))) = ents es ++ zs.drop (es.length * 1) := by
        rw [List.drop_zero, List.take_of_length_le (by rw [ents_len]; omega), lw_first, ents_len]
      rw [hq] at q7
      have hm1 : IntKind.i64.wrap (((es.length + 1 : Nat) : Int) - 1) = (es.length : Int) := by rw [IntKind.wrap_i64]; omega
      simp [-getElem?_pos, -Array.getElem?_eq_getElem, -Int.natCast_add, add_spot, and_assoc, Br_dec, -op_box, -op_st_4, -op_st_22, -op_st_119, -op_st_132, -op_st_167, -op_st_131, -op_st_144, -op_st_2, -op_st_173, -op_alloc_134, -op_alloc_131, -op_alloc_173, -op_lit_132_1, -op_lit_132_2, -op_lit_167_1, -op_lit_167_2, bn7, hm1]
      refine op_storeRN (n := 1) (by kernel_rfl) rfl q7 (by simp [ents_len, hzs] <;> omega) (fun u hu => ents_one (es := [(k, x)]) u (by simpa [ents, ent] using hu)) fun w8 k8 z8 q8 => ?_
      have bn8 := k8.get bn7 (by omega)
      have f8 := f7.frame k8 (by omega)
      have q8 : Rw w8 131 1 w4.heap.size (es.length + 1) (ents (es ++ [(k, x)])) := Rw_to q8 (ents_snoc_at (by rw [List.length_drop, hzs]; omega) (by omega) rfl)
      have kall := k1.fst (k2.old (k4.fst (k5.fst (k6.tr (k7.tr k8)))) fun c hc => .inr (by omega))
      refine hK _ w8 (fun c => c = w3.heap.size ∨ c = w4.heap.size) (kall.to fun c hc => .inl hc) ⟨w3.heap.size, w4.heap.size, es.length + 1, rfl, .inl rfl, .inr rfl, by omega, ?_, ?_, ?_⟩ (fun c hc => .inr (by omega)) f8
      · simpa [upd, hx] using bn8
      · simp [upd, hx]
      · simpa [upd, hx] using q8
theorem root_set_ok (hH : IsH hv hash) (hW : WFr hash t) (hne : t ≠ .emp) (hL : (toL t).length ≤ 1000000) (h : Rep w t v F) (hr : flag w rb r0) (hrb : ¬ F rb) (hK : Sets w mu F rb (r0 || (getIn (hash k) k t 0).isNone) (Nd.set hash t k x) K) :
    (nice Tryz.prog).call (.inv v "pub-bracken/pub/immutable.set") [ek k, ev x, .int .u64 0, .int .u32 (hash k), hv, .bool mu, ptr rb] w K Kp := by
  have go : WF hash t 0 0 → (nice Tryz.prog).call (.inv v "pub-bracken/pub/immutable.set") [ek k, ev x, .int .u64 0, .int .u32 (hash k), hv, .bool mu, ptr rb] w K Kp := fun hW' => by
    rw [(set_root hW').resolve_right hne] at hK
    exact set_ok (s := 0) (p := 0) hH hW' (by decide) (mod_one _) (by decide) rfl hne hL h hr hrb hK
  cases t with
  | emp => exact absurd rfl hne
  | arr es =>
    refine setA_ok hH hW.2.1 h hr hrb ?_
    have e : (getIn (hash k) k (Nd.arr es) 0).isNone = (find es k).isNone := by
      rw [getIn, look_find]
      cases hx : find es k with
      | none => rfl
      | some i =>
        obtain ⟨hi, hik, _⟩ := find_some hx
        simp [hi]
    rw [e] at hK; exact hK
  | br hs f => exact go hW
  | val h' k' x' => exact go hW
  | col h' es => exact go hW
end Go.Proofs.YtbghmbbhkoniiaaGreat.S
end
section
/- Deleting a key from a leaf. -/
namespace Go.Proofs.YtbghmbbhkoniiaaGreat.S
open Go.Vc Go.Proofs Go.Proofs.YtbghmbbhkoniiaaGreat Go.Vc.Nd
variable {w w' : World} {v hv : Value} {t : Tr} {F : Nat → Prop} {K : KV} {Kp : KP} {hash : Ky → Nat} {k : Ky} {l s rb : Nat} {mu : Bool}
def Dels (w : World) (mu : Bool) (F : Nat → Prop) (rb : Nat) (v : Value) (dl : Bool) (t' : Tr) (K : KV) : Prop :=
  (dl = false → ∀ w', Frm (fun _ => False) w w' → K v w') ∧ (dl = true → Sets w mu F rb true t' K)
def DelC (hv : Value) (hash : Ky → Nat) (k : Ky) (mu : Bool) (rb s : Nat) (t t' : Tr) (dl : Bool) : Prop :=
  ∀ {w : World} {v : Value} {F : Nat → Prop} {K : KV} {Kp : KP}, Rep w t v F → flag w rb false → ¬ F rb → Dels w mu F rb v dl t' K →
    (nice Tryz.prog).call (.inv v "pub-bracken/pub/immutable.delete") [ek k, .int .u64 s, .int .u32 (hash k), hv, .bool mu, ptr rb] w K Kp
theorem ents_erase (es : List (Ky × Vl)) (i : Nat) : ents (es.eraseIdx i) = (ents es).take (i * 1) ++ (ents es).drop (i * 1 + 1) := by
  rw [List.eraseIdx_eq_take_drop_succ, ents_append, ents_take, show i * 1 + 1 = (i + 1) * 1 from by omega, ents_drop]
theorem lw_keep {xs l : List Value} {o : Nat} (h : o ≤ xs.length) : (lw xs o l).take o = xs.take o := by
  rw [lw, List.append_assoc, List.take_append_of_le_length (by simp; omega), List.take_take, Nat.min_self]
theorem delV_ok {h' : Nat} {k' : Ky} {x' : Vl} (hH : IsH hv hash) : DelC hv hash k mu rb s (.val h' k' x') (if k' = k then .emp else .val h' k' x') (decide (k' = k)) := by
  intro w v F K Kp h hr hrb hK
  have h0 := h
  obtain ⟨b, rfl, h2, h3⟩ := h
  simp only [inv_135_90]
  refine vc90_calls ?_
  simp [-getElem?_pos, -Array.getElem?_eq_getElem, -Int.natCast_add, add_spot, and_assoc, Br_dec, -op_box, -op_st_4, -op_st_22, -op_st_119, -op_st_132, -op_st_167, -op_st_131, -op_st_144, -op_st_2, -op_st_173, -op_alloc_134, -op_alloc_131, -op_alloc_173, -op_lit_132_1, -op_lit_132_2, -op_lit_167_1, -op_lit_167_2, vc90, ptr, h3, hH.nilE]
  refine hH.eqv fun w1 k1 => ?_
  have k1 := Frm.dr k1
  have hr' := hr.frame k1 id
  by_cases hk : k' = k
  · rw [if_pos hk, decide_eq_true hk] at hK
    have hK := hK.2 rfl
    simp [-getElem?_pos, -Array.getElem?_eq_getElem, -Int.natCast_add, add_spot, and_assoc, Br_dec, -op_box, -op_st_4, -op_st_22, -op_st_119, -op_st_132, -op_st_167, -op_st_131, -op_st_144, -op_st_2, -op_st_173, -op_alloc_134, -op_alloc_131, -op_alloc_173, -op_lit_132_1, -op_lit_132_2, -op_lit_167_1, -op_lit_167_2, hk]
    refine raise_ok hr' fun w2 k2 z2 f2 => ?_
    exact hK _ w2 (fun _ => False) ((k1.fst k2).to fun c hc => .inl hc) rfl (fun _ h => h.elim) f2
  · rw [if_neg hk, decide_eq_false hk] at hK
    simp [-getElem?_pos, -Array.getElem?_eq_getElem, -Int.natCast_add, add_spot, and_assoc, Br_dec, -op_box, -op_st_4, -op_st_22, -op_st_119, -op_st_132, -op_st_167, -op_st_131, -op_st_144, -op_st_2, -op_st_173, -op_alloc_134, -op_alloc_131, -op_alloc_173, -op_lit_132_1, -op_lit_132_2, -op_lit_167_1, -op_lit_167_2, hk]
    exact hK.1 rfl w1 k1
theorem delC_ok {h' p : Nat} {es : List (Ky × Vl)} (hH : IsH hv hash) (hz : es.length ≤ 1000000) (h2e : 2 ≤ es.length) : DelC hv hash k mu rb s (.col h' es) (delIn (hash k) k (.col h' es) l) (find es k).isSome := by
  intro w v F K Kp h hr hrb hK
  have h0 := h
  obtain ⟨b, g, cap, rfl, h2, h3, h4, hb, h6, hg⟩ := h
  simp only [inv_138_95]
  refine vc95_calls ?_
  have hne : b ≠ rb := fun e => hrb (e ▸ h2)
  have hgr : g ≠ rb := fun e => hrb (e ▸ h3)
  simp [-getElem?_pos, -Array.getElem?_eq_getElem, -Int.natCast_add, add_spot, and_assoc, Br_dec, -op_box, -op_st_4, -op_st_22, -op_st_119, -op_st_132, -op_st_167, -op_st_131, -op_st_144, -op_st_2, -op_st_173, -op_alloc_134, -op_alloc_131, -op_alloc_173, -op_lit_132_1, -op_lit_132_2, -op_lit_167_1, -op_lit_167_2, vc95, ptr]
  refine indexC_ok hH hb hg h6 fun w1 k1 => ?_
  have hb1 := k1.get hb id
  have hg1 := hg.frame k1 id
  have hr1 := hr.frame k1 id
  have n1 := k1.size
  have hc := hg.cap_le h6
  have l1 := lt_of_get hb
  have l2 := lt_of_get hr
  have l3 := hg.lt
  rw [delIn] at hK
  cases hx : find es k with
  | none =>
    rw [hx] at hK
    simp [-getElem?_pos, -Array.getElem?_eq_getElem, -Int.natCast_add, add_spot, and_assoc, Br_dec, -op_box, -op_st_4, -op_st_22, -op_st_119, -op_st_132, -op_st_167, -op_st_131, -op_st_144, -op_st_2, -op_st_173, -op_alloc_134, -op_alloc_131, -op_alloc_173, -op_lit_132_1, -op_lit_132_2, -op_lit_167_1, -op_lit_167_2, idxV]
    exact hK.1 rfl w1 k1
  | some i =>
    obtain ⟨hi, hik, _⟩ := find_some hx
    rw [hx] at hK
    have hK := hK.2 rfl
    dsimp only at hK
    rw [Sets] at hK
    have hcast : ((es.length : Int) = 2) ↔ es.length = 2 := by omega
    have hi1 : ¬ ((i : Int) = -1) := by omega
    simp [-getElem?_pos, -Array.getElem?_eq_getElem, -Int.natCast_add, add_spot, and_assoc, Br_dec, -op_box, -op_st_4, -op_st_22, -op_st_119, -op_st_132, -op_st_167, -op_st_131, -op_st_144, -op_st_2, -op_st_173, -op_alloc_134, -op_alloc_131, -op_alloc_173, -op_lit_132_1, -op_lit_132_2, -op_lit_167_1, -op_lit_167_2, idxV, hi1]
    refine raise_ok hr1 fun w2 k2 z2 f2 => ?_
    have hb2 := k2.get hb1 hne
    have hg2 := hg1.frame k2 hgr
    simp [-getElem?_pos, -Array.getElem?_eq_getElem, -Int.natCast_add, add_spot, and_assoc, Br_dec, -op_box, -op_st_4, -op_st_22, -op_st_119, -op_st_132, -op_st_167, -op_st_131, -op_st_144, -op_st_2, -op_st_173, -op_alloc_134, -op_alloc_131, -op_alloc_173, -op_lit_132_1, -op_lit_132_2, -op_lit_167_1, -op_lit_167_2, hb2, hcast]
    refine ⟨fun hlen => ?_, fun hlen => ⟨fun hm => ?_, fun hm => ?_⟩⟩
    · obtain ⟨a, c, rfl⟩ : ∃ a c, es = [a, c] := by
        match es, hlen with
        | [a, c], _ => exact ⟨a, c, rfl⟩
      have hx0 : bitsV .xor .i64 0 1 = 1 := by decide
      have hx1 : bitsV .xor .i64 1 1 = 0 := by decide
      obtain ⟨cur, hcur, hk⟩ := key_cell hg2
      have hk0 := hk 0 (by simp)
      have hk1 := hk 1 (by simp)
      simp only [Nat.zero_mul, Nat.zero_add, Nat.one_mul, List.getElem_cons_zero, List.getElem_cons_succ] at hk0 hk1
      have hk0a := hk0.1
      have hk0b := hk0.2
      have hk1a := hk1.1
      have hk1b := hk1.2
      have hi2 : i = 0 ∨ i = 1 := by simp at hi; omega
      rcases hi2 with rfl | rfl
      · simp [-getElem?_pos, -Array.getElem?_eq_getElem, -Int.natCast_add, add_spot, and_assoc, Br_dec, -op_box, -op_st_4, -op_st_22, -op_st_119, -op_st_132, -op_st_167, -op_st_131, -op_st_144, -op_st_2, -op_st_173, -op_alloc_134, -op_alloc_131, -op_alloc_173, -op_lit_132_1, -op_lit_132_2, -op_lit_167_1, -op_lit_167_2, hx0, hcur, hk1a, hk1b]
        refine ld_fa0_ok (ent_val (w := w2.drew) hcur) ?_
        simp [-getElem?_pos, -Array.getElem?_eq_getElem, -Int.natCast_add, add_spot, and_assoc, Br_dec, -op_box, -op_st_4, -op_st_22, -op_st_119, -op_st_132, -op_st_167, -op_st_131, -op_st_144, -op_st_2, -op_st_173, -op_alloc_134, -op_alloc_131, -op_alloc_173, -op_lit_132_1, -op_lit_132_2, -op_lit_167_1, -op_lit_167_2]
        refine op_box_ok fun w3 k3 z3 b3 => ?_
        refine hK _ w3 (fun d => d = w2.heap.size) ((k1.fst (k2.old (Frm.dr k3) fun _ h => h.elim)).to fun c hc => .inl hc) ⟨_, rfl, by simp, by simpa using b3⟩ (fun d hd => .inr (by omega)) (by simpa using f2.frame (Frm.dr k3) id)
      · simp [-getElem?_pos, -Array.getElem?_eq_getElem, -Int.natCast_add, add_spot, and_assoc, Br_dec, -op_box, -op_st_4, -op_st_22, -op_st_119, -op_st_132, -op_st_167, -op_st_131, -op_st_144, -op_st_2, -op_st_173, -op_alloc_134, -op_alloc_131, -op_alloc_173, -op_lit_132_1, -op_lit_132_2, -op_lit_167_1, -op_lit_167_2, hx1, hcur, hk0a, hk0b]
        refine ld_fa0_ok (ent_val (w := w2.drew) hcur) ?_
        simp [-getElem?_pos, -Array.getElem?_eq_getElem, -Int.natCast_add, add_spot, and_assoc, Br_dec, -op_box, -op_st_4, -op_st_22, -op_st_119, -op_st_132, -op_st_167, -op_st_131, -op_st_144, -op_st_2, -op_st_173, -op_alloc_134, -op_alloc_131, -op_alloc_173, -op_lit_132_1, -op_lit_132_2, -op_lit_167_1, -op_lit_167_2]
        refine op_box_ok fun w3 k3 z3 b3 => ?_
        refine hK _ w3 (fun d => d = w2.heap.size) ((k1.fst (k2.old (Frm.dr k3) fun _ h => h.elim)).to fun c hc => .inl hc) ⟨_, rfl, by simp, by simpa using b3⟩ (fun d hd => .inr (by omega)) (by simpa using f2.frame (Frm.dr k3) id)
    · have hw : IntKind.i64.wrap ((i : Int) + 1) = ((i + 1 : Nat) : Int) := by rw [IntKind.wrap_i64]; omega
      have hw1 : IntKind.i64.wrap ((es.length : Int) - 1) = ((es.length - 1 : Nat) : Int) := by rw [IntKind.wrap_i64]; omega
      simp [-getElem?_pos, -Array.getElem?_eq_getElem, -Int.natCast_add, add_spot, and_assoc, Br_dec, -op_box, -op_st_4, -op_st_22, -op_st_119, -op_st_132, -op_st_167, -op_st_131, -op_st_144, -op_st_2, -op_st_173, -op_alloc_134, -op_alloc_131, -op_alloc_173, -op_lit_132_1, -op_lit_132_2, -op_lit_167_1, -op_lit_167_2, hw]
      refine ⟨by omega, h6, by omega, h6, ?_⟩
      refine op_copyX (n := es.length - i - 1) (x1 := i) (x2 := i + 1) (by kernel_rfl) hg2.drew hg2.drew (by split; exact .inr ⟨rfl, by omega⟩; exact .inl (by simp)) (by split; exact .inr ⟨rfl, by omega⟩; exact .inl (by simp)) (by omega) (by rw [ents_len]; omega) (by rw [ents_len]; omega) ents_one fun w3 k3 z3 q3 => ?_
      have k3 := Frm.dr k3
      have hb3 := k3.get hb2 (fun e => h4 e.symm)
      have f3 := f2.frame k3 (fun e => hgr e.symm)
      have hlt1 : es.length - 1 < es.length := by omega
      simp [-getElem?_pos, -Array.getElem?_eq_getElem, -Int.natCast_add, add_spot, and_assoc, Br_dec, -op_box, -op_st_4, -op_st_22, -op_st_119, -op_st_132, -op_st_167, -op_st_131, -op_st_144, -op_st_2, -op_st_173, -op_alloc_134, -op_alloc_131, -op_alloc_173, -op_lit_132_1, -op_lit_132_2, -op_lit_167_1, -op_lit_167_2, hb3, hw1, hlt1]
      have hdel := del_mut (A := ents es) (r := i * 1) (m := 1) (by rw [ents_len]; omega)
      rw [← ents_erase, ents_len, show es.length * 1 - i * 1 - 1 = (es.length - i - 1) * 1 from by omega, show i * 1 + 1 = (i + 1) * 1 from by omega] at hdel
      have hl3 : (lw (ents es) (i * 1) (List.take ((es.length - i - 1) * 1) (List.drop ((i + 1) * 1) (ents es)))).length = es.length * 1 := by rw [lw_len (by simp [ents_len]; omega), ents_len]
      refine op_storeRN (n := 1) (by kernel_rfl) rfl q3.drew (by rw [hl3]; omega) (fun u hu => by simp at hu; first | subst hu; rfl | (rcases hu with rfl | rfl <;> rfl)) fun w4 k4 z4 q4 => ?_
      have k4 := Frm.dr k4
      have hb4 := k4.get hb3 (fun e => h4 e.symm)
      have f4 := f3.frame k4 (fun e => hgr e.symm)
      have q4 := q4.take ((es.length - 1) * 1)
      simp only [Nat.mul_one] at q4 hdel hl3
      rw [lw_keep (by rw [hl3]; omega), hdel] at q4
      have hle4 : es.length - 1 ≤ cap := by omega
      simp [-getElem?_pos, -Array.getElem?_eq_getElem, -Int.natCast_add, add_spot, and_assoc, Br_dec, -op_box, -op_st_4, -op_st_22, -op_st_119, -op_st_132, -op_st_167, -op_st_131, -op_st_144, -op_st_2, -op_st_173, -op_alloc_134, -op_alloc_131, -op_alloc_173, -op_lit_132_1, -op_lit_132_2, -op_lit_167_1, -op_lit_167_2, hb4, hw1, hle4]
      refine op_store_ok (by kernel_rfl) (show w4.drew.heap[b]? = _ from by simpa using hb4) (by simp) rfl fun w5 k5 z5 b5 => ?_
      have k5 := Frm.dr k5
      have q5 := q4.frame k5 h4
      have f5 := f4.frame k5 (fun e => hne e.symm)
      rw [if_neg hlen] at hK
      have hel : (es.eraseIdx i).length = es.length - 1 := by rw [List.length_eraseIdx, if_pos hi]
      refine hK _ w5 F ((k1.fst (k2.tr (k3.tr (k4.tr k5)))).to fun c hc => ?_) ⟨b, g, cap, rfl, h2, h3, h4, by rw [hel]; simpa using b5, by rw [hel]; omega, q5⟩ (fun _ h => .inl h) f5
      rcases hc with h | h | h | h
      · exact .inl h
      · exact .inr ⟨hm, by rw [h]; exact h3⟩
      · exact .inr ⟨hm, by rw [h]; exact h3⟩
      · exact .inr ⟨hm, by rw [h]; exact h2⟩
    · have hw : IntKind.i64.wrap ((i : Int) + 1) = ((i + 1 : Nat) : Int) := by rw [IntKind.wrap_i64]; omega
      have hw1 : IntKind.i64.wrap ((es.length : Int) - 1) = ((es.length - 1 : Nat) : Int) := by rw [IntKind.wrap_i64]; omega
      rw [hw1]
      refine op_make_ok (n := es.length - 1) apE rfl (by omega) fun w3 zs k3 z3 hzs q3 => ?_
      have k3 := Frm.dr k3
      simp only [heap_drew] at z3 q3
      have hb3 := k3.get hb2 id
      have hg3 := hg2.frame k3 id
      have f3 := f2.frame k3 id
      simp [-getElem?_pos, -Array.getElem?_eq_getElem, -Int.natCast_add, add_spot, and_assoc, Br_dec, -op_box, -op_st_4, -op_st_22, -op_st_119, -op_st_132, -op_st_167, -op_st_131, -op_st_144, -op_st_2, -op_st_173, -op_alloc_134, -op_alloc_131, -op_alloc_173, -op_lit_132_1, -op_lit_132_2, -op_lit_167_1, -op_lit_167_2, hb3]
      refine op_box_ok fun w4 k4 z4 b4 => ?_
      simp only [cells_agg] at b4
      have hb4 := k4.get hb3 id
      have hg4 := hg3.frame k4 id
      have q4 := q3.frame k4 id
      have f4 := f3.frame k4 id
      have hile : i ≤ es.length - 1 := by omega
      have hicap : i ≤ cap := by omega
      simp [-getElem?_pos, -Array.getElem?_eq_getElem, -Int.natCast_add, add_spot, and_assoc, Br_dec, -op_box, -op_st_4, -op_st_22, -op_st_119, -op_st_132, -op_st_167, -op_st_131, -op_st_144, -op_st_2, -op_st_173, -op_alloc_134, -op_alloc_131, -op_alloc_173, -op_lit_132_1, -op_lit_132_2, -op_lit_167_1, -op_lit_167_2, b4, hb4, hile, hicap]
      refine op_copyX (n := i) (x1 := 0) (x2 := 0) (by kernel_rfl) q4.drew hg4.drew (.inl rfl) (.inl rfl) (by omega) (by omega) (by rw [ents_len]; omega) ents_one fun w5 k5 z5 q5 => ?_
      have k5 := Frm.dr k5
      have b5 := k5.get b4 (by omega)
      have hb5 := k5.get hb4 (by omega)
      have hg5 := hg4.frame k5 (by omega)
      have f5 := f4.frame k5 (by omega)
      simp only [Nat.zero_mul, List.drop_zero] at q5
      simp [-getElem?_pos, -Array.getElem?_eq_getElem, -Int.natCast_add, add_spot, and_assoc, Br_dec, -op_box, -op_st_4, -op_st_22, -op_st_119, -op_st_132, -op_st_167, -op_st_131, -op_st_144, -op_st_2, -op_st_173, -op_alloc_134, -op_alloc_131, -op_alloc_173, -op_lit_132_1, -op_lit_132_2, -op_lit_167_1, -op_lit_167_2, b5, hb5, hw]
      refine ⟨hile, by omega, h6, ?_⟩
      have hdel := del_new (A := ents es) (zs := zs) (r := i * 1) (m := 1) (by rw [ents_len]; omega) (by rw [ents_len, hzs]; omega)
      rw [← ents_erase, ents_len, show es.length * 1 - i * 1 - 1 = (es.length - i - 1) * 1 from by omega, show i * 1 + 1 = (i + 1) * 1 from by omega] at hdel
      refine op_copyX (n := es.length - i - 1) (x1 := i) (x2 := i + 1) (by kernel_rfl) q5.drew hg5.drew (by split; exact .inr ⟨rfl, by omega⟩; exact .inl (by simp)) (by split; exact .inr ⟨rfl, by omega⟩; exact .inl (by simp)) (by omega)
        (by rw [lw_len (by simp [ents_len, hzs]; omega)]; omega) (by rw [ents_len]; omega) ents_one fun w6 k6 z6 q6 => ?_
      have k6 := Frm.dr k6
      have b6 := k6.get b5 (by omega)
      have f6 := f5.frame k6 (by omega)
      rw [hdel] at q6
      rw [if_neg hlen] at hK
      have hel : (es.eraseIdx i).length = es.length - 1 := by rw [List.length_eraseIdx, if_pos hi]
      have kall := k1.fst (k2.old (k3.fst (k4.fst (k5.tr k6))) fun c hc => .inr (by omega))
      refine hK _ w6 (fun c => c = w3.heap.size ∨ c = w2.heap.size) (kall.to fun c hc => .inl hc) ⟨w3.heap.size, w2.heap.size, es.length - 1, rfl, .inl rfl, .inr rfl, by omega, by rw [hel]; simpa using b6, by rw [hel]; omega, q6⟩ (fun c hc => .inr (by omega)) f6
end Go.Proofs.YtbghmbbhkoniiaaGreat.S
end
section
/- Deleting a key from the array of a root. -/
namespace Go.Proofs.YtbghmbbhkoniiaaGreat.S
open Go.Vc Go.Proofs Go.Proofs.YtbghmbbhkoniiaaGreat Go.Vc.Nd
variable {w : World} {v hv : Value} {F : Nat → Prop} {K : KV} {Kp : KP} {hash : Ky → Nat} {k : Ky} {rb : Nat} {mu : Bool}
theorem delA_ok {es : List (Ky × Vl)} {kh : Value} (hH : IsH hv hash) (hz : es.length ≤ 1000000) (h1e : 1 ≤ es.length) (h : Rep w (.arr es) v F) (hr : flag w rb false) (hrb : ¬ F rb) (hK : Dels w mu F rb v (find es k).isSome (Nd.del hash (.arr es) k) K) :
    (nice Tryz.prog).call (.inv v "pub-bracken/pub/immutable.delete") [ek k, .int .u64 0, kh, hv, .bool mu, ptr rb] w K Kp := by
  have h0 := h
  obtain ⟨b, g, cap, rfl, h2, h3, h4, hb, h6, hg⟩ := h
  simp only [inv_128_85]
  refine vc85_calls ?_
  have hne : b ≠ rb := fun e => hrb (e ▸ h2)
  have hgr : g ≠ rb := fun e => hrb (e ▸ h3)
  simp [-getElem?_pos, -Array.getElem?_eq_getElem, -Int.natCast_add, add_spot, and_assoc, Br_dec, -op_box, -op_st_4, -op_st_22, -op_st_119, -op_st_132, -op_st_167, -op_st_131, -op_st_144, -op_st_2, -op_st_173, -op_alloc_134, -op_alloc_131, -op_alloc_173, -op_lit_132_1, -op_lit_132_2, -op_lit_167_1, -op_lit_167_2, vc85, ptr]
  refine indexA_ok hH hb hg h6 fun w1 k1 => ?_
  have hb1 := k1.get hb id
  have hg1 := hg.frame k1 id
  have hr1 := hr.frame k1 id
  have n1 := k1.size
  have hc := hg.cap_le h6
  have l1 := lt_of_get hb
  have l2 := lt_of_get hr
  have l3 := hg.lt
  rw [Nd.del] at hK
  cases hx : find es k with
  | none =>
    rw [hx] at hK
    simp [-getElem?_pos, -Array.getElem?_eq_getElem, -Int.natCast_add, add_spot, and_assoc, Br_dec, -op_box, -op_st_4, -op_st_22, -op_st_119, -op_st_132, -op_st_167, -op_st_131, -op_st_144, -op_st_2, -op_st_173, -op_alloc_134, -op_alloc_131, -op_alloc_173, -op_lit_132_1, -op_lit_132_2, -op_lit_167_1, -op_lit_167_2, idxV]
    exact hK.1 rfl w1 k1
  | some i =>
    obtain ⟨hi, hik, _⟩ := find_some hx
    rw [hx] at hK
    have hK := hK.2 rfl
    dsimp only at hK
    rw [Sets] at hK
    have hcast : ((es.length : Int) = 1) ↔ es.length = 1 := by omega
    have hi1 : ¬ ((i : Int) = -1) := by omega
    simp [-getElem?_pos, -Array.getElem?_eq_getElem, -Int.natCast_add, add_spot, and_assoc, Br_dec, -op_box, -op_st_4, -op_st_22, -op_st_119, -op_st_132, -op_st_167, -op_st_131, -op_st_144, -op_st_2, -op_st_173, -op_alloc_134, -op_alloc_131, -op_alloc_173, -op_lit_132_1, -op_lit_132_2, -op_lit_167_1, -op_lit_167_2, idxV, hi1]
    refine raise_ok hr1 fun w2 k2 z2 f2 => ?_
    have hb2 := k2.get hb1 hne
    have hg2 := hg1.frame k2 hgr
    simp [-getElem?_pos, -Array.getElem?_eq_getElem, -Int.natCast_add, add_spot, and_assoc, Br_dec, -op_box, -op_st_4, -op_st_22, -op_st_119, -op_st_132, -op_st_167, -op_st_131, -op_st_144, -op_st_2, -op_st_173, -op_alloc_134, -op_alloc_131, -op_alloc_173, -op_lit_132_1, -op_lit_132_2, -op_lit_167_1, -op_lit_167_2, hb2, hcast]
    refine ⟨fun hlen => ?_, fun hlen => ⟨fun hm => ?_, fun hm => ?_⟩⟩
    · rw [if_pos hlen] at hK
      exact hK _ w2 (fun _ => False) ((k1.fst k2).to fun c hc => .inl hc) rfl (fun _ h => h.elim) f2
    · have hw : IntKind.i64.wrap ((i : Int) + 1) = ((i + 1 : Nat) : Int) := by rw [IntKind.wrap_i64]; omega
      have hw1 : IntKind.i64.wrap ((es.length : Int) - 1) = ((es.length - 1 : Nat) : Int) := by rw [IntKind.wrap_i64]; omega
      simp [-getElem?_pos, -Array.getElem?_eq_getElem, -Int.natCast_add, add_spot, and_assoc, Br_dec, -op_box, -op_st_4, -op_st_22, -op_st_119, -op_st_132, -op_st_167, -op_st_131, -op_st_144, -op_st_2, -op_st_173, -op_alloc_134, -op_alloc_131, -op_alloc_173, -op_lit_132_1, -op_lit_132_2, -op_lit_167_1, -op_lit_167_2, hw]
      refine ⟨by omega, h6, by omega, h6, ?_⟩
      refine op_copyX (n := es.length - i - 1) (x1 := i) (x2 := i + 1) (by kernel_rfl) hg2.drew hg2.drew (by split; exact .inr ⟨rfl, by omega⟩; exact .inl (by simp)) (by split; exact .inr ⟨rfl, by omega⟩; exact .inl (by simp)) (by omega) (by rw [ents_len]; omega) (by rw [ents_len]; omega) ents_one fun w3 k3 z3 q3 => ?_
      have k3 := Frm.dr k3
      have hb3 := k3.get hb2 (fun e => h4 e.symm)
      have f3 := f2.frame k3 (fun e => hgr e.symm)
      have hlt1 : es.length - 1 < es.length := by omega
      simp [-getElem?_pos, -Array.getElem?_eq_getElem, -Int.natCast_add, add_spot, and_assoc, Br_dec, -op_box, -op_st_4, -op_st_22, -op_st_119, -op_st_132, -op_st_167, -op_st_131, -op_st_144, -op_st_2, -op_st_173, -op_alloc_134, -op_alloc_131, -op_alloc_173, -op_lit_132_1, -op_lit_132_2, -op_lit_167_1, -op_lit_167_2, hb3, hw1, hlt1]
      have hdel := del_mut (A := ents es) (r := i * 1) (m := 1) (by rw [ents_len]; omega)
      rw [← ents_erase, ents_len, show es.length * 1 - i * 1 - 1 = (es.length - i - 1) * 1 from by omega, show i * 1 + 1 = (i + 1) * 1 from by omega] at hdel
      have hl3 : (lw (ents es) (i * 1) (List.take ((es.length - i - 1) * 1) (List.drop ((i + 1) * 1) (ents es)))).length = es.length * 1 := by rw [lw_len (by simp [ents_len]; omega), ents_len]
      refine op_storeRN (n := 1) (by kernel_rfl) rfl q3.drew (by rw [hl3]; omega) (fun u hu => by simp at hu; first | subst hu; rfl | (rcases hu with rfl | rfl <;> rfl)) fun w4 k4 z4 q4 => ?_
      have k4 := Frm.dr k4
      have hb4 := k4.get hb3 (fun e => h4 e.symm)
      have f4 := f3.frame k4 (fun e => hgr e.symm)
      have q4 := q4.take ((es.length - 1) * 1)
      simp only [Nat.mul_one] at q4 hdel hl3
      rw [lw_keep (by rw [hl3]; omega), hdel] at q4
      have hle4 : es.length - 1 ≤ cap := by omega
      simp [-getElem?_pos, -Array.getElem?_eq_getElem, -Int.natCast_add, add_spot, and_assoc, Br_dec, -op_box, -op_st_4, -op_st_22, -op_st_119, -op_st_132, -op_st_167, -op_st_131, -op_st_144, -op_st_2, -op_st_173, -op_alloc_134, -op_alloc_131, -op_alloc_173, -op_lit_132_1, -op_lit_132_2, -op_lit_167_1, -op_lit_167_2, hb4, hw1, hle4]
      refine op_store_ok (by kernel_rfl) (show w4.drew.heap[b]? = _ from by simpa using hb4) (by simp) rfl fun w5 k5 z5 b5 => ?_
      have k5 := Frm.dr k5
      have q5 := q4.frame k5 h4
      have f5 := f4.frame k5 (fun e => hne e.symm)
      rw [if_neg hlen] at hK
      have hel : (es.eraseIdx i).length = es.length - 1 := by rw [List.length_eraseIdx, if_pos hi]
      refine hK _ w5 F ((k1.fst (k2.tr (k3.tr (k4.tr k5)))).to fun c hc => ?_) ⟨b, g, cap, rfl, h2, h3, h4, by rw [hel]; simpa using b5, by rw [hel]; omega, q5⟩ (fun _ h => .inl h) f5
      rcases hc with h | h | h | h
      · exact .inl h
      · exact .inr ⟨hm, by rw [h]; exact h3⟩
      · exact .inr ⟨hm, by rw [h]; exact h3⟩
      · exact .inr ⟨hm, by rw [h]; exact h2⟩
    · have hw : IntKind.i64.wrap ((i : Int) + 1) = ((i + 1 : Nat) : Int) := by rw [IntKind.wrap_i64]; omega
      have hw1 : IntKind.i64.wrap ((es.length : Int) - 1) = ((es.length - 1 : Nat) : Int) := by rw [IntKind.wrap_i64]; omega
      rw [hw1]
      refine op_make_ok (n := es.length - 1) apE rfl (by omega) fun w3 zs k3 z3 hzs q3 => ?_
      have hb3 := k3.get hb2 id
      have hg3 := hg2.frame k3 id
      have f3 := f2.frame k3 id
      simp [-getElem?_pos, -Array.getElem?_eq_getElem, -Int.natCast_add, add_spot, and_assoc, Br_dec, -op_box, -op_st_4, -op_st_22, -op_st_119, -op_st_132, -op_st_167, -op_st_131, -op_st_144, -op_st_2, -op_st_173, -op_alloc_134, -op_alloc_131, -op_alloc_173, -op_lit_132_1, -op_lit_132_2, -op_lit_167_1, -op_lit_167_2]
      refine op_box_ok fun w4 k4 z4 b4 => ?_
      simp only [cells_agg] at b4
      have hb4 := k4.get hb3 id
      have hg4 := hg3.frame k4 id
      have q4 := q3.frame k4 id
      have f4 := f3.frame k4 id
      have hile : i ≤ es.length - 1 := by omega
      have hicap : i ≤ cap := by omega
      simp [-getElem?_pos, -Array.getElem?_eq_getElem, -Int.natCast_add, add_spot, and_assoc, Br_dec, -op_box, -op_st_4, -op_st_22, -op_st_119, -op_st_132, -op_st_167, -op_st_131, -op_st_144, -op_st_2, -op_st_173, -op_alloc_134, -op_alloc_131, -op_alloc_173, -op_lit_132_1, -op_lit_132_2, -op_lit_167_1, -op_lit_167_2, b4, hb4, hile, hicap]
      refine op_copyX (n := i) (x1 := 0) (x2 := 0) (by kernel_rfl) q4.drew hg4.drew (.inl rfl) (.inl rfl) (by omega) (by omega) (by rw [ents_len]; omega) ents_one fun w5 k5 z5 q5 => ?_
      have k5 := Frm.dr k5
      have b5 := k5.get b4 (by omega)
      have hb5 := k5.get hb4 (by omega)
      have hg5 := hg4.frame k5 (by omega)
      have f5 := f4.frame k5 (by omega)
      simp only [Nat.zero_mul, List.drop_zero] at q5
      simp [-getElem?_pos, -Array.getElem?_eq_getElem, -Int.natCast_add, add_spot, and_assoc, Br_dec, -op_box, -op_st_4, -op_st_22, -op_st_119, -op_st_132, -op_st_167, -op_st_131, -op_st_144, -op_st_2, -op_st_173, -op_alloc_134, -op_alloc_131, -op_alloc_173, -op_lit_132_1, -op_lit_132_2, -op_lit_167_1, -op_lit_167_2, b5, hb5, hw]
      refine ⟨hile, by omega, h6, ?_⟩
      have hdel := del_new (A := ents es) (zs := zs) (r := i * 1) (m := 1) (by rw [ents_len]; omega) (by rw [ents_len, hzs]; omega)
      rw [← ents_erase, ents_len, show es.length * 1 - i * 1 - 1 = (es.length - i - 1) * 1 from by omega, show i * 1 + 1 = (i + 1) * 1 from by omega] at hdel
      refine op_copyX (n := es.length - i - 1) (x1 := i) (x2 := i + 1) (by kernel_rfl) q5.drew hg5.drew (by split; exact .inr ⟨rfl, by omega⟩; exact .inl (by simp)) (by split; exact .inr ⟨rfl, by omega⟩; exact .inl (by simp)) (by omega)
        (by rw [lw_len (by simp [ents_len, hzs]; omega)]; omega) (by rw [ents_len]; omega) ents_one fun w6 k6 z6 q6 => ?_
      have k6 := Frm.dr k6
      have b6 := k6.get b5 (by omega)
      have f6 := f5.frame k6 (by omega)
      rw [hdel] at q6
      rw [if_neg hlen] at hK
      have hel : (es.eraseIdx i).length = es.length - 1 := by rw [List.length_eraseIdx, if_pos hi]
      have kall := k1.fst (k2.old (k3.fst (k4.fst (k5.tr k6))) fun c hc => .inr (by omega))
      refine hK _ w6 (fun c => c = w3.heap.size ∨ c = w2.heap.size) (kall.to fun c hc => .inl hc) ⟨w3.heap.size, w2.heap.size, es.length - 1, rfl, .inl rfl, .inr rfl, by omega, by rw [hel]; simpa using b6, by rw [hel]; omega, q6⟩ (fun c hc => .inr (by omega)) f6
end Go.Proofs.YtbghmbbhkoniiaaGreat.S
end
section
/- Deleting a key from a branch. -/
namespace Go.Proofs.YtbghmbbhkoniiaaGreat.S
open Go.Vc Go.Proofs Go.Proofs.YtbghmbbhkoniiaaGreat Go.Vc.Nd
variable {w : World} {v hv : Value} {t : Tr} {F : Nat → Prop} {K : KV} {Kp : KP} {hash : Ky → Nat} {k : Ky} {l s rb : Nat} {mu : Bool}
theorem eq_nil (h : Rep w t v F) {wz : World} {K : KV} {Kp : KP} : (nice Tryz.prog).op (.bin .eql 119 false true v .nilIface) wz K Kp = K (.bool t.isEmp) wz := by
  by_cases e : t = .emp
  · subst e; rw [h.nil]; simp [Nd.isEmp]
  · obtain ⟨u, c, hv⟩ := h.iface e
    have he' : t.isEmp = false := by cases h : t.isEmp; rfl; exact absurd (isEmp_iff.1 h) e
    rw [hv, he']; simp
theorem delB_ok {f : Nat → Tr} {p i : Nat} {t' T : Tr} (hH : IsH hv hash) (hl : l ≤ 6) (hs : s = 5 * l) (hi0 : frag l (hash k) = i) (dl : Bool) (he : f i = .emp → dl = false)
    (hT : dl = true → T = if t'.isEmp then (if Nd.cnt f = 1 then .emp else .br false (Nd.put f i .emp)) else .br false (Nd.put f i t'))
    (child : f i ≠ .emp → DelC hv hash k mu rb (s + 5) (f i) t' dl) : DelC hv hash k mu rb s (.br false f) T dl := by
  intro w v F K Kp h hr hrb hK
  have hi := frag_lt l (hash k)
  have hfr := frag_eq (hH.lt k) hs hl
  rw [hi0] at hi hfr
  obtain ⟨b, g, cap, vs, Fs0, rfl, h2, h3, h4, hb, h6, hg, h8, h9⟩ := h
  have hF : ∀ j, j < 32 → ∀ c, Fs0 j c → F c := fun j hj c hc => (h9 j hj c hc).1
  have hkin0 : Kin w f vs Fs0 (fun c => c = b ∨ c = g) := ⟨h8, fun j hj c hc => ⟨fun e => e.elim (h9 j hj c hc).2.1 (h9 j hj c hc).2.2.1, (h9 j hj c hc).2.2.2⟩⟩
  obtain ⟨Fs, hkin, hFl⟩ : ∃ Fs : Nat → Nat → Prop, Kin w f vs Fs (fun c => c = b ∨ c = g) ∧ ∀ j, j < 32 → ∀ c, Fs j c → F c ∧ c < w.heap.size := ⟨_, hkin0.lt, fun j hj c hc => ⟨hF j hj c hc.1, hc.2⟩⟩
  clear h8 h9 hF hkin0
  simp only [inv_166_115]
  refine vc115_calls ?_
  have hbit := bit_eq hi
  have hand := and_u32 (bm_lt (f := f)) (two_pow_lt hi)
  have hxor := xor_u32 (bm_lt (f := f)) (two_pow_lt hi)
  have hless := bit_less hi
  have hpos := Nat.pow_pos (n := i) (show 0 < 2 by decide)
  have hbel := and_u32 (bm_lt (f := f)) (b := 2 ^ i - 1) (by have := two_pow_lt hi; omega)
  have hz := bm_and_zero (f := f) i hi
  have hpop := pop_rk (f := f) (i := i) (by omega)
  have hlt2 : bm f &&& (2 ^ i - 1) < 2 ^ 32 := Nat.lt_of_le_of_lt Nat.and_le_left bm_lt
  have hbm := fun e => bm_xor (f := f) hi e
  have hns := next_shift hs hl
  have hne : b ≠ rb := fun e => hrb (e ▸ h2)
  have hgr : g ≠ rb := fun e => hrb (e ▸ h3)
  have l1 := lt_of_get hb
  have l2 := lt_of_get hr
  have l3 := hg.lt
  generalize hB : bm f &&& 2 ^ i = B at *
  generalize hO : bm f ^^^ 2 ^ i = O at *
  generalize hC : bm f &&& (2 ^ i - 1) = C at *
  generalize hy : (2 : Nat) ^ i = y at *
  have hzB : ((B : Int) = 0) ↔ f i = .emp := by rw [← hz]; omega
  simp [-getElem?_pos, -Array.getElem?_eq_getElem, -Int.natCast_add, add_spot, and_assoc, Br_dec, -op_box, -op_st_4, -op_st_22, -op_st_119, -op_st_132, -op_st_167, -op_st_131, -op_st_144, -op_st_2, -op_st_173, -op_alloc_134, -op_alloc_131, -op_alloc_173, -op_lit_132_1, -op_lit_132_2, -op_lit_167_1, -op_lit_167_2, vc115, ptr, hb, hfr, hbit, hand, -Int.natCast_eq_zero, hzB]
  refine ⟨fun e => hK.1 (he e) w Frm.refl, fun e => ?_⟩
  rw [hless, hbel]
  refine pop_ok hlt2 fun w2 k2 => ?_
  rw [hpop]
  have hb2 := k2.get hb id
  have hg2 := hg.frame k2 id
  have f2 := hr.frame k2 id
  have n2 := k2.size
  have hkin1 : ∀ j, j < 32 → Rep w2 (f j) (vs j) (Fs j) := fun j hj => (hkin.1 j hj).still k2
  obtain ⟨cur, hcur, hk⟩ := kid_cell hg2
  have hk' := hk i hi e
  have hrl := rk_lt (f := f) hi e
  rw [← cnt_rk] at hrl
  have he' : (f i).isEmp = false := by cases h : (f i).isEmp; rfl; exact absurd (isEmp_iff.1 h) e
  simp [-getElem?_pos, -Array.getElem?_eq_getElem, -Int.natCast_add, add_spot, and_assoc, Br_dec, -op_box, -op_st_4, -op_st_22, -op_st_119, -op_st_132, -op_st_167, -op_st_131, -op_st_144, -op_st_2, -op_st_173, -op_alloc_134, -op_alloc_131, -op_alloc_173, -op_lit_132_1, -op_lit_132_2, -op_lit_167_1, -op_lit_167_2, hb2, hcur, hk', hns, hrl]
  refine child e (hkin1 i hi) f2 (fun h => hrb (hFl i hi rb h).1) ⟨fun hd w3 k3 => ?_, fun hd nv w3 F0 k3 r30 hF10 f3 => ?_⟩
  · have f3 := f2.frame k3 id
    unfold flag at f3
    simp [-getElem?_pos, -Array.getElem?_eq_getElem, -Int.natCast_add, add_spot, and_assoc, Br_dec, -op_box, -op_st_4, -op_st_22, -op_st_119, -op_st_132, -op_st_167, -op_st_131, -op_st_144, -op_st_2, -op_st_173, -op_alloc_134, -op_alloc_131, -op_alloc_173, -op_lit_132_1, -op_lit_132_2, -op_lit_167_1, -op_lit_167_2, f3]
    exact hK.1 hd w3 (k2.no k3)
  have hK := hK.2 hd
  rw [hT hd] at hK
  obtain ⟨F1, r3, hF1⟩ : ∃ F1 : Nat → Prop, Rep w3 t' nv F1 ∧ ∀ c, F1 c → (Fs i c ∨ w2.heap.size ≤ c) ∧ c < w3.heap.size := ⟨fun c => F0 c ∧ c < w3.heap.size, r30.lt, fun c hc => ⟨hF10 c hc.1, hc.2⟩⟩
  have hft := f3
  unfold flag at hft
  have heq := fun {wz : World} {K : KV} {Kp : KP} => eq_nil r3 (wz := wz) (K := K) (Kp := Kp)
  simp [-getElem?_pos, -Array.getElem?_eq_getElem, -Int.natCast_add, add_spot, and_assoc, Br_dec, -op_box, -op_st_4, -op_st_22, -op_st_119, -op_st_132, -op_st_167, -op_st_131, -op_st_144, -op_st_2, -op_st_173, -op_alloc_134, -op_alloc_131, -op_alloc_173, -op_lit_132_1, -op_lit_132_2, -op_lit_167_1, -op_lit_167_2, hft, heq]
  clear hft
  have n3 := k3.size
  have hbF : ¬ Fs i b := fun h => (hkin.2 i hi b h).1 (.inl rfl)
  have hgF : ¬ Fs i g := fun h => (hkin.2 i hi g h).1 (.inr rfl)
  have hb3 := k3.get hb2 (fun h => h.elim hne fun h => hbF h.2)
  have hg3 := hg2.frame k3 (fun h => h.elim hgr fun h => hgF h.2)
  have hkin3 : ∀ j, j < 32 → j ≠ i → Rep w3 (f j) (vs j) (Fs j) := fun j hj hji => (hkin1 j hj).frame k3 fun c hc h => h.elim (fun e => hrb (e ▸ (hFl j hj c hc).1)) fun h => (hkin.2 j hj c hc).2 i hi (fun e => hji e.symm) h.2
  have hF1b : ∀ c, F1 c → c ≠ b ∧ c ≠ g := fun c hc => by
    rcases (hF1 c hc).1 with h | h
    · have := (hkin.2 i hi c h).1; exact ⟨fun e => this (.inl e), fun e => this (.inr e)⟩
    · exact ⟨by omega, by omega⟩
  have hF1d : ∀ c, F1 c → ∀ j, j < 32 → j ≠ i → ¬ Fs j c := fun c hc j hj hji hjc => by
    rcases (hF1 c hc).1 with h | h
    · exact (hkin.2 i hi c h).2 j hj hji hjc
    · have := (hFl j hj c hjc).2; omega
  have hto : ∀ {w4 : World} {M : Nat → Prop}, Frm M w3 w4 → (∀ c, M c → (mu = true ∧ (c = b ∨ c = g)) ∨ w.heap.size ≤ c) → Frm (fun c => c = rb ∨ mu = true ∧ F c) w w4 := fun {w4 M} k4 hM => by
    refine Frm.old (((k2.fst k3).to fun c hc => ?_)) (k4.to (M' := fun c => (mu = true ∧ (c = b ∨ c = g)) ∨ w.heap.size ≤ c) hM) fun c hc => ?_
    · rcases hc with h | h
      · exact .inl h
      · exact .inr ⟨h.1, (hFl i hi c h.2).1⟩
    · rcases hc with ⟨hm, h | h⟩ | h
      · exact .inl (.inr ⟨hm, h ▸ h2⟩)
      · exact .inl (.inr ⟨hm, h ▸ h3⟩)
      · exact .inr h
  have hkinP : ∀ {w4 : World} {M O : Nat → Prop}, Frm M w3 w4 → (∀ c, M c → c = b ∨ c = g ∨ w3.heap.size ≤ c) → (∀ c, O c → c = b ∨ c = g ∨ w3.heap.size ≤ c) → Kin w4 (Nd.put f i t') (putV vs i nv) (fun j => if j = i then F1 else Fs j) O := fun {w4 M O} k4 hM hO => by
    have hOF : ∀ j, j < 32 → ∀ c, Fs j c → ¬ O c ∧ ¬ M c := fun j hj c hc => by
      have h1 := (hkin.2 j hj c hc).1
      have h2 := (hFl j hj c hc).2
      exact ⟨fun h => by rcases hO c h with h | h | h; exact h1 (.inl h); exact h1 (.inr h); omega, fun h => by rcases hM c h with h | h | h; exact h1 (.inl h); exact h1 (.inr h); omega⟩
    have hOF1 : ∀ c, F1 c → ¬ O c ∧ ¬ M c := fun c hc => by
      have h1 := hF1b c hc
      have h2 := (hF1 c hc).2
      exact ⟨fun h => by rcases hO c h with h | h | h; exact h1.1 h; exact h1.2 h; omega, fun h => by rcases hM c h with h | h | h; exact h1.1 h; exact h1.2 h; omega⟩
    refine ⟨fun j hj => ?_, fun j hj c hc => ?_⟩
    · by_cases e : j = i
      · subst e; rw [Nd.put_same]; simpa [putV] using r3.frame k4 fun c hc => (hOF1 c hc).2
      · rw [Nd.put_ne e]; simp only [putV, if_neg e]; exact (hkin3 j hj e).frame k4 fun c hc => (hOF j hj c hc).2
    · by_cases e : j = i
      · simp only [if_pos e] at hc
        refine ⟨(hOF1 c hc).1, fun q hq hne hqc => ?_⟩
        simp only [if_neg (show ¬ q = i by omega)] at hqc
        exact hF1d c hc q hq (by omega) hqc
      · simp only [if_neg e] at hc
        refine ⟨(hOF j hj c hc).1, fun q hq hne hqc => ?_⟩
        by_cases e' : q = i
        · simp only [if_pos e'] at hqc; exact hF1d c hqc j hj e hc
        · simp only [if_neg e'] at hqc; exact (hkin.2 j hj c hc).2 q hq hne hqc
  have hFF : ∀ {O : Nat → Prop} {w4 : World}, (∀ c, O c → F c ∨ w.heap.size ≤ c) → ∀ c, (O c ∨ ∃ j, j < 32 ∧ (if j = i then F1 else Fs j) c) → F c ∨ w.heap.size ≤ c := fun {O w4} hO c hc => by
    rcases hc with hc | ⟨j, hj, hc⟩
    · exact hO c hc
    · by_cases e : j = i
      · simp only [if_pos e] at hc
        rcases (hF1 c hc).1 with h | h
        · exact .inl (hFl i hi c h).1
        · exact .inr (by omega)
      · simp only [if_neg e] at hc
        exact .inl (hFl j hj c hc).1
  have hone := kids_one_cell hkin.1
  have hnil : ∀ q, q < 32 → f q = .emp → vs q = .nilIface := fun q hq e => by have := hkin.1 q hq; rw [e] at this; exact this.nil
  clear hkin hkin1 hkin3
  have hvs : ∀ u ∈ kids f vs, u.oneCell' = true := hone
  have hcl := cnt_le (f := f)
  have hcm := hg3.cap_le h6
  have hkl : (kids f vs).length = Nd.cnt f := kids_len
  have hw : IntKind.i64.wrap ((rk f i : Int) + 1) = ((rk f i + 1 : Nat) : Int) := by rw [IntKind.wrap_i64]; omega
  have hw1 : IntKind.i64.wrap ((Nd.cnt f : Int) - 1) = ((Nd.cnt f - 1 : Nat) : Int) := by rw [IntKind.wrap_i64]; omega
  have hc1 : ((Nd.cnt f : Int) = 1) ↔ Nd.cnt f = 1 := by omega
  refine ⟨fun ht => ?_, fun ht => ?_⟩
  · have ht := isEmp_iff.1 ht
    subst ht
    have hnv := r3.nil
    subst hnv
    simp only [Nd.isEmp, if_true] at hK
    simp [-getElem?_pos, -Array.getElem?_eq_getElem, -Int.natCast_add, add_spot, and_assoc, Br_dec, -op_box, -op_st_4, -op_st_22, -op_st_119, -op_st_132, -op_st_167, -op_st_131, -op_st_144, -op_st_2, -op_st_173, -op_alloc_134, -op_alloc_131, -op_alloc_173, -op_lit_132_1, -op_lit_132_2, -op_lit_167_1, -op_lit_167_2, hb3, hc1]
    refine ⟨fun h1 => ?_, fun h1 => ?_⟩
    · rw [if_pos h1] at hK
      exact hK _ w3 (fun _ => False) (hto (M := fun _ => False) Frm.refl fun _ h => h.elim) rfl (fun _ h => h.elim) f3
    rw [if_neg h1] at hK
    have hcn := cnt_del (f := f) hi e
    have hkd := kids_del (f := f) (vs := vs) (v := Value.nilIface) hi e
    have hbe := hbm e
    refine ⟨fun hm => ?_, fun hm => ?_⟩
    · simp [-getElem?_pos, -Array.getElem?_eq_getElem, -Int.natCast_add, add_spot, and_assoc, Br_dec, -op_box, -op_st_4, -op_st_22, -op_st_119, -op_st_132, -op_st_167, -op_st_131, -op_st_144, -op_st_2, -op_st_173, -op_alloc_134, -op_alloc_131, -op_alloc_173, -op_lit_132_1, -op_lit_132_2, -op_lit_167_1, -op_lit_167_2, hb3, hxor]
      refine op_store_ok (by kernel_rfl) hb3 (by simp) rfl fun w5 k5 z5 b5 => ?_
      have hg5 := hg3.frame k5 h4
      have f5 := f3.frame k5 (fun e => hne e.symm)
      simp [-getElem?_pos, -Array.getElem?_eq_getElem, -Int.natCast_add, add_spot, and_assoc, Br_dec, -op_box, -op_st_4, -op_st_22, -op_st_119, -op_st_132, -op_st_167, -op_st_131, -op_st_144, -op_st_2, -op_st_173, -op_alloc_134, -op_alloc_131, -op_alloc_173, -op_lit_132_1, -op_lit_132_2, -op_lit_167_1, -op_lit_167_2, b5, hw]
      refine ⟨by omega, h6, by omega, h6, ?_⟩
      refine op_copyX (n := Nd.cnt f - rk f i - 1) (x1 := rk f i) (x2 := rk f i + 1) (by kernel_rfl) hg5.drew hg5.drew (by split; exact .inr ⟨rfl, by omega⟩; exact .inl (by simp)) (by split; exact .inr ⟨rfl, by omega⟩; exact .inl (by simp)) (by omega) (by omega) (by omega) hvs fun w6 k6 z6 q6 => ?_
      have k6 := Frm.dr k6
      have b6 := k6.get b5 (fun e => h4 e.symm)
      have f6 := f5.frame k6 (fun e => hgr e.symm)
      have hlt1 : Nd.cnt f - 1 < Nd.cnt f := by omega
      simp [-getElem?_pos, -Array.getElem?_eq_getElem, -Int.natCast_add, add_spot, and_assoc, Br_dec, -op_box, -op_st_4, -op_st_22, -op_st_119, -op_st_132, -op_st_167, -op_st_131, -op_st_144, -op_st_2, -op_st_173, -op_alloc_134, -op_alloc_131, -op_alloc_173, -op_lit_132_1, -op_lit_132_2, -op_lit_167_1, -op_lit_167_2, b6, hw1, hlt1]
      simp only [Nat.mul_one] at q6
      have hdel := del_mut (A := kids f vs) (r := rk f i) (m := 1) (by omega)
      rw [hkl] at hdel
      have hl6 : (lw (kids f vs) (rk f i) (List.take (Nd.cnt f - rk f i - 1) (List.drop (rk f i + 1) (kids f vs)))).length = Nd.cnt f := by rw [lw_len (by simp; omega), hkl]
      refine op_storeR1 (by kernel_rfl) q6.drew (by rw [hl6]; omega) rfl fun w7 k7 z7 q7 => ?_
      have k7 := Frm.dr k7
      have b7 := k7.get b6 (fun e => h4 e.symm)
      have f7 := f6.frame k7 (fun e => hgr e.symm)
      have q7 := q7.take (Nd.cnt f - 1)
      rw [List.take_set_of_le (by omega), hdel, ← hkd] at q7
      have hle7 : Nd.cnt f - 1 ≤ cap := by omega
      simp [-getElem?_pos, -Array.getElem?_eq_getElem, -Int.natCast_add, add_spot, and_assoc, Br_dec, -op_box, -op_st_4, -op_st_22, -op_st_119, -op_st_132, -op_st_167, -op_st_131, -op_st_144, -op_st_2, -op_st_173, -op_alloc_134, -op_alloc_131, -op_alloc_173, -op_lit_132_1, -op_lit_132_2, -op_lit_167_1, -op_lit_167_2, b7, hw1, hle7]
      refine op_store_ok (by kernel_rfl) (show w7.drew.heap[b]? = _ from by simpa using b7) (by simp) rfl fun w8 k8 z8 b8 => ?_
      have k8 := Frm.dr k8
      have q8 := q7.frame k8 h4
      have f8 := f7.frame k8 (fun e => hne e.symm)
      have kall := (k5.tr (k6.tr (k7.tr k8)))
      have hall : ∀ c, (c = b ∨ c = g ∨ c = g ∨ c = b) → c = b ∨ c = g := fun c hc => by omega
      refine hK _ w8 _ (hto kall fun c hc => .inl ⟨hm, hall c hc⟩) (Rep.mkB (f := Nd.put f i .emp) h4 (by rw [← hbe, show Nd.cnt (Nd.put f i .emp) = Nd.cnt f - 1 from by omega]; simpa using b8) (by omega) q8 (hkinP kall (fun c hc => or_assoc.1 (.inl (hall c hc))) (fun c hc => hc.imp id .inl))) (fun c hc => hFF (O := fun c => c = b ∨ c = g) (w4 := w) (fun c hc => .inl (hc.elim (fun e => e ▸ h2) fun e => e ▸ h3)) c (or_assoc.2 hc)) f8
    · simp [-getElem?_pos, -Array.getElem?_eq_getElem, -Int.natCast_add, add_spot, and_assoc, Br_dec, -op_box, -op_st_4, -op_st_22, -op_st_119, -op_st_132, -op_st_167, -op_st_131, -op_st_144, -op_st_2, -op_st_173, -op_alloc_134, -op_alloc_131, -op_alloc_173, -op_lit_132_1, -op_lit_132_2, -op_lit_167_1, -op_lit_167_2, hb3, hxor, hw1]
      refine op_make_ok (n := Nd.cnt f - 1) apN rfl (by omega) fun w4 zs k4 z4 hzs q4 => ?_
      have k4 := Frm.dr k4
      simp only [heap_drew] at z4 q4
      have hb4 := k4.get hb3 id
      have hg4 := hg3.frame k4 id
      have f4 := f3.frame k4 id
      simp [-getElem?_pos, -Array.getElem?_eq_getElem, -Int.natCast_add, add_spot, and_assoc, Br_dec, -op_box, -op_st_4, -op_st_22, -op_st_119, -op_st_132, -op_st_167, -op_st_131, -op_st_144, -op_st_2, -op_st_173, -op_alloc_134, -op_alloc_131, -op_alloc_173, -op_lit_132_1, -op_lit_132_2, -op_lit_167_1, -op_lit_167_2, hb4]
      refine op_box_ok fun w5 k5 z5 b5 => ?_
      simp only [cells_agg] at b5
      have hb5 := k5.get hb4 id
      have hg5 := hg4.frame k5 id
      have q5 := q4.frame k5 id
      have f5 := f4.frame k5 id
      have hile : rk f i ≤ Nd.cnt f - 1 := by omega
      have hicap : rk f i ≤ cap := by omega
      simp [-getElem?_pos, -Array.getElem?_eq_getElem, -Int.natCast_add, add_spot, and_assoc, Br_dec, -op_box, -op_st_4, -op_st_22, -op_st_119, -op_st_132, -op_st_167, -op_st_131, -op_st_144, -op_st_2, -op_st_173, -op_alloc_134, -op_alloc_131, -op_alloc_173, -op_lit_132_1, -op_lit_132_2, -op_lit_167_1, -op_lit_167_2, b5, hb5, hile, hicap]
      refine op_copyX (n := rk f i) (x1 := 0) (x2 := 0) (by kernel_rfl) q5.drew hg5.drew (.inl rfl) (.inl rfl) (by omega) (by omega) (by omega) hvs fun w6 k6 z6 q6 => ?_
      have k6 := Frm.dr k6
      have b6 := k6.get b5 (by omega)
      have hb6 := k6.get hb5 (by omega)
      have hg6 := hg5.frame k6 (by omega)
      have f6 := f5.frame k6 (by omega)
      simp only [Nat.zero_mul, List.drop_zero, Nat.mul_one] at q6
      simp [-getElem?_pos, -Array.getElem?_eq_getElem, -Int.natCast_add, add_spot, and_assoc, Br_dec, -op_box, -op_st_4, -op_st_22, -op_st_119, -op_st_132, -op_st_167, -op_st_131, -op_st_144, -op_st_2, -op_st_173, -op_alloc_134, -op_alloc_131, -op_alloc_173, -op_lit_132_1, -op_lit_132_2, -op_lit_167_1, -op_lit_167_2, b6, hb6, hw]
      refine ⟨hile, by omega, h6, ?_⟩
      have hdel := del_new (A := kids f vs) (zs := zs) (r := rk f i) (m := 1) (by omega) (by omega)
      rw [hkl] at hdel
      refine op_copyX (n := Nd.cnt f - rk f i - 1) (x1 := rk f i) (x2 := rk f i + 1) (by kernel_rfl) q6.drew hg6.drew (by split; exact .inr ⟨rfl, by omega⟩; exact .inl (by simp)) (by split; exact .inr ⟨rfl, by omega⟩; exact .inl (by simp)) (by omega)
        (by rw [lw_len (by simp; omega)]; omega) (by omega) hvs fun w7 k7 z7 q7 => ?_
      have k7 := Frm.dr k7
      have b7 := k7.get b6 (by omega)
      have f7 := f6.frame k7 (by omega)
      simp only [Nat.mul_one] at q7
      rw [hdel, ← hkd] at q7
      have kall := (k4.fst (k5.fst (k6.tr k7)))
      have hall : ∀ c, (c = w3.heap.size ∨ c = w3.heap.size) → w3.heap.size ≤ c := fun c hc => by omega
      refine hK _ w7 _ (hto kall fun c hc => .inr (by have := hall c hc; omega)) (Rep.mkB (f := Nd.put f i .emp) (b := w4.heap.size) (g := w3.heap.size) (cap := Nd.cnt f - 1) (by omega) (by rw [← hbe, show Nd.cnt (Nd.put f i .emp) = Nd.cnt f - 1 from by omega]; simpa using b7) (by omega) q7 (hkinP kall (fun c hc => .inr (.inr (hall c hc))) (fun c hc => .inr (.inr (by omega))))) (fun c hc => hFF (O := fun c => c = w4.heap.size ∨ c = w3.heap.size) (w4 := w) (fun c hc => .inr (by omega)) c (or_assoc.2 hc)) f7
  · have ht' : t' ≠ .emp := fun e => by rw [e] at ht; cases ht
    rw [ht] at hK
    simp only [Bool.false_eq_true, if_false] at hK
    refine ⟨fun hm => ?_, fun hm => ?_⟩
    · simp [-getElem?_pos, -Array.getElem?_eq_getElem, -Int.natCast_add, add_spot, and_assoc, Br_dec, -op_box, -op_st_4, -op_st_22, -op_st_119, -op_st_132, -op_st_167, -op_st_131, -op_st_144, -op_st_2, -op_st_173, -op_alloc_134, -op_alloc_131, -op_alloc_173, -op_lit_132_1, -op_lit_132_2, -op_lit_167_1, -op_lit_167_2, hb3]
      refine op_make_ok (n := Nd.cnt f) apN rfl (by omega) fun w4 zs k4 z4 hzs q4 => ?_
      have k4 := Frm.dr k4
      simp only [heap_drew] at z4 q4
      have hb4 := k4.get hb3 id
      have hg4 := hg3.frame k4 id
      have f4 := f3.frame k4 id
      simp [-getElem?_pos, -Array.getElem?_eq_getElem, -Int.natCast_add, add_spot, and_assoc, Br_dec, -op_box, -op_st_4, -op_st_22, -op_st_119, -op_st_132, -op_st_167, -op_st_131, -op_st_144, -op_st_2, -op_st_173, -op_alloc_134, -op_alloc_131, -op_alloc_173, -op_lit_132_1, -op_lit_132_2, -op_lit_167_1, -op_lit_167_2, hb4]
      refine op_box_ok fun w5 k5 z5 b5 => ?_
      simp only [cells_agg] at b5
      have hb5 := k5.get hb4 id
      have hg5 := hg4.frame k5 id
      have q5 := q4.frame k5 id
      have f5 := f4.frame k5 id
      simp [-getElem?_pos, -Array.getElem?_eq_getElem, -Int.natCast_add, add_spot, and_assoc, Br_dec, -op_box, -op_st_4, -op_st_22, -op_st_119, -op_st_132, -op_st_167, -op_st_131, -op_st_144, -op_st_2, -op_st_173, -op_alloc_134, -op_alloc_131, -op_alloc_173, -op_lit_132_1, -op_lit_132_2, -op_lit_167_1, -op_lit_167_2, b5, hb5]
      refine op_copyX (n := Nd.cnt f) (x1 := 0) (x2 := 0) (by kernel_rfl) q5.drew hg5.drew (.inl rfl) (.inl rfl) (by omega) (by omega) (by omega) hvs fun w6 k6 z6 q6 => ?_
      have k6 := Frm.dr k6
      have b6 := k6.get b5 (by omega)
      have f6 := f5.frame k6 (by omega)
      have hq6 : lw zs (0 * 1) (List.take (Nd.cnt f * 1) (List.drop (0 * 1) (kids f vs))) = kids f vs := by
        simp only [Nat.zero_mul, Nat.mul_one, List.drop_zero]
        rw [List.take_of_length_le (by omega), lw_all (by omega)]
      rw [hq6] at q6
      simp [-getElem?_pos, -Array.getElem?_eq_getElem, -Int.natCast_add, add_spot, and_assoc, Br_dec, -op_box, -op_st_4, -op_st_22, -op_st_119, -op_st_132, -op_st_167, -op_st_131, -op_st_144, -op_st_2, -op_st_173, -op_alloc_134, -op_alloc_131, -op_alloc_173, -op_lit_132_1, -op_lit_132_2, -op_lit_167_1, -op_lit_167_2, b6, hrl]
      refine op_storeR1 (by kernel_rfl) q6 (by omega) r3.one fun w7 k7 z7 q7 => ?_
      rw [kids_set hi e ht'] at q7
      have b7 := k7.get b6 (by omega)
      have f7 := f6.frame k7 (by omega)
      have kall := (k4.fst (k5.fst (k6.tr k7)))
      have hall : ∀ c, (c = w3.heap.size ∨ c = w3.heap.size) → w3.heap.size ≤ c := fun c hc => by omega
      refine hK _ w7 _ (hto kall fun c hc => .inr (by have := hall c hc; omega)) (Rep.mkB (f := Nd.put f i t') (b := w4.heap.size) (g := w3.heap.size) (cap := Nd.cnt f) (by omega) (by rw [bm_keep e ht', cnt_same e ht']; simpa using b7) (by rw [cnt_same e ht']; omega) q7 (hkinP kall (fun c hc => .inr (.inr (hall c hc))) (fun c hc => .inr (.inr (by omega))))) (fun c hc => hFF (O := fun c => c = w4.heap.size ∨ c = w3.heap.size) (w4 := w) (fun c hc => .inr (by omega)) c (or_assoc.2 hc)) f7
    · simp [-getElem?_pos, -Array.getElem?_eq_getElem, -Int.natCast_add, add_spot, and_assoc, Br_dec, -op_box, -op_st_4, -op_st_22, -op_st_119, -op_st_132, -op_st_167, -op_st_131, -op_st_144, -op_st_2, -op_st_173, -op_alloc_134, -op_alloc_131, -op_alloc_173, -op_lit_132_1, -op_lit_132_2, -op_lit_167_1, -op_lit_167_2, hb3, hrl]
      refine op_storeR1 (by kernel_rfl) hg3 (by omega) r3.one fun w5 k5 z5 q5 => ?_
      rw [kids_set hi e ht'] at q5
      have f5 := f3.frame k5 (fun e => hgr e.symm)
      refine hK _ w5 _ (hto k5 fun c hc => .inl ⟨hm, .inr hc⟩) (Rep.mkB (f := Nd.put f i t') h4 (by rw [bm_keep e ht', cnt_same e ht']; exact k5.get hb3 (fun e => h4 e.symm)) (by rw [cnt_same e ht']; exact h6) q5 (hkinP k5 (fun c hc => .inr (.inl hc)) (fun c hc => hc.imp id .inl))) (fun c hc => hFF (O := fun c => c = b ∨ c = g) (w4 := w) (fun c hc => .inl (hc.elim (fun e => e ▸ h2) fun e => e ▸ h3)) c (or_assoc.2 hc)) f5
end Go.Proofs.YtbghmbbhkoniiaaGreat.S
end
section
/- Deleting a key from a branch of 32 places. -/
namespace Go.Proofs.YtbghmbbhkoniiaaGreat.S
open Go.Vc Go.Proofs Go.Proofs.YtbghmbbhkoniiaaGreat Go.Vc.Nd
variable {w : World} {v hv : Value} {t : Tr} {F : Nat → Prop} {K : KV} {Kp : KP} {hash : Ky → Nat} {k : Ky} {x : Vl} {l s rb : Nat} {mu : Bool}
theorem ne_nil (h : Rep w t v F) {wz : World} {K : KV} {Kp : KP} : (nice Tryz.prog).op (.bin .neq 119 false true v .nilIface) wz K Kp = K (.bool (!t.isEmp)) wz := by
  by_cases e : t = .emp
  · subst e; rw [h.nil]; simp [Nd.isEmp]
  · obtain ⟨u, c, hv⟩ := h.iface e
    have he' : t.isEmp = false := by cases h : t.isEmp; rfl; exact absurd (isEmp_iff.1 h) e
    rw [hv, he']; simp
theorem bmN_or {f : Nat → Tr} {j : Nat} (h : full f j = true) : bmN f j ||| 2 ^ j = bmN f (j + 1) := by
  apply Nat.eq_of_testBit_eq
  intro q
  rw [Nat.testBit_or, bmN_bit, bmN_bit, Nat.testBit_two_pow]
  by_cases e : j = q
  · subst e; simp [h]
  · simp only [e, decide_false, Bool.or_false]
    congr 1; exact decide_eq_decide.2 (by omega)
theorem bmN_skip {f : Nat → Tr} {j : Nat} (h : full f j = false) : bmN f (j + 1) = bmN f j := by rw [bmN, h]; simp
def pre (f : Nat → Tr) (vs : Nat → Value) (j : Nat) : List Value := ((List.range j).filter (full f)).map vs
theorem pre_len (f : Nat → Tr) (vs : Nat → Value) (j : Nat) : (pre f vs j).length = rk f j := by simp [pre, rk]
theorem pre_succ (f : Nat → Tr) (vs : Nat → Value) (j : Nat) : pre f vs (j + 1) = pre f vs j ++ if full f j then [vs j] else [] := by
  unfold pre; rw [List.range_succ, List.filter_append, List.map_append]; cases h : full f j <;> simp [h]
theorem kids_skip {f : Nat → Tr} {vs : Nat → Value} {i : Nat} : kids (Nd.put f i .emp) (putV vs i v) = pre (Nd.put f i .emp) vs 32 := by
  unfold kids pre
  apply List.map_congr_left
  intro q hq
  have := (List.mem_filter.1 hq).2
  by_cases e : q = i
  · subst e; rw [full_put, if_pos rfl] at this; cases this
  · simp [putV, e]
theorem delH_ok {f : Nat → Tr} {p i : Nat} {t' T : Tr} (hH : IsH hv hash) (hl : l ≤ 6) (hs : s = 5 * l) (hi0 : frag l (hash k) = i) (dl : Bool) (he : f i = .emp → dl = false)
    (hT : dl = true → T = if t'.isEmp then .br (decide (16 < Nd.cnt f)) (Nd.put f i .emp) else .br true (Nd.put f i t'))
    (child : f i ≠ .emp → DelC hv hash k mu rb (s + 5) (f i) t' dl) : DelC hv hash k mu rb s (.br true f) T dl := by
  intro w v F K Kp h hr hrb hK
  have hi := frag_lt l (hash k)
  have hfr := frag_eq (hH.lt k) hs hl
  rw [hi0] at hi hfr
  obtain ⟨b, cs, vs, Fs0, rfl, h2, hb, hcz, hc0, hcs, h8, h9⟩ := h
  obtain ⟨Fs, hrep, hdis, hFl⟩ : ∃ Fs : Nat → Nat → Prop, (∀ j, j < 32 → Rep w (f j) (vs j) (Fs j)) ∧ (∀ j, j < 32 → ∀ c, Fs j c → c ≠ b ∧ ∀ q, q < 32 → q ≠ j → ¬ Fs q c) ∧ ∀ j, j < 32 → ∀ c, Fs j c → F c ∧ c < w.heap.size :=
    ⟨fun j c => Fs0 j c ∧ c < w.heap.size, fun j hj => (h8 j hj).lt, fun j hj c hc => ⟨(h9 j hj c hc.1).2.1, fun q hq hne h => (h9 j hj c hc.1).2.2 q hq hne h.1⟩, fun j hj c hc => ⟨(h9 j hj c hc.1).1, hc.2⟩⟩
  clear h8 h9
  have hns := next_shift hs hl
  have hne : b ≠ rb := fun e => hrb (e ▸ h2)
  have l1 := lt_of_get hb
  have l2 := lt_of_get hr
  have hci := hcs i hi
  simp only [inv_170_120]
  refine vc120_calls ?_
  have hi' : (i : Int) < 32 := by omega
  have heq0 := fun {wz : World} {K : KV} {Kp : KP} => eq_nil (hrep i hi) (wz := wz) (K := K) (Kp := Kp)
  simp [-getElem?_pos, -Array.getElem?_eq_getElem, -Int.natCast_add, add_spot, and_assoc, Br_dec, -op_box, -op_st_4, -op_st_22, -op_st_119, -op_st_132, -op_st_167, -op_st_131, -op_st_144, -op_st_2, -op_st_173, -op_alloc_134, -op_alloc_131, -op_alloc_173, -op_lit_132_1, -op_lit_132_2, -op_lit_167_1, -op_lit_167_2, vc120, ptr, hb, hfr, Nat.add_comm 1, hci, hi', heq0]
  refine ⟨fun e => hK.1 (he (isEmp_iff.1 e)) w Frm.refl, fun e => ?_⟩
  have he' : f i ≠ .emp := fun h => by rw [h] at e; cases e
  rw [hns]
  refine child he' (hrep i hi) hr (fun h => hrb (hFl i hi rb h).1) ⟨fun hd w3 k3 => ?_, fun hd nv w3 F0 k3 r30 hF10 f3 => ?_⟩
  · have f3 := hr.frame k3 id
    unfold flag at f3
    simp [-getElem?_pos, -Array.getElem?_eq_getElem, -Int.natCast_add, add_spot, and_assoc, Br_dec, -op_box, -op_st_4, -op_st_22, -op_st_119, -op_st_132, -op_st_167, -op_st_131, -op_st_144, -op_st_2, -op_st_173, -op_alloc_134, -op_alloc_131, -op_alloc_173, -op_lit_132_1, -op_lit_132_2, -op_lit_167_1, -op_lit_167_2, f3]
    exact hK.1 hd w3 k3
  have hK := hK.2 hd
  rw [hT hd] at hK
  obtain ⟨F1, r3, hF1⟩ : ∃ F1 : Nat → Prop, Rep w3 t' nv F1 ∧ ∀ c, F1 c → (Fs i c ∨ w.heap.size ≤ c) ∧ c < w3.heap.size := ⟨fun c => F0 c ∧ c < w3.heap.size, r30.lt, fun c hc => ⟨hF10 c hc.1, hc.2⟩⟩
  have hft := f3
  unfold flag at hft
  have heq := fun {wz : World} {K : KV} {Kp : KP} => eq_nil r3 (wz := wz) (K := K) (Kp := Kp)
  simp [-getElem?_pos, -Array.getElem?_eq_getElem, -Int.natCast_add, add_spot, and_assoc, Br_dec, -op_box, -op_st_4, -op_st_22, -op_st_119, -op_st_132, -op_st_167, -op_st_131, -op_st_144, -op_st_2, -op_st_173, -op_alloc_134, -op_alloc_131, -op_alloc_173, -op_lit_132_1, -op_lit_132_2, -op_lit_167_1, -op_lit_167_2, hft, heq]
  clear hft
  have n3 := k3.size
  have hbF : ¬ Fs i b := fun h => (hdis i hi b h).1 rfl
  have hb3 := k3.get hb (fun h => h.elim hne fun h => hbF h.2)
  have hrep3 : ∀ j, j < 32 → j ≠ i → Rep w3 (f j) (vs j) (Fs j) := fun j hj hji => (hrep j hj).frame k3 fun c hc h => h.elim (fun e => hrb (e ▸ (hFl j hj c hc).1)) fun h => (hdis j hj c hc).2 i hi (fun e => hji e.symm) h.2
  have hcone := cells_one_H hcz hc0 hcs fun j hj => (hrep j hj).one
  have hcl := cnt_le (f := f)
  have hcp := cnt_pos (f := f) hi he'
  have hw1 : IntKind.u64.wrap ((Nd.cnt f : Int) - 1) = ((Nd.cnt f - 1 : Nat) : Int) := by rw [IntKind.wrap_u64]; omega
  refine Jn.intro (fun w4 => w4 = w3 ∧ ¬ (t'.isEmp = true ∧ Nd.cnt f ≤ 16)) ⟨fun ht => ?_, fun ht => ⟨rfl, fun h => by rw [ht] at h; cases h.1⟩, ?_⟩
  · have hcast : ((Nd.cnt f : Int) ≤ 16) ↔ Nd.cnt f ≤ 16 := by omega
    simp [-getElem?_pos, -Array.getElem?_eq_getElem, -Int.natCast_add, add_spot, and_assoc, Br_dec, -op_box, -op_st_4, -op_st_22, -op_st_119, -op_st_132, -op_st_167, -op_st_131, -op_st_144, -op_st_2, -op_st_173, -op_alloc_134, -op_alloc_131, -op_alloc_173, -op_lit_132_1, -op_lit_132_2, -op_lit_167_1, -op_lit_167_2, hb3, hc0, hcast, ht, hw1]
    intro h16
    have ht' := isEmp_iff.1 ht
    subst ht'
    have hnv := r3.nil
    subst hnv
    have hres : (if (Nd.emp : Tr).isEmp then Nd.br (decide (16 < Nd.cnt f)) (Nd.put f i .emp) else .br true (Nd.put f i .emp)) = .br false (Nd.put f i .emp) := by
      rw [decide_eq_false (by omega)]; rfl
    rw [hres] at hK
    refine op_make0 (n := Nd.cnt f - 1) apN (by omega) fun w4 k4 z4 q4 => ?_
    simp [-getElem?_pos, -Array.getElem?_eq_getElem, -Int.natCast_add, add_spot, and_assoc, Br_dec, -op_box, -op_st_4, -op_st_22, -op_st_119, -op_st_132, -op_st_167, -op_st_131, -op_st_144, -op_st_2, -op_st_173, -op_alloc_134, -op_alloc_131, -op_alloc_173, -op_lit_132_1, -op_lit_132_2, -op_lit_167_1, -op_lit_167_2]
    refine op_box_ok fun w5 k5 z5 b5 => ?_
    simp only [cells_agg] at b5
    have hb5 := k5.get (k4.get hb3 id) id
    have q5 := q4.frame k5 id
    have hcx : ∀ j, j < 32 → (cs.extract 1 33)[j]? = some (vs j) := fun j hj => by
      rw [Array.getElem?_extract, if_pos (by omega), Nat.add_comm 1, hcs j hj]
    have h33 : 33 ≤ cs.size := by omega
    obtain ⟨G, hG⟩ : ∃ G : Nat → Tr, G = Nd.put f i .emp := ⟨_, rfl⟩
    have hGi : full G i = false := by rw [hG, full_put, if_pos rfl]; rfl
    have hGj : ∀ j, j ≠ i → full G j = full f j := fun j hj => by rw [hG, full_put, if_neg hj]
    have hone : ∀ j, j < 32 → (vs j).oneCell' = true := fun j hj => (hrep j hj).one
    simp [-getElem?_pos, -Array.getElem?_eq_getElem, -Int.natCast_add, add_spot, and_assoc, Br_dec, -op_box, -op_st_4, -op_st_22, -op_st_119, -op_st_132, -op_st_167, -op_st_131, -op_st_144, -op_st_2, -op_st_173, -op_alloc_134, -op_alloc_131, -op_alloc_173, -op_lit_132_1, -op_lit_132_2, -op_lit_167_1, -op_lit_167_2, hb5, h33]
    obtain ⟨I, hI⟩ : ∃ I : KV, ∀ sv wl, I sv wl ↔ ∃ j gg cap : Nat, sv = Value.int .i64 j ∧ j ≤ 32 ∧ Frm (fun _ => False) w3 wl ∧ w3.heap.size ≤ gg ∧ gg ≠ w4.heap.size ∧ wl.heap[w4.heap.size]? = some (.cells #[.int .u32 (bmN G j), .slice (some ⟨gg, 0, none⟩) (rk G j) cap] 169 (0, 0)) ∧ rk G j ≤ cap ∧ Rw wl 119 1 gg cap (pre G vs j) := ⟨_, fun _ _ => Iff.rfl⟩
    refine Lp.intro I (fun sv _ => 32 - natOf sv) ⟨(hI _ _).2 ⟨0, w3.heap.size, Nd.cnt f - 1, rfl, by omega, k4.no k5, by omega, by omega, by simpa [bmN, rk] using b5, by simp [rk], q5⟩, ?_⟩
    intro wl sv hsv
    obtain ⟨j, gg, cap, rfl, hj, kl, hgg1, hgg2, bl, hcap, ql⟩ := (hI _ _).1 hsv
    have hjlt : ((j : Int) < 32) ↔ j < 32 := by omega
    have nl := kl.size
    have hnl := lt_of_get bl
    have hgl := ql.lt
    simp [-getElem?_pos, -Array.getElem?_eq_getElem, -Int.natCast_add, add_spot, and_assoc, Br_dec, -op_box, -op_st_4, -op_st_22, -op_st_119, -op_st_132, -op_st_167, -op_st_131, -op_st_144, -op_st_2, -op_st_173, -op_alloc_134, -op_alloc_131, -op_alloc_173, -op_lit_132_1, -op_lit_132_2, -op_lit_167_1, -op_lit_167_2, hjlt]
    refine ⟨fun hj32 => ?_, fun hj32 => ?_⟩
    · refine op_index_arr (len := 32) (el := 119) (by kernel_rfl) (by kernel_rfl) hj32 (hcx j hj32) ?_
      have hnx : IntKind.i64.wrap ((j : Int) + 1) = ((j + 1 : Nat) : Int) := by rw [IntKind.wrap_i64]; omega
      have hcv : IntKind.u32.wrap (j : Int) = (j : Int) := by rw [IntKind.wrap_u32]; omega
      have hcv2 : IntKind.u64.wrap (j : Int) = (j : Int) := by rw [IntKind.wrap_u64]; omega
      have hji : ((j : Int) = (i : Int)) ↔ j = i := by omega
      rw [ne_nil (hrep j hj32)]
      have skip : full G j = false → I (Value.int .i64 ((j + 1 : Nat) : Int)) wl ∧ 32 - natOf (Value.int .i64 ((j + 1 : Nat) : Int)) < 32 - natOf (Value.int .i64 (j : Int)) := fun hf =>
        ⟨(hI _ _).2 ⟨j + 1, gg, cap, rfl, by omega, kl, hgg1, hgg2, by rw [bmN_skip hf, rk_succ, hf]; exact bl, by rw [rk_succ, hf]; exact hcap, by rw [pre_succ, hf]; simpa using ql⟩, by simp only [natOf]; omega⟩
      simp [-getElem?_pos, -Array.getElem?_eq_getElem, -Int.natCast_add, add_spot, and_assoc, Br_dec, -op_box, -op_st_4, -op_st_22, -op_st_119, -op_st_132, -op_st_167, -op_st_131, -op_st_144, -op_st_2, -op_st_173, -op_alloc_134, -op_alloc_131, -op_alloc_173, -op_lit_132_1, -op_lit_132_2, -op_lit_167_1, -op_lit_167_2, hnx, hcv, hcv2, hji]
      refine ⟨fun hf => ⟨fun hji' => ?_, fun hji' => skip (by rw [hji']; exact hGi)⟩, fun hf => ?_⟩
      · have hfull : full G j = true := by rw [hGj j hji', full, hf]; rfl
        have hbitj := bit_eq hj32
        have horj := or_u32 (Nat.lt_of_lt_of_le (bmN_lt (f := G) j) (Nat.pow_le_pow_right (by decide) hj)) (two_pow_lt hj32)
        rw [bmN_or hfull] at horj
        generalize (2 : Nat) ^ j = yj at *
        have hrj := rk_le (f := G) j
        simp [-getElem?_pos, -Array.getElem?_eq_getElem, -Int.natCast_add, add_spot, and_assoc, Br_dec, -op_box, -op_st_4, -op_st_22, -op_st_119, -op_st_132, -op_st_167, -op_st_131, -op_st_144, -op_st_2, -op_st_173, -op_alloc_134, -op_alloc_131, -op_alloc_173, -op_lit_132_1, -op_lit_132_2, -op_lit_167_1, -op_lit_167_2, bl, hbitj, horj]
        refine op_store_ok (by kernel_rfl) bl (by simp) rfl fun wa ka za ba => ?_
        have qa := ql.frame ka hgg2
        simp [-getElem?_pos, -Array.getElem?_eq_getElem, -Int.natCast_add, add_spot, and_assoc, Br_dec, -op_box, -op_st_4, -op_st_22, -op_st_119, -op_st_132, -op_st_167, -op_st_131, -op_st_144, -op_st_2, -op_st_173, -op_alloc_134, -op_alloc_131, -op_alloc_173, -op_lit_132_1, -op_lit_132_2, -op_lit_167_1, -op_lit_167_2, ba]
        refine op_lit_ok (lit_167_1 (hone j hj32)) fun wb kb zb bb => ?_
        have hq : Rw wb 119 1 wa.heap.size 1 [vs j] := Rw.lit (n := 1) rfl (by decide) bb
        refine op_appendR apN (qa.frame kb fun h => h) (n := rk G j) (by rw [pre_len]; omega) hcap hq (m := 1) rfl (fun u hu => by simp at hu; subst hu; exact hone j hj32) (by omega) (by omega) fun wc g' cap' kc qc hcc hgg => ?_
        have bc := kc.get (kb.get ba id) (fun e => hgg2 e.symm)
        have hg'n : g' ≠ w4.heap.size := by
          rcases hgg with rfl | rfl
          · exact hgg2
          · have := kb.size; omega
        refine op_store_ok (by kernel_rfl) bc (by simp) rfl fun wd kd zd bd => ?_
        have qd := qc.frame kd hg'n
        have nb := kb.size
        refine ⟨(hI _ _).2 ⟨j + 1, g', cap', rfl, by omega, kl.old (ka.tr (kb.fst (kc.tr kd))) (fun c hc => .inr (by omega)), by rcases hgg with h | h <;> omega, hg'n, ?_, by rw [rk_succ, hfull]; exact hcc, by rw [pre_succ, hfull]; exact qd⟩, by simp only [natOf]; omega⟩
        rw [rk_succ, hfull]; simpa using bd
      · refine skip ?_
        by_cases e' : j = i
        · rw [e']; exact hGi
        · rw [hGj j e', full, hf]; rfl
    · obtain rfl : j = 32 := by omega
      have hkin : Kin wl G (putV vs i .nilIface) (fun j => if j = i then (fun _ => False) else Fs j) (fun c => c = w4.heap.size ∨ c = gg) := by
        have hlo : ∀ q, q < 32 → ∀ c, Fs q c → ¬ (c = w4.heap.size ∨ c = gg) := fun q hq c hc h => by have := (hFl q hq c hc).2; omega
        refine ⟨fun q hq => ?_, fun q hq c hc => ?_⟩
        · by_cases e' : q = i
          · subst e'; rw [hG, Nd.put_same]; simp [putV]; rfl
          · rw [hG, Nd.put_ne e']; simp only [putV, if_neg e']; exact (hrep3 q hq e').still kl
        · by_cases e' : q = i
          · simp only [if_pos e'] at hc
          · simp only [if_neg e'] at hc
            refine ⟨hlo q hq c hc, fun q' hq' hne' h' => ?_⟩
            by_cases e2 : q' = i
            · simp only [if_pos e2] at h'
            · simp only [if_neg e2] at h'; exact (hdis q hq c hc).2 q' hq' hne' h'
      subst hG
      have hks := kids_skip (f := f) (vs := vs) (i := i) (v := Value.nilIface)
      refine hK _ wl _ ((k3.to (M' := fun c => c = rb ∨ mu = true ∧ F c) fun c hc => hc.imp id fun h => ⟨h.1, (hFl i hi c h.2).1⟩).old kl fun c hc => hc.elim) (Rep.mkB (f := Nd.put f i .emp) (b := w4.heap.size) (g := gg) (cap := cap) hgg2 bl hcap (by rw [hks]; exact ql) hkin) (fun c hc => ?_) (f3.frame kl fun h => h)
      rcases hc with rfl | rfl | ⟨q, hq, hc⟩
      · exact .inr (by omega)
      · exact .inr (by omega)
      · by_cases e' : q = i
        · simp only [if_pos e'] at hc
        · simp only [if_neg e'] at hc; exact .inl (hFl q hq c hc).1
  rintro w4 ⟨rfl, h16⟩
  have hres : (if t'.isEmp then Nd.br (decide (16 < Nd.cnt f)) (Nd.put f i .emp) else .br true (Nd.put f i t')) = .br true (Nd.put f i t') := by
    cases ht : t'.isEmp with
    | false => rfl
    | true =>
      have := isEmp_iff.1 ht
      subst this
      rw [decide_eq_true (Nat.lt_of_not_le fun h => h16 ⟨ht, h⟩)]; rfl
  rw [hres] at hK
  have fin0 : ∀ {nb : Nat} {w5 : World}, Frm (fun _ => False) w4 w5 → w5.heap[nb]? = some (.cells cs 173 (0, 0)) → (nb = b ∧ mu = true ∨ nb = w4.heap.size) →
      (nice Tryz.prog).op (.store 119 (.pointer (some ⟨nb, 1 + i, none⟩)) nv) w5 (fun _ w => (t'.isEmp = true → ∃ cs', (∃ x a b, w.heap[nb]? = some (.cells cs' x (a, b))) ∧ ∃ v, cs'[0]? = some v ∧ (nice Tryz.prog).op (.bin .sub 144 false true v (.int .u64 1)) w (fun v124 w => (nice Tryz.prog).op (.store 144 (.pointer (some ⟨nb, 0, none⟩)) v124) w (fun _ w => K (.iface 170 (ptr nb)) w) Kp) Kp) ∧ (t'.isEmp = false → K (.iface 170 (ptr nb)) w)) Kp := fun {nb w5} k5 b5 hnb => by
    have f5 := f3.frame k5 id
    have hnr : nb ≠ rb := by
      rcases hnb with h | h
      · rw [h.1]; exact hne
      · have := lt_of_get f3; omega
    have fin : ∀ {w6 : World} {cs' : Array Value}, Frm (· = nb) w5 w6 → w6.heap[nb]? = some (.cells cs' 173 (0, 0)) → cs'.size = 33 → cs'[0]? = some (.int .u64 (Nd.cnt (Nd.put f i t'))) → (∀ q, q < 32 → cs'[q + 1]? = some (putV vs i nv q)) → K (.iface 170 (ptr nb)) w6 := fun {w6 cs'} k6 b6 hz5 h05 hv5 => by
      have kall := k5.fst k6
      have hnF : ∀ j, j < 32 → ∀ c, Fs j c → c ≠ nb := fun j hj c hc => by
        rcases hnb with h | h
        · rw [h.1]; exact (hdis j hj c hc).1
        · have := (hFl j hj c hc).2; omega
      have hnF1 : ∀ c, F1 c → c ≠ nb := fun c hc => by
        rcases hnb with h | h
        · rw [h.1]
          rcases (hF1 c hc).1 with h' | h'
          · exact (hdis i hi c h').1
          · omega
        · have := (hF1 c hc).2; omega
      have hF1d : ∀ c, F1 c → ∀ j, j < 32 → j ≠ i → ¬ Fs j c := fun c hc j hj hji hjc => by
        rcases (hF1 c hc).1 with h | h
        · exact (hdis i hi c h).2 j hj hji hjc
        · have := (hFl j hj c hjc).2; omega
      have hkin : Kin w6 (Nd.put f i t') (putV vs i nv) (fun j => if j = i then F1 else Fs j) (fun c => c = nb) := by
        refine ⟨fun j hj => ?_, fun j hj c hc => ?_⟩
        · by_cases e : j = i
          · subst e; rw [Nd.put_same]; simpa [putV] using r3.frame kall fun c hc h => hnF1 c hc h
          · rw [Nd.put_ne e]; simp only [putV, if_neg e]; exact (hrep3 j hj e).frame kall fun c hc h => hnF j hj c hc h
        · by_cases e : j = i
          · simp only [if_pos e] at hc
            refine ⟨hnF1 c hc, fun q hq hne hqc => ?_⟩
            simp only [if_neg (show ¬ q = i by omega)] at hqc
            exact hF1d c hc q hq (by omega) hqc
          · simp only [if_neg e] at hc
            refine ⟨hnF j hj c hc, fun q hq hne hqc => ?_⟩
            by_cases e' : q = i
            · simp only [if_pos e'] at hqc; exact hF1d c hqc j hj e hc
            · simp only [if_neg e'] at hqc; exact (hdis j hj c hc).2 q hq hne hqc
      refine hK _ w6 _ ((k3.to (M' := fun c => c = rb ∨ mu = true ∧ F c) fun c hc => hc.imp id fun h => ⟨h.1, (hFl i hi c h.2).1⟩).old kall fun c hc => ?_) (Rep.mkH (f := Nd.put f i t') b6 hz5 h05 hv5 hkin) (fun c hc => ?_) (f5.frame k6 (fun e => hnr e.symm))
      · rcases hnb with h | h
        · exact .inl (.inr ⟨h.2, by rw [hc, h.1]; exact h2⟩)
        · exact .inr (by omega)
      · rcases hc with rfl | ⟨j, hj, hc⟩
        · rcases hnb with h | h
          · exact .inl (by rw [h.1]; exact h2)
          · exact .inr (by omega)
        · by_cases e : j = i
          · simp only [if_pos e] at hc
            exact (hF1 c hc).1.imp (fun h => (hFl i hi c h).1) id
          · simp only [if_neg e] at hc
            exact .inl (hFl j hj c hc).1
    refine op_store_ok (by kernel_rfl) b5 (by omega) r3.one fun w6 k6 z6 b6 => ⟨fun ht => ?_, fun ht => ?_⟩
    · have ht' := isEmp_iff.1 ht
      subst ht'
      have hc6 : (cs.setIfInBounds (1 + i) nv)[0]? = some (.int .u64 (Nd.cnt f)) := by rw [Array.getElem?_setIfInBounds, if_neg (by omega), hc0]
      have hcn := cnt_del (f := f) hi he'
      simp [-getElem?_pos, -Array.getElem?_eq_getElem, -Int.natCast_add, add_spot, and_assoc, Br_dec, -op_box, -op_st_4, -op_st_22, -op_st_119, -op_st_132, -op_st_167, -op_st_131, -op_st_144, -op_st_2, -op_st_173, -op_alloc_134, -op_alloc_131, -op_alloc_173, -op_lit_132_1, -op_lit_132_2, -op_lit_167_1, -op_lit_167_2, b6, hc6, hw1]
      refine op_store_ok (by kernel_rfl) b6 (by simp; omega) rfl fun w7 k7 z7 b7 => ?_
      refine fin ((k6.tr k7).to fun c hc => hc.elim id id) b7 (by simp [hcz]) ?_ fun q hq => ?_
      · rw [Array.getElem?_setIfInBounds, if_pos rfl, if_pos (by simp; omega), show Nd.cnt (Nd.put f i .emp) = Nd.cnt f - 1 from by omega]
      · rw [Array.getElem?_setIfInBounds, if_neg (by omega), Array.getElem?_setIfInBounds]
        by_cases eq : q = i
        · subst eq; rw [if_pos (by omega), if_pos (by omega)]; simp [putV]
        · rw [if_neg (by omega), hcs q hq]; simp [putV, eq]
    · have ht' : t' ≠ .emp := fun e => by rw [e] at ht; cases ht
      refine fin k6 b6 (by simp [hcz]) ?_ fun q hq => ?_
      · rw [Array.getElem?_setIfInBounds, if_neg (by omega), hc0, cnt_same he' ht']
      · rw [Array.getElem?_setIfInBounds]
        by_cases eq : q = i
        · subst eq; rw [if_pos (by omega), if_pos (by omega)]; simp [putV]
        · rw [if_neg (by omega), hcs q hq]; simp [putV, eq]
  refine ⟨fun hm => ?_, fun hm => ?_⟩
  · refine clone_ok hb3 hcz hcone fun w5 k5 b5 => ?_
    simp [-getElem?_pos, -Array.getElem?_eq_getElem, -Int.natCast_add, add_spot, and_assoc, Br_dec, -op_box, -op_st_4, -op_st_22, -op_st_119, -op_st_132, -op_st_167, -op_st_131, -op_st_144, -op_st_2, -op_st_173, -op_alloc_134, -op_alloc_131, -op_alloc_173, -op_lit_132_1, -op_lit_132_2, -op_lit_167_1, -op_lit_167_2, ptr, hi', heq]
    exact fin0 k5 b5 (.inr rfl)
  · rw [Nat.add_comm i 1]; exact fin0 Frm.refl hb3 (.inl ⟨rfl, hm⟩)
end Go.Proofs.YtbghmbbhkoniiaaGreat.S
end
section
/- Deleting a key at any node, and behind a root. -/
namespace Go.Proofs.YtbghmbbhkoniiaaGreat.S
open Go.Vc Go.Proofs Go.Proofs.YtbghmbbhkoniiaaGreat Go.Vc.Nd
variable {w : World} {v hv : Value} {t : Tr} {F : Nat → Prop} {K : KV} {Kp : KP} {hash : Ky → Nat} {k : Ky} {l s rb : Nat} {mu : Bool}
theorem del_ok : ∀ {t : Tr} {l p s : Nat}, IsH hv hash → WF hash t l p → l ≤ 7 → s = 5 * l → t ≠ .emp → (toL t).length ≤ 1000000 →
    DelC hv hash k mu rb s t (delIn (hash k) k t l) (getIn (hash k) k t l).isSome
  | .emp, l, p, s, hH, hW, hl, hs, hne, hL => absurd rfl hne
  | .arr es, l, p, s, hH, hW, hl, hs, hne, hL => hW.elim
  | .val h' k' x', l, p, s, hH, hW, hl, hs, hne, hL => by
    have e : (getIn (hash k) k (Nd.val h' k' x') l).isSome = decide (k' = k) := by
      rw [getIn]; by_cases hk : k' = k <;> simp [hk]
    rw [e, delIn]
    exact delV_ok hH
  | .col h' es, l, p, s, hH, hW, hl, hs, hne, hL => by
    have e : (getIn (hash k) k (Nd.col h' es) l).isSome = (find es k).isSome := by
      rw [getIn, look_find]
      cases hx : find es k with
      | none => rfl
      | some i =>
        obtain ⟨hi, hik, _⟩ := find_some hx
        simp [hi]
    rw [e]
    exact delC_ok (p := p) hH hL hW.1
  | .br hs' f, l, p, s, hH, hW, hl, hs, hne, hL => by
    obtain ⟨hl6, hWs, hup, _⟩ := hW
    have hi := frag_lt l (hash k)
    have child : f (frag l (hash k)) ≠ .emp → DelC hv hash k mu rb (s + 5) (f (frag l (hash k))) (delIn (hash k) k (f (frag l (hash k))) (l + 1)) (getIn (hash k) k (f (frag l (hash k))) (l + 1)).isSome :=
      fun e => del_ok hH (hWs _ hi) (by omega) (by omega) e (Nat.le_trans (len_child (hs := hs') hi) hL)
    have he : f (frag l (hash k)) = .emp → (getIn (hash k) k (f (frag l (hash k))) (l + 1)).isSome = false := fun e => by rw [e]; rfl
    have hne' : ∀ d : Bool, (getIn (hash k) k (f (frag l (hash k))) (l + 1)).isSome = true → (f (frag l (hash k))).isEmp = false := fun _ h => by
      cases h' : (f (frag l (hash k))).isEmp with
      | false => rfl
      | true => rw [he (isEmp_iff.1 h')] at h; cases h
    rw [getIn]
    cases hs' with
    | false =>
      refine delB_ok (p := p) hH hl6 hs rfl _ he (fun hd => ?_) child
      rw [delIn]
      simp only [hne' true hd, Bool.not_false, Bool.and_true, Bool.true_and, Bool.false_and, decide_eq_true_eq]
    | true =>
      refine delH_ok (p := p) hH hl6 hs rfl _ he (fun hd => ?_) child
      rw [delIn]
      simp only [hne' true hd, Bool.not_false, Bool.and_true, Bool.not_true, Bool.true_and, Bool.false_and, Bool.false_eq_true, if_false]
theorem root_del_ok (hH : IsH hv hash) (hW : WFr hash t) (hne : t ≠ .emp) (hL : (toL t).length ≤ 1000000) (h : Rep w t v F) (hr : flag w rb false) (hrb : ¬ F rb) (hK : Dels w mu F rb v (getIn (hash k) k t 0).isSome (Nd.del hash t k) K) :
    (nice Tryz.prog).call (.inv v "pub-bracken/pub/immutable.delete") [ek k, .int .u64 0, .int .u32 (hash k), hv, .bool mu, ptr rb] w K Kp := by
  cases t with
  | emp => exact absurd rfl hne
  | arr es =>
    refine delA_ok hH hL (List.length_pos_iff.2 hW.1) h hr hrb ?_
    have e : (getIn (hash k) k (Nd.arr es) 0).isSome = (find es k).isSome := by
      rw [getIn, look_find]
      cases hx : find es k with
      | none => rfl
      | some i =>
        obtain ⟨hi, hik, _⟩ := find_some hx
        simp [hi]
    rw [e] at hK; exact hK
  | br hs f => exact del_ok (s := 0) (p := 0) hH hW (by decide) rfl hne hL h hr hrb hK
  | val h' k' x' => exact del_ok (s := 0) (p := 0) hH hW (by decide) rfl hne hL h hr hrb hK
  | col h' es => exact del_ok (s := 0) (p := 0) hH hW (by decide) rfl hne hL h hr hrb hK
end Go.Proofs.YtbghmbbhkoniiaaGreat.S
end
section
/- Maps: Set, Delete, Get, Len. -/
namespace Go.Proofs.YtbghmbbhkoniiaaGreat.S
open Go.Vc Go.Proofs Go.Proofs.YtbghmbbhkoniiaaGreat Go.Vc.Nd
variable {w w' : World} {hv : Value} {t : Tr} {F : Nat → Prop} {K : KV} {Kp : KP} {hash : Ky → Nat} {k : Ky} {x : Vl}
def IsMap (w : World) (b : Nat) (h : Value) (t : Tr) (F : Nat → Prop) : Prop :=
  ∃ r, ∃ F0 : Nat → Prop, w.heap[b]? = some (.cells #[.int .i64 (toL t).length, r, h] 121 (0, 0)) ∧ F b ∧ Rep w t r F0 ∧ ∀ c, F0 c → F c ∧ c ≠ b
theorem IsMap.keep {h : Value} {b : Nat} (hm : IsMap w b h t F) (hw : ∀ c o, F c → w.heap[c]? = some o → w'.heap[c]? = some o) : IsMap w' b h t F := by
  obtain ⟨r, F0, h1, h2, h3, h4⟩ := hm
  exact ⟨r, F0, hw _ _ h2 h1, h2, h3.mono (fun _ h => h) (fun c o hc => hw c o (h4 c hc).1), h4⟩
theorem IsMap.lt {h : Value} {b : Nat} (hm : IsMap w b h t F) : IsMap w b h t (fun c => F c ∧ c < w.heap.size) := by
  obtain ⟨r, F0, h1, h2, h3, h4⟩ := hm
  exact ⟨r, fun c => F0 c ∧ c < w.heap.size, h1, ⟨h2, lt_of_get h1⟩, h3.lt, fun c hc => ⟨⟨(h4 c hc.1).1, hc.2⟩, (h4 c hc.1).2⟩⟩
theorem IsMap.mem {h : Value} {b : Nat} (hm : IsMap w b h t F) : F b := by obtain ⟨r, F0, h1, h2, _⟩ := hm; exact h2
theorem len_ok {h : Value} {b : Nat} (hm : IsMap w b h t F) (hK : K (.int .i64 (toL t).length) w) : Calls Tryz.prog 39 #[ptr b] w (ret K Kp) := by
  obtain ⟨r, F0, h1, _⟩ := hm
  refine vc39_calls ?_
  simp [-getElem?_pos, -Array.getElem?_eq_getElem, -Int.natCast_add, add_spot, and_assoc, Br_dec, -op_box, -op_st_4, -op_st_3, -op_st_119, -op_st_132, -op_st_167, -op_st_131, -op_alloc_4, -op_alloc_121, -op_lit_132_1, vc39, ptr, h1]
  exact hK
theorem get_map_ok {b : Nat} (hH : IsH hv hash) (hW : WFr hash t) (hm : IsMap w b hv t F) (hK : ∀ w', Frm (fun _ => False) w w' → K (gotV (getIn (hash k) k t 0)) w') : Calls Tryz.prog 60 #[ptr b, ek k] w (ret K Kp) := by
  obtain ⟨r, F0, h1, h2, h3, h4⟩ := hm
  refine vc60_calls ?_
  simp only [vc60]
  refine op_alloc_ok (z := .agg #[]) (by kernel_rfl) fun w0 k0 z0 b0 => ?_
  refine op_alloc_ok (z := .agg #[]) (by kernel_rfl) fun w00 k00 z00 b00 => ?_
  replace h1 := (k0.no k00).get h1 id
  replace h3 := h3.still (k0.no k00)
  replace hK := fun w' (hf : Frm (fun _ => False) w00 w') => hK w' ((k0.no k00).no hf)
  have heq := fun {wz : World} {K : KV} {Kp : KP} => eq_nil h3 (wz := wz) (K := K) (Kp := Kp)
  simp [-getElem?_pos, -Array.getElem?_eq_getElem, -Int.natCast_add, add_spot, and_assoc, Br_dec, -op_box, -op_st_4, -op_st_3, -op_st_119, -op_st_132, -op_st_167, -op_st_131, -op_alloc_4, -op_alloc_121, -op_lit_132_1, vc60, ptr, h1, heq]
  refine ⟨fun e => ?_, fun e => ?_⟩
  · have := isEmp_iff.1 e
    subst this
    exact hK _ Frm.refl
  · have hne : t ≠ .emp := fun h => by rw [h] at e; cases e
    obtain ⟨u, c, rfl⟩ := h3.iface hne
    refine hH.hsh fun w1 k1 => ?_
    have h1' := k1.get h1 id
    simp [-getElem?_pos, -Array.getElem?_eq_getElem, -Int.natCast_add, add_spot, and_assoc, Br_dec, -op_box, -op_st_4, -op_st_3, -op_st_119, -op_st_132, -op_st_167, -op_st_131, -op_alloc_4, -op_alloc_121, -op_lit_132_1, h1']
    refine root_get_ok hH hW ((h3.still k1).still (Frm.drew _)) hne fun w2 k2 => ?_
    have := hK w2 (k1.no (Frm.dr k2))
    cases hx : getIn (hash k) k t 0 with
    | none => rw [hx] at this; simpa [gotV, zv, ev] using this
    | some x => rw [hx] at this; simpa [gotV, zv, ev] using this
end Go.Proofs.YtbghmbbhkoniiaaGreat.S
end
section
/- Maps: set in both modes. -/
namespace Go.Proofs.YtbghmbbhkoniiaaGreat.S
open Go.Vc Go.Proofs Go.Proofs.YtbghmbbhkoniiaaGreat Go.Vc.Nd
variable {w w' : World} {hv : Value} {t : Tr} {F F' : Nat → Prop} {K : KV} {Kp : KP} {hash : Ky → Nat} {k : Ky} {x : Vl} {mu : Bool}
theorem clone_map_ok {b : Nat} {n r h : Value} (hb : w.heap[b]? = some (.cells #[n, r, h] 121 (0, 0))) (h1 : n.oneCell' = true) (h2 : r.oneCell' = true) (h3 : h.oneCell' = true)
    (hK : ∀ w', Frm (fun _ => False) w w' → w'.heap.size = w.heap.size + 1 → w'.heap[w.heap.size]? = some (.cells #[n, r, h] 121 (0, 0)) → K (ptr w.heap.size) w') : Calls Tryz.prog 59 #[ptr b] w (ret K Kp) := by
  refine vc59_calls ?_
  have hx : (#[n, r, h] : Array Value).extract 0 3 = #[n, r, h] := rfl
  simp [-getElem?_pos, -Array.getElem?_eq_getElem, -Int.natCast_add, add_spot, and_assoc, Br_dec, -op_box, -op_st_4, -op_st_3, -op_st_119, -op_st_132, -op_st_167, -op_st_131, -op_st_121, -op_st_74, -op_alloc_4, -op_alloc_121, -op_lit_132_1, vc59, ptr, hb, hx]
  refine op_alloc_ok (z := .agg #[.int .i64 0, .nilIface, .nilIface]) (by kernel_rfl) fun w1 k1 z1 b1 => ?_
  simp only [cells_agg] at b1
  rw [op_stn (n := 3) (by kernel_rfl)]
  refine ⟨rfl, fun u hu => ?_, _, _, b1, rfl, by show 0 + 3 ≤ 3; decide, ?_⟩
  · simp at hu
    rcases hu with rfl | rfl | rfl <;> assumption
  refine hK _ (k1.old (Frm.upd (M := (· = w.heap.size)) _ _ fun _ => rfl) fun c hc => .inr (by omega)) (by simpa using z1) ?_
  exact heap_upd_same (o := .cells #[n, r, h] 121 (0, 0)) b1
theorem set_size (hH : IsH hv hash) (hW : WFr hash t) : (toL (Nd.set hash t k x)).length = (toL t).length + if (getIn (hash k) k t 0).isNone then 1 else 0 := by
  rw [set_len hH.lt hW]
  cases hx : getIn (hash k) k t 0 with
  | none =>
    rw [if_neg]; rfl
    intro hk
    obtain ⟨y, hy⟩ := mem_keys.1 hk
    rw [(get_spec hW).2 hy] at hx; cases hx
  | some y =>
    rw [if_pos (mem_keys.2 ⟨y, (get_spec hW).1 hx⟩)]; rfl
theorem set_map_ok {b : Nat} (hH : IsH hv hash) (hW : WFr hash t) (hL : (toL t).length ≤ 1000000) (hm : IsMap w b hv t F)
    (hK : ∀ b' w' F', Frm (fun c => mu = true ∧ F c) w w' → IsMap w' b' hv (Nd.set hash t k x) F' → (∀ c, F' c → F c ∨ w.heap.size ≤ c) → (mu = true → b' = b) → K (ptr b') w') : Calls Tryz.prog 44 #[ptr b, ek k, ev x, .bool mu] w (ret K Kp) := by
  obtain ⟨r, F0, h1, h2, h3, h4⟩ := hm.lt
  obtain ⟨u, p, rfl⟩ := hH.iface
  have heq := fun {wz : World} {K : KV} {Kp : KP} => eq_nil h3 (wz := wz) (K := K) (Kp := Kp)
  refine vc44_calls ?_
  simp only [vc44]
  refine op_box_ok fun w k0 z0 b0 => ?_
  replace h1 := k0.get h1 id
  replace h3 := h3.still k0
  replace h4 : ∀ c, F0 c → (F c ∧ c < w.heap.size) ∧ c ≠ b := fun c hc => ⟨⟨(h4 c hc).1.1, by have := (h4 c hc).1.2; omega⟩, (h4 c hc).2⟩
  replace hK := fun b' w' F' (kf : Frm (fun c => mu = true ∧ F c) w w') hm (hF : ∀ c, F' c → F c ∨ w.heap.size ≤ c) hb => hK b' w' F' (k0.fst kf) hm (fun c hc => (hF c hc).imp id fun h => by omega) hb
  simp [-getElem?_pos, -Array.getElem?_eq_getElem, -Int.natCast_add, add_spot, and_assoc, Br_dec, -op_box, -op_st_4, -op_st_3, -op_st_119, -op_st_132, -op_st_167, -op_st_131, -op_st_121, -op_st_74, -op_alloc_4, -op_alloc_121, -op_lit_132_1, vc44, ptr, h1, heq]
  refine Jn.intro (fun hv' w1 => hv' = .iface u p ∧ w1 = w) ⟨⟨rfl, rfl⟩, ?_⟩
  rintro w0 _ ⟨rfl, rfl⟩
  obtain ⟨J, hJ⟩ : ∃ J : KV, ∀ ov w1, J ov w1 ↔ ∃ nb, ov = ptr nb ∧ Frm (fun _ => False) w0 w1 ∧ w1.heap[nb]? = some (.cells #[.int .i64 (toL t).length, r, .iface u p] 121 (0, 0)) ∧ (nb = b ∧ mu = true ∨ nb = w0.heap.size) ∧ (mu = true → nb = b) := ⟨_, fun _ _ => Iff.rfl⟩
  refine Jn.intro J ⟨fun hm => ?_, fun hm => (hJ _ _).2 ⟨b, rfl, Frm.refl, h1, .inl ⟨rfl, hm⟩, fun _ => rfl⟩, ?_⟩
  · exact clone_map_ok h1 rfl h3.one rfl fun w1 k1 z1 b1 => (hJ _ _).2 ⟨_, rfl, k1, b1, .inr rfl, fun h => by rw [h] at hm; cases hm⟩
  intro w1 ov hov
  obtain ⟨nb, rfl, k1, b1, hnb, hnbm⟩ := (hJ _ _).1 hov
  clear hov hJ J
  have hb1 := k1.get h1 id
  simp [-getElem?_pos, -Array.getElem?_eq_getElem, -Int.natCast_add, add_spot, and_assoc, Br_dec, -op_box, -op_st_4, -op_st_3, -op_st_119, -op_st_132, -op_st_167, -op_st_131, -op_st_121, -op_st_74, -op_alloc_4, -op_alloc_121, -op_lit_132_1, ptr]
  refine op_store_ok (by kernel_rfl) b1 (by simp) rfl fun w2 k2 z2 b2 => ?_
  have b2 : w2.heap[nb]? = some (.cells #[.int .i64 (toL t).length, r, .iface u p] 121 (0, 0)) := by simpa using b2
  have hb2 : w2.heap[b]? = some (.cells #[.int .i64 (toL t).length, r, .iface u p] 121 (0, 0)) := by
    by_cases e : b = nb
    · rw [e]; exact b2
    · exact k2.get hb1 e
  have l1 := lt_of_get h1
  have n1 := k1.size
  have hnF : ∀ c, F0 c → c ≠ nb := fun c hc => by
    rcases hnb with h | h
    · rw [h.1]; exact (h4 c hc).2
    · have := (h4 c hc).1.2; omega
  have r2 : Rep w2 t r F0 := (h3.still k1).frame k2 hnF
  simp [-getElem?_pos, -Array.getElem?_eq_getElem, -Int.natCast_add, add_spot, and_assoc, Br_dec, -op_box, -op_st_4, -op_st_3, -op_st_119, -op_st_132, -op_st_167, -op_st_131, -op_st_121, -op_st_74, -op_alloc_4, -op_alloc_121, -op_lit_132_1, hb2, heq]
  refine ⟨fun e => ?_, fun e => ?_⟩
  · have := isEmp_iff.1 e
    subst this
    refine op_store_ok (by kernel_rfl) b2 (by simp) rfl fun w3 k3 z3 b3 => ?_
    refine op_lit_ok lit_132_1 fun w4 k4 z4 b4 => ?_
    simp [-getElem?_pos, -Array.getElem?_eq_getElem, -Int.natCast_add, add_spot, and_assoc, Br_dec, -op_box, -op_st_4, -op_st_3, -op_st_119, -op_st_132, -op_st_167, -op_st_131, -op_st_121, -op_st_74, -op_alloc_4, -op_alloc_121, -op_lit_132_1]
    refine op_box_ok fun w5 k5 z5 b5 => ?_
    simp only [cells_agg] at b5
    have bn5 := k5.get (k4.get b3 id) id
    refine op_store_ok (by kernel_rfl) bn5 (by simp) rfl fun w6 k6 z6 b6 => ?_
    have l2 := lt_of_get b2
    have hq : Rw w6 131 1 w3.heap.size 1 (ents [(k, x)]) := ((Rw.lit (w := w4) (n := 1) (by rw [ents_len]; rfl) (by decide) (by simpa [ents, ent] using b4)).frame k5 id).frame k6 (by omega)
    have b56 := k6.get b5 (by omega)
    have kall : Frm (fun c => mu = true ∧ F c) w0 w6 := (k1.to (M' := fun c => mu = true ∧ F c) fun _ h => h.elim).old (k2.tr (k3.tr (k4.fst (k5.fst k6)))) fun c hc => by
      have hcn : c = nb := by rcases hc with h | h | h <;> exact h
      rcases hnb with h | h
      · exact .inl ⟨h.2, by rw [hcn, h.1]; exact h2.1⟩
      · exact .inr (by omega)
    refine hK nb w6 (fun c => c = nb ∨ c = w4.heap.size ∨ c = w3.heap.size) kall ⟨_, fun c => c = w4.heap.size ∨ c = w3.heap.size, by rw [show ((toL (Nd.set hash Nd.emp k x)).length : Int) = 1 from rfl]; simpa [ptr] using b6, .inl rfl, ⟨w4.heap.size, w3.heap.size, 1, rfl, .inl rfl, .inr rfl, by omega, b56, by simp, hq⟩, fun c hc => ⟨.inr hc, by omega⟩⟩ (fun c hc => ?_) hnbm
    rcases hc with h | h | h
    · rcases hnb with h' | h'
      · exact .inl (by rw [h, h'.1]; exact h2.1)
      · exact .inr (by omega)
    · exact .inr (by omega)
    · exact .inr (by omega)
  · have hne : t ≠ .emp := fun h => by rw [h] at e; cases e
    obtain ⟨u', c', rfl⟩ := h3.iface hne
    have l2 := lt_of_get b2
    refine op_alloc_ok (z := .bool false) (by kernel_rfl) fun w3 k3 z3 b3 => ?_
    have f3 : flag w3 w2.heap.size false := b3
    have hb3 := k3.get hb2 id
    simp [-getElem?_pos, -Array.getElem?_eq_getElem, -Int.natCast_add, add_spot, and_assoc, Br_dec, -op_box, -op_st_4, -op_st_3, -op_st_119, -op_st_132, -op_st_167, -op_st_131, -op_st_121, -op_st_74, -op_alloc_4, -op_alloc_121, -op_lit_132_1, hb3]
    refine hH.hsh fun w4 k4 => ?_
    have k4 := Frm.dr k4
    have hb4 := k4.get hb3 id
    have bn4 := k4.get (k3.get b2 id) id
    simp [-getElem?_pos, -Array.getElem?_eq_getElem, -Int.natCast_add, add_spot, and_assoc, Br_dec, -op_box, -op_st_4, -op_st_3, -op_st_119, -op_st_132, -op_st_167, -op_st_131, -op_st_121, -op_st_74, -op_alloc_4, -op_alloc_121, -op_lit_132_1, hb4]
    have hlow : ∀ c, F0 c → c < w0.heap.size := fun c hc => (h4 c hc).1.2
    refine root_set_ok (x := x) hH hW hne hL ((r2.still k3).still k4) (f3.frame k4 id) (fun h => by have := hlow _ h; omega) fun v' w5 F' k5 r5 hF5 f5 => ?_
    have n4 := k4.size
    have n5 := k5.size
    have bn5 := k5.get bn4 (fun h => h.elim (fun h => by omega) fun h => hnF _ h.2 rfl)
    have hF5' : ∀ c, F' c → c ≠ nb := fun c hc => by
      rcases hF5 c hc with h | h
      · exact hnF c h
      · have := lt_of_get b2; have := k3.size; omega
    refine op_store_ok (by kernel_rfl) bn5 (by simp) r5.one fun w6 k6 z6 b6 => ?_
    have f6 := f5.frame k6 (fun e => by omega)
    have r6 := r5.frame k6 (fun c hc h => hF5' c hc h)
    have f6' := f6
    unfold flag at f6'
    simp only [Bool.false_or] at f6'
    simp [-getElem?_pos, -Array.getElem?_eq_getElem, -Int.natCast_add, add_spot, and_assoc, Br_dec, -op_box, -op_st_4, -op_st_3, -op_st_119, -op_st_132, -op_st_167, -op_st_131, -op_st_121, -op_st_74, -op_alloc_4, -op_alloc_121, -op_lit_132_1, f6']
    have hsz := set_size (k := k) (x := x) hH hW
    have fin : ∀ {w7 : World}, Frm (· = nb) w6 w7 → w7.heap[nb]? = some (.cells #[.int .i64 (toL (Nd.set hash t k x)).length, v', .iface u p] 121 (0, 0)) → K (ptr nb) w7 := fun {w7} k7 b7 => by
      have kall : Frm (fun c => mu = true ∧ F c) w0 w7 := (k1.to (M' := fun c => mu = true ∧ F c) fun _ h => h.elim).old (k2.tr (k3.fst (k4.fst (k5.tr (k6.tr k7))))) fun c hc => by
        rcases hc with h | (h | h) | h | h
        · rcases hnb with h' | h'
          · exact .inl ⟨h'.2, by rw [h, h'.1]; exact h2.1⟩
          · exact .inr (by omega)
        · exact .inr (by omega)
        · exact .inl ⟨h.1, (h4 c h.2).1.1⟩
        · rcases hnb with h' | h'
          · exact .inl ⟨h'.2, by rw [h, h'.1]; exact h2.1⟩
          · exact .inr (by omega)
        · rcases hnb with h' | h'
          · exact .inl ⟨h'.2, by rw [h, h'.1]; exact h2.1⟩
          · exact .inr (by omega)
      refine hK nb w7 (fun c => c = nb ∨ F' c) kall ⟨v', F', b7, .inl rfl, r6.frame k7 (fun c hc h => hF5' c hc h), fun c hc => ⟨.inr hc, hF5' c hc⟩⟩ (fun c hc => ?_) hnbm
      rcases hc with h | h
      · rcases hnb with h' | h'
        · exact .inl (by rw [h, h'.1]; exact h2.1)
        · exact .inr (by omega)
      · rcases hF5 c h with h' | h'
        · exact .inl (h4 c h').1.1
        · exact .inr (by omega)
    have hw1 : IntKind.i64.wrap (((toL t).length : Int) + 1) = (((toL t).length + 1 : Nat) : Int) := by rw [IntKind.wrap_i64]; omega
    refine ⟨fun hn => ?_, fun hn => ?_⟩
    · simp [-getElem?_pos, -Array.getElem?_eq_getElem, -Int.natCast_add, add_spot, and_assoc, Br_dec, -op_box, -op_st_4, -op_st_3, -op_st_119, -op_st_132, -op_st_167, -op_st_131, -op_st_121, -op_st_74, -op_alloc_4, -op_alloc_121, -op_lit_132_1, b6, hw1]
      refine op_store_ok (by kernel_rfl) b6 (by simp) rfl fun w7 k7 z7 b7 => fin k7 ?_
      rw [hsz, hn]; simpa using b7
    · refine fin Frm.refl ?_
      rw [hsz]
      cases hg : getIn (hash k) k t 0 with
      | none => rw [hg] at hn; simp at hn
      | some y => simpa using b6
end Go.Proofs.YtbghmbbhkoniiaaGreat.S
end
section
/- Maps: delete in both modes. -/
namespace Go.Proofs.YtbghmbbhkoniiaaGreat.S
open Go.Vc Go.Proofs Go.Proofs.YtbghmbbhkoniiaaGreat Go.Vc.Nd
variable {w w' : World} {hv : Value} {t : Tr} {F F' : Nat → Prop} {K : KV} {Kp : KP} {hash : Ky → Nat} {k : Ky} {mu : Bool}
theorem del_size (hW : WFr hash t) : (toL t).length = (toL (Nd.del hash t k)).length + if (getIn (hash k) k t 0).isSome then 1 else 0 := by
  rw [del_len (hash := hash) (k := k) hW]
  cases hx : getIn (hash k) k t 0 with
  | none =>
    rw [if_neg]; rfl
    intro hk
    obtain ⟨y, hy⟩ := mem_keys.1 hk
    rw [(get_spec hW).2 hy] at hx; cases hx
  | some y =>
    rw [if_pos (mem_keys.2 ⟨y, (get_spec hW).1 hx⟩)]; rfl
theorem del_map_ok {b : Nat} (hH : IsH hv hash) (hW : WFr hash t) (hL : (toL t).length ≤ 1000000) (hm : IsMap w b hv t F)
    (hK0 : (getIn (hash k) k t 0).isSome = false → ∀ w', Frm (fun _ => False) w w' → K (ptr b) w')
    (hK : (getIn (hash k) k t 0).isSome = true → ∀ b' w' F', Frm (fun c => mu = true ∧ F c) w w' → IsMap w' b' hv (Nd.del hash t k) F' → (∀ c, F' c → F c ∨ w.heap.size ≤ c) → (mu = true → b' = b) → K (ptr b') w') : Calls Tryz.prog 45 #[ptr b, ek k, .bool mu] w (ret K Kp) := by
  obtain ⟨r, F0, h1, h2, h3, h4⟩ := hm.lt
  obtain ⟨u, p, rfl⟩ := hH.iface
  have heq := fun {wz : World} {K : KV} {Kp : KP} => eq_nil h3 (wz := wz) (K := K) (Kp := Kp)
  refine vc45_calls ?_
  simp [-getElem?_pos, -Array.getElem?_eq_getElem, -Int.natCast_add, add_spot, and_assoc, Br_dec, -op_box, -op_st_4, -op_st_3, -op_st_119, -op_st_132, -op_st_167, -op_st_131, -op_st_121, -op_st_74, -op_alloc_4, -op_alloc_121, -op_lit_132_1, vc45, ptr, h1, heq]
  refine ⟨fun e => ?_, fun e => ?_⟩
  · have := isEmp_iff.1 e
    subst this
    exact hK0 rfl w Frm.refl
  have hne : t ≠ .emp := fun h => by rw [h] at e; cases e
  obtain ⟨u', c', rfl⟩ := h3.iface hne
  refine op_alloc_ok (z := .bool false) (by kernel_rfl) fun w3 k3 z3 b3 => ?_
  have f3 : flag w3 w.heap.size false := b3
  have hb3 := k3.get h1 id
  simp [-getElem?_pos, -Array.getElem?_eq_getElem, -Int.natCast_add, add_spot, and_assoc, Br_dec, -op_box, -op_st_4, -op_st_3, -op_st_119, -op_st_132, -op_st_167, -op_st_131, -op_st_121, -op_st_74, -op_alloc_4, -op_alloc_121, -op_lit_132_1, hb3]
  refine hH.hsh fun w4 k4 => ?_
  have k4 := Frm.dr k4
  have hb4 := k4.get hb3 id
  simp [-getElem?_pos, -Array.getElem?_eq_getElem, -Int.natCast_add, add_spot, and_assoc, Br_dec, -op_box, -op_st_4, -op_st_3, -op_st_119, -op_st_132, -op_st_167, -op_st_131, -op_st_121, -op_st_74, -op_alloc_4, -op_alloc_121, -op_lit_132_1, hb4]
  have hlow : ∀ c, F0 c → c < w.heap.size := fun c hc => (h4 c hc).1.2
  have n4 := k4.size
  refine root_del_ok hH hW hne hL ((h3.still k3).still k4) (f3.frame k4 id) (fun h => by have := hlow _ h; omega) ⟨fun hd w5 k5 => ?_, fun hd v' w5 F' k5 r5 hF5 f5 => ?_⟩
  · have f5 := (f3.frame k4 id).frame k5 id
    unfold flag at f5
    simp [-getElem?_pos, -Array.getElem?_eq_getElem, -Int.natCast_add, add_spot, and_assoc, Br_dec, -op_box, -op_st_4, -op_st_3, -op_st_119, -op_st_132, -op_st_167, -op_st_131, -op_st_121, -op_st_74, -op_alloc_4, -op_alloc_121, -op_lit_132_1, f5]
    exact hK0 hd w5 ((k3.no k4).no k5)
  · have f5' := f5
    unfold flag at f5'
    have n5 := k5.size
    have hbF : ¬ F0 b := fun h => (h4 b h).2 rfl
    have l1 := lt_of_get h1
    have hb5 := k5.get hb4 (fun h => h.elim (fun h => by omega) fun h => hbF h.2)
    simp [-getElem?_pos, -Array.getElem?_eq_getElem, -Int.natCast_add, add_spot, and_assoc, Br_dec, -op_box, -op_st_4, -op_st_3, -op_st_119, -op_st_132, -op_st_167, -op_st_131, -op_st_121, -op_st_74, -op_alloc_4, -op_alloc_121, -op_lit_132_1, f5']
    have hsz := del_size (k := k) hW
    rw [hd, if_pos rfl] at hsz
    have hw1 : IntKind.i64.wrap (((toL t).length : Int) - 1) = ((toL (Nd.del hash t k)).length : Int) := by rw [IntKind.wrap_i64]; omega
    have fin : ∀ {nb : Nat} {w6 : World}, Frm (fun _ => False) w5 w6 → w6.heap[nb]? = some (.cells #[.int .i64 (toL t).length, .iface u' (ptr c'), .iface u p] 121 (0, 0)) → (nb = b ∧ mu = true ∨ nb = w5.heap.size) → (mu = true → nb = b) →
        (nice Tryz.prog).op (.store 3 (.pointer (some ⟨nb, 0, none⟩)) (.int .i64 (toL (Nd.del hash t k)).length)) w6 (fun _ w => (nice Tryz.prog).op (.store 119 (.pointer (some ⟨nb, 1, none⟩)) v') w (fun _ w => K (ptr nb) w) Kp) Kp := fun {nb w6} k6 b6 hnb hnbm => by
      refine op_store_ok (by kernel_rfl) b6 (by simp) rfl fun w7 k7 z7 b7 => ?_
      refine op_store_ok (by kernel_rfl) b7 (by simp) r5.one fun w8 k8 z8 b8 => ?_
      have n6 := k6.size
      have r5' := r5.lt
      have hF5' : ∀ c, F' c ∧ c < w5.heap.size → c ≠ nb := fun c hc => by
        rcases hnb with h | h
        · rw [h.1]
          rcases hF5 c hc.1 with h' | h'
          · exact (h4 c h').2
          · omega
        · omega
      refine hK hd nb w8 (fun c => c = nb ∨ F' c) ((((k3.no k4).fst k5).tr (k6.fst (k7.tr k8)) |>.mono fun c hc hlt => ?_)) ⟨v', fun c => F' c ∧ c < w5.heap.size, by simpa using b8, .inl rfl, ((r5'.still k6).frame k7 (fun c hc h => hF5' c hc h)).frame k8 (fun c hc h => hF5' c hc h), fun c hc => ⟨.inr hc.1, hF5' c hc⟩⟩ (fun c hc => ?_) ?_
      · rcases hc with (h | h) | h | h
        · omega
        · exact ⟨h.1, (h4 c h.2).1.1⟩
        · rcases hnb with h' | h'
          · exact ⟨h'.2, by rw [h, h'.1]; exact h2.1⟩
          · omega
        · rcases hnb with h' | h'
          · exact ⟨h'.2, by rw [h, h'.1]; exact h2.1⟩
          · omega
      · rcases hc with h | h
        · rcases hnb with h' | h'
          · exact .inl (by rw [h, h'.1]; exact h2.1)
          · exact .inr (by omega)
        · rcases hF5 c h with h' | h'
          · exact .inl (h4 c h').1.1
          · exact .inr (by omega)
      · exact hnbm
    refine ⟨fun hm => ?_, fun hm => ?_⟩
    · refine clone_map_ok hb5 rfl h3.one rfl fun w6 k6 z6 b6 => ?_
      simp [-getElem?_pos, -Array.getElem?_eq_getElem, -Int.natCast_add, add_spot, and_assoc, Br_dec, -op_box, -op_st_4, -op_st_3, -op_st_119, -op_st_132, -op_st_167, -op_st_131, -op_st_121, -op_st_74, -op_alloc_4, -op_alloc_121, -op_lit_132_1, ptr, k6.get hb5 id, hw1]
      exact fin k6 b6 (.inr rfl) (fun h => by rw [h] at hm; cases hm)
    · simp [-getElem?_pos, -Array.getElem?_eq_getElem, -Int.natCast_add, add_spot, and_assoc, Br_dec, -op_box, -op_st_4, -op_st_3, -op_st_119, -op_st_132, -op_st_167, -op_st_131, -op_st_121, -op_st_74, -op_alloc_4, -op_alloc_121, -op_lit_132_1, hb5, hw1]
      exact fin Frm.refl hb5 (.inl ⟨rfl, hm⟩) (fun _ => rfl)
end Go.Proofs.YtbghmbbhkoniiaaGreat.S
end
