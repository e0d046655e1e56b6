/- Versions of lists. -/
import Derived.Test.YtjlaclgikmmmlaaLStep
set_option maxRecDepth 100000
set_option linter.unusedSimpArgs false
set_option linter.unusedVariables false
set_option maxHeartbeats 4000000
namespace Go.Proofs.Ytjlaclgikmmmlaa
open Go.Vc Go.Proofs
variable {w w' w0 : World} {F F' G : Nat → Prop} {K : Value → World → Prop} {Kp : KP}

theorem after_no {l : List Int} {s : Step} (h : (after l s).2 = false) : (after l s).1 = l := by
  obtain ⟨kind, fro, index, fin, value⟩ := s
  match kind with
  | 0 => cases h
  | 1 => cases h
  | 2 =>
    simp only [after] at h ⊢
    split at h
    · cases h
    · rename_i hc; rw [if_neg hc]
  | 3 =>
    simp only [after] at h ⊢
    split at h
    · cases h
    · rename_i hc; rw [if_neg hc]
  | 4 => cases h
  | n + 5 => cases h

def adv (st : List (List Int) × List Bool) (s : Step) : List (List Int) × List Bool :=
  (st.1 ++ [(after (st.1[s.fro.toNat]?.getD []) s).1], st.2 ++ [!(after (st.1[s.fro.toNat]?.getD []) s).2])
/-- All versions that steps make, and which steps were out of range. -/
def vers (xs : List Int) (steps : List Step) : List (List Int) × List Bool := steps.foldl adv ([xs], [])
theorem vers_len (steps : List Step) : ∀ st : List (List Int) × List Bool, (steps.foldl adv st).1.length = st.1.length + steps.length ∧ (steps.foldl adv st).2.length = st.2.length + steps.length := by
  induction steps with
  | nil => intro st; simp
  | cons s r ih =>
    intro st
    rw [List.foldl_cons]
    have := ih (adv st s)
    simp only [adv, List.length_append, List.length_cons, List.length_nil] at this ⊢
    omega
theorem vers_snoc (xs : List Int) (r : List Step) (s : Step) : vers xs (r ++ [s]) = adv (vers xs r) s := by simp [vers]
def cost (steps : List Step) : Nat := (steps.map Step.cost).sum
theorem cost_snoc (r : List Step) (s : Step) : cost (r ++ [s]) = cost r + s.cost := by simp [cost]
theorem cost_app (a b : List Step) : cost (a ++ b) = cost a + cost b := by simp [cost]
theorem cost_take (steps : List Step) (i : Nat) : cost (steps.take i) ≤ cost steps := by
  have := cost_app (steps.take i) (steps.drop i)
  rw [List.take_append_drop] at this
  omega
/-- The steps are ones. -/
def AllFit (steps : List Step) : Prop := ∀ i (h : i < steps.length), steps[i].Fits ∧ 0 ≤ steps[i].fro ∧ steps[i].fro ≤ i ∧ (4 ≤ steps[i].kind → steps[i].index ≤ 100000)

theorem cells_len (s : Step) : s.cells.length = 5 := rfl
theorem ap64 : apOf Try.prog 64 = some (67, 1, 8) := by kernel_rfl
theorem ap36 : apOf Try.prog 36 = some (4, 1, 1) := by kernel_rfl

def ptrs (bs : List Nat) : List Value := bs.map ptr
def bools (ps : List Bool) : List Value := ps.map .bool
/-- Behind i steps. -/
structure VState (w0 : World) (xs : List Int) (steps : List Step) (i : Nat) (l p : Value) (w : World) (bs : List Nat) (G : Nat → Prop) : Prop where
  frm : ∀ {M}, Frm M w0 w
  len : bs.length = i + 1
  rowl : w.ownsRow w0.heap.size 67 1 l (i + 1) (ptrs bs)
  rowp : w.ownsRow w0.heap.size 4 1 p i (bools (vers xs (steps.take i)).2)
  ne : ∀ b, l.ownBlock = some b → p.ownBlock ≠ some b
  gl : ∀ k, G k → w0.heap.size ≤ k ∧ k < w.heap.size
  nl : ∀ b, l.ownBlock = some b → ¬ G b
  np : ∀ b, p.ownBlock = some b → ¬ G b
  lists : ∀ j (h : j < bs.length) ys, (vers xs (steps.take i)).1[j]? = some ys → IsList false w bs[j] ys (xs.length + cost (steps.take i)) G

theorem versions_ok {a1 : Option Addr} {c0 c1 : Nat} {a0 : Option Addr} {xs : List Int} {steps : List Step} (h0 : Row w a0 (i64s xs)) (h1 : Row w a1 (steps.flatMap Step.cells)) (hG : Gl w)
    (hfit : AllFit steps) (hN : xs.length + cost steps < 2 ^ 19) (hn : steps.length < 2 ^ 19)
    (hK : ∀ l p w' bs G, VState w xs steps steps.length l p w' bs G → K (.tuple #[l, p]) w') :
    Calls Try.prog 25 #[.slice a0 xs.length c0, .slice a1 steps.length c1] w (ret K Kp) := by
  refine vc25_calls ?_
  simp only [vc25, call_51]
  refine new_list_ok h0 (by omega) fun b w1 F1 hf1 hl1 hF1 => ?_
  have hb1 : w1.heap[w1.heap.size]? = none := by simp
  simp [-getElem?_pos, -Array.getElem?_eq_getElem, List.getElem?_cons_zero, ptr]
  have hr1 : Row (w1.alloc (.cells #[ptr b] 67)) (some ⟨w1.heap.size, 0, none⟩) (ptrs [b]) := .inr ⟨_, _, _, _, _, rfl, hp_alloc_new, fun j v hj => by simpa [ptrs] using hj⟩
  refine op_append (base := w.heap.size) (size := 1) (n := 0) (m := 1) (xs := []) (news := ptrs [b]) ap64 own_nil hr1 rfl (by simp [ptrs, ptr]) (by simp) (by decide) (Nat.le_trans (hf1 (M := fun _ => False)).size (by simp)) fun l w2 hl2 hf2 hbl2 => ?_
  have hf02 : ∀ {M}, Frm M w w2 := fun {M} => ((hf1 (M := M)).trans (Frm.alloc _ _) fun _ h _ => h).trans hf2 fun k h => by cases h
  obtain ⟨I, hI⟩ : ∃ I : Value → Value → Value → World → Prop, ∀ l p v w', I l p v w' ↔ ∃ (i : Nat) (bs : List Nat) (G : Nat → Prop), v = .int .i64 i ∧ i ≤ steps.length ∧ VState w xs steps i l p w' bs G := ⟨_, fun _ _ _ _ => Iff.rfl⟩
  obtain ⟨μ, hμ⟩ : ∃ μ : Value → Value → Value → World → Nat, ∀ l p (j : Nat) w, μ l p (.int .i64 j) w = steps.length - j := ⟨fun _ _ v _ => steps.length - (match v with | .int _ j => j.toNat | _ => 0), fun _ _ _ _ => rfl⟩
  have hsz1 : w.heap.size ≤ w1.heap.size := (hf1 (M := fun _ => False)).size
  refine Lp.intro I μ ⟨(hI _ _ _ _).2 ⟨0, [b], fun k => F1 k ∧ k < w1.heap.size, rfl, by omega, hf02, rfl, by simpa using hl2, own_nil, (fun _ _ h => nomatch h), fun k hk => ⟨hF1 k hk.1, Nat.lt_of_lt_of_le hk.2 ?_⟩, fun k hk hk2 => ?_, (fun k hk => nomatch hk), fun j hj ys hys => ?_⟩, ?_⟩
  · exact Nat.le_trans (by simp) hf2.size
  · rcases hbl2 with h | h
    · rw [hk] at h; cases h
    · rw [hk] at h
      obtain rfl := Option.some.inj h
      have := hk2.2
      simp at this
      omega
  · have hj0 : j = 0 := by simpa using hj
    subst hj0
    simp [vers] at hys
    subst hys
    have h2 := (hl1.weak.lt).frame (((Frm.alloc w1 (.cells #[ptr b] 67))).trans hf2 fun k h _ => h) fun k hk h => by cases h
    simpa [cost] using h2
  intro wl l p v hIl
  obtain ⟨i, bs, G, rfl, hi, hV⟩ := (hI _ _ _ _).1 hIl
  simp only [op_lss, Br_dec]
  refine ⟨fun hlt => ?_, fun hnl => ?_⟩
  · have hi' : i < steps.length := by omega
    obtain ⟨bp, o, cs, e, fz, rfl, hcs, hsz, hext⟩ := (h1.frame (hV.frm (M := fun _ => False)) (by simp)).part cells_len (by decide) hi'
    have hss : (steps[i].cells.toArray).size = 5 := rfl
    have hone : ∀ u, u ∈ steps[i].cells.toArray.toList → u.oneCell' = true := by intro u hu; simp [Step.cells] at hu; rcases hu with rfl | rfl | rfl | rfl | rfl <;> rfl
    have hls : List.take 5 (List.drop (o + i * 5) cs.toList) = steps[i].cells := by
      have := congrArg Array.toList hext
      simpa using this
    have how : ow #[Value.int IntKind.u8 0, Value.int IntKind.i64 0, Value.int IntKind.i64 0, Value.int IntKind.i64 0, Value.int IntKind.i64 0] 0 steps[i].cells = steps[i].cells.toArray := ow_all rfl
    obtain ⟨hf1, hf2, hf3, hf4⟩ := hfit i hi'
    have htk : steps.take (i + 1) = steps.take i ++ [steps[i]] := List.take_succ_eq_append_getElem hi'
    have hct := cost_take steps (i + 1)
    rw [htk, cost_snoc] at hct
    simp [-getElem?_pos, -Array.getElem?_eq_getElem, List.getElem?_cons_zero, add_spot, hcs, hsz, and_assoc, hp_alloc_eq, alloc_upd, hls, how]
    generalize hst : steps[i] = s at *
    refine ⟨hi', hone, ?_⟩
    refine new_list_ok (xs := []) (.inl rfl) (by simp) fun b2 w2 F2 hfr2 hl2 hF2 => ?_
    have hlen := vers_len (steps.take i) ([xs], [])
    have hvl : (vers xs (steps.take i)).1.length = i + 1 := by
      have := hlen.1
      simp only [List.length_take] at this
      simp only [vers]; simp at this; omega
    obtain ⟨q, hq⟩ : ∃ q : Nat, s.fro = q := ⟨s.fro.toNat, by omega⟩
    have hq1 : q < bs.length := by rw [hV.len]; omega
    obtain ⟨ys, hys⟩ : ∃ ys, (vers xs (steps.take i)).1[q]? = some ys := ⟨_, List.getElem?_eq_getElem (by omega)⟩
    have hfl := hV.lists q hq1 ys hys
    have hadv : vers xs (steps.take (i + 1)) = ((vers xs (steps.take i)).1 ++ [(after ys s).1], (vers xs (steps.take i)).2 ++ [!(after ys s).2]) := by
      rw [htk, vers_snoc, adv, hq]; simp [hys]
    have hs2 : w2.heap[wl.heap.size]? = some (.cells s.cells.toArray 26 (0, 0)) := hfr2.get (M := fun _ => False) (hp_alloc_eq rfl) (by simp)
    have hwl2 : ∀ {M}, Frm M wl w2 := fun {M} => (Frm.alloc wl _).trans (hfr2 (M := M)) fun _ h _ => h
    have hsz2 : wl.heap.size < w2.heap.size := lt_of_get hs2
    obtain ⟨J, hJ⟩ : ∃ J : Value → World → Prop, ∀ p w', J p w' ↔ ∃ (b' : Nat) (G' : Nat → Prop), p = .bool (!(after ys s).2) ∧ (∀ {M}, Frm M wl w') ∧ w'.heap[w2.heap.size]? = some (.cells #[ptr b'] 67 (0, 0)) ∧
      IsList false w' b' (after ys s).1 (xs.length + cost (steps.take (i + 1))) G' ∧ ∀ k, G' k → (G k ∨ wl.heap.size ≤ k) ∧ k < w'.heap.size := ⟨_, fun _ _ => Iff.rfl⟩
    refine ⟨rfl, Jn.intro J ⟨?_, ?_⟩⟩
    · obtain ⟨al, cl, rfl, hcl, hrl, hal, hol⟩ := own_slice hV.rowl
      have hbx2 : w2.heap.size ≠ wl.heap.size := by omega
      have hks : s.cells.toArray = #[.int .u8 s.kind, .int .i64 s.fro, .int .i64 s.index, .int .i64 s.fin, .int .i64 s.value] := rfl
      rw [hks] at hs2
      have hrl2 := hrl.frame (hwl2 (M := fun _ => False)) (by simp)
      obtain ⟨bl, ol, csl, el, fzl, rfl, hcl1, hcl2⟩ := hrl2.get (j := q) (by simp [ptrs]; omega)
      have hget : (ptrs bs)[q]'(by simp [ptrs]; omega) = ptr bs[q] := by simp [ptrs]
      rw [hget] at hcl2
      have hnel : bl ≠ w2.heap.size := Nat.ne_of_lt (lt_of_get hcl1)
      have main : s.fro = q := hq
      have hkind : s.kind = 0 ∨ s.kind = 1 ∨ s.kind = 2 ∨ s.kind = 3 ∨ s.kind = 4 ∨ s.kind = 5 := by have := hf1.1; omega
      have mainc : Calls Try.prog 29 #[Value.func (Fn.func 52) #[] #[Value.pointer (some ⟨wl.heap.size, 0, none⟩), Value.pointer (some ⟨w2.heap.size + 1, 0, none⟩), Value.pointer (some ⟨w2.heap.size, 0, none⟩)]]
          ((w2.alloc (Obj.cells #[ptr b2] 67)).alloc (Obj.cells #[ptr bs[q]] 67))
          (ret (fun v64 w => Br v64 (∃ cs, (∃ x a b, w.heap[w2.heap.size + 1]? = some (Obj.cells cs x (a, b))) ∧ ∃ v, cs[0]? = some v ∧ ∃ cs e, w.heap[w2.heap.size]? = some (Obj.cells cs e (0, 0)) ∧ 0 < cs.size ∧ v.oneCell' = true ∧ J v64 (w.upd w2.heap.size (Obj.cells (cs.setIfInBounds 0 v) e (0, 0))))
            (J v64 w)) Kp) := by
        refine thrown_ok (by kernel_rfl) ?_
        have g1 : ((((w2.alloc (Obj.cells #[ptr b2] 67)).alloc (Obj.cells #[ptr bs[q]] 67)).alloc (Obj.cells #[.bool false] 4))).heap[wl.heap.size]? = some (.cells s.cells.toArray 26 (0, 0)) := hp_alloc_lt (hp_alloc_lt (hp_alloc_lt hs2))
        have g2 : ((((w2.alloc (Obj.cells #[ptr b2] 67)).alloc (Obj.cells #[ptr bs[q]] 67)).alloc (Obj.cells #[.bool false] 4))).heap[w2.heap.size + 1]? = some (.cells #[ptr bs[q]] 67 (0, 0)) := hp_alloc_lt (hp_alloc_eq (by simp))
        have g3 : ((((w2.alloc (Obj.cells #[ptr b2] 67)).alloc (Obj.cells #[ptr bs[q]] 67)).alloc (Obj.cells #[.bool false] 4))).heap[w2.heap.size]? = some (.cells #[ptr b2] 67 (0, 0)) := hp_alloc_lt (hp_alloc_lt (hp_alloc_eq rfl))
        have hf5 : ∀ {M}, Frm M wl (((w2.alloc (Obj.cells #[ptr b2] 67)).alloc (Obj.cells #[ptr bs[q]] 67)).alloc (Obj.cells #[.bool false] 4)) := fun {M} =>
          (((hwl2 (M := M)).trans (Frm.alloc _ _) fun _ h _ => h).trans (Frm.alloc _ _) fun _ h _ => h).trans (Frm.alloc _ _) fun _ h _ => h
        have g4 : ((((w2.alloc (Obj.cells #[ptr b2] 67)).alloc (Obj.cells #[ptr bs[q]] 67)).alloc (Obj.cells #[.bool false] 4))).heap[((w2.alloc (Obj.cells #[ptr b2] 67)).alloc (Obj.cells #[ptr bs[q]] 67)).heap.size]? = some (.cells #[.bool false] 4 (0, 0)) := hp_alloc_eq rfl
        have hlq := hfl.frame (hf5 (M := fun _ => False)) (by simp)
        have hsz4 : ((w2.alloc (Obj.cells #[ptr b2] 67)).alloc (Obj.cells #[ptr bs[q]] 67)).heap.size = w2.heap.size + 2 := by simp
        have hsz5 : (((w2.alloc (Obj.cells #[ptr b2] 67)).alloc (Obj.cells #[ptr bs[q]] 67)).alloc (Obj.cells #[.bool false] 4)).heap.size = w2.heap.size + 3 := by simp
        have hGl5 : Gl (((w2.alloc (Obj.cells #[ptr b2] 67)).alloc (Obj.cells #[ptr bs[q]] 67)).alloc (Obj.cells #[.bool false] 4)) := hG.frame ((hV.frm (M := fun _ => False)).trans hf5 fun _ h _ => h) (by simp)
        refine step_ok (s := s) (G := G) (N := xs.length + cost (steps.take i)) g1 g2 g3 (by omega) (by omega) (fun h => by have := (hV.gl _ h).2; omega) hlq hGl5 hf1 (by omega) (fun hok w6 b' G' hf6 hbx6 hl6 hG6 => ?_) (fun hno str => ?_)
        · refine ⟨hf6.get g4 (by rw [hsz4]; omega), ?_⟩
          simp only [Br_bool]
          refine ⟨(fun h => nomatch h), fun _ => (hJ _ _).2 ⟨b', G', by rw [hok]; rfl, fun {M} => (hf5 (M := M)).trans hf6 fun k hk hlt => ?_, hbx6, ?_, fun k hk => ?_⟩⟩
          · omega
          · rw [htk, cost_snoc, ← Nat.add_assoc]; exact hl6
          · have := hG6 k hk
            refine ⟨this.1.imp id fun h => by omega, this.2⟩
        · refine ⟨_, _, rfl, g4, ?_⟩
          have hne1 : ((w2.alloc (Obj.cells #[ptr b2] 67)).alloc (Obj.cells #[ptr bs[q]] 67)).heap.size ≠ w2.heap.size + 1 := by omega
          have hne2 : ((w2.alloc (Obj.cells #[ptr b2] 67)).alloc (Obj.cells #[ptr bs[q]] 67)).heap.size ≠ w2.heap.size := by omega
          simp only [Br_bool]
          refine ⟨fun _ => ⟨#[ptr bs[q]], ⟨_, _, _, by rw [heap_upd_ne hne1]; exact g2⟩, ptr bs[q], rfl, #[ptr b2], _, by rw [heap_upd_ne hne2]; exact g3, by simp, rfl, ?_⟩, fun h => nomatch h⟩
          have hfu : Frm (fun k => k = w2.heap.size ∨ k = w2.heap.size + 2) (((w2.alloc (Obj.cells #[ptr b2] 67)).alloc (Obj.cells #[ptr bs[q]] 67)).alloc (Obj.cells #[.bool false] 4))
              (((((w2.alloc (Obj.cells #[ptr b2] 67)).alloc (Obj.cells #[ptr bs[q]] 67)).alloc (Obj.cells #[.bool false] 4)).upd ((w2.alloc (Obj.cells #[ptr b2] 67)).alloc (Obj.cells #[ptr bs[q]] 67)).heap.size (.cells #[.bool true] 4 (0, 0))).upd w2.heap.size (.cells #[ptr bs[q]] 67 (0, 0))) :=
            (Frm.upd _ _ fun _ => .inr hsz4).trans (Frm.upd (M := fun k => k = w2.heap.size) _ _ fun _ => rfl) fun k hk _ => .inl hk
          have hys' : (after ys s).1 = ys := after_no hno
          refine (hJ _ _).2 ⟨bs[q], G, by rw [hno]; rfl, fun {M} => (hf5 (M := M)).trans hfu fun k hk hlt => by omega, heap_upd_same (o' := .cells #[ptr b2] 67 (0, 0)) (by rw [heap_upd_ne hne2]; exact g3), ?_, fun k hk => ⟨.inl hk, ?_⟩⟩
          · rw [hys', htk, cost_snoc]
            exact (hlq.frame hfu fun k hk he => by have := (hV.gl k hk).2; omega).le (by omega)
          · have := (hV.gl k hk).2; simp; omega
      rcases hkind with hkd | hkd | hkd | hkd | hkd | hkd
      · simp [-getElem?_pos, -Array.getElem?_eq_getElem, List.getElem?_cons_zero, hs2, hp_alloc_ne, hp_alloc_eq, alloc_upd, hbx2, Ne.symm hbx2, hkd, hq, add_spot, hcl1, hnel, hcl2, Br_dec]
        exact ⟨fun _ => ⟨by omega, rfl, mainc⟩, fun h => by omega⟩
      · simp [-getElem?_pos, -Array.getElem?_eq_getElem, List.getElem?_cons_zero, hs2, hp_alloc_ne, hp_alloc_eq, alloc_upd, hbx2, Ne.symm hbx2, hkd, hq, add_spot, hcl1, hnel, hcl2, Br_dec]
        exact ⟨fun _ => ⟨by omega, rfl, mainc⟩, fun h => by omega⟩
      · simp [-getElem?_pos, -Array.getElem?_eq_getElem, List.getElem?_cons_zero, hs2, hp_alloc_ne, hp_alloc_eq, alloc_upd, hbx2, Ne.symm hbx2, hkd, hq, add_spot, hcl1, hnel, hcl2, Br_dec]
        exact ⟨fun _ => ⟨by omega, rfl, mainc⟩, fun h => by omega⟩
      · simp [-getElem?_pos, -Array.getElem?_eq_getElem, List.getElem?_cons_zero, hs2, hp_alloc_ne, hp_alloc_eq, alloc_upd, hbx2, Ne.symm hbx2, hkd, hq, add_spot, hcl1, hnel, hcl2, Br_dec]
        exact ⟨fun _ => ⟨by omega, rfl, mainc⟩, fun h => by omega⟩
      · have hx1 := hf1.2 (by omega)
        have hx2 := hf4 (by omega)
        simp [-getElem?_pos, -Array.getElem?_eq_getElem, List.getElem?_cons_zero, hs2, hp_alloc_ne, hp_alloc_eq, alloc_upd, hbx2, Ne.symm hbx2, hkd, hq, add_spot, hcl1, hnel, hcl2, Br_dec, hx1, hx2]
        exact ⟨fun _ => ⟨by omega, rfl, mainc⟩, fun h => by omega⟩
      · have hx1 := hf1.2 (by omega)
        have hx2 := hf4 (by omega)
        simp [-getElem?_pos, -Array.getElem?_eq_getElem, List.getElem?_cons_zero, hs2, hp_alloc_ne, hp_alloc_eq, alloc_upd, hbx2, Ne.symm hbx2, hkd, hq, add_spot, hcl1, hnel, hcl2, Br_dec, hx1, hx2]
        exact ⟨fun _ => ⟨by omega, rfl, mainc⟩, fun h => by omega⟩
    · intro w' pv hJ'
      obtain ⟨b', G', rfl, hfw, hbx, hl', hG'⟩ := (hJ _ _).1 hJ'
      have hsw : wl.heap.size ≤ w'.heap.size := (hfw (M := fun _ => False)).size
      have hsb : w.heap.size ≤ wl.heap.size := (hV.frm (M := fun _ => False)).size
      simp [-getElem?_pos, -Array.getElem?_eq_getElem, List.getElem?_cons_zero, hbx, ptr]
      have hfa : ∀ {M}, Frm M wl (w'.alloc (.cells #[ptr b'] 67)) := fun {M} => (hfw (M := M)).trans (Frm.alloc _ _) fun _ h _ => h
      have hr1 : Row (w'.alloc (.cells #[ptr b'] 67)) (some ⟨w'.heap.size, 0, none⟩) (ptrs [b']) := .inr ⟨_, _, _, _, _, rfl, hp_alloc_new, fun j v hj => by simpa [ptrs] using hj⟩
      refine op_append (base := w.heap.size) (size := 1) (n := i + 1) (m := 1) (xs := ptrs bs) (news := ptrs [b']) ap64 (own_frame hV.rowl (hfa (M := fun _ => False)) (by simp)) hr1 rfl (by simp [ptrs, ptr]) (by simp) (by omega) (by simp; omega) fun l4 w4 hl4 hf4 hbl4 => ?_
      have hsw4 : w'.heap.size + 1 ≤ w4.heap.size := by have := hf4.size; simpa using this
      have hpl : ∀ k, p.ownBlock = some k → some k ≠ l.ownBlock := fun k hk e => hV.ne k e.symm hk
      have hp4 : w4.ownsRow w.heap.size 4 1 p i (bools (vers xs (steps.take i)).2) := own_frame (own_frame hV.rowp (hfa (M := fun _ => False)) (by simp)) hf4 hpl
      have hr2 : Row (w4.alloc (.cells #[.bool !(after ys s).2] 4)) (some ⟨w4.heap.size, 0, none⟩) (bools [!(after ys s).2]) := .inr ⟨_, _, _, _, _, rfl, hp_alloc_new, fun j v hj => by simpa [bools] using hj⟩
      refine op_append (base := w.heap.size) (size := 1) (n := i) (m := 1) (xs := bools (vers xs (steps.take i)).2) (news := bools [!(after ys s).2]) ap36 (own_frame hp4 (Frm.alloc (M := fun _ => False) _ _) (by simp)) hr2 rfl (by simp [bools]) (by simp) (by omega) (by simp; omega) fun p5 w5 hp5 hf5 hbp5 => ?_
      have hpe : w.heap.size ≤ w'.heap.size := Nat.le_trans hsb hsw
      have hlb := own_lt hV.rowl
      have hpb := own_lt hV.rowp
      have hsw5 : w4.heap.size + 1 ≤ w5.heap.size := by have := hf5.size; simpa using this
      rw [wrap_small _ rfl (by omega) (by omega)]
      have hbl4 : l4.ownBlock = l.ownBlock ∨ l4.ownBlock = some (w'.heap.size + 1) := by simpa using hbl4
      have hbp5 : p5.ownBlock = p.ownBlock ∨ p5.ownBlock = some (w4.heap.size + 1) := by simpa using hbp5
      have hf45 : Frm (fun k => some k = l.ownBlock ∨ some k = p.ownBlock) w' w5 :=
        (((Frm.alloc w' _).trans hf4 fun k hk _ => .inl hk).trans (Frm.alloc (M := fun _ => False) w4 _) fun k hk _ => hk.elim).trans hf5 fun k hk _ => .inr hk
      have hG4 : ∀ k, G k ∨ G' k → ¬ (some k = l.ownBlock ∨ some k = p.ownBlock) := fun k hk he => by
        have hkw : G k ∨ wl.heap.size ≤ k := hk.elim .inl fun h => (hG' k h).1
        rcases he with he | he
        · rcases hkw with h | h
          · exact hV.nl k he.symm h
          · have := (hlb k he.symm).2; omega
        · rcases hkw with h | h
          · exact hV.np k he.symm h
          · have := (hpb k he.symm).2; omega
      have hown4 : ∀ k, l4.ownBlock = some k → some k ≠ p.ownBlock := fun k hk e => by
        rcases hbl4 with h | h
        · exact hV.ne k (h ▸ hk) e.symm
        · rw [h] at hk
          obtain rfl := Option.some.inj hk
          have := (hpb _ e.symm).2; omega
      refine ⟨(hI _ _ _ _).2 ⟨i + 1, bs ++ [b'], fun k => G k ∨ G' k, rfl, by omega, ⟨fun {M} => ?_, by simp [hV.len], ?_, ?_, fun k hk hk2 => ?_, fun k hk => ?_, fun k hk hk2 => ?_, fun k hk hk2 => ?_, fun j hj zs hzs => ?_⟩⟩, ?_⟩
      · refine ((hV.frm (M := M)).trans (hfw (M := M)) fun k hk _ => hk).trans hf45 fun k hk hlt => ?_
        rcases hk with hk | hk
        · have := (hlb k hk.symm).1; omega
        · have := (hpb k hk.symm).1; omega
      · have := own_frame (own_frame hl4 (Frm.alloc (M := fun _ => False) _ _) (by simp)) hf5 hown4
        simpa [ptrs] using this
      · rw [hadv]
        simpa [bools] using hp5
      · rcases hbp5 with h | h
        · exact hown4 k hk (h ▸ hk2).symm
        · rw [h] at hk2
          obtain rfl := Option.some.inj hk2
          have := (own_lt hl4 _ hk).2
          omega
      · rcases hk with hk | hk
        · have := hV.gl k hk
          have := hf45.size
          omega
        · have h1 := hG' k hk
          have h3 := hf45.size
          rcases h1.1 with h | h
          · have := hV.gl k h; omega
          · omega
      · rcases hbl4 with h | h
        · exact hG4 k hk2 (.inl (h ▸ hk).symm)
        · rw [h] at hk
          obtain rfl := Option.some.inj hk
          rcases hk2 with hk2 | hk2
          · have := (hV.gl _ hk2).2; omega
          · have := (hG' _ hk2).2; omega
      · rcases hbp5 with h | h
        · exact hG4 k hk2 (.inr (h ▸ hk).symm)
        · rw [h] at hk
          obtain rfl := Option.some.inj hk
          rcases hk2 with hk2 | hk2
          · have := (hV.gl _ hk2).2; omega
          · have := (hG' _ hk2).2; omega
      · rw [hadv] at hzs
        by_cases hji : j < i + 1
        · rw [List.getElem?_append_left (by rw [hvl]; exact hji)] at hzs
          have hj' : j < bs.length := by rw [hV.len]; exact hji
          have h3 := (((hV.lists j hj' zs hzs).frame (hfw (M := fun _ => False)) (by simp)).frame hf45 fun k hk => hG4 k (.inl hk)).more (F' := fun k => G k ∨ G' k) fun k hk => .inl hk
          rw [List.getElem_append_left hj']
          exact h3.le (by rw [htk, cost_snoc]; omega)
        · have hj2 : j = i + 1 := by simp [hV.len] at hj; omega
          subst hj2
          rw [List.getElem?_append_right (by rw [hvl]; omega), hvl] at hzs
          simp at hzs
          subst hzs
          have h3 := (hl'.frame hf45 fun k hk => hG4 k (.inr hk)).more (F' := fun k => G k ∨ G' k) fun k hk => .inr hk
          rw [List.getElem_append_right (by rw [hV.len]; omega)]
          simpa [hV.len] using h3
      · have e : (i : Int) + 1 = ((i + 1 : Nat) : Int) := rfl
        rw [e, hμ, hμ]; omega
  · have : i = steps.length := by omega
    subst this
    exact hK _ _ _ _ _ hV
end Go.Proofs.Ytjlaclgikmmmlaa
