/- impl.ListIterate. -/
import Derived.Test.YtjlaclgikmmmlaaLMove
set_option maxRecDepth 100000
set_option linter.unusedSimpArgs false
set_option linter.unusedVariables false
set_option maxHeartbeats 8000000
namespace Go.Proofs.Ytjlaclgikmmmlaa
open Go.Vc Go.Proofs
variable {m : Bool} {w w' w0 : World} {F F' G : Nat → Prop} {K : Value → World → Prop} {Kp : KP}
theorem ap45 : apOf Try.prog 45 = some (49, 4, 24) := by kernel_rfl

theorem mv_pan {xs : List Int} {i : Int} {s : Mv} (h : (mv xs i s).2.2.2 = true) : (mv xs i s).1 = i ∧ (mv xs i s).2.1 = 0 ∧ (mv xs i s).2.2.1 = 0 := by
  obtain ⟨kind, index⟩ := s
  match kind with
  | 0 => simp only [mv] at h; split at h <;> cases h
  | 1 => simp only [mv] at h; split at h <;> cases h
  | 2 => cases h
  | 3 => cases h
  | 4 =>
    simp only [mv] at h ⊢
    by_cases hc : 0 ≤ index ∧ index < xs.length
    · rw [if_pos hc] at h; cases h
    · rw [if_neg hc]; exact ⟨rfl, rfl, rfl⟩
  | n + 5 => cases h

theorem iterate_ok {a0 a1 a2 : Option Addr} {c0 c1 c2 k : Nat} {xs ys : List Int} {steps : List Step} {moves : List Mv} (h0 : Row w a0 (i64s xs)) (h1 : Row w a1 (steps.flatMap Step.cells)) (h2 : Row w a2 (moves.flatMap Mv.cells)) (hG : Gl w)
    (hfit : AllFit steps) (hN : xs.length + cost steps < 2 ^ 19) (hn : steps.length < 2 ^ 19) (hm : moves.length < 2 ^ 31) (hk : k ≤ steps.length) (hys : (vers xs steps).1[k]? = some ys)
    (hK : ∀ v w', (∀ {M}, Frm M w w') → w'.ownsRow w.heap.size 49 4 v moves.length ((walk ys moves).2.flatMap Sn.cells) → K (.tuple #[.bool (isDone ys 0), v]) w') :
    Calls Try.prog 17 #[.slice a0 xs.length c0, .slice a1 steps.length c1, .int .i64 k, .slice a2 moves.length c2] w (ret K Kp) := by
  refine vc17_calls ?_
  simp only [vc17, call_25]
  refine versions_ok h0 h1 hG hfit hN hn fun l0 p w1 bs G hV => ?_
  obtain ⟨al, cl, rfl, hcl, hrl, hal, hol⟩ := own_slice hV.rowl
  have hlists := hV.lists
  rw [List.take_length] at hlists
  have hkb : k < bs.length := by rw [hV.len]; omega
  obtain ⟨bl, ol, csl, el, ⟨fa, fb⟩, rfl, hcl1, hcl2⟩ := hrl.get (j := k) (by simpa [ptrs] using hkb)
  have hget : (ptrs bs)[k]'(by simpa [ptrs] using hkb) = ptr bs[k] := by simp [ptrs]
  rw [hget] at hcl2
  have hkn : ¬ (k : Int) < 0 := by omega
  have hkl : ¬ (steps.length : Int) + 1 ≤ k := by omega
  simp [-getElem?_pos, -Array.getElem?_eq_getElem, List.getElem?_cons_zero, add_spot, hcl1, hcl2, hkn, hkl, Br_dec]
  refine ⟨by omega, ?_⟩
  have hlk := hlists k hkb ys hys
  have hsw : w.heap.size ≤ w1.heap.size := (hV.frm (M := fun _ => False)).size
  generalize hbk : bs[k] = b at *
  refine iter_new hlk (fun q hq => (hV.gl q hq).2) hN fun w2 hf2 hsz2 hi2 => ?_
  have hnG : ∀ {q}, w1.heap.size ≤ q → ¬ G q := fun hq h => by have := (hV.gl _ h).2; omega
  obtain ⟨bi, hbi⟩ : ∃ bi, bi = w1.heap.size := ⟨_, rfl⟩
  rw [← hbi] at hi2 hsz2 ⊢
  simp [-getElem?_pos, -Array.getElem?_eq_getElem, List.getElem?_cons_zero, ptr, hp_alloc_eq, alloc_upd, and_assoc]
  obtain ⟨bp, hbp⟩ : ∃ bp, bp = w2.heap.size := ⟨_, rfl⟩
  obtain ⟨w3, hw3⟩ : ∃ w3, w3 = w2.alloc (.cells #[.pointer (some ⟨bi, 0, none⟩)] 69) := ⟨_, rfl⟩
  have hp3 : w3.heap[bp]? = some (.cells #[ptr bi] 69 (0, 0)) := by rw [hw3, hbp]; exact hp_alloc_eq rfl
  have hs3 : w3.heap.size = bp + 1 := by rw [hw3, hbp]; simp
  have hf3 : ∀ {M}, Frm M w w3 := fun {M} => ((hV.frm (M := M)).trans (hf2 (M := M)) fun _ h _ => h).trans (by rw [hw3]; exact Frm.alloc _ _) fun _ h _ => h
  have hi3 : It false w3 bi b ys (xs.length + cost steps) G 0 := by rw [hw3]; exact hi2.frame (Frm.alloc (M := fun _ => False) _ _) (by simp) (by simp)
  rw [← hw3, ← hbp]
  refine done_ok hi3 ?_
  have hfd : ∀ {M}, Frm M w w3.drew := fun {M} => (hf3 (M := M)).trans (Frm.drew _) fun _ h _ => h
  have hi3d : It false w3.drew bi b ys (xs.length + cost steps) G 0 := hi3.frame (Frm.drew (M := fun _ => False) _) (by simp) (by simp)
  obtain ⟨I, hI⟩ : ∃ I : Value → Value → World → Prop, ∀ l v w', I l v w' ↔ ∃ (j : Nat), v = .int .i64 j ∧ j ≤ moves.length ∧ (∀ {M}, Frm M w w') ∧ w'.ownsRow (bp + 1) 49 4 l j ((walk ys (moves.take j)).2.flatMap Sn.cells) ∧ It false w' bi b ys (xs.length + cost steps) G (walk ys (moves.take j)).1 ∧
      w'.heap[bp]? = some (.cells #[ptr bi] 69 (0, 0)) ∧ bp + 1 ≤ w'.heap.size := ⟨_, fun _ _ _ => Iff.rfl⟩
  obtain ⟨μ, hμ⟩ : ∃ μ : Value → Value → World → Nat, ∀ l (j : Nat) w, μ l (.int .i64 j) w = moves.length - j := ⟨fun _ v _ => moves.length - (match v with | .int _ j => j.toNat | _ => 0), fun _ _ _ => rfl⟩
  refine Lp.intro I μ ⟨(hI _ _ _).2 ⟨0, rfl, by omega, hfd, own_nil, hi3d, hp3, by rw [heap_drew]; omega⟩, ?_⟩
  intro wl l v hIl
  obtain ⟨j, rfl, hj, hfr, hown, hi, hp, hsz⟩ := (hI _ _ _).1 hIl
  simp only [op_lss, Br_dec]
  refine ⟨fun hlt => ?_, fun hnl => ?_⟩
  · have hj' : j < moves.length := by omega
    obtain ⟨bm0, o, cs, e, ⟨fa, fb⟩, rfl, hcs, hsz1, hext⟩ := (h2.frame (hfr (M := fun _ => False)) (by simp)).part mv_len (by decide) hj'
    have hls : List.take 2 (List.drop (o + j * 2) cs.toList) = moves[j].cells := by
      have := congrArg Array.toList hext
      simpa using this
    have how : ow #[Value.int IntKind.u8 0, Value.int IntKind.i64 0] 0 moves[j].cells = moves[j].cells.toArray := ow_all rfl
    have hone : ∀ u, u ∈ moves[j].cells → u.oneCell' = true := by intro u hu; simp [Mv.cells] at hu; rcases hu with rfl | rfl <;> rfl
    have hks : moves[j].cells.toArray = #[.int .u8 moves[j].kind, .int .i64 moves[j].index] := rfl
    simp [-getElem?_pos, -Array.getElem?_eq_getElem, List.getElem?_cons_zero, add_spot, hcs, hsz1, and_assoc, hp_alloc_eq, alloc_upd, hls, how]
    refine ⟨hj', hone, ?_⟩
    generalize hs : moves[j] = s at *
    have htk : moves.take (j + 1) = moves.take j ++ [s] := by rw [← hs]; exact List.take_succ_eq_append_getElem hj'
    have hadv : walk ys (moves.take (j + 1)) = mvs ys (walk ys (moves.take j)) s := by rw [htk, walk_snoc]
    generalize hst : walk ys (moves.take j) = st at *
    obtain ⟨bm, hbm⟩ : ∃ bm, bm = wl.heap.size := ⟨_, rfl⟩
    obtain ⟨w4, hw4⟩ : ∃ w4, w4 = (wl.alloc (.cells s.cells.toArray 43)).alloc (.cells #[.int .i64 0, .int .i64 0, .bool false, .bool false] 49) := ⟨_, rfl⟩
    rw [← hbm, ← hw4]
    have hm4 : w4.heap[bm]? = some (.cells s.cells.toArray 43 (0, 0)) := by rw [hw4, hbm]; exact hp_alloc_lt (hp_alloc_eq rfl)
    have hs4 : w4.heap[bm + 1]? = some (.cells #[.int .i64 0, .int .i64 0, .bool false, .bool false] 49 (0, 0)) := by rw [hw4, hbm]; exact hp_alloc_eq (by simp)
    have hz4 : w4.heap.size = bm + 2 := by rw [hw4, hbm]; simp
    have hfl4 : ∀ {M}, Frm M wl w4 := fun {M} => by rw [hw4]; exact (Frm.alloc _ _).trans (Frm.alloc _ _) fun _ h _ => h
    have hi4 := hi.frame (hfl4 (M := fun _ => False)) (by simp) (by simp)
    have hp4 := (hfl4 (M := fun _ => False)).get hp (by simp)
    have hbig : ∀ {q}, bm ≤ q → ¬ G q := fun hq => hnG (by omega)
    obtain ⟨w5, hw5⟩ : ∃ w5, w5 = w4.alloc (.cells #[.bool false] 4) := ⟨_, rfl⟩
    have hf45 : ∀ {M}, Frm M w4 w5 := fun {M} => by rw [hw5]; exact Frm.alloc _ _
    have hg5 : ∀ {b' : Nat} {o' : Obj}, w4.heap[b']? = some o' → w5.heap[b']? = some o' := fun h => (hf45 (M := fun _ => False)).get h (by simp)
    have hz5 : w5.heap.size = bm + 3 := by rw [hw5]; simp [hz4]
    have hnew5 : w5.heap[bm + 2]? = some (.cells #[.bool false] 4 (0, 0)) := by rw [hw5]; exact hp_alloc_eq hz4.symm
    -- the closure's call
    have key : ∀ KK : Value → World → Prop, (∀ w6, Frm (fun q => q = bi ∨ q = bm + 1 ∨ q = bm + 2) wl w6 → w6.heap[bm + 1]? = some (.cells #[.int .i64 (mv ys st.1 s).2.1, .int .i64 (mv ys st.1 s).2.2.1, .bool false, .bool false] 49 (0, 0)) →
        It false w6 bi b ys (xs.length + cost steps) G (mv ys st.1 s).1 → w6.heap[bp]? = some (.cells #[ptr bi] 69 (0, 0)) → bm + 3 ≤ w6.heap.size → KK (.bool (mv ys st.1 s).2.2.2) w6) →
        Calls Try.prog 29 #[.func (.func 30) #[] #[.pointer (some ⟨bm, 0, none⟩), .pointer (some ⟨bp, 0, none⟩), .pointer (some ⟨bm + 1, 0, none⟩)]] w4 (ret KK Kp) := fun KK rest => by
      refine thrown_ok (by kernel_rfl) ?_
      rw [← hw5, hz4]
      have hx : (#[] ++ #[Value.pointer (some ⟨bm, 0, none⟩), .pointer (some ⟨bp, 0, none⟩), .pointer (some ⟨bm + 1, 0, none⟩)] : Array Value) = #[ptr bm, ptr bp, ptr (bm + 1)] := rfl
      rw [hx]
      have hi5 := hi4.frame (hf45 (M := fun _ => False)) (by simp) (by simp)
      refine closure_ok (hg5 hm4) (hg5 hp4) (hg5 hs4) (by omega) (hbig (by omega)) hi5 (hnG (by omega)) hN (fun hpan w6 hf6 hs6 hi6 => ?_) (fun hpan str => ?_)
      · have hn6 := hf6.get hnew5 (by omega)
        refine ⟨hn6, ?_⟩
        have := rest w6 (((hfl4 (M := fun q => q = bi ∨ q = bm + 1 ∨ q = bm + 2)).trans (hf45 (M := fun _ => False)) fun _ h _ => h.elim).trans hf6 fun q h _ => by rcases h with h | h <;> simp [h]) hs6 hi6 (hf6.get (hg5 hp4) (by omega)) (by have := hf6.size; omega)
        rw [hpan] at this
        exact this
      · refine ⟨9, _, rfl, hnew5, ?_⟩
        have hmv := mv_pan hpan
        have := rest (w5.upd (bm + 2) (.cells #[.bool true] 4 (0, 0))) (((hfl4 (M := fun q => q = bi ∨ q = bm + 1 ∨ q = bm + 2)).trans (hf45 (M := fun _ => False)) fun _ h _ => h.elim).trans (Frm.upd (M := fun q => q = bm + 2) _ _ fun _ => rfl) fun q h _ => .inr (.inr h))
          (by rw [heap_upd_ne (by omega), hmv.2.1, hmv.2.2]; exact hg5 hs4) (by rw [hmv.1]; exact hi5.frame (Frm.upd (M := fun q => q = bm + 2) _ _ fun _ => rfl) (fun q hq e => hbig (by omega) hq) (by omega)) (by rw [heap_upd_ne (by omega)]; exact hg5 hp4) (by simp; omega)
        rw [hpan] at this
        exact this
    refine key _ fun w6 hf6 hs6 hi6 hp6 hz6 => ?_
    clear key
    have hu6 := fun o => heap_upd_same (o := o) hs6
    simp only [ptr] at hp6
    have hp6' := fun o => (heap_upd_ne (w := w6) (b := bm + 1) (b' := bp) (o := o) (by omega)).trans hp6
    simp [-getElem?_pos, -Array.getElem?_eq_getElem, List.getElem?_cons_zero, add_spot, hs6, hu6, and_assoc, hp6', upd_upd]
    have hbi1 : bi ≠ bm + 1 := by omega
    have hfu : ∀ o, Frm (fun q => q = bm + 1) w6 (w6.upd (bm + 1) o) := fun o => Frm.upd _ _ fun _ => rfl
    refine done_ok (hi6.frame (hfu _) (fun q hq e => hbig (by omega) hq) (fun e => hbi1 e)) ?_
    have hu6d := fun o => heap_upd_same (w := w6.drew) (o := o) hs6
    simp [-getElem?_pos, -Array.getElem?_eq_getElem, List.getElem?_cons_zero, add_spot, hu6d, and_assoc, upd_upd]
    have hex : ∀ a b c d : Value, #[a, b, c, d].extract 0 4 = #[a, b, c, d] := fun _ _ _ _ => rfl
    have hset : ∀ a b c d x : Value, #[a, b, c, d].setIfInBounds 3 x = #[a, b, c, x] := fun _ _ _ _ _ => rfl
    have hset2 : ∀ a b c d x : Value, #[a, b, c, d].setIfInBounds 2 x = #[a, b, x, d] := fun _ _ _ _ _ => rfl
    simp only [hex, hset, hset2, op_lit_45_1]
    generalize hsn : (⟨(mv ys st.1 s).2.1, (mv ys st.1 s).2.2.1, (mv ys st.1 s).2.2.2, isDone ys (mv ys st.1 s).1⟩ : Sn) = sn
    have hsc : #[Value.int .i64 (mv ys st.1 s).2.1, .int .i64 (mv ys st.1 s).2.2.1, .bool (mv ys st.1 s).2.2.2, .bool (isDone ys (mv ys st.1 s).1)] = sn.cells.toArray := by rw [← hsn]; rfl
    rw [hsc]
    obtain ⟨w7, hw7⟩ : ∃ w7, w7 = (w6.drew.upd (bm + 1) (.cells sn.cells.toArray 49)).alloc (.cells sn.cells.toArray 49) := ⟨_, rfl⟩
    rw [← hw7, size_upd, heap_drew]
    have hf67 : Frm (fun q => q = bm + 1) w6 w7 := by
      rw [hw7]
      exact ((Frm.drew _).trans (Frm.upd (M := fun q => q = bm + 1) _ _ fun _ => rfl) fun _ h _ => h).trans (Frm.alloc (M := fun _ => False) _ _) fun _ h _ => h.elim
    have hf7 : Frm (fun q => q = bi ∨ q = bm + 1 ∨ q = bm + 2) wl w7 := hf6.trans hf67 fun q h _ => .inr (.inl h)
    have hz7 : w7.heap.size = w6.heap.size + 1 := by rw [hw7]; simp
    have hob := own_lt hown
    have hol : ∀ q, l.ownBlock = some q → ¬ (q = bi ∨ q = bm + 1 ∨ q = bm + 2) := fun q hq => by have := hob q hq; omega
    have hr7 : Row w7 (some ⟨w6.heap.size, 0, none⟩) sn.cells := .inr ⟨_, _, _, _, _, rfl, by rw [hw7]; exact hp_alloc_eq (by simp), fun j v hj => by simpa using hj⟩
    have hstl : st.2.length = j := by rw [← hst, walk_len]; simp; omega
    refine op_append (base := bp + 1) (size := 4) (n := j) (m := 1) (xs := st.2.flatMap Sn.cells) (news := sn.cells) ap45 (own_frame hown hf7 hol) hr7 rfl (by rw [← hsn]; intro u hu; simp [Sn.cells] at hu; rcases hu with rfl | rfl | rfl | rfl <;> rfl) (by simp) (by omega) (by omega) fun l4 w8 hl4 hf8 hbl4 => ?_
    have hi8 : It false w8 bi b ys (xs.length + cost steps) G (mv ys st.1 s).1 := by
      refine (hi6.frame hf67 (fun q hq e => hbig (by omega) hq) (fun e => hbi1 e)).frame hf8 (fun q hq e => ?_) fun e => ?_
      · have := hob q e.symm; exact hnG (by omega) hq
      · have := hob bi e.symm; omega
    have hp8 : w8.heap[bp]? = some (.cells #[ptr bi] 69 (0, 0)) := hf8.get (hf67.get hp6 (by omega)) fun e => by have := hob bp e.symm; omega
    rw [wrap_small _ rfl (by omega) (by omega)]
    refine ⟨(hI _ _ _).2 ⟨j + 1, rfl, by omega, fun {M} => ?_, ?_, ?_, hp8, by have := hf8.size; omega⟩, ?_⟩
    · refine ((hfr (M := M)).trans hf7 fun q hq hlt => ?_).trans hf8 fun q hq hlt => ?_
      · have h3s := (hf3 (M := fun _ => False)).size
        rcases hq with h | h | h
        · rw [hbi] at h; omega
        · omega
        · omega
      · have := hob q hq.symm
        have h3s := (hf3 (M := fun _ => False)).size
        omega
    · rw [hadv]
      simp only [mvs, hsn, List.flatMap_append, List.flatMap_singleton]
      exact hl4
    · rw [hadv]; exact hi8
    · have e : (j : Int) + 1 = ((j + 1 : Nat) : Int) := rfl
      rw [e, hμ, hμ]; omega
  · have : j = moves.length := by omega
    subst this
    rw [List.take_length] at hown
    exact hK _ _ hfr (own_base hown (by have h3s := (hf3 (M := fun _ => False)).size; omega))
end Go.Proofs.Ytjlaclgikmmmlaa
