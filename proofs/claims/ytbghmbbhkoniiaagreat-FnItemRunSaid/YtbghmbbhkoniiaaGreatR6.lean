import Derived.Test.YtbghmbbhkoniiaaGreatR5
import Derived.Test.YtbghmbbhkoniiaaGreatR3
import Derived.Test.YtbghmbbhkoniiaaGreatR4
import Derived.Test.YtbghmbbhkoniiaaGreatR0
set_option linter.unusedSimpArgs false
set_option linter.unusedVariables false
set_option linter.unusedSectionVars false
set_option maxRecDepth 100000
set_option maxHeartbeats 4000000
section
/- Iterators: on to the next pair. -/
namespace Go.Proofs.YtbghmbbhkoniiaaGreat.S
open Go.Vc Go.Proofs Go.Proofs.YtbghmbbhkoniiaaGreat Go.Vc.Nd
variable {w w' : World} {F : Nat → Prop} {K : Value → World → Prop} {Kp : KP} {hash : Ky → Nat} {k : Ky} {s : Nat}

def Up (w : World) (ib mb : Nat) (F : Nat → Prop) (hash : Ky → Nat) (cs : Array Value) (fs : List Fr) : Prop :=
  w.heap[ib]? = some (.cells cs 126 (0, 0)) ∧ cs.size = 66 ∧ cs[0]? = some (ptr mb) ∧ cs[65]? = some (.int .i64 ((fs.length : Int) - 1)) ∧ Stk w F hash cs fs
theorem Up.low {ib mb : Nat} {cs : Array Value} {fs : List Fr} {r : Fr} (h : Up w ib mb F hash cs (r :: fs)) : Low w ib mb F hash cs fs r.s r.v := by
  obtain ⟨h1, h2, h3, h4, h5⟩ := h
  exact ⟨h1, h2, h3, by rw [h4]; simp, h5.1, h5.2.2.2.1, h5.2.2.2.2⟩
theorem next_ok {ib mb : Nat} {cs : Array Value} {fs : List Fr} (h : Up w ib mb F hash cs fs) (hF : ¬ F ib)
    (hK : ∀ w', Frm (· = ib) w w' → w'.heap.size = w.heap.size → At w' ib mb F hash (left fs) → K (.tuple #[]) w') : Calls Tryz.prog 57 #[ptr ib] w (ret K Kp) := by
  refine vc57_calls ?_
  simp only [vc57]
  obtain ⟨I, hI⟩ : ∃ I : World → Prop, ∀ wl, I wl ↔ ∃ cs, ∃ fs' : List Fr, Frm (· = ib) w wl ∧ wl.heap.size = w.heap.size ∧ Up wl ib mb F hash cs fs' ∧ left fs' = left fs := ⟨_, fun _ => Iff.rfl⟩
  refine Lp.intro I (fun wl => depthOf wl ib) ⟨(hI _).2 ⟨cs, fs, Frm.refl, rfl, h, rfl⟩, ?_⟩
  intro wl _ hl
  obtain ⟨cs, fs', hf, hz, hup, hL⟩ := (hI _).1 hl
  clear hl h
  have ⟨h1, h2, h3, h4, h5⟩ := hup
  have hdep := depthOf_eq h1 h4
  have hM : ∀ c, F c → ¬ c = ib := fun c hc e => hF (e ▸ hc)
  cases fs' with
  | nil =>
    simp [-getElem?_pos, -Array.getElem?_eq_getElem, -Int.natCast_add, add_spot, and_assoc, Br_dec, -op_box, -op_st_3, -op_st_119, ptr, h1, h4]
    exact hK wl hf hz ⟨cs, [], h1, h2, h3, h4, trivial, by rw [← hL]; rfl⟩
  | cons r fs' =>
  have hlow := hup.low
  have ⟨_, _, _, h4', h5', h6, h7⟩ := hlow
  have d7 := h6.1
  have hi0 := h5.2.1
  have hrok := h5.2.2.1
  have wr1 : IntKind.i64.wrap ((fs'.length : Int) + 1) = ((fs'.length + 1 : Nat) : Int) := by rw [IntKind.wrap_i64]; omega
  have wr2 : IntKind.i64.wrap ((fs'.length : Int) - 1) = (fs'.length : Int) - 1 := by rw [IntKind.wrap_i64]; omega
  have tn1 : ((fs'.length : Int) + 1).toNat = fs'.length + 1 := by omega
  have r7 : (fs'.length : Int) < 32 := by omega
  have rnn : (0 : Int) ≤ (fs'.length : Int) := by omega
  simp [-getElem?_pos, -Array.getElem?_eq_getElem, -Int.natCast_add, add_spot, and_assoc, Br_dec, -op_box, -op_st_3, -op_st_119, ptr, h1, h4', rnn]
  obtain ⟨J, hJ⟩ : ∃ J : World → Prop, ∀ wz, J wz ↔ Frm (fun _ => False) wl wz ∧ wz.heap.size = wl.heap.size ∧ rest r.s r.i = [] := ⟨_, fun _ => Iff.rfl⟩
  refine Jn.intro J ⟨r7, ?_, ?_⟩
  rotate_left
  · intro wz hj
    obtain ⟨kz, zz, hr⟩ := (hJ _).1 hj
    have h1z := kz.get h1 (fun h => h)
    simp [-getElem?_pos, -Array.getElem?_eq_getElem, -Int.natCast_add, add_spot, and_assoc, Br_dec, -op_box, -op_st_3, -op_st_119, h1z, h4', wr2]
    refine op_store_ok (by kernel_rfl) h1z (by rw [h2]; omega) rfl fun w3 k3 z3 b3 => ?_
    have h43 : (cs.setIfInBounds 65 (Value.int .i64 ((fs'.length : Int) - 1)))[65]? = some (.int .i64 ((fs'.length : Int) - 1)) := by rw [set_at (by omega), if_pos rfl]
    refine ⟨(hI _).2 ⟨_, fs', hf.trans (kz.fst k3) fun _ h _ => h, by rw [z3, zz]; exact hz, ⟨b3, by simp [h2], ?_, h43, ?_⟩, ?_⟩, ?_⟩
    · rw [set_at (by omega), if_neg (by omega)]; exact h3
    · exact Stk.cells (h7.frame (kz.fst k3) hM) fun j hj => by rw [set_at (by omega), if_neg (by omega)]
    · rw [← hL, left_cons, hr, List.nil_append]
    · rw [hdep, depthOf_eq b3 h43]
      simp only [List.length_cons]; omega
  obtain ⟨rs, rv, ri⟩ := r
  simp only at hlow h5' h6 hi0 hrok
  have hent : ∀ {es : List (Ky × Vl)} {n : Nat}, (∀ hs f, rs ≠ .br hs f) → toL rs = es → n = es.length → ri < es.length → n ≤ 9223372036854775807 → 
      (IntKind.i64.wrap ((n : Int) - 1) = (n : Int) - 1) ∧ IntKind.i64.wrap ((ri : Int) + 1) = ((ri + 1 : Nat) : Int) := fun {es n} _ _ hn hr hn2 => by
    constructor <;> rw [IntKind.wrap_i64] <;> omega
  have hstep : ∀ {w3 : World} {es : List (Ky × Vl)}, (∀ hs f, rs ≠ .br hs f) → toL rs = es → ri + 1 < es.length → Frm (· = ib) wl w3 → w3.heap.size = wl.heap.size →
      w3.heap[ib]? = some (.cells (cs.setIfInBounds (1 + fs'.length * 2 + 1) (.int .i64 ((ri + 1 : Nat) : Int))) 126 (0, 0)) → K (.tuple #[]) w3 := fun {w3 es} hbr hes hlt k3 z3 b3 => by
    have := hlow.leaf (e := es[ri + 1]) hF k3 hbr (by rw [hes]; simp [hlt]) b3
    refine hK w3 (hf.trans k3 fun _ h _ => h) (by rw [z3]; exact hz) ?_
    rw [← hL, left_cons]
    have hr : rest rs ri = (toL rs).drop (ri + 1) := by cases rs <;> first | rfl | exact absurd rfl (hbr _ _)
    show At w3 ib mb F hash (rest rs ri ++ left fs')
    rw [hr]; exact this
  cases rs with
  | emp => exact absurd rfl h6.2.2.1
  | arr es =>
    obtain ⟨_, hw, _, F0, ⟨b, g, cap, rfl, g1, g2, g3, g4, g5, g6⟩, gF⟩ := h6
    have hri : ri < es.length := hrok
    have hcap := g6.cap_le g5
    obtain ⟨e1, e2⟩ := hent (es := es) (n := es.length) (fun _ _ h => nomatch h) rfl rfl hri hcap
    have hidx : (Fr.mk (.arr es) (.iface 128 (ptr b)) ri).idx = ri := rfl
    rw [hidx] at hi0
    simp [-getElem?_pos, -Array.getElem?_eq_getElem, -Int.natCast_add, add_spot, and_assoc, Br_dec, -op_box, -op_st_3, -op_st_119, ptr, h1, h4', h5', r7, hi0, g4, e1, e2]
    refine ⟨fun hlt => ?_, fun hge => (hJ _).2 ⟨(Frm.drew _).no (Frm.drew _), rfl, ?_⟩⟩
    · refine op_store_ok (by kernel_rfl) h1 (by rw [h2]; omega) rfl fun w3 k3 z3 b3 => ?_
      exact hstep (es := es) (fun _ _ h => nomatch h) rfl (by omega) (Frm.dr (Frm.dr k3)) z3 b3
    · show es.drop (ri + 1) = []
      rw [List.drop_eq_nil_iff]; omega
  | val h' k' x' =>
    obtain ⟨_, hw, _, F0, ⟨b, rfl, g1, g2⟩, gF⟩ := h6
    simp [-getElem?_pos, -Array.getElem?_eq_getElem, -Int.natCast_add, add_spot, and_assoc, Br_dec, -op_box, -op_st_3, -op_st_119, ptr, h1, h4', h5', r7, hi0]
    refine (hJ _).2 ⟨Frm.drew _, rfl, ?_⟩
    show [(k', x')].drop (ri + 1) = []
    simp
  | col h' es =>
    obtain ⟨_, hw, _, F0, ⟨b, g, cap, rfl, g1, g2, g3, g4, g5, g6⟩, gF⟩ := h6
    have hri : ri < es.length := hrok
    have hcap := g6.cap_le g5
    obtain ⟨e1, e2⟩ := hent (es := es) (n := es.length) (fun _ _ h => nomatch h) rfl rfl hri hcap
    have hidx : (Fr.mk (.col h' es) (.iface 138 (ptr b)) ri).idx = ri := rfl
    rw [hidx] at hi0
    simp [-getElem?_pos, -Array.getElem?_eq_getElem, -Int.natCast_add, add_spot, and_assoc, Br_dec, -op_box, -op_st_3, -op_st_119, ptr, h1, h4', h5', r7, hi0, g4, e1, e2]
    refine ⟨fun hlt => ?_, fun hge => (hJ _).2 ⟨(Frm.drew _).no (Frm.drew _), rfl, ?_⟩⟩
    · refine op_store_ok (by kernel_rfl) h1 (by rw [h2]; omega) rfl fun w3 k3 z3 b3 => ?_
      exact hstep (es := es) (fun _ _ h => nomatch h) rfl (by omega) (Frm.dr (Frm.dr k3)) z3 b3
    · show es.drop (ri + 1) = []
      rw [List.drop_eq_nil_iff]; omega
  | br hs f =>
    obtain ⟨hri, hfi⟩ : ri < 32 ∧ f ri ≠ .emp := hrok
    have hgo : ∀ {w3 : World} {cs3 : Array Value} {j : Nat} {u : Value}, ri < j → j < 32 → f j ≠ .emp → (∀ k, ri < k → k < j → f k = .emp) → Frm (· = ib) wl w3 → w3.heap.size = wl.heap.size → Low w3 ib mb F hash cs3 (⟨.br hs f, rv, j⟩ :: fs') (f j) u → Calls Tryz.prog 56 #[ptr ib] w3 (ret (fun _ w => K (.tuple #[]) w) Kp) := fun {w3 cs3 j u} h1 h2 h3 h4 k3 z3 hl => by
      refine first_ok hl hF fun w4 k4 z4 hat => hK w4 (hf.trans (k3.trans k4 fun _ h _ => h) fun _ h _ => h) (by rw [z4, z3]; exact hz) ?_
      rw [← hL, left_cons]
      show At w4 ib mb F hash (rest (.br hs f) ri ++ left fs')
      rw [rest_at h1 h2 h4, List.append_assoc]
      rw [left_cons] at hat
      exact hat
    cases hs with
    | false =>
      obtain ⟨b, g, cap, vs, rfl, fb, fg, hb, hc, hrw, d6, hex, hsub⟩ := h6.bm
      have hidx : (Fr.mk (.br false f) (.iface 166 (ptr b)) ri).idx = rk f ri := rfl
      rw [hidx] at hi0
      have hc32 : cnt f ≤ 32 := cnt_le
      have hrk : rk f ri < cnt f := by rw [cnt_rk]; exact rk_lt hri hfi
      have e1 : IntKind.i64.wrap ((cnt f : Int) - 1) = (cnt f : Int) - 1 := by rw [IntKind.wrap_i64]; omega
      have e2 : IntKind.i64.wrap ((rk f ri : Int) + 1) = ((rk f ri + 1 : Nat) : Int) := by rw [IntKind.wrap_i64]; omega
      simp [-getElem?_pos, -Array.getElem?_eq_getElem, -Int.natCast_add, add_spot, and_assoc, Br_dec, -op_box, -op_st_3, -op_st_119, ptr, h1, h4', h5', r7, hi0, hb, e1, e2]
      rcases rk_last hri hfi with ⟨j, j1, j2, j3, j4, j5, j6⟩ | ⟨j1, j2⟩
      · refine ⟨fun hlt => ?_, fun hge => by omega⟩
        have hk0 := kids_get (vs := vs) j2 j3
        rw [j5] at hk0
        refine op_store_ok (by kernel_rfl) h1 (by rw [h2]; omega) rfl fun w3 k3 z3 b3 => ?_
        have k3 := Frm.dr (Frm.dr k3)
        obtain ⟨cur, c1, c2, c3⟩ := (hrw.frame k3 (hM _ fg)).cells
        have hcur : cur[rk f ri + 1]? = some (vs j) := by rw [c3 _ (by rw [kids_len]; exact j6)]; exact hk0
        have hb3 := k3.get hb (hM _ fb)
        have h43 : (cs.setIfInBounds (1 + fs'.length * 2 + 1) (Value.int .i64 ((rk f ri + 1 : Nat) : Int)))[65]? = some (.int .i64 (fs'.length : Int)) := by rw [set_at (by omega), if_neg (by omega)]; exact h4'
        have h53 : (cs.setIfInBounds (1 + fs'.length * 2 + 1) (Value.int .i64 ((rk f ri + 1 : Nat) : Int)))[1 + fs'.length * 2 + 1]? = some (.int .i64 ((rk f ri + 1 : Nat) : Int)) := by rw [set_at (by omega), if_pos rfl]
        simp [-getElem?_pos, -Array.getElem?_eq_getElem, -Int.natCast_add, add_spot, and_assoc, Br_dec, -op_box, -op_st_3, -op_st_119, b3, h43, h53, hb3, c1, hcur, wr1, tn1]
        refine ⟨by omega, by omega, ?_⟩
        refine op_store_ok (by kernel_rfl) b3 (by simp; omega) ?_ fun w4 k4 z4 b4 => ?_
        · obtain ⟨_, _, _, F1, hr, _⟩ := hsub j j2 j3
          exact hr.one
        have k4 := Frm.dr k4
        have h44 : ((cs.setIfInBounds (1 + fs'.length * 2 + 1) (Value.int .i64 ((rk f ri + 1 : Nat) : Int))).setIfInBounds (1 + (fs'.length + 1) * 2) (vs j))[65]? = some (.int .i64 (fs'.length : Int)) := by rw [set_at (by simp; omega), if_neg (by omega)]; exact h43
        simp [-getElem?_pos, -Array.getElem?_eq_getElem, -Int.natCast_add, add_spot, and_assoc, Br_dec, -op_box, -op_st_3, -op_st_119, b4, h44, wr1]
        refine op_store_ok (by kernel_rfl) b4 (by simp; omega) rfl fun w5 k5 z5 b5 => ?_
        have k345 : Frm (· = ib) wl w5 := (k3.trans k4 fun _ h _ => h).trans k5 fun _ h _ => h
        have hlow' := hlow.down (d6 := d6) hF k345 j2 j3 (hsub j j2 j3) (by simpa [Fr.idx, j5] using b5)
        exact hgo j1 j2 j3 j4 k345 (by simp only [heap_drew] at z3 z4 z5; omega) hlow'
      · refine ⟨fun hlt => by omega, fun hge => (hJ _).2 ⟨(Frm.drew _).no (Frm.drew _), rfl, rest_end j1⟩⟩
    | true =>
      obtain ⟨b, cs', vs, rfl, fb, hb, hcs, hvs, hemp, hif, d6, hex, hsub⟩ := h6.ha
      have hidx : (Fr.mk (.br true f) (.iface 170 (ptr b)) ri).idx = ri := rfl
      rw [hidx] at hi0
      have e2 : IntKind.i64.wrap ((ri : Int) + 1) = ((ri + 1 : Nat) : Int) := by rw [IntKind.wrap_i64]; omega
      simp [-getElem?_pos, -Array.getElem?_eq_getElem, -Int.natCast_add, add_spot, and_assoc, Br_dec, -op_box, -op_st_3, -op_st_119, ptr, h1, h4', h5', r7, hi0, hb, e2]
      obtain ⟨I2, hI2⟩ : ∃ I2 : Value → World → Prop, ∀ s wz, I2 s wz ↔ ∃ j : Nat, s = Value.int .i64 j ∧ ri < j ∧ j ≤ 32 ∧ (∀ k, ri < k → k < j → f k = .emp) ∧ Frm (fun _ => False) wl wz ∧ wz.heap.size = wl.heap.size := ⟨_, fun _ _ => Iff.rfl⟩
      refine Lp.intro I2 (fun s _ => 32 - natOf s) ⟨(hI2 _ _).2 ⟨ri + 1, rfl, by omega, by omega, fun k hk hk' => by omega, Frm.drew _, rfl⟩, ?_⟩
      intro wz sz hsz
      obtain ⟨j, rfl, hj1, hj2, hj3, kz, hzz⟩ := (hI2 _ _).1 hsz
      have hbz := kz.get hb (fun h => h)
      have h1z := kz.get h1 (fun h => h)
      by_cases hj32 : j < 32
      · have hvj := hvs j hj32
        have hj32' : (j : Int) < 32 := by omega
        by_cases hfj : f j = .emp
        · have he := (hemp j hj32).1 hfj
          rw [he] at hvj
          simp [-getElem?_pos, -Array.getElem?_eq_getElem, -Int.natCast_add, add_spot, and_assoc, Br_dec, -op_box, -op_st_3, -op_st_119, hj32', hbz, hvj]
          rw [wrap_i64_small (by omega) (by omega)]
          refine ⟨(hI2 _ _).2 ⟨j + 1, by simp, by omega, by omega, fun k hk hk' => ?_, kz, hzz⟩, ?_⟩
          · by_cases e : k = j
            · rw [e]; exact hfj
            · exact hj3 k hk (by omega)
          · simp only [natOf]; omega
        · obtain ⟨uu, bb, huu⟩ := hif j hj32 hfj
          rw [huu] at hvj
          simp [-getElem?_pos, -Array.getElem?_eq_getElem, -Int.natCast_add, add_spot, and_assoc, Br_dec, -op_box, -op_st_3, -op_st_119, hj32', hbz, hvj]
          refine op_store_ok (by kernel_rfl) h1z (by rw [h2]; omega) rfl fun w3 k3 z3 b3 => ?_
          have h43 : (cs.setIfInBounds (1 + fs'.length * 2 + 1) (Value.int .i64 (j : Int)))[65]? = some (.int .i64 (fs'.length : Int)) := by rw [set_at (by omega), if_neg (by omega)]; exact h4'
          have h53 : (cs.setIfInBounds (1 + fs'.length * 2 + 1) (Value.int .i64 (j : Int)))[1 + fs'.length * 2 + 1]? = some (.int .i64 (j : Int)) := by rw [set_at (by omega), if_pos rfl]
          have hb3 := k3.get hbz (hM _ fb)
          simp [-getElem?_pos, -Array.getElem?_eq_getElem, -Int.natCast_add, add_spot, and_assoc, Br_dec, -op_box, -op_st_3, -op_st_119, b3, h43, h53, hb3, hvj, wr1, tn1]
          refine ⟨by omega, by omega, ?_⟩
          refine op_store_ok (by kernel_rfl) b3 (by simp; omega) rfl fun w4 k4 z4 b4 => ?_
          have k4 := Frm.dr k4
          have h44 : ((cs.setIfInBounds (1 + fs'.length * 2 + 1) (Value.int .i64 (j : Int))).setIfInBounds (1 + (fs'.length + 1) * 2) (.iface uu (ptr bb)))[65]? = some (.int .i64 (fs'.length : Int)) := by rw [set_at (by simp; omega), if_neg (by omega)]; exact h43
          simp [-getElem?_pos, -Array.getElem?_eq_getElem, -Int.natCast_add, add_spot, and_assoc, Br_dec, -op_box, -op_st_3, -op_st_119, b4, h44, wr1]
          refine op_store_ok (by kernel_rfl) b4 (by simp; omega) rfl fun w5 k5 z5 b5 => ?_
          have k345 : Frm (· = ib) wl w5 := ((kz.fst k3).trans k4 fun _ h _ => h).trans k5 fun _ h _ => h
          have hlow' := hlow.down (d6 := d6) hF k345 hj32 hfj (hsub j hj32 hfj) (by simpa [Fr.idx, huu] using b5)
          exact hgo hj1 hj32 hfj hj3 k345 (by simp only [heap_drew] at z3 z4 z5; omega) hlow'
      · have hj32' : ¬ (j : Int) < 32 := by omega
        simp [-getElem?_pos, -Array.getElem?_eq_getElem, -Int.natCast_add, add_spot, and_assoc, Br_dec, -op_box, -op_st_3, -op_st_119, hj32']
        exact (hJ _).2 ⟨kz, hzz, rest_end fun k hk hk' => hj3 k hk (by omega)⟩
end Go.Proofs.YtbghmbbhkoniiaaGreat.S
end
section
/- Iterators: Done, Next, First, and a map's Iterator. -/
namespace Go.Proofs.YtbghmbbhkoniiaaGreat.S
open Go.Vc Go.Proofs Go.Proofs.YtbghmbbhkoniiaaGreat Go.Vc.Nd
variable {w w' : World} {v : Value} {t : Tr} {F : Nat → Prop} {K : Value → World → Prop} {Kp : KP} {hash : Ky → Nat} {s : Nat}

theorem At.depth {ib mb : Nat} {L : List (Ky × Vl)} (h : At w ib mb F hash L) : ∃ cs, ∃ fs : List Fr, Up w ib mb F hash cs fs ∧ (L = [] ↔ fs = []) ∧ L.tail = left fs ∧ match fs with
    | [] => True
    | r :: _ => (∀ hs f, r.s ≠ .br hs f) ∧ ∃ e, (toL r.s)[r.i]? = some e ∧ L = e :: left fs := by
  obtain ⟨cs, fs, h1, h2, h3, h4, h5, h6⟩ := h
  refine ⟨cs, fs, ⟨h1, h2, h3, h4, h5⟩, ?_⟩
  cases fs with
  | nil => subst h6; exact ⟨by simp, rfl, trivial⟩
  | cons r fs =>
    obtain ⟨a, e, b, c⟩ := h6
    exact ⟨by simp [c], by rw [c]; rfl, a, e, b, c⟩
theorem done_ok {ib mb : Nat} {L : List (Ky × Vl)} (h : At w ib mb F hash L) (hK : K (.bool (decide (L = []))) w) : Calls Tryz.prog 42 #[ptr ib] w (ret K Kp) := by
  obtain ⟨cs, fs, ⟨h1, h2, h3, h4, h5⟩, h6, h7, _⟩ := h.depth
  refine vc42_calls ?_
  have e : decide ((fs.length : Int) - 1 = -1) = decide (L = []) := by
    cases fs with
    | nil => have := h6.2 rfl; subst this; rfl
    | cons r fs =>
      have hL : L ≠ [] := fun h => by have := h6.1 h; cases this
      simp only [List.length_cons]
      rw [decide_eq_false (by omega), decide_eq_false hL]
  simp [-getElem?_pos, -Array.getElem?_eq_getElem, -Int.natCast_add, add_spot, and_assoc, Br_dec, -op_box, -op_st_3, -op_st_119, -op_st_123, vc42, ptr, h1, h4]
  rw [← e] at hK
  simpa using hK
def zk : Ky := 0
def nextV (L : List (Ky × Vl)) : Value := match L with
  | [] => .tuple #[ek zk, zv, .bool false]
  | e :: _ => .tuple #[ek e.1, ev e.2, .bool true]
theorem entry_at {g cap : Nat} {es : List (Ky × Vl)} {i : Nat} {e : Ky × Vl} (h : Rw w 131 1 g cap (ents es)) (he : es[i]? = some e) : ∃ cur, w.heap[g]? = some (.cells cur 131 (0, 0)) ∧ cur[i * 1]? = some (ek e.1)
    := by
  obtain ⟨cur, h1, h2⟩ := key_cell h
  obtain ⟨hi, rfl⟩ := List.getElem?_eq_some_iff.1 he
  exact ⟨cur, h1, (h2 i hi).1⟩
theorem Next_ok {ib mb : Nat} {L : List (Ky × Vl)} (h : At w ib mb F hash L) (hF : ¬ F ib)
    (hK : ∀ w', Frm (· = ib) w w' → w.heap.size ≤ w'.heap.size → At w' ib mb F hash L.tail → K (nextV L) w') : Calls Tryz.prog 43 #[ptr ib] w (ret K Kp) := by
  refine vc43_calls ?_
  simp only [vc43, call_42]
  refine op_alloc_ok (z := .agg #[]) (by kernel_rfl) fun w k0 z0 b0 => ?_
  replace h := h.frame k0 (fun _ _ h => h) (fun h => h)
  replace hK := fun w' (kf : Frm (· = ib) w w') (hz : w'.heap.size = w.heap.size) ha => hK w' (k0.fst kf) (by omega) ha
  obtain ⟨cs, fs, hup, h6, h7, h8⟩ := h.depth
  have ⟨h1, h2, h3, h4, h5⟩ := hup
  refine done_ok h ?_
  simp only [Br_dec]
  refine ⟨fun e => ?_, fun hnn => ?_⟩
  · subst e
    simp [-getElem?_pos, -Array.getElem?_eq_getElem, -Int.natCast_add, add_spot, and_assoc, Br_dec, -op_box, -op_st_3, -op_st_119, -op_st_123]
    exact hK w.drew (Frm.drew _) rfl (h.frame (Frm.drew _) (fun _ _ h => h) (fun h => h))
  cases fs with
  | nil => exact absurd (h6.2 rfl) hnn
  | cons r fs =>
  have hlow := hup.low
  have ⟨_, _, _, h4', h5', hsub, hst⟩ := hlow
  have d7 := hsub.1
  have r7 : (fs.length : Int) < 32 := by omega
  have hi0 := h5.2.1
  obtain ⟨hbr, e, he, hL⟩ := h8
  subst hL
  have hfin : ∀ {wz : World}, Frm (fun _ => False) w wz → wz.heap.size = w.heap.size → Calls Tryz.prog 57 #[ptr ib] wz (ret (fun _ w => K (.tuple #[ek e.1, ev e.2, .bool true]) w.drew) Kp) := fun {wz} kz zz => by
    have hM : ∀ c, F c → ¬ False := fun _ _ h => h
    refine next_ok (cs := cs) (fs := r :: fs) ⟨kz.get h1 (fun h => h), h2, h3, h4, h5.frame kz hM⟩ hF fun w' k' z' hat => hK w'.drew ((kz.fst k').old (Frm.drew (M := (· = ib)) w') fun _ h => .inl h) (by show w'.heap.size = _; rw [z', zz]) ?_
    exact At.frame hat (Frm.drew w') (fun _ _ h => h) (fun h => h)
  obtain ⟨rs, rv, ri⟩ := r
  simp only at hsub hi0 hbr he h5'
  cases rs with
  | emp => exact absurd rfl hsub.2.2.1
  | br hs f => exact absurd rfl (hbr _ _)
  | arr es =>
    obtain ⟨_, hw, _, F0, ⟨b, g, cap, rfl, g1, g2, g3, g4, g5, g6⟩, gF⟩ := hsub
    have hri : ri < es.length := (List.getElem?_eq_some_iff.1 he).1
    have hidx : (Fr.mk (.arr es) (.iface 128 (ptr b)) ri).idx = ri := rfl
    rw [hidx] at hi0
    obtain ⟨cur, c1, c2⟩ := entry_at g6 he
    rw [Nat.mul_one] at c2
    simp [-getElem?_pos, -Array.getElem?_eq_getElem, -Int.natCast_add, add_spot, and_assoc, Br_dec, -op_box, -op_st_3, -op_st_119, -op_st_123, ptr, h1, h4', h5', r7, hi0, g4, c1, c2, call_57]
    refine ⟨hri, ld_fa0_ok (ent_val (w := w.drew.drew.drew) c1) ?_⟩
    simp [-getElem?_pos, -Array.getElem?_eq_getElem, -Int.natCast_add, add_spot, and_assoc, Br_dec, -op_box, -op_st_3, -op_st_119, -op_st_123]
    refine ⟨same_fa0_ok (ent_val (w := w.drew.drew.drew) c1), ?_⟩
    exact hfin (((Frm.drew _).no (Frm.drew _)).no (Frm.drew _)) rfl
  | val h' k' x' =>
    obtain ⟨_, hw, _, F0, ⟨b, rfl, g1, g2⟩, gF⟩ := hsub
    have hri : ri = 0 := by have := (List.getElem?_eq_some_iff.1 he).1; simpa [toL] using this
    subst hri
    obtain rfl : (k', x') = e := by simpa [toL] using he
    simp [-getElem?_pos, -Array.getElem?_eq_getElem, -Int.natCast_add, add_spot, and_assoc, Br_dec, -op_box, -op_st_3, -op_st_119, -op_st_123, ptr, h1, h4', h5', r7, hi0, g2, call_57]
    refine ld_fa0_ok (val_val (w := w.drew.drew) g2) ?_
    simp [-getElem?_pos, -Array.getElem?_eq_getElem, -Int.natCast_add, add_spot, and_assoc, Br_dec, -op_box, -op_st_3, -op_st_119, -op_st_123]
    refine ⟨same_fa0_ok (val_val (w := w.drew.drew) g2), ?_⟩
    exact hfin ((Frm.drew _).no (Frm.drew _)) rfl
  | col h' es =>
    obtain ⟨_, hw, _, F0, ⟨b, g, cap, rfl, g1, g2, g3, g4, g5, g6⟩, gF⟩ := hsub
    have hri : ri < es.length := (List.getElem?_eq_some_iff.1 he).1
    have hidx : (Fr.mk (.col h' es) (.iface 138 (ptr b)) ri).idx = ri := rfl
    rw [hidx] at hi0
    obtain ⟨cur, c1, c2⟩ := entry_at g6 he
    rw [Nat.mul_one] at c2
    simp [-getElem?_pos, -Array.getElem?_eq_getElem, -Int.natCast_add, add_spot, and_assoc, Br_dec, -op_box, -op_st_3, -op_st_119, -op_st_123, ptr, h1, h4', h5', r7, hi0, g4, c1, c2, call_57]
    refine ⟨hri, ld_fa0_ok (ent_val (w := w.drew.drew.drew) c1) ?_⟩
    simp [-getElem?_pos, -Array.getElem?_eq_getElem, -Int.natCast_add, add_spot, and_assoc, Br_dec, -op_box, -op_st_3, -op_st_119, -op_st_123]
    refine ⟨same_fa0_ok (ent_val (w := w.drew.drew.drew) c1), ?_⟩
    exact hfin (((Frm.drew _).no (Frm.drew _)).no (Frm.drew _)) rfl

def Itr (w : World) (ib mb : Nat) : Prop := ∃ cs, w.heap[ib]? = some (.cells cs 126 (0, 0)) ∧ cs.size = 66 ∧ cs[0]? = some (ptr mb)
theorem At.itr {ib mb : Nat} {L : List (Ky × Vl)} (h : At w ib mb F hash L) : Itr w ib mb := by
  obtain ⟨cs, fs, h1, h2, h3, _⟩ := h; exact ⟨cs, h1, h2, h3⟩
theorem First_ok {ib mb : Nat} {h : Value} (hW : WFr hash t) (hm : IsMap w mb h t F) (hi : Itr w ib mb) (hF : ¬ F ib)
    (hK : ∀ w', Frm (· = ib) w w' → w'.heap.size = w.heap.size → At w' ib mb F hash (toL t) → K (.tuple #[]) w') : Calls Tryz.prog 41 #[ptr ib] w (ret K Kp) := by
  obtain ⟨r, F0, h1, h2, h3, h4⟩ := hm
  obtain ⟨cs, g1, g2, g3⟩ := hi
  have heq := fun {wz : World} {K : Value → World → Prop} {Kp : KP} => eq_nil h3 (wz := wz) (K := K) (Kp := Kp)
  have hM : ∀ c, F c → ¬ c = ib := fun c hc e => hF (e ▸ hc)
  refine vc41_calls ?_
  simp [-getElem?_pos, -Array.getElem?_eq_getElem, -Int.natCast_add, add_spot, and_assoc, Br_dec, -op_box, -op_st_3, -op_st_119, -op_st_123, vc41, ptr, g1, g3, h1, heq]
  refine ⟨fun e => ?_, fun e => ?_⟩
  · have := isEmp_iff.1 e
    subst this
    refine op_store_ok (by kernel_rfl) g1 (by rw [g2]; omega) rfl fun w3 k3 z3 b3 => hK w3 k3 z3 ⟨_, [], b3, by simp [g2], ?_, ?_, trivial, rfl⟩
    · rw [set_at (by omega), if_neg (by omega)]; exact g3
    · rw [set_at (by omega), if_pos rfl]; rfl
  · have hne : t ≠ .emp := fun h => by rw [h] at e; cases e
    have r1 := h3.one
    have hcs : (2 : Nat) ≤ cs.size := by omega
    obtain ⟨u, c, rfl⟩ := h3.iface hne
    simp [-getElem?_pos, -Array.getElem?_eq_getElem, -Int.natCast_add, add_spot, and_assoc, Br_dec, -op_box, -op_st_3, -op_st_119, -op_st_123, h1]
    refine op_storeN_ok (n := 2) (by kernel_rfl) (w := w.drew) g1 rfl (by rw [g2]; omega) (by simp) fun w3 k3 z3 b3 => ?_
    have k3 := Frm.dr k3
    have hg : ∀ j, (ow cs 1 [Value.iface u (ptr c), Value.int .i64 0])[j]? = if 1 ≤ j ∧ j < 3 then [Value.iface u (ptr c), Value.int .i64 0][j - 1]? else cs[j]? := fun j => ow_get (by simp; omega)
    refine op_store_ok (by kernel_rfl) b3 (by rw [ow_size]; omega) rfl fun w4 k4 z4 b4 => ?_
    have k34 : Frm (· = ib) w w4 := k3.trans k4 fun _ h _ => h
    have hz : (ow cs 1 [Value.iface u (ptr c), Value.int .i64 0]).size = 66 := by rw [ow_size]; exact g2
    refine first_ok (fs := []) (s := t) (v := .iface u (ptr c)) (F := F) (hash := hash) (mb := mb) ⟨b4, by simpa using hz, ?_, ?_, ?_, ⟨by simp, ?_, hne, F0, h3.frame k34 fun c hc => hM c (h4 c hc).1, fun c hc => (h4 c hc).1⟩, trivial⟩ hF fun w5 k5 z5 hat => ?_
    · show ((ow cs 1 [Value.iface u (ptr c), Value.int .i64 0]).setIfInBounds 65 (.int .i64 0))[0]? = _
      rw [set_at (by omega), if_neg (by omega), hg, if_neg (by omega)]; exact g3
    · show ((ow cs 1 [Value.iface u (ptr c), Value.int .i64 0]).setIfInBounds 65 (.int .i64 0))[65]? = _
      rw [set_at (by omega), if_pos rfl]; rfl
    · show ((ow cs 1 [Value.iface u (ptr c), Value.int .i64 0]).setIfInBounds 65 (.int .i64 0))[1]? = _
      rw [set_at (by omega), if_neg (by omega), hg, if_pos (by omega)]; rfl
    · cases t with
      | arr es => exact .inr ⟨es, rfl, hW.1⟩
      | emp => exact absurd rfl hne
      | br hs f => exact .inl ⟨0, hW⟩
      | val a b c => exact .inl ⟨0, hW⟩
      | col a b => exact .inl ⟨0, hW⟩
    · refine hK w5 (k34.trans k5 fun _ h _ => h) (by rw [z5, z4, z3]; rfl) ?_
      have e : left [] = ([] : List (Ky × Vl)) := rfl
      rw [e, List.append_nil] at hat
      exact hat
theorem iterator_ok {mb : Nat} {h : Value} (hW : WFr hash t) (hm : IsMap w mb h t F) (hF : ∀ c, F c → c < w.heap.size)
    (hK : ∀ ib w', Frm (fun _ => False) w w' → w.heap.size ≤ ib → At w' ib mb F hash (toL t) → K (ptr ib) w') : Calls Tryz.prog 40 #[ptr mb] w (ret K Kp) := by
  refine vc40_calls ?_
  simp [-getElem?_pos, -Array.getElem?_eq_getElem, -Int.natCast_add, add_spot, and_assoc, Br_dec, -op_box, -op_st_3, -op_st_119, -op_st_123, vc40, ptr]
  refine op_box_ok fun w1 k1 z1 b1 => ?_
  simp only [cells_agg] at b1
  refine First_ok (ib := w.heap.size) hW (hm.keep fun c o hc ho => k1.get ho fun h => h) ⟨_, b1, by simp [zero_126], ?_⟩ (fun h => by have := hF _ h; omega) fun w2 k2 z2 hat => hK _ w2 (k1.old k2 fun c hc => .inr (by omega)) (Nat.le_refl _) hat
  rw [set_at (by decide), if_pos rfl]; rfl
end Go.Proofs.YtbghmbbhkoniiaaGreat.S
end
section
/- A map with its hasher, chosen or to be chosen at the first key: set, delete, get, length, iterator. -/
namespace Go.Proofs.YtbghmbbhkoniiaaGreat.S
open Go.Vc Go.Proofs Go.Proofs.YtbghmbbhkoniiaaGreat Go.Vc.Nd
variable {w w' : World} {hv : Value} {t : Tr} {F F' : Nat → Prop} {K : Value → World → Prop} {Kp : KP} {hash : Ky → Nat} {k : Ky} {x : Vl} {mu nl : Bool}

theorem isH_of (h : I.IsH hv hash) : IsH hv hash := ⟨h.lt, fun {a b w K Kp} hK => h.eqv (a := a) (b := b) hK, fun {k w K Kp} hK => h.hsh (k := k) hK, h.nilE, h.iface⟩
abbrev defV := I.defV
abbrev defHash : Ky → Nat := I.defHash
theorem newHasher_ok (hK : ∀ d w', Frm (fun _ => False) w w' → K (defV d) w') : Calls Tryz.prog 58 #[ek k] w (ret K Kp) := I.newHasher_ok (k := k) hK
theorem set_first_ok {b : Nat} (hm : IsMap w b .nilIface .emp F)
    (hK : ∀ b' w' F' d, Frm (fun c => mu = true ∧ F c) w w' → IsMap w' b' (defV d) (.arr [(k, x)]) F' → (∀ c, F' c → F c ∨ w.heap.size ≤ c) → (mu = true → b' = b) → K (ptr b') w') : Calls Tryz.prog 44 #[ptr b, ek k, ev x, .bool mu] w (ret K Kp) := by
  obtain ⟨r, F0, h1, h2, h3, h4⟩ := hm.lt
  have heq := fun {wz : World} {K : Value → World → Prop} {Kp : KP} => eq_nil h3 (wz := wz) (K := K) (Kp := Kp)
  obtain rfl := h3.nil
  refine vc44_calls ?_
  simp only [vc44]
  refine op_box_ok fun w k0 z0 b0 => ?_
  replace h1 := k0.get h1 (fun h => h)
  replace h4 : ∀ c, F0 c → (F c ∧ c < w.heap.size) ∧ c ≠ b := fun c hc => ⟨⟨(h4 c hc).1.1, by have := (h4 c hc).1.2; omega⟩, (h4 c hc).2⟩
  replace hK := fun b' w' F' d (kf : Frm (fun c => mu = true ∧ F c) w w') hm (hF : ∀ c, F' c → F c ∨ w.heap.size ≤ c) hb => hK b' w' F' d (k0.fst kf) hm (fun c hc => (hF c hc).imp id fun h => by omega) hb
  simp [-getElem?_pos, -Array.getElem?_eq_getElem, -Int.natCast_add, add_spot, and_assoc, Br_dec, -op_box, -op_st_4, -op_st_3, -op_st_119, -op_st_132, -op_st_167, -op_st_131, -op_st_121, -op_st_74, -op_alloc_4, -op_alloc_121, -op_lit_132_1, vc44, ptr, h1]
  refine Jn.intro (fun hv' w1 => ∃ d, hv' = defV d ∧ Frm (fun _ => False) w w1) ⟨newHasher_ok fun d w1 k1 => ⟨d, rfl, k1⟩, ?_⟩
  rintro w0 _ ⟨d, rfl, k0⟩
  have h10 := k0.get h1 (fun h => h)
  have n0 := k0.size
  obtain ⟨J, hJ⟩ : ∃ J : Value → World → Prop, ∀ ov w1, J ov w1 ↔ ∃ nb, ov = ptr nb ∧ Frm (fun _ => False) w0 w1 ∧ w1.heap[nb]? = some (.cells #[.int .i64 0, .nilIface, .nilIface] 121 (0, 0)) ∧ (nb = b ∧ mu = true ∨ nb = w0.heap.size) ∧ (mu = true → nb = b) := ⟨_, fun _ _ => Iff.rfl⟩
  refine Jn.intro J ⟨fun hm => ?_, fun hm => (hJ _ _).2 ⟨b, rfl, Frm.refl, h10, .inl ⟨rfl, hm⟩, fun _ => rfl⟩, ?_⟩
  · exact clone_map_ok h10 rfl rfl rfl fun w1 k1 z1 b1 => (hJ _ _).2 ⟨_, rfl, k1, b1, .inr rfl, fun h => by rw [h] at hm; cases hm⟩
  intro w1 ov hov
  obtain ⟨nb, rfl, k1, b1, hnb, hnbm⟩ := (hJ _ _).1 hov
  clear hov hJ J
  have hb1 := k1.get h10 (fun h => h)
  have n1 := k1.size
  have l1 := lt_of_get h10
  simp [-getElem?_pos, -Array.getElem?_eq_getElem, -Int.natCast_add, add_spot, and_assoc, Br_dec, -op_box, -op_st_4, -op_st_3, -op_st_119, -op_st_132, -op_st_167, -op_st_131, -op_st_121, -op_st_74, -op_alloc_4, -op_alloc_121, -op_lit_132_1, ptr]
  refine op_store_ok (by kernel_rfl) b1 (by simp) rfl fun w2 k2 z2 b2 => ?_
  have b2 : w2.heap[nb]? = some (.cells #[.int .i64 0, .nilIface, defV d] 121 (0, 0)) := by simpa using b2
  obtain ⟨hh, hb2⟩ : ∃ hh, w2.heap[b]? = some (.cells #[.int .i64 0, .nilIface, hh] 121 (0, 0)) := by
    by_cases e : b = nb
    · exact ⟨_, by rw [e]; exact b2⟩
    · exact ⟨_, k2.get hb1 e⟩
  simp [-getElem?_pos, -Array.getElem?_eq_getElem, -Int.natCast_add, add_spot, and_assoc, Br_dec, -op_box, -op_st_4, -op_st_3, -op_st_119, -op_st_132, -op_st_167, -op_st_131, -op_st_121, -op_st_74, -op_alloc_4, -op_alloc_121, -op_lit_132_1, hb2]
  refine op_store_ok (by kernel_rfl) b2 (by simp) rfl fun w3 k3 z3 b3 => ?_
  refine op_lit_ok lit_132_1 fun w4 k4 z4 b4 => ?_
  simp [-getElem?_pos, -Array.getElem?_eq_getElem, -Int.natCast_add, add_spot, and_assoc, Br_dec, -op_box, -op_st_4, -op_st_3, -op_st_119, -op_st_132, -op_st_167, -op_st_131, -op_st_121, -op_st_74, -op_alloc_4, -op_alloc_121, -op_lit_132_1]
  refine op_box_ok fun w5 k5 z5 b5 => ?_
  simp only [cells_agg] at b5
  have bn5 := k5.get (k4.get b3 (fun h => h)) (fun h => h)
  refine op_store_ok (by kernel_rfl) bn5 (by simp) rfl fun w6 k6 z6 b6 => ?_
  have l2 := lt_of_get b2
  have hq : Rw w6 131 1 w3.heap.size 1 (ents [(k, x)]) := ((Rw.lit (w := w4) (n := 1) (by rw [ents_len]; rfl) (by decide) (by simpa [ents, ent] using b4)).frame k5 (fun h => h)).frame k6 (by omega)
  have b56 := k6.get b5 (by omega)
  have kall : Frm (fun c => mu = true ∧ F c) w w6 := (k0.to (M' := fun c => mu = true ∧ F c) fun _ h => h.elim).old (k1.fst (k2.tr (k3.tr (k4.fst (k5.fst k6))))) fun c hc => by
    have hcn : c = nb := by rcases hc with h | h | h <;> exact h
    rcases hnb with h | h
    · exact .inl ⟨h.2, by rw [hcn, h.1]; exact h2.1⟩
    · exact .inr (by omega)
  refine hK nb w6 (fun c => c = nb ∨ c = w4.heap.size ∨ c = w3.heap.size) d kall ⟨_, fun c => c = w4.heap.size ∨ c = w3.heap.size, by rw [show ((toL (Nd.arr [(k, x)])).length : Int) = 1 from rfl]; simpa [ptr] using b6, .inl rfl, ⟨w4.heap.size, w3.heap.size, 1, rfl, .inl rfl, .inr rfl, by omega, b56, by simp, hq⟩, fun c hc => ⟨.inr hc, by omega⟩⟩ (fun c hc => ?_) hnbm
  rcases hc with h | h | h
  · rcases hnb with h' | h'
    · exact .inl (by rw [h, h'.1]; exact h2.1)
    · exact .inr (by omega)
  · exact .inr (by omega)
  · exact .inr (by omega)

def Ver (w : World) (b : Nat) (hash : Ky → Nat) (nl : Bool) (t : Tr) (F : Nat → Prop) : Prop :=
  WFr hash t ∧ ∃ hv, IsMap w b hv t F ∧ (IsH hv hash ∨ nl = true ∧ hash = defHash ∧ hv = .nilIface ∧ t = .emp)
theorem Ver.keep {b : Nat} (h : Ver w b hash nl t F) (hw : ∀ c o, F c → w.heap[c]? = some o → w'.heap[c]? = some o) : Ver w' b hash nl t F := by
  obtain ⟨h1, hv, h2, h3⟩ := h
  exact ⟨h1, hv, h2.keep hw, h3⟩
theorem Ver.frame {b : Nat} {M : Nat → Prop} (h : Ver w b hash nl t F) (hf : Frm M w w') (hM : ∀ c, F c → ¬ M c) : Ver w' b hash nl t F := h.keep fun c o hc ho => hf.get ho (hM c hc)
theorem Ver.still {b : Nat} (h : Ver w b hash nl t F) (hf : Frm (fun _ => False) w w') : Ver w' b hash nl t F := h.frame hf fun _ _ h => h
theorem Ver.mono {b : Nat} (h : Ver w b hash nl t F) (hF : ∀ c, F c → F' c) : Ver w b hash nl t F' := by
  obtain ⟨h1, hv, ⟨r, F0, g1, g2, g3, g4⟩, h3⟩ := h
  exact ⟨h1, hv, ⟨r, F0, g1, hF _ g2, g3, fun c hc => ⟨hF _ (g4 c hc).1, (g4 c hc).2⟩⟩, h3⟩
theorem Ver.lt {b : Nat} (h : Ver w b hash nl t F) : Ver w b hash nl t (fun c => F c ∧ c < w.heap.size) := by
  obtain ⟨h1, hv, h2, h3⟩ := h
  exact ⟨h1, hv, h2.lt, h3⟩
theorem Ver.mem {b : Nat} (h : Ver w b hash nl t F) : F b := by obtain ⟨h1, hv, h2, h3⟩ := h; exact h2.mem
theorem ver_set_ok {b : Nat} (hdef : ∀ d, IsH (defV d) defHash) (h : Ver w b hash nl t F) (hL : (toL t).length ≤ 1000000)
    (hK : ∀ b' w' F', Frm (fun c => mu = true ∧ F c) w w' → Ver w' b' hash nl (Nd.set hash t k x) F' → (∀ c, F' c → F c ∨ w.heap.size ≤ c) → (mu = true → b' = b) → K (ptr b') w') : Calls Tryz.prog 44 #[ptr b, ek k, ev x, .bool mu] w (ret K Kp) := by
  obtain ⟨h1, hv, h2, h3 | ⟨hn, rfl, rfl, rfl⟩⟩ := h
  · exact set_map_ok (x := x) h3 h1 hL h2 fun b' w' F' k' m' hF' hb => hK b' w' F' k' ⟨(set_spec h3.lt h1).1, hv, m', .inl h3⟩ hF' hb
  · refine set_first_ok (x := x) h2 fun b' w' F' d k' m' hF' hb => hK b' w' F' k' ⟨(set_spec (hdef d).lt h1).1, defV d, m', .inl (hdef d)⟩ hF' hb
theorem ver_del_ok {b : Nat} (h : Ver w b hash nl t F) (hL : (toL t).length ≤ 1000000)
    (hK : ∀ b' w' F', Frm (fun c => mu = true ∧ F c) w w' → Ver w' b' hash nl (delT hash t k) F' → (∀ c, F' c → F c ∨ w.heap.size ≤ c) → (mu = true → b' = b) → K (ptr b') w') : Calls Tryz.prog 45 #[ptr b, ek k, .bool mu] w (ret K Kp) := by
  obtain ⟨h1, hv, h2, h3 | ⟨hn, rfl, rfl, rfl⟩⟩ := h
  · refine del_map_ok h3 h1 hL h2 (fun hg w' k' => ?_) fun hg b' w' F' k' m' hF' hb => hK b' w' F' k' ⟨(delT_spec h1).1, hv, by rw [delT, if_pos hg]; exact m', .inl h3⟩ hF' hb
    have e : delT hash t k = t := by rw [delT, if_neg (by rw [hg]; decide)]
    refine hK b w' F (k'.to fun _ h => h.elim) ?_ (fun c hc => .inl hc) fun _ => rfl
    rw [e]
    exact ⟨h1, hv, h2.keep fun c o hc ho => k'.get ho fun h => h, .inl h3⟩
  · obtain ⟨r, F0, g1, g2, g3, g4⟩ := id h2
    obtain rfl := g3.nil
    refine vc45_calls ?_
    simp [-getElem?_pos, -Array.getElem?_eq_getElem, -Int.natCast_add, add_spot, and_assoc, Br_dec, -op_box, -op_st_4, -op_st_3, -op_st_119, -op_st_132, -op_st_167, -op_st_131, -op_st_121, -op_st_74, -op_alloc_4, -op_alloc_121, -op_lit_132_1, vc45, ptr, g1]
    exact hK b w F Frm.refl ⟨h1, _, h2, .inr ⟨hn, rfl, rfl, rfl⟩⟩ (fun c hc => .inl hc) fun _ => rfl
theorem Set_ok {b : Nat} (hdef : ∀ d, IsH (defV d) defHash) (h : Ver w b hash nl t F) (hL : (toL t).length ≤ 1000000)
    (hK : ∀ b' w' F', Frm (fun _ => False) w w' → Ver w' b' hash nl (Nd.set hash t k x) F' → (∀ c, F' c → (F c ∨ w.heap.size ≤ c) ∧ c < w'.heap.size) → K (ptr b') w') : Calls Tryz.prog 54 #[ptr b, ek k, ev x] w (ret K Kp) := by
  refine vc54_calls ?_
  simp only [vc54]
  refine op_box_ok fun w k0 z0 b0 => ?_
  replace h := h.still k0
  replace hK := fun b' w' F' (kf : Frm (fun _ => False) w w') hv (hF : ∀ c, F' c → (F c ∨ w.heap.size ≤ c) ∧ c < w'.heap.size) => hK b' w' F' (k0.no kf) hv (fun c hc => ⟨(hF c hc).1.imp id fun h => by omega, (hF c hc).2⟩)
  simp only [op_ld_88, call_44]
  exact ver_set_ok (x := x) hdef h hL fun b' w' F' k' h' hF' _ => hK b' w' _ (k'.to fun _ h => nomatch h.1) h'.lt fun c hc => ⟨hF' c hc.1, hc.2⟩
theorem Delete_ok {b : Nat} (h : Ver w b hash nl t F) (hL : (toL t).length ≤ 1000000)
    (hK : ∀ b' w' F', Frm (fun _ => False) w w' → Ver w' b' hash nl (delT hash t k) F' → (∀ c, F' c → (F c ∨ w.heap.size ≤ c) ∧ c < w'.heap.size) → K (ptr b') w') : Calls Tryz.prog 55 #[ptr b, ek k] w (ret K Kp) := by
  refine vc55_calls ?_
  simp only [vc55, call_45]
  exact ver_del_ok h hL fun b' w' F' k' h' hF' _ => hK b' w' _ (k'.to fun _ h => nomatch h.1) h'.lt fun c hc => ⟨hF' c hc.1, hc.2⟩
theorem ver_len_ok {b : Nat} (h : Ver w b hash nl t F) (hK : K (.int .i64 (toL t).length) w) : Calls Tryz.prog 39 #[ptr b] w (ret K Kp) := by
  obtain ⟨h1, hv, h2, h3⟩ := h
  exact len_ok h2 hK
theorem ver_iter_ok {b : Nat} (h : Ver w b hash nl t F) (hF : ∀ c, F c → c < w.heap.size)
    (hK : ∀ ib w', Frm (fun _ => False) w w' → w.heap.size ≤ ib → At w' ib b F hash (toL t) → K (ptr ib) w') : Calls Tryz.prog 40 #[ptr b] w (ret K Kp) := by
  obtain ⟨h1, hv, h2, h3⟩ := h
  exact iterator_ok h1 h2 hF hK
theorem ver_First_ok {ib b : Nat} (h : Ver w b hash nl t F) (hi : Itr w ib b) (hF : ¬ F ib) (hK : ∀ w', Frm (· = ib) w w' → w'.heap.size = w.heap.size → At w' ib b F hash (toL t) → K (.tuple #[]) w') : Calls Tryz.prog 41 #[ptr ib] w (ret K Kp) := by
  obtain ⟨h1, hv, h2, h3⟩ := h
  exact First_ok h1 h2 hi hF hK
theorem ver_new_ok {h : Value} (hv : IsH h hash ∨ nl = true ∧ hash = defHash ∧ h = .nilIface) (h1 : h.oneCell' = true) (hK : ∀ w', Frm (fun _ => False) w w' → w'.heap.size = w.heap.size + 1 → Ver w' w.heap.size hash nl .emp (· = w.heap.size) → K (ptr w.heap.size) w') : Calls Tryz.prog 53 #[h] w (ret K Kp) := by
  refine vc53_calls ?_
  simp [-getElem?_pos, -Array.getElem?_eq_getElem, -Int.natCast_add, add_spot, and_assoc, Br_dec, -op_box, -op_st_4, -op_st_3, -op_st_119, -op_st_132, -op_st_167, -op_st_131, -op_st_121, -op_st_74, -op_alloc_4, -op_alloc_121, -op_lit_132_1, vc53, h1]
  refine op_box_ok fun w1 k1 z1 b1 => ?_
  simp only [cells_agg] at b1
  refine hK w1 k1 z1 ⟨trivial, h, ⟨.nilIface, fun _ => False, b1, rfl, rfl, fun _ h => h.elim⟩, ?_⟩
  rcases hv with hv | hv
  · exact .inl hv
  · exact .inr ⟨hv.1, hv.2.1, hv.2.2, rfl⟩
end Go.Proofs.YtbghmbbhkoniiaaGreat.S
end
section
/- Pairs that are put one behind the other: the function they make, whatever their order. -/
namespace Go.Vc
open Nd
end Go.Vc
end
section
/- Versions of sets in plain words: a trie of keys without values beside a map of which only the keys count. -/
namespace Go.Vc
open Nd
theorem vers_cost {α : Type} {f : α → MStep → α} {a0 : α} {Q : α → Nat → Prop} {c0 : Nat} (mono : ∀ {a n m}, Q a n → n ≤ m → Q a m) (h0 : Q a0 c0) (hs : ∀ {a n} s, Q a n → Q (f a s) (n + s.cost)) (steps : List MStep) :
    ∀ (j : Nat) a, (vers f MStep.ref a0 steps)[j]? = some a → Q a (c0 + mcost steps) := by
  refine snoc_ind (P := fun steps => ∀ (j : Nat) a, (vers f MStep.ref a0 steps)[j]? = some a → Q a (c0 + mcost steps)) ?_ (fun l s ih => ?_) steps
  · intro j a ha
    cases j with
    | zero => simp [vers] at ha; subst ha; simpa [mcost] using h0
    | succ j => simp [vers] at ha
  · intro j a ha
    rw [vers_snoc] at ha
    have hl1 := vers_len (f := f) (fro := MStep.ref) (a0 := a0) l
    rw [mcost_snoc]
    by_cases hj : j < l.length + 1
    · rw [List.getElem?_append_left (by omega)] at ha
      exact mono (ih j a ha) (by omega)
    · have hj' : j = l.length + 1 := by
        have := (List.getElem?_eq_some_iff.1 ha).1
        simp [hl1] at this; omega
      subst hj'
      rw [List.getElem?_append_right (by omega), hl1] at ha
      simp at ha
      subst ha
      rw [← Nat.add_assoc]
      refine hs s ?_
      cases hx : (vers f MStep.ref a0 l)[s.ref]? with
      | none => exact mono h0 (by omega)
      | some x => exact ih _ _ hx
def un (m : Int → Option Int) : Int → Option Unit := fun k => (m k).map fun _ => ()
theorem un_set {m : Int → Option Int} {k v : Int} : un (mset m k v) = mset (un m) k () := by
  funext j; unfold un mset; split <;> rfl
theorem un_del {m : Int → Option Int} {k : Int} : un (mdel m k) = mdel (un m) k := by
  funext j; unfold un mdel; split <;> rfl
theorem un_some {m : Int → Option Int} {k : Int} : (un m k).isSome = (m k).isSome := by unfold un; cases m k <;> rfl
def addN (hash : Int → Nat) (k v : Int) (t : Nd Int Unit) (n : Nat) : Nd Int Unit := (List.range n).foldl (fun t i => Nd.set hash t (kAt k v i) ()) t
def remN (hash : Int → Nat) (k v : Int) (t : Nd Int Unit) (n : Nat) : Nd Int Unit := (List.range n).foldl (fun t i => delT hash t (kAt k v i)) t
theorem addN_succ {hash : Int → Nat} {k v : Int} {t : Nd Int Unit} {n : Nat} : addN hash k v t (n + 1) = Nd.set hash (addN hash k v t n) (kAt k v n) () := by
  unfold addN; rw [List.range_succ, List.foldl_append]; rfl
theorem remN_succ {hash : Int → Nat} {k v : Int} {t : Nd Int Unit} {n : Nat} : remN hash k v t (n + 1) = delT hash (remN hash k v t n) (kAt k v n) := by
  unfold remN; rw [List.range_succ, List.foldl_append]; rfl
def setStep (hash : Int → Nat) (t : Nd Int Unit) (s : MStep) : Nd Int Unit := match s.kind with
  | 0 => Nd.set hash t s.key ()
  | 1 => delT hash t s.key
  | 2 => addN hash s.key s.value t s.count.toNat
  | _ => remN hash s.key s.value t s.count.toNat
def setFirst (hash : Int → Nat) (values : List Int) : Nd Int Unit := values.foldl (fun t x => Nd.set hash t x ()) .emp
def funFirst (values : List Int) : Int → Option Int := values.foldl (fun m x => mset m x 0) fun _ => none
theorem setFirst_succ {hash : Int → Nat} {values : List Int} {i : Nat} (h : i < values.length) : setFirst hash (values.take (i + 1)) = Nd.set hash (setFirst hash (values.take i)) values[i] () := by
  rw [List.take_succ_eq_append_getElem h, setFirst, List.foldl_append]; rfl
theorem funFirst_succ {values : List Int} {i : Nat} (h : i < values.length) : funFirst (values.take (i + 1)) = mset (funFirst (values.take i)) values[i] 0 := by
  rw [List.take_succ_eq_append_getElem h, funFirst, List.foldl_append]; rfl
section
variable {hash : Int → Nat} (hh : ∀ k, hash k < 2 ^ 32)
include hh
theorem is_first (values : List Int) : Is hash (setFirst hash values) (un (funFirst values)) := by
  refine snoc_ind (P := fun values => Is hash (setFirst hash values) (un (funFirst values))) is_emp (fun l x ih => ?_) values
  rw [setFirst, funFirst, List.foldl_append, List.foldl_append]
  show Is hash (Nd.set hash (setFirst hash l) x ()) (un (mset (funFirst l) x 0))
  rw [un_set]; exact is_set hh ih
theorem is_addN {t : Nd Int Unit} {m : Int → Option Int} (h : Is hash t (un m)) {k v : Int} : ∀ n, Is hash (addN hash k v t n) (un (msetN k v m n))
  | 0 => h
  | n + 1 => by rw [addN_succ, msetN_succ, un_set]; exact is_set hh (is_addN h n)
omit hh in
theorem is_remN {t : Nd Int Unit} {m : Int → Option Int} (h : Is hash t (un m)) {k v : Int} : ∀ n, Is hash (remN hash k v t n) (un (mdelN k v m n))
  | 0 => h
  | n + 1 => by rw [remN_succ, mdelN_succ, un_del]; exact is_del (is_remN h n)
theorem is_setStep {t : Nd Int Unit} {m : Int → Option Int} (h : Is hash t (un m)) (s : MStep) : Is hash (setStep hash t s) (un (funStep m s)) := by
  obtain ⟨kind, fro, key, value, count⟩ := s
  match kind with
  | 0 => show Is hash (Nd.set hash t key ()) (un (mset m key value)); rw [un_set]; exact is_set hh h
  | 1 => show Is hash (delT hash t key) (un (mdel m key)); rw [un_del]; exact is_del h
  | 2 => exact is_addN hh h _
  | n + 3 => exact is_remN h _
theorem unit_len_le {t : Nd Int Unit} (h : WFr hash t) {k : Int} {v : Unit} : (toL (Nd.set hash t k v)).length ≤ (toL t).length + 1 := by
  rw [set_len hh h]; split <;> omega
theorem addN_len {t : Nd Int Unit} (h : WFr hash t) {k v : Int} : ∀ n, WFr hash (addN hash k v t n) ∧ (toL (addN hash k v t n)).length ≤ (toL t).length + n
  | 0 => ⟨h, Nat.le_refl _⟩
  | n + 1 => by
    obtain ⟨a, b⟩ := addN_len h (k := k) (v := v) n
    rw [addN_succ]
    exact ⟨(set_spec hh a).1, by have := unit_len_le hh a (k := kAt k v n) (v := ()); omega⟩
omit hh in
theorem remN_len {t : Nd Int Unit} (h : WFr hash t) {k v : Int} : ∀ n, WFr hash (remN hash k v t n) ∧ (toL (remN hash k v t n)).length ≤ (toL t).length
  | 0 => ⟨h, Nat.le_refl _⟩
  | n + 1 => by
    obtain ⟨a, b⟩ := remN_len h (k := k) (v := v) n
    rw [remN_succ]
    exact ⟨(delT_spec a).1, Nat.le_trans (delT_len a) b⟩
theorem setStep_len {t : Nd Int Unit} (h : WFr hash t) (s : MStep) : WFr hash (setStep hash t s) ∧ (toL (setStep hash t s)).length ≤ (toL t).length + s.cost := by
  unfold setStep MStep.cost
  split
  · exact ⟨(set_spec hh h).1, by have := unit_len_le hh h (k := s.key) (v := ()); omega⟩
  · exact ⟨(delT_spec h).1, by have := delT_len (k := s.key) h; omega⟩
  · have := addN_len hh h (k := s.key) (v := s.value) s.count.toNat
    exact ⟨this.1, by omega⟩
  · have := remN_len h (k := s.key) (v := s.value) s.count.toNat
    exact ⟨this.1, by omega⟩
theorem first_len (values : List Int) : (toL (setFirst hash values)).length ≤ values.length := by
  refine snoc_ind (P := fun values => (toL (setFirst hash values)).length ≤ values.length) (by simp [setFirst, toL]) (fun l x ih => ?_) values
  rw [setFirst, List.foldl_append]
  show (toL (Nd.set hash (setFirst hash l) x ())).length ≤ _
  have := unit_len_le hh (is_first hh l).1 (k := x) (v := ())
  simp; omega
end
def versS (hash : Int → Nat) (values : List Int) (steps : List MStep) : List (Nd Int Unit) := vers (setStep hash) MStep.ref (setFirst hash values) steps
def versI (values : List Int) (steps : List MStep) : List (Int → Option Int) := vers funStep MStep.ref (funFirst values) steps
theorem versS_len (hash : Int → Nat) (values : List Int) (l : List MStep) : (versS hash values l).length = l.length + 1 := vers_len l
theorem versI_len (values : List Int) (l : List MStep) : (versI values l).length = l.length + 1 := vers_len l
theorem is_versS {hash : Int → Nat} (hh : ∀ k, hash k < 2 ^ 32) (values : List Int) (steps : List MStep) (j : Nat) {t : Nd Int Unit} {m : Int → Option Int} (ht : (versS hash values steps)[j]? = some t) (hm : (versI values steps)[j]? = some m) : Is hash t (un m) :=
  vers_rel (R := fun t m => Is hash t (un m)) (is_first hh values) (fun a b s h => is_setStep hh h s) steps j t m ht hm
theorem versS_size {hash : Int → Nat} (hh : ∀ k, hash k < 2 ^ 32) (values : List Int) (steps : List MStep) (j : Nat) {t : Nd Int Unit} (ht : (versS hash values steps)[j]? = some t) : WFr hash t ∧ (toL t).length ≤ values.length + mcost steps :=
  vers_cost (Q := fun t n => WFr hash t ∧ (toL t).length ≤ n) (fun h hn => ⟨h.1, Nat.le_trans h.2 hn⟩) ⟨(is_first hh values).1, first_len hh values⟩ (fun s h => ⟨(setStep_len hh h.1 s).1, by have := (setStep_len hh h.1 s).2; omega⟩) steps j t ht
end Go.Vc
end
section
/- Sets of whole numbers: NewSet, Add, Delete, Has; setsOf. -/
namespace Go.Proofs.YtbghmbbhkoniiaaGreat.S
open Go.Vc Go.Proofs Go.Proofs.YtbghmbbhkoniiaaGreat Go.Vc.Nd
variable {w w' : World} {v hv : Value} {t : Tr} {F F' G : Nat → Prop} {K : Value → World → Prop} {Kp : KP} {hash : Ky → Nat} {k : Ky} {x : Vl} {s md ml sh : Nat} {mu nl : Bool}
def i1 (x : Int) : List Value := [.int .i64 x]
theorem i1_len (x : Int) : (i1 x).length = 1 := rfl
theorem row_int {a : Option Addr} {xs : List Int} (h : Row w a (xs.flatMap i1)) {i : Nat} (hi : i < xs.length) :
    ∃ bp o cs e fz, a = some ⟨bp, o, none⟩ ∧ w.heap[bp]? = some (.cells cs e fz) ∧ cs[o + i]? = some (.int .i64 xs[i]) := by
  obtain ⟨bp, o, cs, e, fz, rfl, hcs, hsz, hext⟩ := h.part i1_len (by decide) hi
  refine ⟨bp, o, cs, e, fz, rfl, hcs, ?_⟩
  have := congrArg (fun a => a[0]?) hext
  simp only [Array.getElem?_extract] at this
  rw [if_pos (by omega)] at this
  simpa [i1] using this
def setV (b : Nat) : Value := .agg #[ptr b]
theorem one_ptr {b : Nat} : (ptr b).oneCell' = true := rfl
theorem ex1' {v : Value} : (#[v] : Array Value).extract 0 1 = #[v] := rfl
theorem ow1 {u v : Value} : ow #[u] 0 [v] = #[v] := ow_all rfl
theorem NewSet_ok {a1 : Option Addr} {c1 : Nat} {xs : List Int} {h : Value} (hdef : ∀ d, IsH (defV d) defHash) (hv : IsH h hash ∨ nl = true ∧ hash = defHash ∧ h = .nilIface) (h1 : h.oneCell' = true) (hlt : ∀ k, hash k < 2 ^ 32)
    (hr : Row w a1 (xs.flatMap i1)) (hn : xs.length ≤ 1000000)
    (hK : ∀ b w' G, Frm (fun _ => False) w w' → Ver w' b hash nl (setFirst hash xs) G → (∀ c, G c → w.heap.size ≤ c ∧ c < w'.heap.size) → K (setV b) w') :
    Calls Tryz.prog 35 #[h, .slice a1 xs.length c1] w (ret K Kp) := by
  refine vc35_calls ?_
  simp only [vc35]
  refine op_alloc_ok (z := .agg #[.pointer none]) (by kernel_rfl) fun w1 k1 z1 b1 => ?_
  simp only [cells_agg] at b1
  try simp [-getElem?_pos, -Array.getElem?_eq_getElem, -Int.natCast_add, add_spot, and_assoc, Br_dec, -op_box, -op_alloc_64, -op_st_64, -op_alloc_52, -op_st_52, -op_lit_60_1]
  refine ver_new_ok hv h1 fun w2 k2 z2 v2 => ?_
  try simp [-getElem?_pos, -Array.getElem?_eq_getElem, -Int.natCast_add, add_spot, and_assoc, Br_dec, -op_box, -op_alloc_64, -op_st_64, -op_alloc_52, -op_st_52, -op_lit_60_1]
  obtain ⟨I, hI⟩ : ∃ I : Value → Value → World → Prop, ∀ m v wl, I m v wl ↔ ∃ (i : Nat) (G : Nat → Prop), m = ptr w1.heap.size ∧ v = .int .i64 i ∧ i ≤ xs.length ∧ Frm (fun _ => False) w1 wl ∧
      Ver wl w1.heap.size hash nl (setFirst hash (xs.take i)) G ∧ ∀ c, G c → w1.heap.size ≤ c ∧ c < wl.heap.size := ⟨_, fun _ _ _ => Iff.rfl⟩
  refine Lp.intro I (fun _ v _ => xs.length - natOf v) ⟨(hI _ _ _).2 ⟨0, _, rfl, rfl, by omega, k2, v2, fun c hc => by omega⟩, ?_⟩
  intro wl m v hm
  obtain ⟨i, G, rfl, rfl, hi, kl, vl, hG⟩ := (hI _ _ _).1 hm
  simp only [op_lss, Br_dec]
  refine ⟨fun hlt' => ?_, fun hge => ?_⟩
  · have hi' : i < xs.length := by omega
    obtain ⟨bp, o, cs, e, fz, rfl, hcs, hki⟩ := row_int ((hr.frame k1 fun _ _ h => h).frame kl fun _ _ h => h) hi'
    have hsz := first_len hlt (xs.take i)
    rw [List.length_take] at hsz
    try simp [-getElem?_pos, -Array.getElem?_eq_getElem, -Int.natCast_add, add_spot, and_assoc, Br_dec, -op_box, -op_alloc_64, -op_st_64, -op_alloc_52, -op_st_52, -op_lit_60_1, hcs, hki]
    refine ⟨hi', ?_⟩
    refine ver_set_ok (k := xs[i]) (x := ()) (mu := true) hdef vl (by omega) fun b' w3 F' k3 v3 hF3 hb' => ?_
    obtain rfl := hb' rfl
    have n3 := k3.size
    have v3' := v3.lt
    rw [← setFirst_succ hi'] at v3'
    rw [wrap_i64_small (by omega) (by omega)]
    refine ⟨(hI _ _ _).2 ⟨i + 1, _, rfl, by simp, by omega, kl.old k3 fun c hc => .inr (hG c hc.2).1, v3', fun c hc => ⟨?_, hc.2⟩⟩, ?_⟩
    · have n2 := kl.size
      rcases hF3 c hc.1 with h | h
      · exact (hG c h).1
      · omega
    · simp only [natOf]; omega
  · have : i = xs.length := by omega
    subst this
    rw [List.take_length] at vl
    rw [op_build_64_0 one_ptr]
    refine op_storeN_ok (vs := #[ptr w1.heap.size]) (o := 0) (n := 1) (by kernel_rfl) (kl.get b1 fun h => h) rfl (by decide) (by simp [ptr]) fun w3 k3 z3 b3 => ?_
    rw [show (#[ptr w1.heap.size] : Array Value).toList = [ptr w1.heap.size] from rfl, ow1] at b3
    try simp [-getElem?_pos, -Array.getElem?_eq_getElem, -Int.natCast_add, add_spot, and_assoc, Br_dec, -op_box, -op_alloc_64, -op_st_64, -op_alloc_52, -op_st_52, -op_lit_60_1, b3]
    have n1 := k1.size
    exact hK _ w3 G ((k1.no kl).old k3 fun c hc => .inr (by omega)) (vl.frame k3 fun c hc e => by have := (hG c hc).1; omega) fun c hc => ⟨by have := (hG c hc).1; omega, by have := (hG c hc).2; omega⟩
theorem Add_ok {b : Nat} (hdef : ∀ d, IsH (defV d) defHash) (h : Ver w b hash nl t F) (hL : (toL t).length ≤ 1000000)
    (hK : ∀ b' w' F', Frm (fun _ => False) w w' → Ver w' b' hash nl (Nd.set hash t k ()) F' → (∀ c, F' c → (F c ∨ w.heap.size ≤ c) ∧ c < w'.heap.size) → K (setV b') w') : Calls Tryz.prog 37 #[setV b, ek k] w (ret K Kp) := by
  refine vc37_calls ?_
  simp only [vc37]
  refine op_box_ok fun w1 k1 z1 b1 => ?_
  simp only [setV, cells_agg] at b1
  refine op_alloc_ok (z := .agg #[.pointer none]) (by kernel_rfl) fun w2 k2 z2 b2 => ?_
  simp only [cells_agg] at b2
  have b1' := k2.get b1 fun h => h
  try simp [-getElem?_pos, -Array.getElem?_eq_getElem, -Int.natCast_add, add_spot, and_assoc, Br_dec, -op_box, -op_alloc_64, -op_st_64, -op_alloc_52, -op_st_52, -op_lit_60_1, b1', ptr]
  refine Set_ok (k := k) (x := ()) hdef (h.lt.still (k1.no k2)) hL fun b' w3 F3 k3 v3 hF3 => ?_
  rw [op_build_64_0 one_ptr]
  refine op_storeN_ok (vs := #[ptr b']) (o := 0) (n := 1) (by kernel_rfl) (k3.get b2 fun h => h) rfl (by decide) (by simp [ptr]) fun w4 k4 z4 b4 => ?_
  rw [show (#[ptr b'] : Array Value).toList = [ptr b'] from rfl, ow1] at b4
  try simp [-getElem?_pos, -Array.getElem?_eq_getElem, -Int.natCast_add, add_spot, and_assoc, Br_dec, -op_box, -op_alloc_64, -op_st_64, -op_alloc_52, -op_st_52, -op_lit_60_1, b4]
  have n1 := k1.size
  have n2 := k2.size
  have n3 := k3.size
  have n4 := k4.size
  exact hK b' w4 F3 (((k1.no k2).no k3).old k4 fun c hc => .inr (by omega)) (v3.frame k4 fun c hc e => by rcases (hF3 c hc).1 with h | h <;> omega) fun c hc => ⟨(hF3 c hc).1.imp (fun h => h.1) fun h => by omega, by have := (hF3 c hc).2; omega⟩
theorem SDelete_ok {b : Nat} (h : Ver w b hash nl t F) (hL : (toL t).length ≤ 1000000)
    (hK : ∀ b' w' F', Frm (fun _ => False) w w' → Ver w' b' hash nl (delT hash t k) F' → (∀ c, F' c → (F c ∨ w.heap.size ≤ c) ∧ c < w'.heap.size) → K (setV b') w') : Calls Tryz.prog 38 #[setV b, ek k] w (ret K Kp) := by
  refine vc38_calls ?_
  simp only [vc38]
  refine op_box_ok fun w1 k1 z1 b1 => ?_
  simp only [setV, cells_agg] at b1
  refine op_alloc_ok (z := .agg #[.pointer none]) (by kernel_rfl) fun w2 k2 z2 b2 => ?_
  simp only [cells_agg] at b2
  have b1' := k2.get b1 fun h => h
  try simp [-getElem?_pos, -Array.getElem?_eq_getElem, -Int.natCast_add, add_spot, and_assoc, Br_dec, -op_box, -op_alloc_64, -op_st_64, -op_alloc_52, -op_st_52, -op_lit_60_1, b1', ptr]
  refine Delete_ok (k := k) (h.lt.still (k1.no k2)) hL fun b' w3 F3 k3 v3 hF3 => ?_
  rw [op_build_64_0 one_ptr]
  refine op_storeN_ok (vs := #[ptr b']) (o := 0) (n := 1) (by kernel_rfl) (k3.get b2 fun h => h) rfl (by decide) (by simp [ptr]) fun w4 k4 z4 b4 => ?_
  rw [show (#[ptr b'] : Array Value).toList = [ptr b'] from rfl, ow1] at b4
  try simp [-getElem?_pos, -Array.getElem?_eq_getElem, -Int.natCast_add, add_spot, and_assoc, Br_dec, -op_box, -op_alloc_64, -op_st_64, -op_alloc_52, -op_st_52, -op_lit_60_1, b4]
  have n1 := k1.size
  have n2 := k2.size
  have n3 := k3.size
  have n4 := k4.size
  exact hK b' w4 F3 (((k1.no k2).no k3).old k4 fun c hc => .inr (by omega)) (v3.frame k4 fun c hc e => by rcases (hF3 c hc).1 with h | h <;> omega) fun c hc => ⟨(hF3 c hc).1.imp (fun h => h.1) fun h => by omega, by have := (hF3 c hc).2; omega⟩
def ElS (hash : Ky → Nat) (nl : Bool) : World → List Value → Tr → (Nat → Prop) → Prop := fun w u t G => ∃ b, u = [ptr b] ∧ Ver w b hash nl t G
theorem elS_ok (hash : Ky → Nat) (nl : Bool) : ElOk (ElS hash nl) :=
  ⟨fun ⟨b, hu, h⟩ hf hM => ⟨b, hu, h.frame hf hM⟩, fun ⟨b, hu, h⟩ hG => ⟨b, hu, h.mono hG⟩⟩
theorem apSet : apOf Tryz.prog 60 = some (64, 1, 8) := by kernel_rfl
theorem cells5 (s : MStep) : (#[.int .u8 s.kind, .int .i64 s.fro, .int .i64 s.key, .int .i64 s.value, .int .i64 s.count] : Array Value).extract 0 5 = s.cells.toArray := rfl
theorem hasherS_ok (hK : ∀ h w', Frm (fun _ => False) w w' → h.oneCell' = true → (IsH h (I.hashOf md ml sh) ∨ decide (md = 0) = true ∧ I.hashOf md ml sh = defHash ∧ h = .nilIface) → K h w') : Calls Tryz.prog 25 #[I.hval md ml sh] w (ret K Kp) :=
  I.hasher_ok (md := md) (ml := ml) (sh := sh) fun h w' k o hh => hK h w' k o (hh.imp isH_of id)
end Go.Proofs.YtbghmbbhkoniiaaGreat.S
end
section
/- Versions of sets made by steps: setsOf. -/
namespace Go.Proofs.YtbghmbbhkoniiaaGreat.S
open Go.Vc Go.Proofs Go.Proofs.YtbghmbbhkoniiaaGreat Go.Vc.Nd
open Go.Proofs.YtbghmbbhkoniiaaGreat.I (hval hashOf hashOf_lt mapStep_ok)
variable {w w' : World} {v : Value} {F' G : Nat → Prop} {K : Value → World → Prop} {Kp : KP} {hash : Ky → Nat} {k : Ky} {l s md ml sh : Nat} {nl : Bool}
theorem lit_set {b : Nat} : sliceLit Tryz.prog 60 1 [(0, setV b)] = some (64, [ptr b].toArray) := by
  exact lit_60_1
theorem putSet_ok {mb b : Nat} {b0 : Value} (hb : w.heap[mb]? = some (.cells #[b0] 64 (0, 0))) (hK : ∀ w', Frm (· = mb) w w' → w'.heap.size = w.heap.size → w'.heap[mb]? = some (.cells #[ptr b] 64 (0, 0)) → K undef w') :
    (nice Tryz.prog).op (.store 64 (.pointer (some ⟨mb, 0, none⟩)) (setV b)) w K Kp := by
  refine op_storeN_ok (vs := #[ptr b]) (o := 0) (n := 1) (by kernel_rfl) hb rfl (by simp) (by simp [ptr]) fun w4 k4 z4 b4 => ?_
  rw [show (#[ptr b] : Array Value).toList = [ptr b] from rfl, ow1] at b4
  exact hK w4 k4 z4 b4
theorem ex1 (b : Nat) : (#[ptr b] : Array Value).extract 0 1 = #[ptr b] := rfl
theorem setsOf_ok {a0 a1 : Option Addr} {c0 c1 : Nat} {values : List Int} {steps : List MStep} (h0 : Row w a0 (values.flatMap i1)) (h1 : Row w a1 (steps.flatMap MStep.cells)) (hfit : MFit steps) (hc : values.length + mcost steps ≤ 900000)
    (hK : ∀ l w' G, Frm (fun _ => False) w w' → RowsOf (ElS (hashOf md ml sh) (decide (md = 0))) w' w.heap.size 64 1 l (versS (hashOf md ml sh) values steps) G → K l w') :
    Calls Tryz.prog 18 #[hval md ml sh, .slice a0 values.length c0, .slice a1 steps.length c1] w (ret K Kp) := by
  have hn : steps.length ≤ mcost steps := by
    clear h1 hfit hc hK
    induction steps with
    | nil => simp
    | cons s l ih => simp only [mcost, List.map_cons, List.sum_cons, List.length_cons, MStep.cost] at ih ⊢; omega
  generalize hhash : hashOf md ml sh = hash at *
  generalize hnl : decide (md = 0) = nl at *
  have hE := elS_ok hash nl
  have hdef : ∀ d, IsH (defV d) defHash := fun d => isH_of (I.defHasher_ok d)
  have hlt : ∀ k, hash k < 2 ^ 32 := fun k => by rw [← hhash]; exact hashOf_lt md ml sh k
  refine vc18_calls ?_
  simp only [vc18]
  refine op_box_ok fun w1 k1 z1 b1 => ?_
  simp only [hval, cells_agg] at b1
  have hx3 : (#[Value.int .u32 (md : Int), .int .u32 (ml : Int), .int .u8 (sh : Int)] : Array Value).extract 0 3 = #[.int .u32 md, .int .u32 ml, .int .u8 sh] := rfl
  simp [-getElem?_pos, -Array.getElem?_eq_getElem, -Int.natCast_add, add_spot, and_assoc, Br_dec, -op_box, -op_alloc_64, -op_st_64, -op_alloc_52, -op_st_52, -op_lit_60_1, b1, hx3]
  refine hasherS_ok (md := md) (ml := ml) (sh := sh) fun h w2 k2 o2 hh2 => ?_
  rw [hhash, hnl] at hh2
  try simp [-getElem?_pos, -Array.getElem?_eq_getElem, -Int.natCast_add, add_spot, and_assoc, Br_dec, -op_box, -op_alloc_64, -op_st_64, -op_alloc_52, -op_st_52, -op_lit_60_1]
  refine NewSet_ok hdef hh2 o2 hlt ((h0.frame k1 fun _ _ h => h).frame k2 fun _ _ h => h) (by omega) fun nb w3 G3 k3 v3 hG3 => ?_
  try simp [-getElem?_pos, -Array.getElem?_eq_getElem, -Int.natCast_add, add_spot, and_assoc, Br_dec, -op_box, -op_alloc_64, -op_st_64, -op_alloc_52, -op_st_52, -op_lit_60_1]
  have n1 := k1.size
  have n2 := k2.size
  have n3 := k3.size
  have k13 := k2.no k3
  refine op_row1 (base := w1.heap.size) (u := [ptr nb]) hE apSet lit_set rfl ⟨_, rfl, v3⟩ (fun c hc => by have := hG3 c hc; omega) (by omega) fun l4 w4 k4 hR4 ho4 => ?_
  have b4 := (k13.no k4).get b1 fun h => h
  obtain ⟨a4, c4, rfl, _⟩ := hR4.slice
  try simp [-getElem?_pos, -Array.getElem?_eq_getElem, -Int.natCast_add, add_spot, and_assoc, Br_dec, -op_box, -op_alloc_64, -op_st_64, -op_alloc_52, -op_st_52, -op_lit_60_1]
  obtain ⟨I, hI⟩ : ∃ I : Value → Value → World → Prop, ∀ l v wl, I l v wl ↔ ∃ (i : Nat) (G : Nat → Prop), v = .int .i64 i ∧ i ≤ steps.length ∧ Frm (fun _ => False) w1 wl ∧
      RowsOf (ElS hash nl) wl w1.heap.size 64 1 l (versS hash values (steps.take i)) G := ⟨_, fun _ _ _ => Iff.rfl⟩
  refine Lp.intro I (fun _ v _ => steps.length - natOf v) ⟨(hI _ _ _).2 ⟨0, G3, rfl, by omega, k13.no k4, hR4⟩, ?_⟩
  intro wl l v hl
  obtain ⟨i, G, rfl, hi, kl, hR⟩ := (hI _ _ _).1 hl
  simp only [op_lss, Br_dec]
  refine ⟨fun hlt' => ?_, fun hnl' => ?_⟩
  rotate_left
  · have : i = steps.length := by omega
    subst this
    rw [List.take_length] at hR
    exact hK l wl G (k1.no kl) (hR.base_le (by omega))
  have hi' : i < steps.length := by omega
  have htk : steps.take (i + 1) = steps.take i ++ [steps[i]] := List.take_succ_eq_append_getElem hi'
  have hct := mcost_take steps (i + 1)
  rw [htk, mcost_snoc] at hct
  obtain ⟨f1, f2, f3, f4, f5⟩ := hfit i hi'
  obtain ⟨bp, o, cs, e, fz, rfl, hcs, hsz, hext⟩ := ((h1.frame k1 fun _ _ h => h).frame kl (fun _ _ h => h)).part mcells_len (by decide) hi'
  generalize hst : steps[i] = s at *
  have hlow := hR.own_lt
  have bl := kl.get b1 fun h => h
  simp [-getElem?_pos, -Array.getElem?_eq_getElem, -Int.natCast_add, add_spot, and_assoc, Br_dec, -op_box, -op_alloc_64, -op_st_64, -op_alloc_52, -op_st_52, -op_lit_60_1, hcs, hsz, hext]
  refine ⟨hi', ?_⟩
  refine op_alloc_ok (z := .agg #[.int .u8 0, .int .i64 0, .int .i64 0, .int .i64 0, .int .i64 0]) (by kernel_rfl) fun w5 k5 z5 b5 => ?_
  simp only [cells_agg] at b5
  refine op_storeN_ok (n := 5) (by kernel_rfl) b5 rfl (by decide) (by simp [MStep.cells]) fun w6 k6 z6 b6 => ?_
  have b6 : w6.heap[wl.heap.size]? = some (.cells s.cells.toArray 52 (0, 0)) := by
    rw [ow_all (by simp [MStep.cells])] at b6; simpa [MStep.cells] using b6
  have n5 := k5.size
  have n6 := k6.size
  have k56 : Frm (fun _ => False) wl w6 := k5.old k6 fun c hc => .inr (by omega)
  have bl6 := k56.get bl fun h => h
  simp [-getElem?_pos, -Array.getElem?_eq_getElem, -Int.natCast_add, add_spot, and_assoc, Br_dec, -op_box, -op_alloc_64, -op_st_64, -op_alloc_52, -op_st_52, -op_lit_60_1, bl6, hx3]
  refine hasherS_ok (md := md) (ml := ml) (sh := sh) fun h7 w7 k7 o7 hh7 => ?_
  rw [hhash, hnl] at hh7
  try simp [-getElem?_pos, -Array.getElem?_eq_getElem, -Int.natCast_add, add_spot, and_assoc, Br_dec, -op_box, -op_alloc_64, -op_st_64, -op_alloc_52, -op_st_52, -op_lit_60_1]
  refine NewSet_ok (xs := []) (a1 := none) (c1 := 0) hdef hh7 o7 hlt (.inl rfl) (by simp) fun nb8 w8 G8 k8 v8 hG8 => ?_
  try simp [-getElem?_pos, -Array.getElem?_eq_getElem, -Int.natCast_add, add_spot, and_assoc, Br_dec, -op_box, -op_alloc_64, -op_st_64, -op_alloc_52, -op_st_52, -op_lit_60_1]
  refine op_alloc_ok (z := .agg #[.pointer none]) (by kernel_rfl) fun w9 k9 z9 b9 => ?_
  simp only [cells_agg] at b9
  refine putSet_ok b9 fun w10 k10 z10 b10 => ?_
  have n7 := k7.size
  have n8 := k8.size
  have k78 := k7.no k8
  have k58 := k56.no k78
  generalize hmb : w8.heap.size = mb at *
  have k510 : Frm (fun _ => False) wl w10 := (k58.no k9).old k10 fun c hc => .inr (by omega)
  have s10 : w10.heap[wl.heap.size]? = some (.cells #[.int .u8 s.kind, .int .i64 s.fro, .int .i64 s.key, .int .i64 s.value, .int .i64 s.count] 52 (0, 0)) := k10.get ((k78.no k9).get b6 fun h => h) (by omega)
  have hR10 := hR.still hE k510
  have hlv : (versS hash values (steps.take i)).length = i + 1 := by rw [versS_len, List.length_take]; omega
  obtain ⟨q, hq⟩ : ∃ q : Nat, s.fro = q := ⟨s.fro.toNat, by omega⟩
  have hq1 : q < (versS hash values (steps.take i)).length := by omega
  obtain ⟨u, g, c, cur, hlg, hg1, hg2, hg3, hg4, hg5, bv, hub, hV⟩ := hR10.get hq1
  subst hlg hub
  generalize ht : (versS hash values (steps.take i))[q] = t0 at hV
  have hsize : (toL t0).length ≤ values.length + mcost (steps.take i) := (versS_size hlt values (steps.take i) q (by rw [List.getElem?_eq_getElem hq1, ht])).2
  have hnext : versS hash values (steps.take (i + 1)) = versS hash values (steps.take i) ++ [setStep hash t0 s] := by
    have e1 : (vers (setStep hash) MStep.ref (setFirst hash values) (steps.take i))[s.ref]? = some t0 := by
      have : s.ref = q := by simp [MStep.ref, hq]
      rw [this, ← ht]; exact List.getElem?_eq_getElem hq1
    rw [htk, versS, vers_snoc, e1]; rfl
  have hcost : s.cost = 1 + s.count.toNat := rfl
  obtain ⟨J, hJ⟩ : ∃ J : World → Prop, ∀ w', J w' ↔ ∃ (b' : Nat) (G2 : Nat → Prop), Frm (fun _ => False) wl w' ∧ w'.heap[mb]? = some (.cells #[ptr b'] 64 (0, 0)) ∧ Ver w' b' hash nl (setStep hash t0 s) G2 ∧ ∀ c, G2 c → (G c ∨ wl.heap.size ≤ c) ∧ c < w'.heap.size := ⟨_, fun _ => Iff.rfl⟩
  refine Jn.intro J ⟨?_, ?_⟩
  rotate_left
  · intro w9 hm
    obtain ⟨b', G2, k9, bm9, v9, hG2⟩ := (hJ _).1 hm
    try simp [-getElem?_pos, -Array.getElem?_eq_getElem, -Int.natCast_add, add_spot, and_assoc, Br_dec, -op_box, -op_alloc_64, -op_st_64, -op_alloc_52, -op_st_52, -op_lit_60_1, bm9, ex1]
    refine op_push (u := [ptr b']) hE apSet lit_set rfl (by simp [ptr]) (hR.still hE k9) ⟨b', rfl, v9⟩ (fun c hc => ?_) (fun b hb hc => ?_) (by omega) (by have := k9.size; have := kl.size; omega) fun l10 w10 k10 hR10 ho10 => ?_
    · refine ⟨?_, (hG2 c hc).2⟩
      rcases (hG2 c hc).1 with h | h
      · exact (hR.low c h).1
      · have := kl.size; omega
    · rcases (hG2 b hc).1 with h | h
      · exact hR.off b hb h
      · have := hlow b hb; omega
    · try simp [-getElem?_pos, -Array.getElem?_eq_getElem, -Int.natCast_add, add_spot, and_assoc, Br_dec, -op_box, -op_alloc_64, -op_st_64, -op_alloc_52, -op_st_52, -op_lit_60_1]
      rw [wrap_i64_small (by omega) (by omega)]
      refine ⟨(hI _ _ _).2 ⟨i + 1, _, by simp, by omega, (kl.no k9).old k10 fun c hc => .inr (by have := hlow c hc.symm; omega), by rw [hnext]; exact hR10⟩, ?_⟩
      simp only [natOf]; omega
  have hx5 := cells5 s
  simp [-getElem?_pos, -Array.getElem?_eq_getElem, -Int.natCast_add, add_spot, and_assoc, Br_dec, -op_box, -op_alloc_64, -op_st_64, -op_alloc_52, -op_st_52, -op_lit_60_1, s10, hx5]
  rw [hlv]
  refine mapStep_ok (s := s) (n := i + 1) f2 (by omega) f1 f4 f5 fun w11 k11 => ?_
  have s11 := k11.get s10 fun h => h
  have hg11 := k11.get hg1 fun h => h
  have bm11 := k11.get b10 fun h => h
  have hV11 := hV.still k11
  have n11 := k11.size
  have n10 := k10.size
  rw [Nat.mul_one] at hg4 hg5
  simp [-getElem?_pos, -Array.getElem?_eq_getElem, -Int.natCast_add, add_spot, and_assoc, Br_dec, -op_box, -op_alloc_64, -op_st_64, -op_alloc_52, -op_st_52, -op_lit_60_1, s11, hq, hg11, hg4, hg5]
  refine ⟨by omega, ?_⟩
  refine putSet_ok bm11 fun w12 k12 z12 b12 => ?_
  have s12 := k12.get s11 (by omega)
  have n9 := k9.size
  have hGm : ∀ c, G c → c < wl.heap.size := fun c hc => (hR.low c hc).2
  have hV12 := hV11.frame k12 fun c hc e => by have := hGm c hc; omega
  have k012 : Frm (fun _ => False) wl w12 := (k510.no k11).old k12 fun c hc => .inr (by omega)
  have n12 := k12.size
  have hdone : ∀ {b' : Nat} {wz : World} {t' : Tr} {G2 : Nat → Prop}, t' = setStep hash t0 s → Frm (fun _ => False) w12 wz → Ver wz b' hash nl t' G2 → (∀ c, G2 c → (G c ∨ w12.heap.size ≤ c) ∧ c < wz.heap.size) →
      (nice Tryz.prog).op (.store 64 (.pointer (some ⟨mb, 0, none⟩)) (setV b')) wz (fun _ w => J w) Kp := fun {b' wz t' G2} he kz vz hz => by
    subst he
    refine putSet_ok (kz.get b12 fun h => h) fun wy ky zy by' => ?_
    have := kz.size
    refine (hJ _).2 ⟨b', G2, (k012.no kz).old ky fun c hc => .inr (by omega), by', vz.frame ky fun c hc e => ?_, fun c hc => ⟨?_, by have := (hz c hc).2; omega⟩⟩
    · rcases (hz c hc).1 with h | h
      · have := hGm c h; omega
      · omega
    · rcases (hz c hc).1 with h | h
      · exact .inl h
      · exact .inr (by omega)
  have hkind : s.kind = 0 ∨ s.kind = 1 ∨ s.kind = 2 ∨ s.kind = 3 := by omega
  rcases hkind with hk | hk | hk | hk
  · simp [-getElem?_pos, -Array.getElem?_eq_getElem, -Int.natCast_add, add_spot, and_assoc, Br_dec, -op_box, -op_alloc_64, -op_st_64, -op_alloc_52, -op_st_52, -op_lit_60_1, hk, s12, b12, ex1]
    refine Add_ok (k := s.key) hdef hV12 (by omega) fun b' wz F' kz vz hz => hdone (by simp only [setStep, hk]) kz vz hz
  · simp [-getElem?_pos, -Array.getElem?_eq_getElem, -Int.natCast_add, add_spot, and_assoc, Br_dec, -op_box, -op_alloc_64, -op_st_64, -op_alloc_52, -op_st_52, -op_lit_60_1, hk, s12, b12, ex1]
    refine SDelete_ok (k := s.key) hV12 (by omega) fun b' wz F' kz vz hz => hdone (by simp only [setStep, hk]) kz vz hz
  · simp [-getElem?_pos, -Array.getElem?_eq_getElem, -Int.natCast_add, add_spot, and_assoc, Br_dec, -op_box, -op_alloc_64, -op_st_64, -op_alloc_52, -op_st_52, -op_lit_60_1, hk, s12]
    obtain ⟨I2, hI2⟩ : ∃ I2 : Value → World → Prop, ∀ v wz, I2 v wz ↔ ∃ (j b' : Nat) (G2 : Nat → Prop), v = .int .i64 j ∧ (j : Int) ≤ s.count ∧ Frm (fun c => c = mb) w12 wz ∧ wz.heap[mb]? = some (.cells #[ptr b'] 64 (0, 0)) ∧ Ver wz b' hash nl (addN hash s.key s.value t0 j) G2 ∧ (∀ c, G2 c → (G c ∨ w12.heap.size ≤ c) ∧ c < wz.heap.size) := ⟨_, fun _ _ => Iff.rfl⟩
    refine Lp.intro I2 (fun v _ => s.count.toNat - natOf v) ⟨(hI2 _ _).2 ⟨0, bv, G, rfl, by omega, Frm.refl, b12, hV12, fun c hc => ⟨.inl hc, by have := hGm c hc; omega⟩⟩, ?_⟩
    intro wz v hm
    obtain ⟨j, b', G2, rfl, hj, kz, bz, vz, hz⟩ := (hI2 _ _).1 hm
    have sz := kz.get s12 (by omega)
    have hsz2 := (addN_len hlt hV12.1 (k := s.key) (v := s.value) j).2
    simp [-getElem?_pos, -Array.getElem?_eq_getElem, -Int.natCast_add, add_spot, and_assoc, Br_dec, -op_box, -op_alloc_64, -op_st_64, -op_alloc_52, -op_st_52, -op_lit_60_1, sz]
    refine ⟨fun hlt2 => ?_, fun hge => ?_⟩
    · simp [-getElem?_pos, -Array.getElem?_eq_getElem, -Int.natCast_add, add_spot, and_assoc, Br_dec, -op_box, -op_alloc_64, -op_st_64, -op_alloc_52, -op_st_52, -op_lit_60_1, bz, ex1, sz]
      refine Add_ok (k := kAt s.key s.value j) hdef vz (by omega) fun b'' wy F' ky vy hy => ?_
      rw [← addN_succ] at vy
      have := kz.size
      refine putSet_ok (ky.get bz fun h => h) fun wx kx zx bx => ?_
      try simp [-getElem?_pos, -Array.getElem?_eq_getElem, -Int.natCast_add, add_spot, and_assoc, Br_dec, -op_box, -op_alloc_64, -op_st_64, -op_alloc_52, -op_st_52, -op_lit_60_1]
      rw [wrap_i64_small (by omega) (by omega)]
      have hy2 : ∀ c, F' c → (G c ∨ w12.heap.size ≤ c) ∧ c < wy.heap.size := fun c hc => ⟨by rcases (hy c hc).1 with h | h; exact (hz c h).1; exact .inr (by omega), (hy c hc).2⟩
      refine ⟨(hI2 _ _).2 ⟨j + 1, b'', F', by simp, by omega, (kz.tr (ky.fst kx)).to fun c hc => hc.elim id id, bx, vy.frame kx fun c hc e => ?_, fun c hc => ⟨(hy2 c hc).1, by have := (hy2 c hc).2; omega⟩⟩, ?_⟩
      · rcases (hy2 c hc).1 with h | h
        · have := hGm c h; omega
        · omega
      · simp only [natOf]; omega
    · have : j = s.count.toNat := by omega
      subst this
      have := kz.size
      exact (hJ _).2 ⟨b', G2, k012.old kz fun c hc => .inr (by omega), bz, by simpa only [setStep, hk] using vz, fun c hc => ⟨by rcases (hz c hc).1 with h | h; exact .inl h; exact .inr (by omega), (hz c hc).2⟩⟩
  · simp [-getElem?_pos, -Array.getElem?_eq_getElem, -Int.natCast_add, add_spot, and_assoc, Br_dec, -op_box, -op_alloc_64, -op_st_64, -op_alloc_52, -op_st_52, -op_lit_60_1, hk, s12]
    obtain ⟨I2, hI2⟩ : ∃ I2 : Value → World → Prop, ∀ v wz, I2 v wz ↔ ∃ (j b' : Nat) (G2 : Nat → Prop), v = .int .i64 j ∧ (j : Int) ≤ s.count ∧ Frm (fun c => c = mb) w12 wz ∧ wz.heap[mb]? = some (.cells #[ptr b'] 64 (0, 0)) ∧ Ver wz b' hash nl (remN hash s.key s.value t0 j) G2 ∧ (∀ c, G2 c → (G c ∨ w12.heap.size ≤ c) ∧ c < wz.heap.size) := ⟨_, fun _ _ => Iff.rfl⟩
    refine Lp.intro I2 (fun v _ => s.count.toNat - natOf v) ⟨(hI2 _ _).2 ⟨0, bv, G, rfl, by omega, Frm.refl, b12, hV12, fun c hc => ⟨.inl hc, by have := hGm c hc; omega⟩⟩, ?_⟩
    intro wz v hm
    obtain ⟨j, b', G2, rfl, hj, kz, bz, vz, hz⟩ := (hI2 _ _).1 hm
    have sz := kz.get s12 (by omega)
    have hsz2 := (remN_len hV12.1 (k := s.key) (v := s.value) j).2
    simp [-getElem?_pos, -Array.getElem?_eq_getElem, -Int.natCast_add, add_spot, and_assoc, Br_dec, -op_box, -op_alloc_64, -op_st_64, -op_alloc_52, -op_st_52, -op_lit_60_1, sz]
    refine ⟨fun hlt2 => ?_, fun hge => ?_⟩
    · simp [-getElem?_pos, -Array.getElem?_eq_getElem, -Int.natCast_add, add_spot, and_assoc, Br_dec, -op_box, -op_alloc_64, -op_st_64, -op_alloc_52, -op_st_52, -op_lit_60_1, bz, ex1, sz]
      refine SDelete_ok (k := kAt s.key s.value j) vz (by omega) fun b'' wy F' ky vy hy => ?_
      rw [← remN_succ] at vy
      have := kz.size
      refine putSet_ok (ky.get bz fun h => h) fun wx kx zx bx => ?_
      try simp [-getElem?_pos, -Array.getElem?_eq_getElem, -Int.natCast_add, add_spot, and_assoc, Br_dec, -op_box, -op_alloc_64, -op_st_64, -op_alloc_52, -op_st_52, -op_lit_60_1]
      rw [wrap_i64_small (by omega) (by omega)]
      have hy2 : ∀ c, F' c → (G c ∨ w12.heap.size ≤ c) ∧ c < wy.heap.size := fun c hc => ⟨by rcases (hy c hc).1 with h | h; exact (hz c h).1; exact .inr (by omega), (hy c hc).2⟩
      refine ⟨(hI2 _ _).2 ⟨j + 1, b'', F', by simp, by omega, (kz.tr (ky.fst kx)).to fun c hc => hc.elim id id, bx, vy.frame kx fun c hc e => ?_, fun c hc => ⟨(hy2 c hc).1, by have := (hy2 c hc).2; omega⟩⟩, ?_⟩
      · rcases (hy2 c hc).1 with h | h
        · have := hGm c h; omega
        · omega
      · simp only [natOf]; omega
    · have : j = s.count.toNat := by omega
      subst this
      have := kz.size
      exact (hJ _).2 ⟨b', G2, k012.old kz fun c hc => .inr (by omega), bz, by simpa only [setStep, hk] using vz, fun c hc => ⟨by rcases (hz c hc).1 with h | h; exact .inl h; exact .inr (by omega), (hz c hc).2⟩⟩
end Go.Proofs.YtbghmbbhkoniiaaGreat.S
end
section
/- A seat's own rewriting rules of single operations, printed by program out of its types and functions. -/
namespace Go.Proofs.YtbghmbbhkoniiaaGreat
open Go.Vc Go.Proofs
variable {w : World} {K : Value → World → Prop} {Kp : KP} {K1 : Value → Prop}
@[simp] theorem call_39 {args : List Value} : (nice Tryz.prog).call (.fn 39) args w K Kp = Calls Tryz.prog 39 args.toArray w (ret K Kp) := call_fn (by kernel_rfl)
@[simp] theorem call_19 {args : List Value} : (nice Tryz.prog).call (.fn 19) args w K Kp = Calls Tryz.prog 19 args.toArray w (ret K Kp) := call_fn (by kernel_rfl)
@[simp] theorem call_21 {args : List Value} : (nice Tryz.prog).call (.fn 21) args w K Kp = Calls Tryz.prog 21 args.toArray w (ret K Kp) := call_fn (by kernel_rfl)
@[simp] theorem call_22 {args : List Value} : (nice Tryz.prog).call (.fn 22) args w K Kp = Calls Tryz.prog 22 args.toArray w (ret K Kp) := call_fn (by kernel_rfl)
@[simp] theorem call_23 {args : List Value} : (nice Tryz.prog).call (.fn 23) args w K Kp = Calls Tryz.prog 23 args.toArray w (ret K Kp) := call_fn (by kernel_rfl)
theorem lit_25_1 {x0 : Value} (h0 : x0.oneCell' = true) : sliceLit Tryz.prog 25 1 [(0, x0)] = some (2, #[x0]) := by
  have e : sliceLit Tryz.prog 25 1 [(0, x0)] = (Instr.fill (fun i => some (i * 1, 1)) (#[Value.int IntKind.i64 0]) [(0, x0)]).map fun cs => (2, cs) := by kernel_rfl
  rw [e]; simp [Instr.fill, cells_of_one h0]
@[simp] theorem op_lit_25_1 {x0 : Value} (h0 : x0.oneCell' = true) : (nice Tryz.prog).op (.buildSlice 25 1 [(0, x0)]) w K Kp = K (.slice (some ⟨w.heap.size, 0, none⟩) 1 1) (w.alloc (.cells #[x0] 2)) := op_lit (lit_25_1 h0)
@[simp] theorem call_40 {args : List Value} : (nice Tryz.prog).call (.fn 40) args w K Kp = Calls Tryz.prog 40 args.toArray w (ret K Kp) := call_fn (by kernel_rfl)
theorem build_92_0 {x0 : Value} (h0 : x0.oneCell' = true) : buildV Tryz.prog 92 [(0, x0)] = some (.agg (#[x0])) := by
  have e : buildV Tryz.prog 92 [(0, x0)] = (Instr.fill ((#[(0, 1)] : Array (Nat × Nat))[·]?) (#[Value.pointer none]) [(0, x0)]).map .agg := by kernel_rfl
  rw [e]; simp [Instr.fill, cells_of_one h0]
@[simp] theorem op_build_92_0 {x0 : Value} (h0 : x0.oneCell' = true) : (nice Tryz.prog).op (.build 92 [(0, x0)]) w K Kp = K (.agg (#[x0])) w := op_build (build_92_0 h0)
@[simp] theorem pur_build_92_0 {x0 : Value} (h0 : x0.oneCell' = true) : (nice Tryz.prog).pur (.build 92 [(0, x0)]) K1 = K1 (.agg (#[x0])) := pur_build (build_92_0 h0)
@[simp] theorem op_fa_92_0 {p : Addr} : (nice Tryz.prog).op (.fieldAddr 92 (.pointer (some p)) 0) w K Kp = K (.pointer (some (p.add 0))) w := op_fa (k := .one) (by kernel_rfl)
@[simp] theorem pur_fa_92_0 {p : Addr} : (nice Tryz.prog).pur (.fieldAddr 92 (.pointer (some p)) 0) K1 = K1 (.pointer (some (p.add 0))) := pur_fa (k := .one) (by kernel_rfl)
@[simp] theorem op_ld_89 {p : Addr} : (nice Tryz.prog).op (.load 89 (.pointer (some p))) w K Kp = ∃ cs e fz, w.heap[p.block]? = some (.cells cs e fz) ∧ p.spot = none ∧ ∃ v, cs[p.off]? = some v ∧ K v w := op_ld (by kernel_rfl)
@[simp] theorem ld_ld_89 {p : Addr} : (nice Tryz.prog).ld (.load 89 (.pointer (some p))) w K1 = ∃ cs e fz, w.heap[p.block]? = some (.cells cs e fz) ∧ p.spot = none ∧ ∃ v, cs[p.off]? = some v ∧ K1 v := ld_ld (by kernel_rfl)
@[simp] theorem same_ld_89 {p : Addr} {v : Value} : (nice Tryz.prog).same (.load 89 (.pointer (some p))) v w = ∃ cs e fz, w.heap[p.block]? = some (.cells cs e fz) ∧ p.spot = none ∧ cs[p.off]? = some v := same_ld (by kernel_rfl)
@[simp] theorem call_43 {args : List Value} : (nice Tryz.prog).call (.fn 43) args w K Kp = Calls Tryz.prog 43 args.toArray w (ret K Kp) := call_fn (by kernel_rfl)
@[simp] theorem call_18 {args : List Value} : (nice Tryz.prog).call (.fn 18) args w K Kp = Calls Tryz.prog 18 args.toArray w (ret K Kp) := call_fn (by kernel_rfl)
@[simp] theorem call_20 {args : List Value} : (nice Tryz.prog).call (.fn 20) args w K Kp = Calls Tryz.prog 20 args.toArray w (ret K Kp) := call_fn (by kernel_rfl)
theorem build_36_0_1 {x0 : Value} {x1 : Value} (h0 : x0.oneCell' = true) (h1 : x1.oneCell' = true) : buildV Tryz.prog 36 [(0, x0), (1, x1)] = some (.agg (#[x0, x1, Value.slice none 0 0])) := by
  have e : buildV Tryz.prog 36 [(0, x0), (1, x1)] = (Instr.fill ((#[(0, 1), (1, 1), (2, 1)] : Array (Nat × Nat))[·]?) (#[Value.int IntKind.i64 0, Value.slice none 0 0, Value.slice none 0 0]) [(0, x0), (1, x1)]).map .agg := by kernel_rfl
  rw [e]; simp [Instr.fill, cells_of_one h0, cells_of_one h1]
@[simp] theorem op_build_36_0_1 {x0 : Value} {x1 : Value} (h0 : x0.oneCell' = true) (h1 : x1.oneCell' = true) : (nice Tryz.prog).op (.build 36 [(0, x0), (1, x1)]) w K Kp = K (.agg (#[x0, x1, Value.slice none 0 0])) w := op_build (build_36_0_1 h0 h1)
@[simp] theorem pur_build_36_0_1 {x0 : Value} {x1 : Value} (h0 : x0.oneCell' = true) (h1 : x1.oneCell' = true) : (nice Tryz.prog).pur (.build 36 [(0, x0), (1, x1)]) K1 = K1 (.agg (#[x0, x1, Value.slice none 0 0])) := pur_build (build_36_0_1 h0 h1)
@[simp] theorem op_alloc_36 : (nice Tryz.prog).op (.alloc 36) w K Kp = K (.pointer (some ⟨w.heap.size, 0, none⟩)) (w.alloc (.cells #[Value.int IntKind.i64 0, Value.slice none 0 0, Value.slice none 0 0] 36)) := op_alloc (z := (.agg #[(Value.int IntKind.i64 0), (Value.slice none 0 0), (Value.slice none 0 0)])) (by kernel_rfl)
@[simp] theorem op_ld_36 {p : Addr} : (nice Tryz.prog).op (.load 36 (.pointer (some p))) w K Kp = ∃ cs e fz, w.heap[p.block]? = some (.cells cs e fz) ∧ p.spot = none ∧ p.off + 3 ≤ cs.size ∧ K (.agg (cs.extract p.off (p.off + 3))) w := op_ldn (by kernel_rfl)
@[simp] theorem ld_ld_36 {p : Addr} : (nice Tryz.prog).ld (.load 36 (.pointer (some p))) w K1 = ∃ cs e fz, w.heap[p.block]? = some (.cells cs e fz) ∧ p.spot = none ∧ p.off + 3 ≤ cs.size ∧ K1 (.agg (cs.extract p.off (p.off + 3))) := ld_ldn (by kernel_rfl)
@[simp] theorem same_ld_36 {p : Addr} {v : Value} : (nice Tryz.prog).same (.load 36 (.pointer (some p))) v w = ∃ cs e fz, w.heap[p.block]? = some (.cells cs e fz) ∧ p.spot = none ∧ p.off + 3 ≤ cs.size ∧ .agg (cs.extract p.off (p.off + 3)) = v := same_ldn (by kernel_rfl)
@[simp] theorem op_st_36 {p : Addr} {vs : Array Value} : (nice Tryz.prog).op (.store 36 (.pointer (some p)) (.agg vs)) w K Kp = (vs.size = 3 ∧ (∀ u ∈ vs.toList, u.oneCell' = true) ∧ ∃ cs e, w.heap[p.block]? = some (.cells cs e (0, 0)) ∧ p.spot = none ∧ p.off + 3 ≤ cs.size ∧ K undef (w.upd p.block (.cells (ow cs p.off vs.toList) e (0, 0)))) := op_stn (by kernel_rfl)
@[simp] theorem op_fa_36_2 {p : Addr} : (nice Tryz.prog).op (.fieldAddr 36 (.pointer (some p)) 2) w K Kp = K (.pointer (some (p.add 2))) w := op_fa (k := .one) (by kernel_rfl)
@[simp] theorem pur_fa_36_2 {p : Addr} : (nice Tryz.prog).pur (.fieldAddr 36 (.pointer (some p)) 2) K1 = K1 (.pointer (some (p.add 2))) := pur_fa (k := .one) (by kernel_rfl)
@[simp] theorem op_ld_25 {p : Addr} : (nice Tryz.prog).op (.load 25 (.pointer (some p))) w K Kp = ∃ cs e fz, w.heap[p.block]? = some (.cells cs e fz) ∧ p.spot = none ∧ ∃ v, cs[p.off]? = some v ∧ K v w := op_ld (by kernel_rfl)
@[simp] theorem ld_ld_25 {p : Addr} : (nice Tryz.prog).ld (.load 25 (.pointer (some p))) w K1 = ∃ cs e fz, w.heap[p.block]? = some (.cells cs e fz) ∧ p.spot = none ∧ ∃ v, cs[p.off]? = some v ∧ K1 v := ld_ld (by kernel_rfl)
@[simp] theorem same_ld_25 {p : Addr} {v : Value} : (nice Tryz.prog).same (.load 25 (.pointer (some p))) v w = ∃ cs e fz, w.heap[p.block]? = some (.cells cs e fz) ∧ p.spot = none ∧ cs[p.off]? = some v := same_ld (by kernel_rfl)
@[simp] theorem op_st_25 {p : Addr} {v : Value} : (nice Tryz.prog).op (.store 25 (.pointer (some p)) v) w K Kp = ∃ cs e, w.heap[p.block]? = some (.cells cs e (0, 0)) ∧ p.spot = none ∧ p.off < cs.size ∧ v.oneCell' = true ∧ K undef (w.upd p.block (.cells (cs.setIfInBounds p.off v) e (0, 0))) := op_st (by kernel_rfl)
theorem lit_31_1 {y0_0 y0_1 y0_2 : Value} : sliceLit Tryz.prog 31 1 [(0, .agg #[y0_0, y0_1, y0_2])] = some (36, #[y0_0, y0_1, y0_2]) := by
  have e : sliceLit Tryz.prog 31 1 [(0, .agg #[y0_0, y0_1, y0_2])] = (Instr.fill (fun i => some (i * 3, 3)) (#[Value.int IntKind.i64 0, Value.slice none 0 0, Value.slice none 0 0]) [(0, .agg #[y0_0, y0_1, y0_2])]).map fun cs => (36, cs) := by kernel_rfl
  rw [e]; simp [Instr.fill, Value.cells]
@[simp] theorem op_lit_31_1 {y0_0 y0_1 y0_2 : Value} : (nice Tryz.prog).op (.buildSlice 31 1 [(0, .agg #[y0_0, y0_1, y0_2])]) w K Kp = K (.slice (some ⟨w.heap.size, 0, none⟩) 1 1) (w.alloc (.cells #[y0_0, y0_1, y0_2] 36)) := op_lit (lit_31_1)
@[simp] theorem call_5 {args : List Value} : (nice Tryz.prog).call (.fn 5) args w K Kp = Calls Tryz.prog 5 args.toArray w (ret K Kp) := call_fn (by kernel_rfl)
@[simp] theorem call_6 {args : List Value} : (nice Tryz.prog).call (.fn 6) args w K Kp = Calls Tryz.prog 6 args.toArray w (ret K Kp) := call_fn (by kernel_rfl)
@[simp] theorem op_len_29 {a : Option Addr} {n c ty : Nat} : (nice Tryz.prog).op (.blt .len [29] ty [.slice a n c]) w K Kp = K (.int .i64 n) w := op_len_slice (by kernel_rfl)
@[simp] theorem pur_len_29 {a : Option Addr} {n c ty : Nat} : (nice Tryz.prog).pur (.blt .len [29] ty [.slice a n c]) K1 = K1 (.int .i64 n) := pur_len_slice (by kernel_rfl)
@[simp] theorem ld_len_29 {a : Option Addr} {n c ty : Nat} : (nice Tryz.prog).ld (.blt .len [29] ty [.slice a n c]) w K1 = K1 (.int .i64 n) := ld_len_slice (by kernel_rfl)
@[simp] theorem same_len_29 {a : Option Addr} {n c ty : Nat} {u : Value} : (nice Tryz.prog).same (.blt .len [29] ty [.slice a n c]) u w = (.int .i64 n = u) := same_len_slice (by kernel_rfl)
@[simp] theorem call_9 {args : List Value} : (nice Tryz.prog).call (.fn 9) args w K Kp = Calls Tryz.prog 9 args.toArray w (ret K Kp) := call_fn (by kernel_rfl)
@[simp] theorem op_len_44 {a : Option Addr} {n c ty : Nat} : (nice Tryz.prog).op (.blt .len [44] ty [.slice a n c]) w K Kp = K (.int .i64 n) w := op_len_slice (by kernel_rfl)
@[simp] theorem pur_len_44 {a : Option Addr} {n c ty : Nat} : (nice Tryz.prog).pur (.blt .len [44] ty [.slice a n c]) K1 = K1 (.int .i64 n) := pur_len_slice (by kernel_rfl)
@[simp] theorem ld_len_44 {a : Option Addr} {n c ty : Nat} : (nice Tryz.prog).ld (.blt .len [44] ty [.slice a n c]) w K1 = K1 (.int .i64 n) := ld_len_slice (by kernel_rfl)
@[simp] theorem same_len_44 {a : Option Addr} {n c ty : Nat} {u : Value} : (nice Tryz.prog).same (.blt .len [44] ty [.slice a n c]) u w = (.int .i64 n = u) := same_len_slice (by kernel_rfl)
@[simp] theorem op_neq_4 {xc yc x y : Bool} : (nice Tryz.prog).op (.bin BinOp.neq 4 xc yc (.bool x) (.bool y)) w K Kp = K (.bool (!(x == y))) w := op_eq_bool (by kernel_rfl) rfl
@[simp] theorem pur_neq_4 {xc yc x y : Bool} : (nice Tryz.prog).pur (.bin BinOp.neq 4 xc yc (.bool x) (.bool y)) K1 = K1 (.bool (!(x == y))) := pur_eq_bool (by kernel_rfl) rfl
@[simp] theorem call_7 {args : List Value} : (nice Tryz.prog).call (.fn 7) args w K Kp = Calls Tryz.prog 7 args.toArray w (ret K Kp) := call_fn (by kernel_rfl)
@[simp] theorem call_8 {args : List Value} : (nice Tryz.prog).call (.fn 8) args w K Kp = Calls Tryz.prog 8 args.toArray w (ret K Kp) := call_fn (by kernel_rfl)
@[simp] theorem op_len_31 {a : Option Addr} {n c ty : Nat} : (nice Tryz.prog).op (.blt .len [31] ty [.slice a n c]) w K Kp = K (.int .i64 n) w := op_len_slice (by kernel_rfl)
@[simp] theorem pur_len_31 {a : Option Addr} {n c ty : Nat} : (nice Tryz.prog).pur (.blt .len [31] ty [.slice a n c]) K1 = K1 (.int .i64 n) := pur_len_slice (by kernel_rfl)
@[simp] theorem ld_len_31 {a : Option Addr} {n c ty : Nat} : (nice Tryz.prog).ld (.blt .len [31] ty [.slice a n c]) w K1 = K1 (.int .i64 n) := ld_len_slice (by kernel_rfl)
@[simp] theorem same_len_31 {a : Option Addr} {n c ty : Nat} {u : Value} : (nice Tryz.prog).same (.blt .len [31] ty [.slice a n c]) u w = (.int .i64 n = u) := same_len_slice (by kernel_rfl)
@[simp] theorem op_ix_31 {p : Addr} {len cap : Nat} {k : IntKind} {j : Int} : (nice Tryz.prog).op (.indexAddr 31 (.slice (some p) len cap) (.int k j)) w K Kp = ((0 ≤ j ∧ j < (len : Int)) ∧ K (.pointer (some (p.add (j.toNat * 3)))) w) := op_ix_slice (e := 36) (by kernel_rfl)
@[simp] theorem pur_ix_31 {p : Addr} {len cap : Nat} {k : IntKind} {j : Int} : (nice Tryz.prog).pur (.indexAddr 31 (.slice (some p) len cap) (.int k j)) K1 = ((0 ≤ j ∧ j < (len : Int)) ∧ K1 (.pointer (some (p.add (j.toNat * 3))))) := pur_ix_slice (e := 36) (by kernel_rfl)
@[simp] theorem op_fa_36_0 {p : Addr} : (nice Tryz.prog).op (.fieldAddr 36 (.pointer (some p)) 0) w K Kp = K (.pointer (some (p.add 0))) w := op_fa (k := .one) (by kernel_rfl)
@[simp] theorem pur_fa_36_0 {p : Addr} : (nice Tryz.prog).pur (.fieldAddr 36 (.pointer (some p)) 0) K1 = K1 (.pointer (some (p.add 0))) := pur_fa (k := .one) (by kernel_rfl)
@[simp] theorem op_fa_36_1 {p : Addr} : (nice Tryz.prog).op (.fieldAddr 36 (.pointer (some p)) 1) w K Kp = K (.pointer (some (p.add 1))) w := op_fa (k := .one) (by kernel_rfl)
@[simp] theorem pur_fa_36_1 {p : Addr} : (nice Tryz.prog).pur (.fieldAddr 36 (.pointer (some p)) 1) K1 = K1 (.pointer (some (p.add 1))) := pur_fa (k := .one) (by kernel_rfl)
@[simp] theorem call_10 {args : List Value} : (nice Tryz.prog).call (.fn 10) args w K Kp = Calls Tryz.prog 10 args.toArray w (ret K Kp) := call_fn (by kernel_rfl)
end Go.Proofs.YtbghmbbhkoniiaaGreat
end
section
namespace Go.Proofs.YtbghmbbhkoniiaaGreat
open Go.Vc Go.Proofs
variable {S : Sig} {a0 a1 a2 a3 a4 a5 a6 a7 a8 a9 : Value} {w : World} {K : Value → World → Prop} {Kp : KP}
private theorem follows_MVcZ : Tryz.prog.follows .mixedOrders = true := by kernel_rfl

def vc19 (S : Sig) (a0 : Value) (w : World) (K : Value → World → Prop) (Kp : KP) : Prop :=
 S.op (.box 64 a0) w (fun v1_s w =>
 S.op (.fieldAddr 64 v1_s 0) w (fun v3 w =>
 S.op (.load 62 v3) w (fun v4 w =>
 S.call (.fn 39) [v4] w (fun v5 w =>
 K v5 w) Kp) Kp) Kp) Kp
theorem vc19_eq : vc19 S a0 w K Kp = fVC S [] [] Tryz.f19 [a0] w K Kp := by kernel_rfl
theorem vc19_calls (h : vc19 (nice Tryz.prog) a0 w K Kp) : Calls Tryz.prog 19 #[a0] w (ret K Kp) :=
 fVC_sound (args := [a0]) nice_le follows_MVcZ Tryz.func19 (by kernel_rfl) (Eq.mp vc19_eq h)

def vc20 (S : Sig) (a0 : Value) (w : World) (K : Value → World → Prop) (Kp : KP) : Prop :=
 S.op (.box 64 a0) w (fun v1_s w =>
 S.op (.load 64 v1_s) w (fun v7 w =>
 S.call (.fn 19) [v7] w (fun v8 w =>
 S.op (.mkSlice 25 (.int .i64 0) v8) w (fun v9 w =>
 S.op (.load 64 v1_s) w (fun v10 w =>
 S.call (.fn 21) [v10] w (fun v11 w =>
 Lp fun (I3 : Value → World → Prop) (μ3 : Value → World → Nat) => I3 v9 w ∧
 ∀ (wl3 : World) (junk : Nat → Value) (s3_r : Value), I3 s3_r wl3 →
 S.call (.fn 22) [v11] wl3 (fun v13 w =>
 S.op (.un .not v13) w (fun v14 w =>
 Br v14 (
 S.call (.fn 23) [v11] w (fun v17 w =>
 S.op (.extract v17 0) w (fun v18 w =>
 S.op (.extract v17 1) w (fun v19 w =>
 S.op (.buildSlice 25 1 [(0, v18)]) w (fun v22 w =>
 S.op (.blt .append [25, 25] 25 [s3_r, v22]) w (fun v23 w =>
 I3 v23 w ∧ μ3 v23 w < μ3 s3_r wl3) Kp) Kp) Kp) Kp) Kp) (
 K s3_r w)) Kp) Kp) Kp) Kp) Kp) Kp) Kp) Kp
theorem vc20_eq : vc20 S a0 w K Kp = fVC S [(3, [3])] [] Tryz.f20 [a0] w K Kp := by kernel_rfl
theorem vc20_calls (h : vc20 (nice Tryz.prog) a0 w K Kp) : Calls Tryz.prog 20 #[a0] w (ret K Kp) :=
 fVC_sound (args := [a0]) nice_le follows_MVcZ Tryz.func20 (by kernel_rfl) (Eq.mp vc20_eq h)

def vc21 (S : Sig) (a0 : Value) (w : World) (K : Value → World → Prop) (Kp : KP) : Prop :=
 S.op (.box 64 a0) w (fun v1_s w =>
 S.op (.fieldAddr 64 v1_s 0) w (fun v4 w =>
 S.op (.load 62 v4) w (fun v5 w =>
 S.call (.fn 40) [v5] w (fun v6 w =>
 S.op (.build 92 [(0, v6)]) w (fun v7 w =>
 S.op (.box 92 v7) w (fun v8 w =>
 S.op (.nilCheck v8) w (fun v10 w =>
 S.op (.fieldAddr 92 v10 0) w (fun v11 w =>
 S.op (.load 89 v11) w (fun v12 w =>
 S.call (.fn 41) [v12] w (fun v13 w =>
 K v8 w) Kp) Kp) Kp) Kp) Kp) Kp) Kp) Kp) Kp) Kp
theorem vc21_eq : vc21 S a0 w K Kp = fVC S [] [] Tryz.f21 [a0] w K Kp := by kernel_rfl
theorem vc21_calls (h : vc21 (nice Tryz.prog) a0 w K Kp) : Calls Tryz.prog 21 #[a0] w (ret K Kp) :=
 fVC_sound (args := [a0]) nice_le follows_MVcZ Tryz.func21 (by kernel_rfl) (Eq.mp vc21_eq h)

def vc22 (S : Sig) (a0 : Value) (w : World) (K : Value → World → Prop) (Kp : KP) : Prop :=
 S.op (.nilCheck a0) w (fun v4 w =>
 S.op (.fieldAddr 92 v4 0) w (fun v5 w =>
 S.op (.load 89 v5) w (fun v6 w =>
 S.call (.fn 42) [v6] w (fun v7 w =>
 K v7 w) Kp) Kp) Kp) Kp
theorem vc22_eq : vc22 S a0 w K Kp = fVC S [] [] Tryz.f22 [a0] w K Kp := by kernel_rfl
theorem vc22_calls (h : vc22 (nice Tryz.prog) a0 w K Kp) : Calls Tryz.prog 22 #[a0] w (ret K Kp) :=
 fVC_sound (args := [a0]) nice_le follows_MVcZ Tryz.func22 (by kernel_rfl) (Eq.mp vc22_eq h)

def vc23 (S : Sig) (a0 : Value) (w : World) (K : Value → World → Prop) (Kp : KP) : Prop :=
 S.op (.nilCheck a0) w (fun v6 w =>
 S.op (.fieldAddr 92 v6 0) w (fun v7 w =>
 S.op (.load 89 v7) w (fun v8 w =>
 S.call (.fn 43) [v8] w (fun v9 w =>
 S.op (.extract v9 0) w (fun v10 w =>
 S.op (.extract v9 1) w (fun v11 w =>
 S.op (.extract v9 2) w (fun v12 w =>
 K (.tuple #[v10, v12]) w) Kp) Kp) Kp) Kp) Kp) Kp) Kp
theorem vc23_eq : vc23 S a0 w K Kp = fVC S [] [] Tryz.f23 [a0] w K Kp := by kernel_rfl
theorem vc23_calls (h : vc23 (nice Tryz.prog) a0 w K Kp) : Calls Tryz.prog 23 #[a0] w (ret K Kp) :=
 fVC_sound (args := [a0]) nice_le follows_MVcZ Tryz.func23 (by kernel_rfl) (Eq.mp vc23_eq h)

def vc8 (S : Sig) (a0 a1 a2 : Value) (w : World) (K : Value → World → Prop) (Kp : KP) : Prop :=
 S.op (.box 24 a0) w (fun v3_h w =>
 S.op (.load 24 v3_h) w (fun v14 w =>
 S.call (.fn 18) [v14, a1, a2] w (fun v17 w =>
 S.op (.blt .len [60] 3 [v17]) w (fun v18 w =>
 Lp fun (I3 : Value → Value → World → Prop) (μ3 : Value → Value → World → Nat) => I3 (.slice none 0 0) (.int .i64 0) w ∧
 ∀ (wl3 : World) (junk : Nat → Value) (s7_out : Value) (s19_ : Value), I3 s7_out s19_ wl3 →
 S.op (.bin .lss 3 false false s19_ v18) wl3 (fun v20 w =>
 Br v20 (
 S.op (.indexAddr 60 v17 s19_) w (fun v21 w =>
 S.op (.load 64 v21) w (fun v22 w =>
 S.op (.alloc 64) w (fun v9_s w =>
 S.op (.store 64 v9_s v22) w (fun _ w =>
 Jn fun (J6 : Value → World → Prop) =>
 (S.ld (.load 64 v9_s) w.drew (fun v23 =>
 S.ld (.load 64 v9_s) w.drew (fun v25 =>
 (S.call (.fn 19) [v23] w.drew (fun v24 w =>
 S.same (.load 64 v9_s) v25 w ∧
 (S.call (.fn 20) [v25] w (fun v26 w =>
 S.pur (.build 36 [(0, v24), (1, v26)]) (fun v27 =>
 S.op (.alloc 36) w (fun v10_x w =>
 S.op (.store 36 v10_x v27) w (fun _ w =>
 J6 v10_x w) Kp) Kp)) Kp) ∧ (S.op (.alloc 36) w (fun v10_x w =>
 S.same (.load 64 v9_s) v25 w ∧
 S.call (.fn 20) [v25] w (fun v26 w =>
 S.pur (.build 36 [(0, v24), (1, v26)]) (fun v27 =>
 S.op (.store 36 v10_x v27) w (fun _ w =>
 J6 v10_x w) Kp)) Kp) Kp)) Kp) ∧ (S.op (.alloc 36) w.drew (fun v10_x w =>
 S.same (.load 64 v9_s) v25 w ∧
 S.same (.load 64 v9_s) v23 w ∧
 S.call (.fn 19) [v23] w (fun v24 w =>
 S.same (.load 64 v9_s) v25 w ∧
 S.call (.fn 20) [v25] w (fun v26 w =>
 S.pur (.build 36 [(0, v24), (1, v26)]) (fun v27 =>
 S.op (.store 36 v10_x v27) w (fun _ w =>
 J6 v10_x w) Kp)) Kp) Kp) Kp)))) ∧
 (∀ (w : World) (junk : Nat → Value) (j10_x : Value), J6 j10_x w →
 S.op (.load 64 v9_s) w (fun v28 w =>
 S.call (.fn 21) [v28] w (fun v29 w =>
 Lp fun (I7 : World → Prop) (μ7 : World → Nat) => I7 w ∧
 ∀ (wl7 : World) (junk : Nat → Value), I7 wl7 →
 S.call (.fn 22) [v29] wl7 (fun v31 w =>
 S.op (.un .not v31) w (fun v32 w =>
 Br v32 (
 S.call (.fn 23) [v29] w (fun v35 w =>
 S.op (.extract v35 0) w (fun v36 w =>
 S.op (.extract v35 1) w (fun v37 w =>
 S.op (.fieldAddr 36 j10_x 2) w (fun v38 w =>
 S.op (.load 25 v38) w (fun v39 w =>
 S.op (.buildSlice 25 1 [(0, v36)]) w (fun v41 w =>
 S.op (.blt .append [25, 25] 25 [v39, v41]) w (fun v42 w =>
 S.op (.fieldAddr 36 j10_x 2) w (fun v43 w =>
 S.op (.store 25 v43 v42) w (fun _ w =>
 I7 w ∧ μ7 w < μ7 wl7) Kp) Kp) Kp) Kp) Kp) Kp) Kp) Kp) Kp) (
 S.op (.load 36 j10_x) w (fun v45 w =>
 S.op (.buildSlice 31 1 [(0, v45)]) w (fun v46 w =>
 S.op (.blt .append [31, 31] 31 [s7_out, v46]) w (fun v47 w =>
 S.op (.bin .add 3 false true s19_ (.int .i64 1)) w (fun v48 w =>
 I3 v47 v48 w ∧ μ3 v47 v48 w < μ3 s7_out s19_ wl3) Kp) Kp) Kp) Kp)) Kp) Kp) Kp) Kp)) Kp) Kp) Kp) Kp) (
 K s7_out w)) Kp) Kp) Kp) Kp) Kp
theorem vc8_eq : vc8 S a0 a1 a2 w K Kp = fVC S [(3, [7, 19]), (7, [])] [(6, [10])] Tryz.f8 [a0, a1, a2] w K Kp := by kernel_rfl
theorem vc8_calls (h : vc8 (nice Tryz.prog) a0 a1 a2 w K Kp) : Calls Tryz.prog 8 #[a0, a1, a2] w (ret K Kp) :=
 fVC_sound (args := [a0, a1, a2]) nice_le follows_MVcZ Tryz.func8 (by kernel_rfl) (Eq.mp vc8_eq h)

def vc3 (S : Sig) (a0 a1 a2 : Value) (w : World) (K : Value → World → Prop) (Kp : KP) : Prop :=
 S.op (.box 24 a0) w (fun v3_h w =>
 S.op (.blt .len [25] 3 [a1]) w (fun v12 w =>
 S.op (.bin .gtr 3 false true v12 (.int .i64 2147483647)) w (fun v13 w =>
 Br v13 (
 K (.bool true) w) (
 S.op (.blt .len [26] 3 [a2]) w (fun v16 w =>
 S.op (.bin .gtr 3 false true v16 (.int .i64 2147483647)) w (fun v17 w =>
 Br v17 (
 K (.bool true) w) (
 S.op (.load 24 v3_h) w (fun v19 w =>
 S.call (.fn 5) [v19, a2] w (fun v21 w =>
 S.op (.un .not v21) w (fun v22 w =>
 Br v22 (
 S.call (.fn 6) [] w (fun v28 w =>
 K v28 w) Kp) (
 S.op (.blt .len [25] 3 [a1]) w (fun v25 w =>
 S.op (.bin .gtr 3 false true v25 (.int .i64 2000)) w (fun v26 w =>
 Br v26 (
 S.call (.fn 6) [] w (fun v28 w =>
 K v28 w) Kp) (
 S.call (.fn 7) [a1, a2] w (fun v31 w =>
 S.ld (.load 24 v3_h) w.drew (fun v32 =>
 S.call (.fn 9) [a2] w.drew (fun v35 w =>
 S.same (.load 24 v3_h) v32 w ∧
 S.call (.fn 8) [v32, a1, v35] w (fun v36 w =>
 S.op (.blt .len [31] 3 [v36]) w (fun v38 w =>
 S.op (.blt .len [29] 3 [v31]) w (fun v40 w =>
 S.op (.bin .neq 3 false false v38 v40) w (fun v41 w =>
 Br v41 (
 K (.bool false) w) (
 S.op (.blt .len [31] 3 [v36]) w (fun v43 w =>
 Lp fun (I10 : Value → World → Prop) (μ10 : Value → World → Nat) => I10 (.int .i64 0) w ∧
 ∀ (wl10 : World) (junk : Nat → Value) (s44_ : Value), I10 s44_ wl10 →
 S.op (.bin .lss 3 false false s44_ v43) wl10 (fun v45 w =>
 Br v45 (
 S.op (.indexAddr 31 v36 s44_) w (fun v47 w =>
 S.op (.load 36 v47) w (fun v48 w =>
 S.op (.alloc 36) w (fun v10_x w =>
 S.op (.store 36 v10_x v48) w (fun _ w =>
 S.pur (.fieldAddr 36 v10_x 0) (fun v49 =>
 S.ld (.load 3 v49) w.drew (fun v50 =>
 S.pur (.indexAddr 29 v31 s44_) (fun v53 =>
 S.ld (.load 37 v53) w.drew (fun v54 =>
 S.ld (.blt .len [37] 3 [v54]) w.drew (fun v55 =>
 S.pur (.bin .neq 3 false false v50 v55) (fun v56 =>
 Br v56 (
 K (.bool false) w.drew) (
 S.pur (.indexAddr 29 v31 s44_) (fun v60 =>
 S.ld (.load 37 v60) w.drew (fun v61 =>
 S.pur (.fieldAddr 36 v10_x 1) (fun v62 =>
 S.ld (.load 25 v62) w.drew (fun v63 =>
 S.call (.fn 10) [v61, v63] w.drew (fun v64 w =>
 S.pur (.un .not v64) (fun v65 =>
 Br v65 (
 K (.bool false) w) (
 S.pur (.indexAddr 29 v31 s44_) (fun v70 =>
 S.ld (.load 37 v70) w (fun v71 =>
 S.pur (.fieldAddr 36 v10_x 2) (fun v72 =>
 S.ld (.load 25 v72) w (fun v73 =>
 S.call (.fn 10) [v71, v73] w (fun v74 w =>
 S.pur (.un .not v74) (fun v75 =>
 Br v75 (
 K (.bool false) w) (
 S.op (.bin .add 3 false true s44_ (.int .i64 1)) w (fun v77 w =>
 I10 v77 w ∧ μ10 v77 w < μ10 s44_ wl10) Kp))) Kp))))))) Kp)))))))))))) Kp) Kp) Kp) Kp) (
 S.call (.fn 6) [] w (fun v78 w =>
 K v78 w) Kp)) Kp) Kp)) Kp) Kp) Kp) Kp) Kp)) Kp)) Kp) Kp)) Kp) Kp) Kp)) Kp) Kp)) Kp) Kp) Kp
theorem vc3_eq : vc3 S a0 a1 a2 w K Kp = fVC S [(10, [44])] [] Tryz.f3 [a0, a1, a2] w K Kp := by kernel_rfl
theorem vc3_calls (h : vc3 (nice Tryz.prog) a0 a1 a2 w K Kp) : Calls Tryz.prog 3 #[a0, a1, a2] w (ret K Kp) :=
 fVC_sound (args := [a0, a1, a2]) nice_le follows_MVcZ Tryz.func3 (by kernel_rfl) (Eq.mp vc3_eq h)

def vc10 (S : Sig) (a0 a1 : Value) (w : World) (K : Value → World → Prop) (Kp : KP) : Prop :=
 S.op (.mkMap 70 none) w (fun v10 w =>
 S.op (.blt .len [25] 3 [a1]) w (fun v12 w =>
 Lp fun (I3 : Value → World → Prop) (μ3 : Value → World → Nat) => I3 (.int .i64 0) w ∧
 ∀ (wl3 : World) (junk : Nat → Value) (s13_ : Value), I3 s13_ wl3 →
 S.op (.bin .lss 3 false false s13_ v12) wl3 (fun v14 w =>
 Br v14 (
 S.op (.indexAddr 25 a1 s13_) w (fun v15 w =>
 S.op (.load 2 v15) w (fun v16 w =>
 S.op (.lookup 37 a0 v16 true) w (fun v20 w =>
 S.op (.extract v20 0) w (fun v21 w =>
 S.op (.extract v20 1) w (fun v22 w =>
 S.op (.un .not v22) w (fun v24 w =>
 Br v24 (
 K (.bool false) w) (
 S.op (.lookup 70 v10 v16 false) w (fun v28 w =>
 Br v28 (
 K (.bool false) w) (
 S.op (.mapUpdate 70 v10 v16 (.bool true)) w (fun _ w =>
 S.op (.bin .add 3 false true s13_ (.int .i64 1)) w (fun v32 w =>
 I3 v32 w ∧ μ3 v32 w < μ3 s13_ wl3) Kp) Kp)) Kp)) Kp) Kp) Kp) Kp) Kp) Kp) (
 S.op (.blt .len [25] 3 [a1]) w (fun v34 w =>
 S.op (.blt .len [37] 3 [a0]) w (fun v36 w =>
 S.op (.bin .eql 3 false false v34 v36) w (fun v37 w =>
 K v37 w) Kp) Kp) Kp)) Kp) Kp) Kp
theorem vc10_eq : vc10 S a0 a1 w K Kp = fVC S [(3, [13])] [] Tryz.f10 [a0, a1] w K Kp := by kernel_rfl
theorem vc10_calls (h : vc10 (nice Tryz.prog) a0 a1 w K Kp) : Calls Tryz.prog 10 #[a0, a1] w (ret K Kp) :=
 fVC_sound (args := [a0, a1]) nice_le follows_MVcZ Tryz.func10 (by kernel_rfl) (Eq.mp vc10_eq h)

end Go.Proofs.YtbghmbbhkoniiaaGreat
end
section
/- What a set tells: its length, its items, its iterator; ItemRun. -/
namespace Go.Proofs.YtbghmbbhkoniiaaGreat.S
open Go.Vc Go.Proofs Go.Proofs.YtbghmbbhkoniiaaGreat Go.Vc.Nd
open Go.Proofs.YtbghmbbhkoniiaaGreat.I (hval hashOf hashOf_lt)
variable {w w' : World} {t : Tr} {F : Nat → Prop} {K : Value → World → Prop} {Kp : KP} {hash : Ky → Nat} {x : Vl} {l s : Nat} {nl : Bool}
theorem apInt : apOf Tryz.prog 25 = some (2, 1, 8) := by kernel_rfl
theorem i1_one (x : Int) : ∀ u ∈ i1 x, u.oneCell' = true := fun u hu => by rw [List.mem_singleton.1 hu]; rfl
theorem frow_rw {α : Type} {f : α → List Value} {e : TypeId} {s g cap base : Nat} (h : Rw w e s g cap []) (hb : base ≤ g) : FRow f w base e s (.slice (some ⟨g, 0, none⟩) ([] : List α).length cap) [] := by
  refine ⟨⟨[], rfl, by simp, ?_, fun j u y hu => by simp at hu⟩, fun _ h => h.elim, fun _ _ h => h⟩
  obtain ⟨h1, ⟨h2, _⟩ | ⟨g', cap', cur, h2, h3, h4⟩⟩ := h.own (n := 0) (by simp) (Nat.zero_le _)
  · cases h2
  · refine ⟨h1, .inr ⟨g', cap', cur, h2, ?_, h4⟩⟩
    cases h2; exact hb
theorem SLen_ok {b : Nat} (h : Ver w b hash nl t F) (hK : ∀ w', Frm (fun _ => False) w w' → K (.int .i64 (toL t).length) w') : Calls Tryz.prog 19 #[setV b] w (ret K Kp) := by
  refine vc19_calls ?_
  simp only [vc19]
  refine op_box_ok fun w1 k1 z1 b1 => ?_
  simp only [setV, cells_agg] at b1
  try simp [-getElem?_pos, -Array.getElem?_eq_getElem, -Int.natCast_add, add_spot, and_assoc, Br_dec, -op_box, -op_alloc_64, -op_st_64, -op_alloc_36, -op_st_36, -op_lit_25_1, -op_lit_31_1, -op_st_25, b1, ptr]
  exact ver_len_ok (h.still k1) (hK w1 k1)
def AtS (w : World) (sb ib mb : Nat) (F : Nat → Prop) (hash : Ky → Nat) (L : List (Ky × Vl)) : Prop := w.heap[sb]? = some (.cells #[ptr ib] 92 (0, 0)) ∧ sb ≠ ib ∧ At w ib mb F hash L
theorem AtS.frame {M : Nat → Prop} {sb ib mb : Nat} {L : List (Ky × Vl)} (h : AtS w sb ib mb F hash L) (hf : Frm M w w') (hM : ∀ c, F c → ¬ M c) (hi : ¬ M ib) (hs : ¬ M sb) : AtS w' sb ib mb F hash L := ⟨hf.get h.1 hs, h.2.1, h.2.2.frame hf hM hi⟩
theorem SIter_ok {b : Nat} (h : Ver w b hash nl t F) (hF : ∀ c, F c → c < w.heap.size)
    (hK : ∀ sb ib w', Frm (fun _ => False) w w' → w.heap.size ≤ ib → w.heap.size ≤ sb → AtS w' sb ib b F hash (toL t) → K (ptr sb) w') : Calls Tryz.prog 21 #[setV b] w (ret K Kp) := by
  refine vc21_calls ?_
  simp only [vc21]
  refine op_box_ok fun w1 k1 z1 b1 => ?_
  simp only [setV, cells_agg] at b1
  have n1 := k1.size
  try simp [-getElem?_pos, -Array.getElem?_eq_getElem, -Int.natCast_add, add_spot, and_assoc, Br_dec, -op_box, -op_alloc_64, -op_st_64, -op_alloc_36, -op_st_36, -op_lit_25_1, -op_lit_31_1, -op_st_25, b1, ptr]
  refine ver_iter_ok (h.still k1) (fun c hc => by have := hF c hc; omega) fun ib w2 k2 hib hA => ?_
  have n2 := k2.size
  have hlt := hA.lt
  rw [op_build_92_0 one_ptr]
  refine op_box_ok fun w3 k3 z3 b3 => ?_
  simp only [cells_agg] at b3
  try simp [-getElem?_pos, -Array.getElem?_eq_getElem, -Int.natCast_add, add_spot, and_assoc, Br_dec, -op_box, -op_alloc_64, -op_st_64, -op_alloc_36, -op_st_36, -op_lit_25_1, -op_lit_31_1, -op_st_25, b3, ptr]
  refine ver_First_ok (((h.still k1).still k2).still k3) ((hA.frame k3 (fun _ _ h => h) fun h => h).itr) (fun hc => by have := hF _ hc; omega) fun w4 k4 z4 hA4 => ?_
  have b4 := k4.get b3 (by omega)
  exact hK w2.heap.size ib w4 (((k1.no k2).no k3).old k4 fun c hc => .inr (by omega)) (by omega) (by omega) ⟨b4, by omega, hA4⟩
theorem SDone_ok {sb ib mb : Nat} {L : List (Ky × Vl)} (h : AtS w sb ib mb F hash L) (hK : K (.bool (decide (L = []))) w) : Calls Tryz.prog 22 #[ptr sb] w (ret K Kp) := by
  obtain ⟨h1, h2, h3⟩ := h
  refine vc22_calls ?_
  simp [-getElem?_pos, -Array.getElem?_eq_getElem, -Int.natCast_add, add_spot, and_assoc, Br_dec, -op_box, -op_alloc_64, -op_st_64, -op_alloc_36, -op_st_36, -op_lit_25_1, -op_lit_31_1, -op_st_25, vc22, h1, ptr]
  exact done_ok h3 hK
theorem SNext_ok {sb ib mb : Nat} {e : Ky × Vl} {L : List (Ky × Vl)} (h : AtS w sb ib mb F hash (e :: L)) (hF : ¬ F ib)
    (hK : ∀ w', Frm (· = ib) w w' → AtS w' sb ib mb F hash L → K (.tuple #[ek e.1, .bool true]) w') : Calls Tryz.prog 23 #[ptr sb] w (ret K Kp) := by
  obtain ⟨h1, h2, h3⟩ := h
  refine vc23_calls ?_
  simp [-getElem?_pos, -Array.getElem?_eq_getElem, -Int.natCast_add, add_spot, and_assoc, Br_dec, -op_box, -op_alloc_64, -op_st_64, -op_alloc_36, -op_st_36, -op_lit_25_1, -op_lit_31_1, -op_st_25, vc23, h1, ptr]
  refine Next_ok h3 hF fun w1 k1 z1 hA1 => ?_
  rw [show nextV (e :: L) = .tuple #[ek e.1, ev e.2, .bool true] from rfl]
  try simp [-getElem?_pos, -Array.getElem?_eq_getElem, -Int.natCast_add, add_spot, and_assoc, Br_dec, -op_box, -op_alloc_64, -op_st_64, -op_alloc_36, -op_st_36, -op_lit_25_1, -op_lit_31_1, -op_st_25]
  exact hK w1 k1 ⟨k1.get h1 h2, h2, hA1⟩
def ks (L : List (Ky × Vl)) : List Int := L.map (·.1)
theorem ks_len (L : List (Ky × Vl)) : (ks L).length = L.length := by simp [ks]
def lenOf : Value → Nat
  | .slice _ n _ => n
  | _ => 0
theorem Items_ok {b : Nat} (h : Ver w b hash nl t F) (hF : ∀ c, F c → c < w.heap.size) (hL : (toL t).length ≤ 1000000)
    (hK : ∀ l w', Frm (fun _ => False) w w' → FRow i1 w' w.heap.size 2 1 l (ks (toL t)) → K l w') : Calls Tryz.prog 20 #[setV b] w (ret K Kp) := by
  refine vc20_calls ?_
  simp only [vc20]
  refine op_box_ok fun w1 k1 z1 b1 => ?_
  simp only [setV, cells_agg] at b1
  have n1 := k1.size
  try simp [-getElem?_pos, -Array.getElem?_eq_getElem, -Int.natCast_add, add_spot, and_assoc, Br_dec, -op_box, -op_alloc_64, -op_st_64, -op_alloc_36, -op_st_36, -op_lit_25_1, -op_lit_31_1, -op_st_25, b1, ptr, ex1']
  refine SLen_ok (h.still k1) fun w2 k2 => ?_
  have n2 := k2.size
  refine op_make0 (n := (toL t).length) apInt (by omega) fun w3 k3 z3 hr3 => ?_
  have n3 := k3.size
  have b3 := (k2.no k3).get b1 fun h => h
  try simp [-getElem?_pos, -Array.getElem?_eq_getElem, -Int.natCast_add, add_spot, and_assoc, Br_dec, -op_box, -op_alloc_64, -op_st_64, -op_alloc_36, -op_st_36, -op_lit_25_1, -op_lit_31_1, -op_st_25, b3, ptr, ex1']
  refine SIter_ok (((h.still k1).still k2).still k3) (fun c hc => by have := hF c hc; omega) fun sb ib w4 k4 hib hsb hA => ?_
  have hR4 : FRow i1 w4 w.heap.size 2 1 (.slice (some ⟨w2.heap.size, 0, none⟩) ([] : List Int).length (toL t).length) [] := frow_still (frow_rw hr3 (by omega)) k4
  generalize hL0 : toL t = L at *
  obtain ⟨I, hI⟩ : ∃ I : Value → World → Prop, ∀ r wl, I r wl ↔ ∃ D L', D ++ L' = L ∧ Frm (fun _ => False) w wl ∧ w4.heap.size ≤ wl.heap.size ∧ AtS wl sb ib b F hash L' ∧ FRow i1 wl w.heap.size 2 1 r (ks D) ∧ ∀ b, r.ownBlock = some b → b ≠ ib ∧ b ≠ sb := ⟨_, fun _ _ => Iff.rfl⟩
  refine Lp.intro I (fun r _ => L.length - lenOf r) ⟨(hI _ _).2 ⟨[], L, rfl, ((k1.no k2).no k3).no k4, Nat.le_refl _, hA, hR4, fun b hb => by cases hb; show w2.heap.size ≠ ib ∧ w2.heap.size ≠ sb; omega⟩, ?_⟩
  intro wl r hl
  obtain ⟨D, L', hDL, kl, zl, hAl, hR, hne⟩ := (hI _ _).1 hl
  refine SDone_ok hAl ?_
  cases L' with
  | nil =>
    simp only [List.append_nil] at hDL
    subst hDL
    simp [-getElem?_pos, -Array.getElem?_eq_getElem, -Int.natCast_add, add_spot, and_assoc, Br_dec, -op_box, -op_alloc_64, -op_st_64, -op_alloc_36, -op_st_36, -op_lit_25_1, -op_lit_31_1, -op_st_25]
    exact hK r wl kl hR
  | cons e L' =>
    simp [-getElem?_pos, -Array.getElem?_eq_getElem, -Int.natCast_add, add_spot, and_assoc, Br_dec, -op_box, -op_alloc_64, -op_st_64, -op_alloc_36, -op_st_36, -op_lit_25_1, -op_lit_31_1, -op_st_25]
    have n4 := k4.size
    refine SNext_ok hAl (fun hc => by have := hF _ hc; omega) fun w5 k5 hA5 => ?_
    have hlow := hR.own_lt
    have hlen : D.length + L'.length + 1 = L.length := by rw [← hDL]; simp; omega
    obtain ⟨a0, c0, hr0, _⟩ := id hR.slice
    have hR5 := frow_frame hR k5 fun b hb he => (hne b hb).1 he
    have hr1 := hR5.one
    have n5 := k5.size
    try simp [-getElem?_pos, -Array.getElem?_eq_getElem, -Int.natCast_add, add_spot, and_assoc, Br_dec, -op_box, -op_alloc_64, -op_st_64, -op_alloc_36, -op_st_36, -op_lit_25_1, -op_lit_31_1, -op_st_25, ek]
    refine op_pushF (f := i1) (y := e.1) apInt (lit_25_1 rfl) i1_len i1_one hR5 (by rw [ks_len]; omega) (by have := kl.size; omega) fun l6 w6 k6 hR6 ho6 => ?_
    have hFown : ∀ c, some c = r.ownBlock → w.heap.size ≤ c ∧ c ≠ ib ∧ c ≠ sb := fun c hc => ⟨(hlow c hc.symm).1, hne c hc.symm⟩
    have hA6 := hA5.frame k6 (fun c hc he => by have := (hFown c he).1; have := hF c hc; omega) (fun he => (hFown _ he).2.1 rfl) (fun he => (hFown _ he).2.2 rfl)
    have hsbl := lt_of_get hA5.1
    have hibl := hA5.2.2.lt
    obtain ⟨a6, c6, hl6, _⟩ := id hR6.slice
    refine ⟨(hI _ _).2 ⟨D ++ [e], L', by rw [← hDL]; simp, (kl.old k5 fun c hc => .inr (by omega)).old k6 fun c hc => .inr (hFown c hc).1, by have := k6.size; omega, hA6, by simpa [ks] using hR6, fun b hb => ?_⟩, ?_⟩
    · rcases ho6 with h | ⟨b', h, hge⟩
      · rw [h] at hb; exact hne b hb
      · rw [h] at hb; cases hb; omega
    · rw [hr0, hl6]; simp only [lenOf, ks_len, List.length_append, List.length_map, ks]; simp; omega
end Go.Proofs.YtbghmbbhkoniiaaGreat.S
end
section
/- ItemRun: what each version of a set tells. -/
namespace Go.Proofs.YtbghmbbhkoniiaaGreat.S
open Go.Vc Go.Proofs Go.Proofs.YtbghmbbhkoniiaaGreat Go.Vc.Nd
open Go.Proofs.YtbghmbbhkoniiaaGreat.I (hval hashOf hashOf_lt lenAt)
variable {w w' : World} {v : Value} {t : Tr} {G : Nat → Prop} {K : Value → World → Prop} {Kp : KP} {hash : Ky → Nat} {l s md ml sh : Nat} {nl : Bool}
theorem apISeen : apOf Tryz.prog 31 = some (36, 3, 56) := by kernel_rfl
def IsInts (w : World) (v : Value) (xs : List Int) : Prop := IsSl w v xs.length (xs.flatMap i1)
def ElI : World → List Value → Tr → (Nat → Prop) → Prop := fun w u t G => ∃ pv qv, u = [.int .i64 (toL t).length, pv, qv] ∧ IsInts w pv (ks (toL t)) ∧ IsInts w qv (ks (toL t)) ∧ (∀ b, pv.ownBlock = some b → G b) ∧ ∀ b, qv.ownBlock = some b → G b
theorem elI_ok : ElOk ElI :=
  ⟨fun ⟨pv, qv, hu, h, h', hG, hG'⟩ hf hM => ⟨pv, qv, hu, h.frame hf fun b hb => hM b (hG b hb), h'.frame hf fun b hb => hM b (hG' b hb), hG, hG'⟩, fun ⟨pv, qv, hu, h, h', hG, hG'⟩ hg => ⟨pv, qv, hu, h, h', fun b hb => hg b (hG b hb), fun b hb => hg b (hG' b hb)⟩⟩
def nil3 : Array Value := #[.int .i64 0, .slice none 0 0, .slice none 0 0]
theorem fill_ok {xb n : Nat} {pv : Value} (hb : w.heap[xb]? = some (.cells nil3 36 (0, 0))) (hp : pv.oneCell' = true) (hK : ∀ w', Frm (· = xb) w w' → w'.heap.size = w.heap.size → w'.heap[xb]? = some (.cells #[.int .i64 n, pv, .slice none 0 0] 36 (0, 0)) → K undef w') :
    (nice Tryz.prog).op (.store 36 (.pointer (some ⟨xb, 0, none⟩)) (.agg #[.int .i64 n, pv, .slice none 0 0])) w K Kp := by
  refine op_storeN_ok (vs := #[.int .i64 n, pv, .slice none 0 0]) (o := 0) (n := 3) (by kernel_rfl) hb rfl (by simp [nil3]) (by simp [hp]) fun w4 k4 z4 b4 => hK w4 k4 z4 ?_
  rw [ow_all (by simp [nil3])] at b4
  exact b4
theorem itemRun_ok {a1 a2 : Option Addr} {c1 c2 : Nat} {values : List Int} {steps : List MStep} (h1 : Row w a1 (values.flatMap i1)) (h2 : Row w a2 (steps.flatMap MStep.cells)) (hfit : MFit steps) (hc : values.length + mcost steps ≤ 900000)
    (hK : ∀ l w' G, Frm (fun _ => False) w w' → RowsOf ElI w' w.heap.size 36 3 l (versS (hashOf md ml sh) values steps) G → K l w') :
    Calls Tryz.prog 8 #[hval md ml sh, .slice a1 values.length c1, .slice a2 steps.length c2] w (ret K Kp) := by
  refine vc8_calls ?_
  simp only [vc8]
  refine op_box_ok fun w1 k1 z1 b1 => ?_
  simp only [hval, cells_agg] at b1
  have hx3 : (#[Value.int .u32 (md : Int), .int .u32 (ml : Int), .int .u8 (sh : Int)] : Array Value).extract 0 3 = #[.int .u32 md, .int .u32 ml, .int .u8 sh] := rfl
  simp [-getElem?_pos, -Array.getElem?_eq_getElem, -Int.natCast_add, add_spot, and_assoc, Br_dec, -op_box, -op_alloc_64, -op_st_64, -op_alloc_36, -op_st_36, -op_lit_25_1, -op_lit_31_1, -op_st_25, b1, hx3]
  refine setsOf_ok (md := md) (ml := ml) (sh := sh) (h1.frame k1 fun _ _ h => h) (h2.frame k1 fun _ _ h => h) hfit hc fun l w2 G k2 hR2 => ?_
  have hlt := hashOf_lt md ml sh
  generalize hashOf md ml sh = hash at *
  generalize decide (md = 0) = nl at *
  have hn : (versS hash values steps).length = steps.length + 1 := vers_len steps
  have hcl : steps.length ≤ mcost steps := by
    clear h1 h2 hfit hc hK hR2 hn
    induction steps with
    | nil => simp
    | cons s l ih => simp only [mcost, List.map_cons, List.sum_cons, List.length_cons, MStep.cost] at ih ⊢; omega
  have hsz := versS_size hlt values steps
  generalize hvs : versS hash values steps = vs at *
  obtain ⟨a2', c2', hl2, _⟩ := id hR2.slice
  subst hl2
  have n1 := k1.size
  have n2 := k2.size
  obtain ⟨I, hI⟩ : ∃ I : Value → Value → World → Prop, ∀ l v wl, I l v wl ↔ ∃ (i : Nat) (G' : Nat → Prop), v = .int .i64 i ∧ i ≤ vs.length ∧ Frm (fun _ => False) w2 wl ∧ RowsOf ElI wl w2.heap.size 36 3 l (vs.take i) G' := ⟨_, fun _ _ _ => Iff.rfl⟩
  try simp [-getElem?_pos, -Array.getElem?_eq_getElem, -Int.natCast_add, add_spot, and_assoc, Br_dec, -op_box, -op_alloc_64, -op_st_64, -op_alloc_36, -op_st_36, -op_lit_25_1, -op_lit_31_1, -op_st_25]
  refine Lp.intro I (fun _ v _ => vs.length - natOf v) ⟨(hI _ _ _).2 ⟨0, _, rfl, by omega, Frm.refl, rows_nil⟩, ?_⟩
  intro wl l v hl
  obtain ⟨i, G', rfl, hi, kl, hR⟩ := (hI _ _ _).1 hl
  simp only [op_lss, Br_dec]
  refine ⟨fun hlt' => ?_, fun hnl' => ?_⟩
  rotate_left
  · have : i = vs.length := by omega
    subst this
    rw [List.take_length] at hR
    exact hK l wl G' ((k1.no k2).no kl) (hR.base_le (by omega))
  have hi' : i < vs.length := by omega
  have htk : vs.take (i + 1) = vs.take i ++ [vs[i]] := List.take_succ_eq_append_getElem hi'
  have hlow := hR.own_lt
  have nl' := kl.size
  obtain ⟨u, g, c, cur, hlg, hg1, hg2, hg3, hg4, hg5, bv, hub, hV⟩ := (hR2.still (elS_ok hash nl) kl).get hi'
  cases hlg
  subst hub
  rw [Nat.mul_one] at hg4 hg5
  have hti := (hsz i (t := vs[i]) (by simp [hi'])).2
  generalize ht : vs[i] = t0 at *
  simp [-getElem?_pos, -Array.getElem?_eq_getElem, -Int.natCast_add, add_spot, and_assoc, Br_dec, -op_box, -op_alloc_64, -op_st_64, -op_alloc_36, -op_st_36, -op_lit_25_1, -op_lit_31_1, -op_st_25, hg1, hg4, hg5]
  refine ⟨hi', ?_⟩
  have hGlt : ∀ c, G c → c < wl.heap.size := fun c hc => by have := (hR2.low c hc).2; omega
  refine op_alloc_ok (z := .agg #[.pointer none]) (by kernel_rfl) fun w3 k3 z3 b3 => ?_
  simp only [cells_agg] at b3
  refine putSet_ok (b := bv) b3 fun w4 k4 z4 b4 => ?_
  have n3 := k3.size
  have n4 := k4.size
  have k04 : Frm (fun _ => False) wl w4 := k3.old k4 fun c hc => .inr (by omega)
  have hV4 := hV.still k04
  obtain ⟨J, hJ⟩ : ∃ J : Value → World → Prop, ∀ p w5, J p w5 ↔ ∃ (xb : Nat) (pv : Value), p = ptr xb ∧ w4.heap.size ≤ xb ∧ Frm (fun _ => False) w4 w5 ∧ w5.heap[xb]? = some (.cells #[.int .i64 (toL t0).length, pv, .slice none 0 0] 36 (0, 0)) ∧ FRow i1 w5 w4.heap.size 2 1 pv (ks (toL t0)) ∧ ∀ b, pv.ownBlock = some b → b ≠ xb := ⟨_, fun _ _ => Iff.rfl⟩
  refine Jn.intro J ⟨?_, ?_⟩
  · simp [-getElem?_pos, -Array.getElem?_eq_getElem, -Int.natCast_add, add_spot, and_assoc, Br_dec, -op_box, -op_alloc_64, -op_st_64, -op_alloc_36, -op_st_36, -op_lit_25_1, -op_lit_31_1, -op_st_25, b4, ex1]
    have hVd := hV4.still (Frm.drew (M := fun _ => False) w4)
    have hz : w4.drew.heap.size = w4.heap.size := rfl
    have hFd : ∀ {wz : World}, w4.heap.size ≤ wz.heap.size → ∀ c, G c → c < wz.heap.size := fun {wz} hw c hc => by have := hGlt c hc; omega
    have hdone : ∀ {wz : World} {pv : Value} {xb : Nat}, Frm (fun _ => False) w4 wz → wz.heap[xb]? = some (.cells nil3 36 (0, 0)) → w4.heap.size ≤ xb → FRow i1 wz w4.heap.size 2 1 pv (ks (toL t0)) → (∀ b, pv.ownBlock = some b → b ≠ xb) →
        (nice Tryz.prog).op (.store 36 (.pointer (some ⟨xb, 0, none⟩)) (.agg #[.int .i64 (toL t0).length, pv, .slice none 0 0])) wz (fun _ w => J (.pointer (some ⟨xb, 0, none⟩)) w) Kp := fun {wz pv xb} kz bz hxb hp hne => by
      refine fill_ok bz hp.one fun wy ky zy by' => ?_
      exact (hJ _ _).2 ⟨xb, pv, rfl, hxb, kz.old ky fun c hc => .inr (by omega), by', frow_frame hp ky fun b hb he => hne b hb he, hne⟩
    refine ⟨SLen_ok hVd fun w5 k5 => ?_, ?_⟩
    · have b5 := k5.get b4 fun h => h
      have n5 := k5.size
      simp [-getElem?_pos, -Array.getElem?_eq_getElem, -Int.natCast_add, add_spot, and_assoc, Br_dec, -op_box, -op_alloc_64, -op_st_64, -op_alloc_36, -op_st_36, -op_lit_25_1, -op_lit_31_1, -op_st_25, b5, ex1]
      refine ⟨Items_ok (hVd.still k5) (hFd (by omega)) (by omega) fun pv w6 k6 hp => ?_, ?_⟩
      · have n6 := k6.size
        have hpl := hp.own_lt
        rw [pur_build_36_0_1 one_int hp.one]
        refine op_alloc_ok (z := .agg nil3) (by kernel_rfl) fun w7 k7 z7 b7 => ?_
        exact hdone (((Frm.dr k5).no k6).no k7) b7 (by omega) ((frow_still hp k7).base_le (by omega)) fun b hb => by have := hpl b hb; omega
      · refine op_alloc_ok (z := .agg nil3) (by kernel_rfl) fun w6 k6 z6 b6 => ?_
        have n6 := k6.size
        have bv6 := k6.get b5 fun h => h
        simp [-getElem?_pos, -Array.getElem?_eq_getElem, -Int.natCast_add, add_spot, and_assoc, Br_dec, -op_box, -op_alloc_64, -op_st_64, -op_alloc_36, -op_st_36, -op_lit_25_1, -op_lit_31_1, -op_st_25, bv6, ex1]
        refine Items_ok ((hVd.still k5).still k6) (hFd (by omega)) (by omega) fun pv w7 k7 hp => ?_
        have hpl := hp.own_lt
        rw [pur_build_36_0_1 one_int hp.one]
        exact hdone (((Frm.dr k5).no k6).no k7) (k7.get b6 fun h => h) (by omega) (hp.base_le (by omega)) fun b hb => by have := hpl b hb; omega
    · refine op_alloc_ok (z := .agg nil3) (by kernel_rfl) fun w5 k5 z5 b5 => ?_
      have n5 := k5.size
      have bv5 := k5.get b4 fun h => h
      simp [-getElem?_pos, -Array.getElem?_eq_getElem, -Int.natCast_add, add_spot, and_assoc, Br_dec, -op_box, -op_alloc_64, -op_st_64, -op_alloc_36, -op_st_36, -op_lit_25_1, -op_lit_31_1, -op_st_25, bv5, ex1]
      refine SLen_ok (hVd.still k5) fun w6 k6 => ?_
      have n6 := k6.size
      have bv6 := k6.get bv5 fun h => h
      simp [-getElem?_pos, -Array.getElem?_eq_getElem, -Int.natCast_add, add_spot, and_assoc, Br_dec, -op_box, -op_alloc_64, -op_st_64, -op_alloc_36, -op_st_36, -op_lit_25_1, -op_lit_31_1, -op_st_25, bv6, ex1]
      refine Items_ok ((hVd.still k5).still k6) (hFd (by omega)) (by omega) fun pv w7 k7 hp => ?_
      have hpl := hp.own_lt
      rw [pur_build_36_0_1 one_int hp.one]
      exact hdone (((Frm.dr k5).no k6).no k7) ((k6.no k7).get b5 fun h => h) (by omega) (hp.base_le (by omega)) fun b hb => by have := hpl b hb; omega
  intro w5 p hp
  obtain ⟨xb, pv, rfl, hxb, k5, b5, hpv, hpn⟩ := (hJ _ _).1 hp
  clear hp hJ J
  have n5 := k5.size
  have bs5 := k5.get b4 fun h => h
  have hpl := hpv.own_lt
  have hxl := lt_of_get b5
  try simp [-getElem?_pos, -Array.getElem?_eq_getElem, -Int.natCast_add, add_spot, and_assoc, Br_dec, -op_box, -op_alloc_64, -op_st_64, -op_alloc_36, -op_st_36, -op_lit_25_1, -op_lit_31_1, -op_st_25, bs5, ex1']
  refine SIter_ok (hV4.still k5) (fun c hc => by have := hGlt c hc; omega) fun sb ib w6 k6 hib hsb hA => ?_
  have n6 := k6.size
  have k46 := k5.no k6
  have b6 := k6.get b5 fun h => h
  have hpv6 := frow_still hpv k6
  have hsbl := lt_of_get hA.1
  have hibl := hA.2.2.lt
  generalize hL0 : toL t0 = L at *
  obtain ⟨I7, hI7⟩ : ∃ I : World → Prop, ∀ wz, I wz ↔ ∃ D L' qv, D ++ L' = L ∧ Frm (fun _ => False) w4 wz ∧ w6.heap.size ≤ wz.heap.size ∧ AtS wz sb ib bv G hash L' ∧ wz.heap[xb]? = some (.cells #[.int .i64 L.length, pv, qv] 36 (0, 0)) ∧
      FRow i1 wz w4.heap.size 2 1 pv (ks L) ∧ FRow i1 wz w6.heap.size 2 1 qv (ks D) := ⟨_, fun _ => Iff.rfl⟩
  refine Lp.intro I7 (fun wz => L.length - lenAt wz xb 2) ⟨(hI7 _).2 ⟨[], L, _, rfl, k46, Nat.le_refl _, hA, b6, hpv6, rows_nil⟩, ?_⟩
  intro wz hz
  obtain ⟨D, L', qv, hDL, kz, zz, hAz, bz, hpz, hqz⟩ := (hI7 _).1 hz
  refine SDone_ok hAz ?_
  have hql := hqz.own_lt
  cases L' with
  | nil =>
    simp only [List.append_nil] at hDL
    subst hDL
    have hx3' : (#[Value.int .i64 (D.length : Int), pv, qv] : Array Value).extract 0 3 = #[.int .i64 D.length, pv, qv] := rfl
    simp [-getElem?_pos, -Array.getElem?_eq_getElem, -Int.natCast_add, add_spot, and_assoc, Br_dec, -op_box, -op_alloc_64, -op_st_64, -op_alloc_36, -op_st_36, -op_lit_25_1, -op_lit_31_1, -op_st_25, bz, hx3', ptr]
    have k0z : Frm (fun _ => False) wl wz := k04.no kz
    have hpl' := hpz.own_lt
    refine op_push (u := [.int .i64 D.length, pv, qv]) (G2 := fun c => pv.ownBlock = some c ∨ qv.ownBlock = some c) elI_ok apISeen (lit_31_1) rfl (by simp [hpz.one, hqz.one]) (hR.still elI_ok k0z) (y := t0) ⟨pv, qv, by rw [hL0], by rw [hL0]; exact hpz.flat, by rw [hL0]; exact hqz.flat, fun b hb => .inl hb, fun b hb => .inr hb⟩ (fun c hc => ?_) (fun b hb hc => ?_) (by simp; omega) (by omega) fun l' w8 k8 hR8 ho8 => ?_
    · rcases hc with h | h
      · have := hpl' c h; omega
      · have := hql c h; omega
    · have h1 := hlow b hb
      rcases hc with h | h
      · have := hpl' b h; omega
      · have := hql b h; omega
    · try simp [-getElem?_pos, -Array.getElem?_eq_getElem, -Int.natCast_add, add_spot, and_assoc, Br_dec, -op_box, -op_alloc_64, -op_st_64, -op_alloc_36, -op_st_36, -op_lit_25_1, -op_lit_31_1, -op_st_25]
      rw [wrap_i64_small (by omega) (by omega)]
      refine ⟨(hI _ _ _).2 ⟨i + 1, _, by simp, by omega, (kl.no k0z).old k8 fun c hc => .inr (hlow c hc.symm).1, by rw [htk]; exact hR8⟩, ?_⟩
      simp only [natOf]; omega
  | cons e L' =>
    simp [-getElem?_pos, -Array.getElem?_eq_getElem, -Int.natCast_add, add_spot, and_assoc, Br_dec, -op_box, -op_alloc_64, -op_st_64, -op_alloc_36, -op_st_36, -op_lit_25_1, -op_lit_31_1, -op_st_25]
    have hlen : D.length + L'.length + 1 = L.length := by rw [← hDL]; simp; omega
    have hLn : L.length < 1000000 := by omega
    refine SNext_ok hAz (fun hc => by have := hGlt _ hc; omega) fun w7 k7 hA7 => ?_
    have n7 := k7.size
    have b7 := k7.get bz (by omega)
    have hq7 := frow_frame hqz k7 fun b hb he => by have := hql b hb; omega
    have hpl' := hpz.own_lt
    have hp7 := frow_frame hpz k7 fun b hb he => by have := hpl b hb; omega
    have hlow7 := hq7.own_lt
    try simp [-getElem?_pos, -Array.getElem?_eq_getElem, -Int.natCast_add, add_spot, and_assoc, Br_dec, -op_box, -op_alloc_64, -op_st_64, -op_alloc_36, -op_st_36, -op_lit_25_1, -op_lit_31_1, -op_st_25, b7, ek, ptr]
    refine op_pushF (f := i1) (y := e.1) apInt (lit_25_1 rfl) i1_len i1_one hq7 (by rw [ks_len]; omega) (by omega) fun l8 w8 k8 hR8 ho8 => ?_
    have n8 := k8.size
    have hown : ∀ c, some c = qv.ownBlock → w6.heap.size ≤ c ∧ c < w7.heap.size := fun c hc => hlow7 c hc.symm
    have b8 := k8.get b7 (fun h => by have := hown _ h; omega)
    have hlow8 := hR8.own_lt
    refine op_store_ok (by kernel_rfl) b8 (by simp) hR8.one fun w9 k9 z9 b9 => ?_
    have b9 : w9.heap[xb]? = some (.cells #[.int .i64 L.length, pv, l8] 36 (0, 0)) := by simpa using b9
    have hA9 := (hA7.frame k8 (fun c hc he => by have := hown c he; have := hGlt c hc; omega) (fun he => by have := hown _ he; omega) (fun he => by have := hown _ he; omega)).frame k9 (fun c hc he => by have := hGlt c hc; omega) (by omega) (by omega)
    obtain ⟨a8, c8, hl8, _⟩ := id hR8.slice
    obtain ⟨a0, c0, hq0, _⟩ := id hqz.slice
    refine ⟨(hI7 _).2 ⟨D ++ [e], L', l8, by rw [← hDL]; simp, ((kz.old k7 fun c hc => .inr (by omega)).old k8 fun c hc => .inr (by have := hown c hc; omega)).old k9 fun c hc => .inr (by omega), by omega, hA9, b9, ?_, ?_⟩, ?_⟩
    · exact frow_frame (frow_frame hp7 k8 fun b hb he => by have := hpl b hb; have := hown b he; omega) k9 fun b hb he => hpn b hb he
    · have := frow_frame hR8 k9 fun b hb he => by have := hlow8 b hb; omega
      simpa [ks] using this
    · have e1 : lenAt wz xb 2 = D.length := by rw [hq0] at bz; simp [lenAt, bz, ks]
      have e2 : lenAt w9 xb 2 = D.length + 1 := by rw [hl8] at b9; simp [lenAt, b9, ks]
      rw [e1, e2]; omega
end Go.Proofs.YtbghmbbhkoniiaaGreat.S
end
section
/- laws.itemSteps: the reference's versions of sets, as Go's maps. -/
namespace Go.Proofs.YtbghmbbhkoniiaaGreat.I
open Go.Vc Go.Proofs Go.Proofs.YtbghmbbhkoniiaaGreat Go.Vc.Nd
variable {w w' : World} {v : Value} {G : Nat → Prop} {K : Value → World → Prop} {Kp : KP} {k : Ky} {x : Vl} {l s : Nat} {nl : Bool}
theorem row_int {a : Option Addr} {xs : List Int} (h : Row w a (xs.flatMap fun x => [.int .i64 x])) {i : Nat} (hi : i < xs.length) :
    ∃ bp o cs e fz, a = some ⟨bp, o, none⟩ ∧ w.heap[bp]? = some (.cells cs e fz) ∧ cs[o + i]? = some (.int .i64 xs[i]) := by
  obtain ⟨bp, o, cs, e, fz, rfl, hcs, hsz, hext⟩ := h.part (k := 1) (fun _ => rfl) (by decide) hi
  refine ⟨bp, o, cs, e, fz, rfl, hcs, ?_⟩
  have := congrArg (fun a => a[0]?) hext
  simp only [Array.getElem?_extract] at this
  rw [if_pos (by omega)] at this
  simpa using this
theorem itemSteps_ok {a0 a1 : Option Addr} {c0 c1 : Nat} {values : List Int} {steps : List MStep} (h0 : Row w a0 (values.flatMap fun x => [.int .i64 x])) (h1 : Row w a1 (steps.flatMap MStep.cells)) (hfit : MFit steps) (hn : steps.length < 2 ^ 30) (hnv : values.length < 2 ^ 30)
    (hK : ∀ l w' G, Frm (fun _ => False) w w' → RowsOf ElM w' w.heap.size 37 1 l (versI values steps) G → K l w') : Calls Tryz.prog 7 #[.slice a0 values.length c0, .slice a1 steps.length c1] w (ret K Kp) := by
  have hE := elM_ok
  refine vc7_calls ?_
  simp only [vc7]
  refine op_mkMap ?_
  have k1 : Frm (fun _ => False) w (w.alloc (.map #[] 0)) := Frm.alloc _ _
  have hm1 : HasMap (w.alloc (.map #[] 0)) kE.enc ev w.heap.size ([] : List (Int × Int)) := hasMap_new w _ _
  generalize hw1 : w.alloc (.map #[] 0) = w1 at *
  have n1 := k1.size
  try simp [-getElem?_pos, -Array.getElem?_eq_getElem, -Int.natCast_add, add_spot, and_assoc, Br_dec, -op_box, -op_alloc_42, -op_st_42, -op_lit_29_1]
  obtain ⟨I0, hI0⟩ : ∃ I : Value → World → Prop, ∀ v wl, I v wl ↔ ∃ (i : Nat) (D : List (Int × Int)), v = .int .i64 i ∧ i ≤ values.length ∧ Frm (fun _ => False) w wl ∧ HasMap wl kE.enc ev w.heap.size D ∧ Tells D (funFirst (values.take i)) := ⟨_, fun _ _ => Iff.rfl⟩
  refine Lp.intro I0 (fun v _ => values.length - natOf v) ⟨(hI0 _ _).2 ⟨0, [], rfl, by omega, k1, hm1, tells_nil⟩, ?_⟩
  intro wl0 v0 hl0
  obtain ⟨i0, D0, rfl, hi0, k0, hm0, ht0⟩ := (hI0 _ _).1 hl0
  simp only [op_lss, Br_dec]
  refine ⟨fun hlt0 => ?_, fun hge0 => ?_⟩
  · have hi0' : i0 < values.length := by omega
    obtain ⟨bp, o, cs, e, fz, rfl, hcs, hki⟩ := row_int (h0.frame k0 fun _ _ h => h) hi0'
    try simp [-getElem?_pos, -Array.getElem?_eq_getElem, -Int.natCast_add, add_spot, and_assoc, Br_dec, -op_box, -op_alloc_42, -op_st_42, -op_lit_29_1, hcs, hki]
    refine ⟨hi0', ?_⟩
    refine op_update (E := kE) (ev := ev) (k := values[i0]) (v := 0) Tryz.underlying37 hm0 fun w5 k5 z5 hm5 => ?_
    try simp [-getElem?_pos, -Array.getElem?_eq_getElem, -Int.natCast_add, add_spot, and_assoc, Br_dec, -op_box, -op_alloc_42, -op_st_42, -op_lit_29_1]
    rw [wrap_i64_small (by omega) (by omega)]
    refine ⟨(hI0 _ _).2 ⟨i0 + 1, _, by simp, by omega, k0.old k5 fun c hc => .inr (by omega), hm5, by rw [funFirst_succ hi0']; exact tells_upd hm0.nodup ht0⟩, ?_⟩
    simp only [natOf]; omega
  have hi00 : i0 = values.length := by omega
  subst hi00
  rw [List.take_length] at ht0
  have n0 := k0.size
  have hmlt := hm0.lt
  refine op_row1 (base := w.heap.size) (u := [.map (some w.heap.size)]) (y := funFirst values) (G2 := (· = w.heap.size)) hE apMap (lit_29_1 rfl) rfl ⟨_, _, rfl, hm0, ht0, rfl⟩ (fun c hc => by omega) n0 fun l2 w2 k2 hR2 ho2 => ?_
  obtain ⟨a2, c2, hl2, _⟩ := hR2.slice
  try simp [-getElem?_pos, -Array.getElem?_eq_getElem, -Int.natCast_add, add_spot, and_assoc, Br_dec, -op_box, -op_alloc_42, -op_st_42, -op_lit_29_1]
  obtain ⟨I, hI⟩ : ∃ I : Value → Value → World → Prop, ∀ l v wl, I l v wl ↔ ∃ (i : Nat) (G : Nat → Prop), v = .int .i64 i ∧ i ≤ steps.length ∧ Frm (fun _ => False) w wl ∧ RowsOf ElM wl w.heap.size 37 1 l (versI values (steps.take i)) G := ⟨_, fun _ _ _ => Iff.rfl⟩
  refine Lp.intro I (fun _ v _ => steps.length - natOf v) ⟨(hI _ _ _).2 ⟨0, _, rfl, by omega, k0.no k2, hR2⟩, ?_⟩
  intro wl l v hl
  obtain ⟨i, G, rfl, hi, kl, hR⟩ := (hI _ _ _).1 hl
  simp only [op_lss, Br_dec]
  refine ⟨fun hlt' => ?_, fun hnl' => ?_⟩
  rotate_left
  · have : i = steps.length := by omega
    subst this
    rw [List.take_length] at hR
    exact hK l wl G kl hR
  have hi' : i < steps.length := by omega
  have htk : steps.take (i + 1) = steps.take i ++ [steps[i]] := List.take_succ_eq_append_getElem hi'
  obtain ⟨f1, f2, f3, f4, f5⟩ := hfit i hi'
  obtain ⟨bp, o, cs, e, fz, rfl, hcs, hsz, hext⟩ := (h1.frame kl (fun _ _ h => h)).part mcells_len (by decide) hi'
  generalize hst : steps[i] = s at *
  have hlow := hR.own_lt
  have nl := kl.size
  simp [-getElem?_pos, -Array.getElem?_eq_getElem, -Int.natCast_add, add_spot, and_assoc, Br_dec, -op_box, -op_alloc_42, -op_st_42, -op_lit_29_1, hcs, hsz, hext]
  refine ⟨hi', ?_⟩
  refine op_alloc_ok (z := .agg #[.int .u8 0, .int .i64 0, .int .i64 0, .int .i64 0, .int .i64 0]) (by kernel_rfl) fun w5 k5 z5 b5 => ?_
  simp only [cells_agg] at b5
  refine op_storeN_ok (n := 5) (by kernel_rfl) b5 rfl (by decide) (by simp [MStep.cells]) fun w6 k6 z6 b6 => ?_
  have b6 : w6.heap[wl.heap.size]? = some (.cells #[.int .u8 s.kind, .int .i64 s.fro, .int .i64 s.key, .int .i64 s.value, .int .i64 s.count] 42 (0, 0)) := by
    rw [ow_all (by simp [MStep.cells])] at b6; simpa [MStep.cells] using b6
  have n5 := k5.size
  have k56 : Frm (fun _ => False) wl w6 := k5.old k6 fun c hc => .inr (by omega)
  have hR6 := hR.still hE (k56.no (Frm.drew w6))
  have hlv : (versI values (steps.take i)).length = i + 1 := by rw [versI, vers_len, List.length_take]; omega
  obtain ⟨q, hq⟩ : ∃ q : Nat, s.fro = q := ⟨s.fro.toNat, by omega⟩
  have hq1 : q < (versI values (steps.take i)).length := by omega
  obtain ⟨u, g, c, cur, hlg, hg1, hg2, hg3, hg4, hg5, bv, D, hub, hV, htD, hGb⟩ := hR6.get hq1
  subst hlg hub
  have hg0 : cur[q]? = some (.map (some bv)) := by have := hg3 0 (by decide); simpa using this
  have hg1 : w6.heap[g]? = some (.cells cur 37 (0, 0)) := hg1
  generalize ht : (versI values (steps.take i))[q] = m0 at htD
  have hnext : versI values (steps.take (i + 1)) = versI values (steps.take i) ++ [funStep m0 s] := by
    have e1 : (vers funStep MStep.ref (funFirst values) (steps.take i))[s.ref]? = some m0 := by
      have : s.ref = q := by simp [MStep.ref, hq]
      rw [this, ← ht]; exact List.getElem?_eq_getElem hq1
    rw [htk, versI, vers_snoc, e1]; rfl
  have hx5 := cells5 s
  simp [-getElem?_pos, -Array.getElem?_eq_getElem, -Int.natCast_add, add_spot, and_assoc, Br_dec, -op_box, -op_alloc_42, -op_st_42, -op_lit_29_1, b6, hq, hg1, hg0, hx5]
  refine ⟨hq1, ?_⟩
  rw [← hq]
  refine mapAfter_ok hV htD f1 f4 f5 fun b' D' w7 k7 nb' hm7 ht7 => ?_
  have k67 := Frm.dr k7
  have hml := hm7.lt
  have n7 := k67.size
  have n6 := k56.size
  have nb'' : w6.heap.size ≤ b' := nb'
  refine op_push (u := [.map (some b')]) (G2 := (· = b')) hE apMap (lit_29_1 rfl) rfl (fun x hx => by rw [List.mem_singleton.1 hx]; rfl) (hR.still hE (k56.no k67)) ⟨b', D', rfl, hm7, ht7, rfl⟩ (fun c hc => by omega) (fun b hb hc => by have := hlow b hb; omega) (by omega) (by omega) fun l10 w10 k10 hR10 ho10 => ?_
  try simp [-getElem?_pos, -Array.getElem?_eq_getElem, -Int.natCast_add, add_spot, and_assoc, Br_dec, -op_box, -op_alloc_42, -op_st_42, -op_lit_29_1]
  rw [wrap_i64_small (by omega) (by omega)]
  refine ⟨(hI _ _ _).2 ⟨i + 1, _, by simp, by omega, (kl.no (k56.no k67)).old k10 fun c hc => .inr (hlow c hc.symm).1, by rw [hnext]; exact hR10⟩, ?_⟩
  simp only [natOf]; omega
end Go.Proofs.YtbghmbbhkoniiaaGreat.I
end
section
/- A map's keys beside the keys of a set. -/
namespace Go.Vc
theorem tells_un {D : List (Int × Int)} {m : Int → Option Int} (h : Tells D m) : Tells (D.map fun e => (e.1, ())) (un m) := fun k v => by
  simp only [List.mem_map, Prod.mk.injEq]
  constructor
  · rintro ⟨⟨k', v'⟩, he, rfl, _⟩
    simp [un, (h k' v').1 he]
  · intro he
    cases hm : m k with
    | none => simp [un, hm] at he
    | some y => exact ⟨(k, y), (h k y).2 hm, rfl, trivial⟩
theorem len_un {D : List (Int × Int)} {L : List (Int × Unit)} {m : Int → Option Int} (hn : (D.map (·.1)).Nodup) (hd : Tells D m) (hnL : (L.map (·.1)).Nodup) (hL : Tells L (un m)) : D.length = L.length := by
  have := tells_len (D := D.map fun e => (e.1, ())) (D' := L) (by rw [List.map_map]; exact hn) hnL (tells_un hd) hL
  simpa using this
theorem un_mem {L : List (Int × Unit)} {m : Int → Option Int} (hL : Tells L (un m)) {k : Int} : k ∈ L.map (·.1) ↔ (m k).isSome = true := by
  rw [← un_some]
  constructor
  · intro h
    obtain ⟨e, he, rfl⟩ := List.mem_map.1 h
    rw [(hL e.1 e.2).1 he]; rfl
  · intro h
    obtain ⟨u, hu⟩ := Option.isSome_iff_exists.1 h
    exact List.mem_map.2 ⟨(k, u), (hL k u).2 hu, rfl⟩
end Go.Vc
end
section
/- spec.ItemHas: the values are those of the map, each once. -/
namespace Go.Proofs.YtbghmbbhkoniiaaGreat.I
open Go.Vc Go.Proofs Go.Proofs.YtbghmbbhkoniiaaGreat Go.Vc.Nd
variable {w w' : World} {v : Value} {K : Value → World → Prop} {Kp : KP} {k : Ky} {x : Vl}
theorem look_seen1 {S : List (Int × Bool)} {p : Int} {L : List Int} (h : Tells S (fun k => if k ∈ L then some true else none)) (hn : (S.map (·.1)).Nodup) (hp : p ∉ L) : Nd.look S p = none := by
  rw [tells_look hn h, if_neg hp]
theorem itemHasSpec_ok {b : Nat} {D : List (Int × Int)} {m : Int → Option Int} {v : Value} {L : List Int} (hm : HasMap w kE.enc ev b D) (ht : Tells D m) (hL : ∀ k, k ∈ L → (m k).isSome = true) (hnd : L.Nodup) (hlen : D.length = L.length) (h : IsSl w v L.length (L.flatMap fun x => [.int .i64 x])) (hn : L.length < 2 ^ 31)
    (hK : ∀ w', Frm (fun _ => False) w w' → K (.bool true) w') : Calls Tryz.prog 10 #[.map (some b), v] w (ret K Kp) := by
  obtain ⟨a, c, rfl, _, _, h0, _⟩ := h
  refine vc10_calls ?_
  simp only [vc10]
  refine op_mkMap ?_
  have k1 : Frm (fun _ => False) w (w.alloc (.map #[] 0)) := Frm.alloc _ _
  have hs1 : HasMap (w.alloc (.map #[] 0)) kE.enc evB w.heap.size ([] : List (Int × Bool)) := hasMap_new w _ _
  generalize hw1 : w.alloc (.map #[] 0) = w1 at *
  have hslt := hs1.lt
  have hblt := hm.lt
  try simp [-getElem?_pos, -Array.getElem?_eq_getElem, -Int.natCast_add, add_spot, and_assoc, Br_dec]
  obtain ⟨I, hI⟩ : ∃ I : Value → World → Prop, ∀ v wl, I v wl ↔ ∃ (i : Nat) (S : List (Int × Bool)), v = .int .i64 i ∧ i ≤ L.length ∧ Frm (fun _ => False) w wl ∧ w1.heap.size ≤ wl.heap.size ∧ HasMap wl kE.enc evB w.heap.size S ∧ Tells S (fun k => if k ∈ L.take i then some true else none) := ⟨_, fun _ _ => Iff.rfl⟩
  refine Lp.intro I (fun v _ => L.length - natOf v) ⟨(hI _ _).2 ⟨0, [], rfl, by omega, k1, Nat.le_refl _, hs1, fun k v => by simp⟩, ?_⟩
  intro wl v hl
  obtain ⟨i, S, rfl, hi, kl, zl, hS, hSt⟩ := (hI _ _).1 hl
  simp only [op_lss, Br_dec]
  refine ⟨fun hlt' => ?_, fun hnl' => ?_⟩
  rotate_left
  · try simp [-getElem?_pos, -Array.getElem?_eq_getElem, -Int.natCast_add, add_spot, and_assoc, Br_dec]
    refine op_mapLen (ek := kE.enc) (ev := ev) Tryz.underlying37 (hm.frame kl fun h => h) ?_
    rw [hlen]
    try simp [-getElem?_pos, -Array.getElem?_eq_getElem, -Int.natCast_add, add_spot, and_assoc, Br_dec]
    exact hK wl kl
  have hi' : i < L.length := by omega
  obtain ⟨bp, o, cs, e, fz, rfl, hcs, hki⟩ := row_int (h0.frame kl fun _ _ h => h) hi'
  have htk : L.take (i + 1) = L.take i ++ [L[i]] := List.take_succ_eq_append_getElem hi'
  have hmem := hL _ (List.getElem_mem hi')
  have hfresh : L[i] ∉ L.take i := fun hk => by
    obtain ⟨j, hj, hje⟩ := List.mem_iff_getElem.1 hk
    simp at hj
    have := List.pairwise_iff_getElem.1 hnd j i (by omega) hi' (by omega)
    simp at hje
    exact this hje
  generalize hp : L[i] = p at *
  simp [-getElem?_pos, -Array.getElem?_eq_getElem, -Int.natCast_add, add_spot, and_assoc, Br_dec, hcs, hki]
  refine ⟨hi', ?_⟩
  refine op_lookup (E := kE) (ev := ev) (k := p) (z := .int .i64 0) Tryz.underlying37 (by kernel_rfl) (hm.frame kl fun h => h) ?_
  rw [tells_look hm.nodup ht, hmem]
  simp [-getElem?_pos, -Array.getElem?_eq_getElem, -Int.natCast_add, add_spot, and_assoc, Br_dec]
  refine op_lookup (E := kE) (ev := evB) (k := p) (z := .bool false) Tryz.underlying70 (by kernel_rfl) hS ?_
  rw [look_seen1 hSt hS.nodup hfresh]
  simp [-getElem?_pos, -Array.getElem?_eq_getElem, -Int.natCast_add, add_spot, and_assoc, Br_dec]
  refine op_update (E := kE) (ev := evB) (k := p) (v := true) Tryz.underlying70 hS fun w7 k7 z7 hS7 => ?_
  try simp [-getElem?_pos, -Array.getElem?_eq_getElem, -Int.natCast_add, add_spot, and_assoc, Br_dec]
  rw [wrap_i64_small (by omega) (by omega)]
  refine ⟨(hI _ _).2 ⟨i + 1, _, by simp, by omega, kl.old k7 fun c hc => .inr (by omega), by omega, hS7, ?_⟩, ?_⟩
  · have := tells_upd (k := p) (v := true) hS.nodup hSt
    intro k v
    rw [this k v, htk]
    unfold mset
    by_cases hk : k = p
    · simp [hk]
    · have : k ∈ L.take i ++ [p] ↔ k ∈ L.take i := by simp [hk]
      simp only [if_neg hk, this]
  · simp only [natOf]; omega
end Go.Proofs.YtbghmbbhkoniiaaGreat.I
end
section
/- laws.FnItemRun. -/
namespace Go.Proofs.YtbghmbbhkoniiaaGreat.S
open Go.Vc Go.Proofs Go.Proofs.YtbghmbbhkoniiaaGreat Go.Vc.Nd
open Go.Proofs.YtbghmbbhkoniiaaGreat.I (hval hashOf hashOf_lt mapAwake_ok fits_ok mapTo_ok itemSteps_ok kE elM_ok itemHasSpec_ok)
variable {w w' : World} {v : Value} {t : Tr} {K : Value → World → Prop} {Kp : KP} {k : Ky} {s md ml sh : Nat}
theorem law_items {a1 a2 : Option Addr} {c1 c2 : Nat} {values : List Int} {steps : List MStep} (h1 : Row w a1 (values.flatMap i1)) (h2 : Row w a2 (steps.flatMap MStep.cells)) (hK : ∀ w', Frm (fun _ => False) w w' → K (.bool true) w') :
    Calls Tryz.prog 3 #[hval md ml sh, .slice a1 values.length c1, .slice a2 steps.length c2] w (ret K Kp) := by
  refine vc3_calls ?_
  simp only [vc3]
  refine op_box_ok fun w1 k1 z1 b1' => ?_
  simp only [hval, cells_agg] at b1'
  have hx3 : (#[Value.int .u32 (md : Int), .int .u32 (ml : Int), .int .u8 (sh : Int)] : Array Value).extract 0 3 = #[.int .u32 md, .int .u32 ml, .int .u8 sh] := rfl
  try simp [-getElem?_pos, -Array.getElem?_eq_getElem, -Int.natCast_add, add_spot, and_assoc, Br_dec, -op_box, -op_alloc_36, -op_st_36, b1', hx3]
  refine ⟨fun _ => hK w1 k1, fun hle => ⟨fun _ => hK w1 k1, fun hle2 => ?_⟩⟩
  have hr1 := h1.frame k1 fun _ _ h => h
  have hs1 := h2.frame k1 fun _ _ h => h
  have hawake : ∀ {wz}, Frm (fun _ => False) w wz → Calls Tryz.prog 6 #[] wz (ret K Kp) := fun {wz} kz => mapAwake_ok fun w3 k3 => hK w3 (kz.no k3)
  refine fits_ok (md := md) (ml := ml) (sh := sh) hs1 (by omega) (fun w2 k2 => ?_) fun hfit h12 hsh w2 k2 => ?_
  · try simp [-getElem?_pos, -Array.getElem?_eq_getElem, -Int.natCast_add, add_spot, and_assoc, Br_dec, -op_box, -op_alloc_36, -op_st_36]
    exact hawake (k1.no k2)
  have b2 := k2.get b1' fun h => h
  have k02 := k1.no k2
  have hr2 := hr1.frame k2 fun _ _ h => h
  have hs2 := hs1.frame k2 fun _ _ h => h
  try simp [-getElem?_pos, -Array.getElem?_eq_getElem, -Int.natCast_add, add_spot, and_assoc, Br_dec, -op_box, -op_alloc_36, -op_st_36]
  refine ⟨fun _ => hawake k02, fun h2000 => ?_⟩
  refine itemSteps_ok hr2 hs2 hfit.m (by omega) (by omega) fun l3 w3 G3 k3 hR3 => ?_
  have b3 := k3.get b2 fun h => h
  have hM := versI_len values steps
  obtain ⟨a3', c3', hl3, _⟩ := id hR3.slice
  subst hl3
  have k03 := k02.no k3
  rw [hM]
  try simp [-getElem?_pos, -Array.getElem?_eq_getElem, -Int.natCast_add, add_spot, and_assoc, Br_dec, -op_box, -op_alloc_36, -op_st_36, b3, hx3]
  have k3d : Frm (fun _ => False) w2 w3.drew := k3.no (Frm.drew _)
  refine mapTo_ok (hs2.frame k3d fun _ _ h => h) (by omega) fun l4 w4 k4 hR4 => ?_
  have k34 := Frm.dr k4
  have b4 := k34.get b3 fun h => h
  obtain ⟨a4, c4, rfl, hc4, _, hr4, _⟩ := hR4.flat
  have hcost := hfit.cost
  have hv4 := (h1.frame (k03.no k34) fun _ _ h => h)
  try simp [-getElem?_pos, -Array.getElem?_eq_getElem, -Int.natCast_add, add_spot, and_assoc, Br_dec, -op_box, -op_alloc_36, -op_st_36, b4, hx3]
  refine itemRun_ok (md := md) (ml := ml) (sh := sh) hv4 hr4 hfit.m (by omega) fun l5 w5 G5 k5 hR5 => ?_
  have hlt := hashOf_lt md ml sh
  have hT := versS_len (hashOf md ml sh) values steps
  have k35 := k34.no k5
  have k05 := k03.no k35
  have hR35 := hR3.still elM_ok k35
  obtain ⟨a5, c5, rfl, _⟩ := id hR5.slice
  try simp [-getElem?_pos, -Array.getElem?_eq_getElem, -Int.natCast_add, add_spot, and_assoc, Br_dec, -op_box, -op_alloc_36, -op_st_36, hT]
  obtain ⟨I, hI⟩ : ∃ I : Value → World → Prop, ∀ v wl, I v wl ↔ ∃ i : Nat, v = .int .i64 i ∧ i ≤ steps.length + 1 ∧ Frm (fun _ => False) w5 wl := ⟨_, fun _ _ => Iff.rfl⟩
  refine Lp.intro I (fun v _ => steps.length + 1 - natOf v) ⟨(hI _ _).2 ⟨0, rfl, by omega, Frm.refl⟩, ?_⟩
  intro wl s hl
  obtain ⟨i, rfl, hi, kl⟩ := (hI _ _).1 hl
  simp only [op_lss, Br_dec]
  refine ⟨fun hlt' => ?_, fun hnl' => hawake (k05.no kl)⟩
  have hi' : i < steps.length + 1 := by omega
  have hRl := hR5.still elI_ok kl
  have hRm := hR35.still elM_ok kl
  obtain ⟨u, g, c, cs, hle', hcs, hu, hg, hsz, hext, pv, qv, hpv, hP, hQ, _⟩ := hRl.get (j := i) (by rw [hT]; exact hi')
  obtain ⟨u', g', c', cs', hle2, hcs', hu', hg', _, _, bm, D, hbm, hMap, htD, _⟩ := hRm.get (j := i) (by rw [hM]; exact hi')
  cases hle'
  cases hle2
  subst hpv hbm
  have q1 : cs'[i]? = some (.map (some bm)) := by have := hg' 0 (by decide); simpa using this
  have hIs := is_versS hlt values steps i (List.getElem?_eq_getElem (by rw [hT]; exact hi')) (List.getElem?_eq_getElem (by rw [hM]; exact hi'))
  have hsize := (versS_size hlt values steps i (List.getElem?_eq_getElem (by rw [hT]; exact hi'))).2
  generalize htt : (versS (hashOf md ml sh) values steps)[i]'(by rw [hT]; exact hi') = t at *
  generalize (versI values steps)[i]'(by rw [hM]; exact hi') = m at *
  have hlen : D.length = (toL t).length := len_un hMap.nodup htD hIs.nodup hIs.2
  have hpv1 := hP.one
  have hqv1 := hQ.one
  try simp [-getElem?_pos, -Array.getElem?_eq_getElem, -Int.natCast_add, add_spot, and_assoc, Br_dec, -op_box, -op_alloc_36, -op_st_36, hcs, hsz, hext]
  refine ⟨by omega, ?_⟩
  refine op_alloc_ok (z := .agg nil3) (by kernel_rfl) fun w6 k6 z6 b6 => ?_
  simp only [cells_agg] at b6
  refine op_storeN_ok (n := 3) (by kernel_rfl) b6 rfl (by simp [nil3]) (by simp [hpv1, hqv1]) fun w7 k7 z7 b7 => ?_
  have b7 : w7.heap[wl.heap.size]? = some (.cells #[.int .i64 (toL t).length, pv, qv] 36 (0, 0)) := by
    rw [ow_all (by simp [nil3])] at b7; simpa using b7
  have n6 := k6.size
  have k67 : Frm (fun _ => False) wl w7 := k6.old k7 fun c hc => .inr (by omega)
  have hcs7 := k67.get hcs' fun h => h
  try simp [-getElem?_pos, -Array.getElem?_eq_getElem, -Int.natCast_add, add_spot, and_assoc, Br_dec, -op_box, -op_alloc_36, -op_st_36, b7, hcs7, q1]
  refine ⟨by omega, ?_⟩
  have hMap7 := (hMap.frame k67 fun h => h).frame (Frm.drew (M := fun _ => False) w7) fun h => h
  refine ld_mapLen (ek := kE.enc) (ev := Go.Proofs.YtbghmbbhkoniiaaGreat.I.ev) Tryz.underlying37 hMap7 ?_
  rw [hlen]
  try simp [-getElem?_pos, -Array.getElem?_eq_getElem, -Int.natCast_add, add_spot, and_assoc, Br_dec, -op_box, -op_alloc_36, -op_st_36, b7, hcs7, q1]
  have hkl := ks_len (toL t)
  have hP7 := (hP.still k67).still (Frm.drew w7)
  have hQ7 := (hQ.still k67).still (Frm.drew w7)
  have hmemb : ∀ k, k ∈ ks (toL t) → (m k).isSome = true := fun k hk => (un_mem hIs.2).1 hk
  refine ⟨by omega, ?_⟩
  refine itemHasSpec_ok hMap7 htD hmemb hIs.nodup (by omega) hP7 (by omega) fun w8 k8 => ?_
  have b8 := (Frm.dr k8).get b7 fun h => h
  have hcs8 := (Frm.dr k8).get hcs7 fun h => h
  try simp [-getElem?_pos, -Array.getElem?_eq_getElem, -Int.natCast_add, add_spot, and_assoc, Br_dec, -op_box, -op_alloc_36, -op_st_36, b8, hcs8, q1]
  refine ⟨by omega, ?_⟩
  refine itemHasSpec_ok (hMap7.frame k8 fun h => h) htD hmemb hIs.nodup (by omega) (hQ7.still k8) (by omega) fun w9 k9 => ?_
  try simp [-getElem?_pos, -Array.getElem?_eq_getElem, -Int.natCast_add, add_spot, and_assoc, Br_dec, -op_box, -op_alloc_36, -op_st_36]
  rw [wrap_i64_small (by omega) (by omega)]
  refine ⟨(hI _ _).2 ⟨i + 1, by simp, by omega, ((kl.no k67).no (Frm.dr k8)).no k9⟩, ?_⟩
  simp only [natOf]; omega
end Go.Proofs.YtbghmbbhkoniiaaGreat.S
end
