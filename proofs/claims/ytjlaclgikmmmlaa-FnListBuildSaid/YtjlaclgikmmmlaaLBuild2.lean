/- impl.ListBuild; slices.Clone of steps; laws.FnListBuild. -/
import Derived.Test.YtjlaclgikmmmlaaLBuild
import Derived.Test.YtjlaclgikmmmlaaLLawR
set_option maxRecDepth 100000
set_option linter.unusedSimpArgs false
set_option linter.unusedVariables false
set_option maxHeartbeats 8000000
namespace Go.Proofs.Ytjlaclgikmmmlaa
open Go.Vc Go.Proofs
variable {m : Bool} {w w' w0 : World} {F F' G Av Av' : Nat → Prop} {K : Value → World → Prop} {Kp : KP} {base : Nat}
theorem vers_step {xs : List Int} {steps : List Step} {i : Nat} (hi : i < steps.length) (hl : (steps[i]).fro = i) {ys : List Int} (hy : (vers xs (steps.take i)).1[i]? = some ys) :
    vers xs (steps.take (i + 1)) = ((vers xs (steps.take i)).1 ++ [(after ys steps[i]).1], (vers xs (steps.take i)).2 ++ [!(after ys steps[i]).2]) ∧ (vers xs (steps.take (i + 1))).1[i + 1]? = some (after ys steps[i]).1 := by
  have hv := vers_len1 xs (steps.take i)
  rw [List.length_take, Nat.min_eq_left (by omega)] at hv
  have e : vers xs (steps.take (i + 1)) = ((vers xs (steps.take i)).1 ++ [(after ys steps[i]).1], (vers xs (steps.take i)).2 ++ [!(after ys steps[i]).2]) := by
    rw [List.take_succ_eq_append_getElem hi, vers_snoc, adv, hl]; simp [hy]
  refine ⟨e, ?_⟩
  rw [e]
  simp only
  rw [List.getElem?_append_right (by omega), hv]; simp

theorem build_ok {a0 a1 : Option Addr} {c0 c1 : Nat} {xs : List Int} {steps : List Step} (h0 : Row w a0 (i64s xs)) (h1 : Row w a1 (steps.flatMap Step.cells)) (hG : Gl w)
    (hfit : AllFit steps) (hline : ∀ i (h : i < steps.length), steps[i].fro = i) (hN : xs.length + cost steps < 2 ^ 19) (hn : steps.length < 2 ^ 19) (hxl : ∀ (j : Nat) (ys : List Int), (vers xs steps).1[j]? = some ys → ys.length < 2 ^ 19)
    {ys : List Int} (hys : (vers xs steps).1[steps.length]? = some ys)
    (hK : ∀ u1 u2 u3 p w', (∀ {M}, Frm M w w') → IsInts w' u1 ys → IsInts w' u2 ys → IsInts w' u3 ys → IsBools w' p (vers xs steps).2 → K (.tuple #[u1, u2, u3, p]) w') :
    Calls Try.prog 21 #[.slice a0 xs.length c0, .slice a1 steps.length c1] w (ret K Kp) := by
  refine vc21_calls ?_
  simp only [vc21, call_37]
  refine vc37_calls ?_
  simp only [vc37, call_51]
  refine new_list_ok (xs := []) (.inl rfl) (by simp) fun b w1 F1 hf1 hl1 hF1 => ?_
  have hw0 : 0 < w.heap.size := by obtain ⟨_, _, _, h, _⟩ := hG; exact lt_of_get h
  have hs1 : w.heap.size ≤ w1.heap.size := (hf1 (M := fun _ => False)).size
  have ho : (Value.agg #[ptr b]).cells = #[ptr b] := rfl
  simp [-getElem?_pos, -Array.getElem?_eq_getElem, List.getElem?_cons_zero, and_assoc, hp_alloc_eq, alloc_upd, ptr]
  obtain ⟨bB, hbB⟩ : ∃ bB, bB = w1.heap.size := ⟨_, rfl⟩
  obtain ⟨w2, hw2⟩ : ∃ w2, w2 = (w1.alloc (.cells #[.pointer (some ⟨b, 0, none⟩)] 108)).alloc (.cells #[.pointer (some ⟨bB, 0, none⟩)] 75) := ⟨_, rfl⟩
  rw [← hbB, ← hw2]
  have hB2 : w2.heap[bB]? = some (.cells #[ptr b] 108 (0, 0)) := by rw [hw2, hbB]; exact hp_alloc_lt (hp_alloc_eq rfl)
  have hp2 : w2.heap[bB + 1]? = some (.cells #[ptr bB] 75 (0, 0)) := by rw [hw2]; exact hp_alloc_eq (by simp [hbB])
  have hz2 : w2.heap.size = bB + 2 := by rw [hw2, hbB]; simp
  have hf12 : ∀ {M}, Frm M w1 w2 := fun {M} => by rw [hw2]; exact (Frm.alloc _ _).trans (Frm.alloc _ _) fun _ h _ => h
  have hf2 : ∀ {M}, Frm M w w2 := fun {M} => (hf1 (M := M)).trans (hf12 (M := M)) fun _ h _ => h
  have hb2 : Bld w.heap.size (fun k => k = bB + 1) w2 bB [] 0 := ⟨b, fun k => F1 k ∧ k < w1.heap.size, hB2, hl1.lt.frame (hf12 (M := fun _ => False)) (by simp), by omega, by omega, fun k hk => ⟨hF1 k hk.1, by omega, by omega, by omega⟩⟩
  -- the values
  obtain ⟨I, hI⟩ : ∃ I : Value → World → Prop, ∀ v w', I v w' ↔ ∃ (i : Nat), v = .int .i64 i ∧ i ≤ xs.length ∧ Frm (Chg w.heap.size fun k => k = bB + 1) w w' ∧ Bld w.heap.size (fun k => k = bB + 1) w' bB (xs.take i) i ∧ w'.heap[bB + 1]? = some (.cells #[ptr bB] 75 (0, 0)) := ⟨_, fun _ _ => Iff.rfl⟩
  obtain ⟨μ, hμ⟩ : ∃ μ : Value → World → Nat, ∀ (j : Nat) w, μ (.int .i64 j) w = xs.length - j := ⟨fun v _ => xs.length - (match v with | .int _ j => j.toNat | _ => 0), fun _ _ => rfl⟩
  refine Lp.intro I μ ⟨(hI _ _).2 ⟨0, rfl, by omega, hf2, by simpa using hb2, hp2⟩, ?_⟩
  intro wl v hIl
  obtain ⟨i, rfl, hi, hfr, hb, hp⟩ := (hI _ _).1 hIl
  simp only [op_lss, Br_dec]
  refine ⟨fun hlt => ?_, fun hnl => ?_⟩
  · have hi' : i < xs.length := by omega
    obtain ⟨bx, ox, csx, ex, ⟨fxa, fxb⟩, rfl, hcx, hvx⟩ := (h0.get (j := i) (by simpa [i64s] using hi'))
    have hgx : (i64s xs)[i]'(by simpa [i64s] using hi') = .int .i64 xs[i] := by simp [i64s]
    rw [hgx] at hvx
    have hcl := hfr.get hcx fun e => by have := lt_of_get hcx; have := e.1; omega
    simp only [ptr] at hp
    simp [-getElem?_pos, -Array.getElem?_eq_getElem, List.getElem?_cons_zero, add_spot, hcl, hvx, hp]
    refine ⟨hi', ?_⟩
    refine badd_ok hb (fun k hk => by subst hk; exact lt_of_get hp) (by omega) fun w3 hf3 hb3 => ?_
    rw [wrap_small _ rfl (by omega) (by omega)]
    refine ⟨(hI _ _).2 ⟨i + 1, rfl, by omega, hfr.trans hf3 fun k hk _ => hk, ?_, hf3.get hp fun e => e.2 rfl⟩, ?_⟩
    · rw [List.take_succ_eq_append_getElem hi']; exact hb3
    · have e : (i : Int) + 1 = ((i + 1 : Nat) : Int) := rfl
      rw [e, hμ, hμ]; omega
  have hix : i = xs.length := by omega
  subst hix
  rw [List.take_length] at hb
  clear hI hμ hIl hnl hi
  -- the steps
  obtain ⟨I, hI⟩ : ∃ I : Value → Value → World → Prop, ∀ p v w', I p v w' ↔ ∃ (i : Nat) (zs : List Int), v = .int .i64 i ∧ i ≤ steps.length ∧ (vers xs (steps.take i)).1[i]? = some zs ∧ Frm (Chg w.heap.size fun k => k = bB + 1) w w' ∧
      Bld w.heap.size (fun k => k = bB + 1 ∨ p.ownBlock = some k) w' bB zs (xs.length + cost (steps.take i)) ∧ w'.ownsRow (bB + 2) 4 1 p i (bools (vers xs (steps.take i)).2) ∧ w'.heap[bB + 1]? = some (.cells #[ptr bB] 75 (0, 0)) ∧ bB + 2 ≤ w'.heap.size := ⟨_, fun _ _ _ => Iff.rfl⟩
  obtain ⟨μ, hμ⟩ : ∃ μ : Value → Value → World → Nat, ∀ p (j : Nat) w, μ p (.int .i64 j) w = steps.length - j := ⟨fun _ v _ => steps.length - (match v with | .int _ j => j.toNat | _ => 0), fun _ _ _ => rfl⟩
  have hzl : bB + 2 ≤ wl.heap.size := by have := lt_of_get hp; omega
  refine Lp.intro I μ ⟨(hI _ _ _).2 ⟨0, xs, rfl, by omega, rfl, hfr, hb.frame (Frm.refl (M := fun _ => False)) (by simp) (fun k hk => hk.elim .inl fun h => by cases h), own_nil, hp, hzl⟩, ?_⟩
  clear hb hp hfr hzl
  intro wl p v hIl
  obtain ⟨i, zs, rfl, hi, hzs, hfr, hb, hown, hp, hsz⟩ := (hI _ _ _).1 hIl
  simp only [op_lss, Br_dec]
  have hpb := own_lt hown
  refine ⟨fun hlt => ?_, fun hnl => ?_⟩
  · have hi' : i < steps.length := by omega
    obtain ⟨bx, o, cs, e, ⟨fa, fb⟩, rfl, hcs0, hsz1, hext⟩ := h1.part cells_len (by decide) hi'
    have hcs := hfr.get hcs0 fun e => by have := lt_of_get hcs0; have := e.1; omega
    have hls : List.take 5 (List.drop (o + i * 5) cs.toList) = steps[i].cells := by
      have := congrArg Array.toList hext
      simpa using this
    have how : ow #[Value.int IntKind.u8 0, Value.int IntKind.i64 0, Value.int IntKind.i64 0, Value.int IntKind.i64 0, Value.int IntKind.i64 0] 0 steps[i].cells = steps[i].cells.toArray := ow_all rfl
    have hone : ∀ u, u ∈ steps[i].cells → u.oneCell' = true := by intro u hu; simp [Step.cells] at hu; rcases hu with rfl | rfl | rfl | rfl | rfl <;> rfl
    have hks : steps[i].cells.toArray = #[.int .u8 steps[i].kind, .int .i64 steps[i].fro, .int .i64 steps[i].index, .int .i64 steps[i].fin, .int .i64 steps[i].value] := rfl
    obtain ⟨hf1, hf2', hf3, hf4⟩ := hfit i hi'
    obtain ⟨hv1, hv2⟩ := vers_step hi' (hline i hi') hzs
    have hct : cost (steps.take (i + 1)) = cost (steps.take i) + steps[i].cost := by rw [List.take_succ_eq_append_getElem hi', cost_snoc]
    have hcle := cost_take steps (i + 1)
    simp [-getElem?_pos, -Array.getElem?_eq_getElem, List.getElem?_cons_zero, add_spot, hcs, hsz1, and_assoc, hp_alloc_eq, alloc_upd, hls, how]
    refine ⟨hi', hone, ?_⟩
    generalize hs : steps[i] = s at *
    obtain ⟨bs, hbs⟩ : ∃ bs, bs = wl.heap.size := ⟨_, rfl⟩
    obtain ⟨w4, hw4⟩ : ∃ w4, w4 = wl.alloc (.cells s.cells.toArray 26) := ⟨_, rfl⟩
    rw [← hbs, ← hw4]
    have hs4 : w4.heap[bs]? = some (.cells s.cells.toArray 26 (0, 0)) := by rw [hw4]; exact hp_alloc_eq hbs
    have hz4 : w4.heap.size = bs + 1 := by rw [hw4, hbs]; simp
    have hfl4 : ∀ {M}, Frm M wl w4 := fun {M} => by rw [hw4]; exact Frm.alloc _ _
    obtain ⟨w5, hw5⟩ : ∃ w5, w5 = w4.alloc (.cells #[.bool false] 4) := ⟨_, rfl⟩
    have hf45 : ∀ {M}, Frm M w4 w5 := fun {M} => by rw [hw5]; exact Frm.alloc _ _
    have hfl5 : ∀ {M}, Frm M wl w5 := fun {M} => (hfl4 (M := M)).trans (hf45 (M := M)) fun _ h _ => h
    have hz5 : w5.heap.size = bs + 2 := by rw [hw5]; simp [hz4]
    have hnew5 : w5.heap[bs + 1]? = some (.cells #[.bool false] 4 (0, 0)) := by rw [hw5]; exact hp_alloc_eq hz4.symm
    obtain ⟨Av, hAv⟩ : ∃ Av : Nat → Prop, ∀ k, Av k ↔ ((k = bB + 1 ∨ p.ownBlock = some k) ∨ bs ≤ k ∧ k < bs + 2) := ⟨_, fun _ => Iff.rfl⟩
    have hb5 : Bld w.heap.size Av w5 bB zs (xs.length + cost (steps.take i)) := hb.frame (hfl5 (M := fun _ => False)) (by simp) fun k hk => ((hAv k).1 hk).imp id fun h => by omega
    have hG5 : Gl w5 := (hG.frame hfr fun e => by have := e.1; omega).frame (hfl5 (M := fun _ => False)) (by simp)
    have hchg : ∀ k, Chg w.heap.size Av k → Chg w.heap.size (fun k => k = bB + 1 ∨ p.ownBlock = some k) k := fun k hk => ⟨hk.1, fun e => hk.2 ((hAv k).2 (.inl e))⟩
    have hback : ∀ {w6 N' zs'}, Bld w.heap.size Av w6 bB zs' N' → Bld w.heap.size (fun k => k = bB + 1 ∨ p.ownBlock = some k) w6 bB zs' N' := fun h => h.frame (Frm.refl (M := fun _ => False)) (by simp) fun k hk => .inl ((hAv k).2 (.inl hk))
    have key : ∀ KK : Value → World → Prop, (∀ w6, Frm (Chg w.heap.size fun k => k = bB + 1 ∨ p.ownBlock = some k) wl w6 → Bld w.heap.size (fun k => k = bB + 1 ∨ p.ownBlock = some k) w6 bB (after zs s).1 (xs.length + cost (steps.take (i + 1))) → bs + 2 ≤ w6.heap.size → KK (.bool (!(after zs s).2)) w6) →
        Calls Try.prog 29 #[.func (.func 39) #[] #[.pointer (some ⟨bs, 0, none⟩), .pointer (some ⟨bB + 1, 0, none⟩)]] w4 (ret KK Kp) := fun KK rest => by
      refine thrown_ok (by kernel_rfl) ?_
      rw [← hw5, hz4]
      have hx : (#[] ++ #[Value.pointer (some ⟨bs, 0, none⟩), .pointer (some ⟨bB + 1, 0, none⟩)] : Array Value) = #[ptr bs, ptr (bB + 1)] := rfl
      rw [hx]
      refine bstep_ok ((hf45 (M := fun _ => False)).get hs4 (by simp)) ((hfl5 (M := fun _ => False)).get hp (by simp)) hb5 (fun k hk => ?_) ((hAv _).2 (.inr ⟨Nat.le_refl _, by omega⟩)) ((hAv _).2 (.inl (.inl rfl))) hG5 hw0 hf1 hf4 (by omega) (fun hok w6 hf6 hb6 => ?_) (fun hok str => ?_)
      · rcases (hAv k).1 hk with (h | h) | h
        · omega
        · have := (hpb k h).2; omega
        · omega
      · refine ⟨hf6.get hnew5 fun e => e.2 ((hAv _).2 (.inr ⟨by omega, by omega⟩)), ?_⟩
        have := rest w6 ((hfl5.trans hf6 fun k hk _ => hchg k hk)) (by have := hback hb6; rw [hct, ← Nat.add_assoc]; exact this) (by have := hf6.size; omega)
        rw [hok] at this; exact this
      · refine ⟨9, _, rfl, hnew5, ?_⟩
        have hfu : Frm (fun k => k = bs + 1) w5 (w5.upd (bs + 1) (.cells #[.bool true] 4 (0, 0))) := Frm.upd _ _ fun _ => rfl
        have hbu : Bld w.heap.size Av (w5.upd (bs + 1) (.cells #[.bool true] 4 (0, 0))) bB zs (xs.length + cost (steps.take i)) := hb5.frame hfu (fun k hk => .inr ((hAv k).2 (.inr ⟨by omega, by omega⟩))) fun k hk => .inl hk
        have := rest (w5.upd (bs + 1) (.cells #[.bool true] 4 (0, 0))) (hfl5.trans hfu fun k hk hlt => by omega) (by
          rw [after_no hok]
          obtain ⟨b, F, e1, e2, e3⟩ := hback hbu
          exact ⟨b, F, e1, e2.le (by omega), e3⟩) (by simp; omega)
        rw [hok] at this; exact this
    refine key _ fun w6 hf6 hb6 hz6 => ?_
    clear key
    simp [-getElem?_pos, -Array.getElem?_eq_getElem, List.getElem?_cons_zero]
    have hr6 : Row (w6.alloc (.cells #[.bool !(after zs s).2] 4)) (some ⟨w6.heap.size, 0, none⟩) (bools [!(after zs s).2]) := .inr ⟨_, _, _, _, _, rfl, hp_alloc_new, fun j v hj => by simpa [bools] using hj⟩
    have hf6a : Frm (Chg w.heap.size fun k => k = bB + 1 ∨ p.ownBlock = some k) wl (w6.alloc (.cells #[.bool !(after zs s).2] 4)) := hf6.trans (Frm.alloc (M := fun _ => False) _ _) fun _ h _ => h.elim
    refine op_append (base := bB + 2) (size := 1) (n := i) (m := 1) (xs := bools (vers xs (steps.take i)).2) (news := bools [!(after zs s).2]) ap36 (own_frame hown hf6a fun k hk e => e.2 (.inr hk)) hr6 rfl (by simp [bools]) (by simp) (by omega) (by simp; omega) fun l4 w8 hl8 hf8 hbl4 => ?_
    rw [wrap_small _ rfl (by omega) (by omega)]
    have hz8 : w6.heap.size + 1 ≤ w8.heap.size := by have := hf8.size; simpa using this
    refine ⟨(hI _ _ _).2 ⟨i + 1, (after zs s).1, rfl, by omega, hv2, ?_, ?_, ?_, ?_, by omega⟩, ?_⟩
    · refine ((hfr.trans hf6a fun k hk _ => ⟨hk.1, fun e => hk.2 (.inl e)⟩).trans hf8 fun k hk hlt => ?_)
      have := (hpb k hk.symm).1
      exact ⟨by omega, by omega⟩
    · refine (hb6.frame (Frm.alloc (M := fun _ => False) _ _) (by simp) fun k hk => .inl hk).frame hf8 (fun k hk => .inr (.inr hk.symm)) fun k hk => ?_
      rcases hk with h | h
      · exact .inl (.inl h)
      · rcases hbl4 with h4 | h4
        · exact .inl (.inr (h4 ▸ h))
        · rw [h4] at h; exact .inr (by have := Option.some.inj h; omega)
    · rw [hv1]; simpa [bools] using hl8
    · exact hf8.get (hf6a.get hp fun e => e.2 (.inl rfl)) fun e => by have := (hpb _ e.symm).1; omega
    · have e : (i : Int) + 1 = ((i + 1 : Nat) : Int) := rfl
      rw [e, hμ, hμ]; omega
  have hix : i = steps.length := by omega
  subst hix
  rw [List.take_length] at hzs hb hown
  obtain rfl : ys = zs := by rw [hzs] at hys; exact (Option.some.inj hys).symm
  have hyl := hxl _ ys hzs
  clear hI hμ hIl hnl hi
  have hbools := own_bools hown
  obtain ⟨b, F, hB, hL, hF1, hF2, hF3⟩ := hb
  -- Get
  obtain ⟨I, hI⟩ : ∃ I : Value → Value → World → Prop, ∀ l v w', I l v w' ↔ ∃ (j : Nat), v = .int .i64 j ∧ j ≤ ys.length ∧ (∀ {M}, Frm M wl w') ∧ w'.ownsRow wl.heap.size 2 1 l j (i64s (ys.take j)) := ⟨_, fun _ _ _ => Iff.rfl⟩
  obtain ⟨μ, hμ⟩ : ∃ μ : Value → Value → World → Nat, ∀ l (j : Nat) w, μ l (.int .i64 j) w = ys.length - j := ⟨fun _ v _ => ys.length - (match v with | .int _ j => j.toNat | _ => 0), fun _ _ _ => rfl⟩
  refine Lp.intro I μ ⟨(hI _ _ _).2 ⟨0, rfl, by omega, Frm.refl, own_nil⟩, ?_⟩
  intro w9 l v hIl
  obtain ⟨j, rfl, hj, hf9, hown9⟩ := (hI _ _ _).1 hIl
  have hbld9 : Bld w.heap.size (fun k => k = bB + 1 ∨ p.ownBlock = some k) w9 bB ys (xs.length + cost steps) := Bld.frame ⟨b, F, hB, hL, hF1, hF2, hF3⟩ (hf9 (M := fun _ => False)) (by simp) fun k hk => .inl hk
  have hp9 := (hf9 (M := fun _ => False)).get hp (by simp)
  simp only [ptr] at hp9
  simp [-getElem?_pos, -Array.getElem?_eq_getElem, List.getElem?_cons_zero, hp9]
  refine blen_ok hbld9 ?_
  simp only [op_lss, Br_dec]
  have hob9 := own_lt hown9
  have hs9 : wl.heap.size ≤ w9.heap.size := (hf9 (M := fun _ => False)).size
  refine ⟨fun hlt => ?_, fun hnl => ?_⟩
  · have hj' : j < ys.length := by omega
    simp [-getElem?_pos, -Array.getElem?_eq_getElem, List.getElem?_cons_zero, hp9]
    refine bget_ok hbld9 hN (List.getElem?_eq_getElem hj') ?_
    simp [-getElem?_pos, -Array.getElem?_eq_getElem, List.getElem?_cons_zero]
    have hfa : ∀ {M}, Frm M w9 (w9.drew.alloc (.cells #[.int .i64 ys[j]] 2)) := (Frm.drew w9).trans (Frm.alloc _ _) fun _ h _ => h
    have hr1 : Row (w9.drew.alloc (.cells #[.int .i64 ys[j]] 2)) (some ⟨w9.heap.size, 0, none⟩) (i64s [ys[j]]) := .inr ⟨_, _, _, _, _, rfl, hp_alloc_eq rfl, fun j v hj => by simpa [i64s] using hj⟩
    refine op_append (base := wl.heap.size) (size := 1) (n := j) (m := 1) (xs := i64s (ys.take j)) (news := i64s [ys[j]]) ap22 (own_frame hown9 (hfa (M := fun _ => False)) (by simp)) hr1 rfl (by simp [i64s]) (by simp) (by omega) (by simp; omega) fun l4 w4 hl4 hf4 hbl4 => ?_
    rw [wrap_small _ rfl (by omega) (by omega)]
    refine ⟨(hI _ _ _).2 ⟨j + 1, rfl, by omega, fun {M} => ((hf9 (M := M)).trans (hfa (M := M)) fun _ h _ => h).trans hf4 fun k hk hlt => by have := hob9 k hk.symm; omega, ?_⟩, ?_⟩
    · rw [List.take_succ_eq_append_getElem hj']
      simp only [i64s, List.map_append] at hl4 ⊢
      exact hl4
    · have e : (j : Int) + 1 = ((j + 1 : Nat) : Int) := rfl
      rw [e, hμ, hμ]; omega
  have hjx : j = ys.length := by omega
  subst hjx
  rw [List.take_length] at hown9
  clear hI hμ hIl hnl hj
  have hwhat := own_ints hown9
  -- the iterator
  have hL9 := hL.frame (hf9 (M := fun _ => False)) (by simp)
  have hB9 := (hf9 (M := fun _ => False)).get hB (by simp)
  simp only [ptr] at hB9
  simp [-getElem?_pos, -Array.getElem?_eq_getElem, List.getElem?_cons_zero, hp9]
  refine vc46_calls ?_
  simp [-getElem?_pos, -Array.getElem?_eq_getElem, List.getElem?_cons_zero, vc46, add_spot, hB9]
  refine vc61_calls ?_
  simp [-getElem?_pos, -Array.getElem?_eq_getElem, List.getElem?_cons_zero, vc61, add_spot, hB9]
  refine iter_new hL9 (fun k hk => by have := (hF3 k hk).2.1; omega) hN fun w10 hf10 hz10 hi10 => ?_
  have hnF : ¬ F w9.heap.size := fun h => by have := (hF3 _ h).2.1; omega
  obtain ⟨I, hI⟩ : ∃ I : Value → World → Prop, ∀ l w', I l w' ↔ ∃ (j : Nat), j ≤ ys.length ∧ (∀ {M}, Frm M w9 w') ∧ It true w' w9.heap.size b ys (xs.length + cost steps) F (j : Int) ∧ w'.ownsRow (w9.heap.size + 1) 2 1 l j (i64s (ys.take j)) ∧ w9.heap.size < w'.heap.size := ⟨_, fun _ _ => Iff.rfl⟩
  obtain ⟨μ, hμ⟩ : ∃ μ : Value → World → Nat, ∀ l w' (j : Nat), It true w' w9.heap.size b ys (xs.length + cost steps) F (j : Int) → μ l w' = ys.length - j :=
    ⟨fun _ w' => ys.length - natAt w' w9.heap.size 1, fun l w' j h => by
      obtain ⟨_, _, _, _, cs, _, _, _, _, _, _, e1, e2, _⟩ := h
      show ys.length - natAt w' w9.heap.size 1 = _
      rw [natAt_eq e1 e2.2.2.1]⟩
  refine Lp.intro I μ ⟨(hI _ _).2 ⟨0, by omega, hf10, hi10, own_nil, hz10⟩, ?_⟩
  intro w11 l2 hIl
  obtain ⟨j, hj, hf11, hit, hown11, hz11⟩ := (hI _ _).1 hIl
  refine done_ok hit ?_
  have hitd := hit.frame (Frm.drew (M := fun _ => False) w11) (by simp) (by simp)
  have hob11 := own_lt hown11
  cases hdn : isDone ys (j : Int) with
  | false =>
    simp [-getElem?_pos, -Array.getElem?_eq_getElem, List.getElem?_cons_zero]
    have hj' : j < ys.length := by simp [isDone] at hdn; omega
    refine Next_ok hitd hnF hN (fun hd => by rw [hdn] at hd; cases hd) fun k hk he w12 hf12 hi12 => ?_
    obtain rfl : j = k := by omega
    simp [-getElem?_pos, -Array.getElem?_eq_getElem, List.getElem?_cons_zero]
    have hs12 : w11.heap.size ≤ w12.heap.size := by have := hf12.size; simpa using this
    have hf11' : Frm (fun k => k = w9.heap.size) w11 (w12.alloc (.cells #[.int .i64 ys[j]] 2)) := ((Frm.drew w11).trans hf12 fun _ h _ => h).trans (Frm.alloc (M := fun _ => False) _ _) fun _ h _ => h.elim
    have hr1 : Row (w12.alloc (.cells #[.int .i64 ys[j]] 2)) (some ⟨w12.heap.size, 0, none⟩) (i64s [ys[j]]) := .inr ⟨_, _, _, _, _, rfl, hp_alloc_eq rfl, fun j v hj => by simpa [i64s] using hj⟩
    refine op_append (base := w9.heap.size + 1) (size := 1) (n := j) (m := 1) (xs := i64s (ys.take j)) (news := i64s [ys[j]]) ap22 (own_frame hown11 hf11' fun q hq e => by have := hob11 q hq; omega) hr1 rfl (by simp [i64s]) (by simp) (by omega) (by simp; omega) fun l4 w4 hl4 hf4 hbl4 => ?_
    have hi4 : It true w4 w9.heap.size b ys (xs.length + cost steps) F ((j + 1 : Nat) : Int) := (hi12.frame (Frm.alloc (M := fun _ => False) _ _) (by simp) (by simp)).frame hf4 (fun k hk e => by have := hob11 k e.symm; have := (hF3 k hk).2.1; omega) (fun e => by have := hob11 _ e.symm; omega)
    refine ⟨(hI _ _).2 ⟨j + 1, by omega, fun {M} => ((hf11 (M := M)).trans hf11' fun k hk hlt => by omega).trans hf4 fun k hk hlt => by have := hob11 k hk.symm; omega, hi4, ?_, by have := hf4.size; simp at this; omega⟩, ?_⟩
    · rw [List.take_succ_eq_append_getElem hj']
      simp only [i64s, List.map_append] at hl4 ⊢
      exact hl4
    · rw [hμ _ _ (j + 1) hi4, hμ _ _ j hit]; omega
  | true =>
    simp [-getElem?_pos, -Array.getElem?_eq_getElem, List.getElem?_cons_zero]
    have hjx : j = ys.length := by simp [isDone] at hdn; omega
    subst hjx
    rw [List.take_length] at hown11
    have hf9d : ∀ {M}, Frm M w9 w11.drew := fun {M} => (hf11 (M := M)).trans (Frm.drew _) fun _ h _ => h
    have hp11 := (hf9d (M := fun _ => False)).get hp9 (by simp)
    have hB11 := (hf9d (M := fun _ => False)).get hB9 (by simp)
    rw [heap_drew] at hp11 hB11
    simp [-getElem?_pos, -Array.getElem?_eq_getElem, List.getElem?_cons_zero, hp11]
    refine vc47_calls ?_
    simp [-getElem?_pos, -Array.getElem?_eq_getElem, List.getElem?_cons_zero, vc47, add_spot, hB11]
    refine vc61_calls ?_
    simp [-getElem?_pos, -Array.getElem?_eq_getElem, List.getElem?_cons_zero, vc61, add_spot, hB11, and_assoc]
    have hL11 := (hL9.frame (hf9d (M := fun _ => False)) (by simp)).frame (Frm.upd (M := fun k => k = bB) w11.drew (.cells #[.pointer none] 108) fun _ => rfl) fun k hk e => (hF3 k hk).2.2.1 e
    obtain ⟨w12, hw12⟩ : ∃ w12, w12 = w11.drew.upd bB (.cells #[.pointer none] 108) := ⟨_, rfl⟩
    rw [← hw12] at hL11 ⊢
    have hfB : Frm (fun k => k = bB) w11.drew w12 := by rw [hw12]; exact Frm.upd _ _ fun _ => rfl
    have hz12 : w12.heap.size = w11.heap.size := by rw [hw12]; simp
    refine got_ok hL11.weak (fun k hk => by have := (hF3 k hk).2.1; omega) hN hyl fun v13 w13 hf13 hv13 => ?_
    have hf9B : Frm (fun k => k = bB) w9 w13 := (hf9d.trans hfB fun _ h _ => h).trans (hf13 (M := fun _ => False)) fun _ h _ => h.elim
    have hbBl := lt_of_get hB
    refine hK _ _ _ _ _ (fun {M} => ?_) (hwhat.frame hf9B fun k hk e => by have := hob9 k hk; omega) (own_ints hv13) ?_ ?_
    · refine (((hfr.trans (hf9 (M := fun _ => False)) fun _ h _ => h.elim).trans hf9B fun k hk _ => ?_).mono fun k hk hlt => by have := hk.1; omega : Frm M w w13)
      exact ⟨by omega, by omega⟩
    · have hq := (own_ints hown11).frame (Frm.drew (M := fun _ => False) w11) (by simp)
      exact (hq.frame hfB fun k hk e => by have := hob11 k hk; omega).frame (hf13 (M := fun _ => False)) (by simp)
    · exact (hbools.frame (hf9 (M := fun _ => False)) (by simp)).frame hf9B fun k hk e => by have := hpb k hk; omega
end Go.Proofs.Ytjlaclgikmmmlaa
